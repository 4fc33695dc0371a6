import PyProof.Rows.All
import Wide.All
import OpenK.AllK
import Wide.FinOn
import Lean
import PySem.Challenge.RW_ny0438_01
/- The texts under wip/ (H1 .. V12, in the order of wip/tools/golf/order.txt), joined and shortened by a program: hence the short names and long rows.
Own lines: a plain def is a noncomputable def; rfl' is kernel_rfl; «exists a, b, ..» takes variables (bare; or with [hypotheses]; or out of a
fact, (h : e)) and sets closed epsilon terms in their place (wt1 .. ws6: it keeps the terms small), «exists _» folds the goal (fo); «trivial» looks up the Nonempty facts (yI ..).
«\x74» in a string is the letter t (in a name of the program: that word may stand in the first rows alone). -/
set_option Elab.async false
set_option maxRecDepth 100000
set_option maxHeartbeats 0
set_option linter.all false
set_option compiler.extract_closed false
set_option tactic.hygienic false
set_option backward.match.sparseCases false
open Option renaming some.inj->aA,bind_eq_some_iff->aB,map_eq_some_iff->a9,bind_some->bY,or_eq_some_iff->fA,isSome_iff_exists->fH
open Nat renaming add_le_add->aC,le_refl->aI,le_of_eq->aN,le_add_right->aT,sub_add_cancel->aY,le_trans->bC,ne_of_lt->bI,lt_of_lt_of_le->bJ,lt_of_add_right_lt->bP,le_of_lt->bS,lt_of_le_of_lt->bW,add_sub_cancel_left->b5,sub_self->cD,lt_trans->cK,le_antisymm->cM,le_add_left->cR,zero_le->cV,ne_of_gt->cX,lt_of_sub_eq_succ->c5,succ_pos->c6,zero_add->dF,le_add_right_of_le->dG,lt_irrefl->dJ,le_succ->dM,le_of_not_lt->dU,lt_succ_self->dX,le_succ_of_le->eE,lt_of_add_left_lt->eH,add_right_comm->eY,sub_eq_iff_eq_add->eZ,add_le_add_left->fJ,min_le_left->fV,le_of_succ_le->f9,lt_succ_of_lt->gC,not_lt->gF,succ_le_succ->gQ,lt_of_le_of_ne->gY,le_of_lt_succ->iG,add_comm->iH,add_le_add_right->i6,min_eq_left->jE,eq_of_lt_succ_of_not_lt->jK,add_sub_cancel->jZ,add_div_right->j4,succ_add_eq_add_succ->j6,succ_ne_self->kI,sub_le->kL,eq_zero_of_le_zero->kR,mul_comm->kS,not_lt_zero->kY,le_of_add_left_le->lH,mul_le_mul_right->lQ,add_left_cancel->lS,lt_or_gt_of_ne->l8,lt_of_lt_of_eq->mA,sub_zero->mN,lt_of_succ_lt->mV,succ_ne_zero->m4,min_le_right->m6,lt_add_one->nO,add_assoc->nQ,succ.inj->n6,lt_min->n9
open PySem renaming wpAny_bind->aD,wpAny_pure->aM,Heap.get?_push_of_some->aZ,wpAny_mono->bL,Heap.get?_push_size->bT,Heap.lt_size->b9,Heap.get?_none_of_le->cB,mem_of_lookup->cF,wpAny_holding->cL,builtinLookup_eq_fast->cS,Heap.get?_update_self->cT,W.Looks.of_peek->cZ,isSubtype_type->dH,Heap.size_push->dI,wpAny_standAt->dK,W.hideAll_get->dL,codeAny_mono->dP,W.of_hideAll->dS,Heap.get?_update_other->dW,typeLookup_type->d7,Around.under_plainId->eB,Calls.Name_function_global->eC,wpAny_newObj_type->eD,wpAny_call->eJ,W.hideAll_none->eM,Sem.bind_eq_wrap'->eN,codeAny_builtin->eP,F.plain_max_loop->eW,codeAny_call_function->e9,wpAny_with_toks->fC,wpAny_loadName_local->fD,wpAny_newFunctionEnv->fF,Heap.SameBut.update->fK,entryFor_of_tree->fN,seg_execs_cons->fP,wpAny_field->fR,typeIs_str->fT,Sem.wrap_wrap->fX,Value.ref.inj->fY,wpAny_seqItems->gG,wpAny_eqBool_int->gN,wpAny_call_entry->gP,plainId_quiet->gW,wpAny_tupleItemsOf->gZ,strKind_is->hZ,Code.quiet_builtin->iA,F.slot_dict_values->iB,call_meets->iC,Calls.spliced_cons->iD,wpAny_setField->iI,wpAny_pyNext_list_item->iK,wpAny_pyIter_list->iL,getMethod_builtin->iN,Calls.spliced_nil->iO,wpAny_isInstance->iQ,wpAny_rule->iR,wpAny_Name->iS,F.slot_str_ascii_iterator_iter->iU,F.slot_str_split->iV,wpAny_letGo->i7,SeqAt.eqv_refl->i9,codeAny_of_tree->jB,wpAny_specialOf->jC,wpAny_updateSeq->jD,Value.isStrOf_shape->jF,F.plain_extend_loop->jG,wpAny_richCompare_same_room->jJ,W.looks_findIn->jL,wpAny_load->jR,W.looks_nsIn->jS,F.slot_str_replace->jT,wpAny_newFunctionEnv_cells->jU,wpAny_tryCatch->jV,F.args_str_split_2->jW,wpAny_fieldsOf->jX,F.entry_str_split->j3,wpAny_newList->j7,seg_wrap->j9,markedBehindIn_of_false->kA,wpAny_unpackItems_tuple->kB,F.plainAttrs_str->kC,Heap.size_update->kF,F.entry_max_loop->kG,wpAny_callSpecial?_none->kH,codeAny_func->kM,call_meetsIn->kO,wpAny_execs_nil->kU,exec_Assign_arm->kW,F.slot_str_join->kX,isSubtype_tuple_tuple->k6,wpAny_storeName_local->k7,StrLaws.occ_length_le->lA,wpAny_pyNext_list_end->lB,codeAny_call_builtin->lJ,wpAny_newTuple->lK,SeqAt.in_tuple_reads->lL,Around.frames_deeper->lM,W.Looks.ld->lN,F.args_dict_values_1->lO,W.plainGet_of->lP,wpAny_of_eq->lR,F.entry_dict_values->lV,F.slot_dict_delitem->lW,Obj.data_mapFields->mC,F.type_str_replace->mD,F.slot_list_extend->mE,F.type_dict_values->mF,StrLaws.subAt_one->mK,wpAny_truthy_bool->mL,wpAny_truthy_list->mM,slot_list_getitem->mO,slot_dict_getitem->mP,F.slot_list_clear->mQ,F.slot_list_index->mR,meets_dict_values->mT,Heap.get?_push_ne->mU,Sem.bind_eq_wrap->m2,wpAny_alloc->m8,Meets.of_wp->m9,F.slot_tuple_lt->nA,F.slot_tuple_gt->nB,F.type_str_join->nC,F.slot_list_pop->nE,F.slot_dict_get->nF,P.lt_int->nL,wpAny_bindName->nM,W.handed_on->nZ,P.gt_int->n7,seg_at->n8
open List renaming mem_singleton->aE,length_map->aF,length_append->aG,append_assoc->aJ,mem_cons->aK,mem_append->aO,getElem?_eq_getElem->aP,mem_of_getElem?->aR,getElem?_append_right->aS,getElem?_eq_some_iff->aU,mem_append_right->aW,all_eq_true->aX,prefix_refl->a8,length_cons->bA,contains_iff_mem->bB,getElem?_map->bD,map_append->bE,append_nil->bF,not_mem_nil->bG,forall_mem_nil->bH,filter_cons_of_neg->bN,getElem?_append_left->bO,filter_cons_of_pos->bR,map_map->bX,getElem?_eq_none_iff->bZ,cons.inj->b0,mem_append_left->b6,filter_eq_nil_iff->b8,mem_map->cA,length_eq_zero_iff->cC,getElem?_of_mem->cE,length_range->cG,nodup_append->cH,isEmpty_iff->cI,mem_range->cJ,mem_cons_self->cN,mem_cons_of_mem->cO,lookup_cons->cP,length_filter_le->cU,map_cons->cW,reverse_cons->cY,idxOf_lt_length_iff->c0,nodup_cons->c7,getD_eq_getElem?_getD->c9,getElem?_set_ne->dB,pairwise_iff_getElem->dC,map_congr_left->dN,set_append_right->dO,filter_append->dR,mem_filter->dT,drop_eq_getElem_cons->dZ,length_reverse->d5,forall_mem_cons->d9,cons_ne_nil->eL,length_set->eQ,getElem?_range->eT,getElem?_set_self->eU,take_of_length_le->eV,length_drop->eX,length_singleton->fB,drop_eq_nil_iff->fG,mem_map_of_mem->fL,length_take->fQ,forIn_cons->fU,length_nil->fW,map_inj_left->gA,foldl_append->gD,pairwise_append->gE,exists_cons_of_ne_nil->gH,mem_of_mem_drop->gJ,set_append_left->gK,getElem_mem->gM,filterMap_cons->gU,flatMap_append->gV,Pairwise.imp_of_mem->gX,pairwise_singleton->iF,drop_eq_nil_of_le->iJ,pairwise_map->iP,any_eq_true->iW,mem_flatMap->iY,all_cons->iZ,eq_nil_of_length_eq_zero->i8,find?_cons->jA,filter_eq_self->jH,length_pos_iff->jI,set_set->jM,mem_filterMap->jO,drop_zero->jY,getElem_idxOf->j0,getElem?_drop->j1,mem_of_find?_eq_some->j2,getElem?_inj->j5,cons_append->kD,getElem?_cons_succ->kJ,isEmpty_map->kK,drop_of_length_le->kP,range_succ->kT,take_eq_take_min->lC,drop_eq_drop_min->lD,take_append_drop->lF,getElem?_eq_none->lG,map_eq_nil_iff->lX,sum_cons->l5,pairwise_cons->mG,filter_congr->mJ,take_add_one->mX,Pairwise.imp->mY,ext_getElem?->mZ,getLast_cons->m1,mem_reverse->m3,filter_cons->m5,flatMap_def->m7,find?_some->nG,sum_append->nH,map_const'->nJ,take_zero->nN,any_cons->nR,take_nil->nU,perm_nil->nW,map_take->nY,any_map->n4
open Bool renaming and_eq_true->aQ,false_ne_true->bV,not_eq_true'->dA,or_eq_true->d8,eq_false_iff->eF,eq_iff_iff->eO,not_eq_true->iT,and_eq_true_iff->i5,not_eq_false'->jP,not_false->lI,true_and->lZ,not_true->nP,false_or->nS,or_true->n5
open Eq renaming trans->a6,symm->nK
open Prod renaming mk.inj->bQ,ext->fM,mk.injEq->nV
open Array renaming getElem?_toList->bU,getElem?_eq_some_iff->c8,length_toList->eS,eq_empty_of_size_eq_zero->fO,append_assoc->fS,getD_eq_getD_getElem?->fZ,getElem?_eq_getElem->gT,all_toList->iX,perm_iff_toList_perm->jN,isEmpty_eq_false_iff->jQ,size_push->kZ,toList_append->lT,toList_push->mS,all_eq_true->mW
open Classical renaming epsilon_spec->dD,byContradiction->dY
open Ne renaming symm->dQ
open Int renaming fmod_eq_emod_of_nonneg->eG,natCast_nonneg->eK,ofNat_lt->iM,ofNat_inj->j8,lt_irrefl->lY,lt_or_gt_of_ne->mB,natAbs_eq_zero->mH,natAbs_ne_zero->mI,lt_trans->n0,not_lt->oA
open PyProof renaming noPylong_small->kN
open PySem PySem.W PyProof.Rows
namespace Mine
def aH:=@if_pos
def aL:=@if_neg
def aV:=@congrArg
def a5:=@beq_iff_eq
def a7:=@beq_eq_false_iff_ne
def bM:=@beq_self_eq_true
def b7:=@decide_eq_true
def cQ:=@decide_eq_false
def d6:=@decide_eq_true_eq
def f0:=@of_decide_eq_true
def hV:=@bne_iff_ne
noncomputable section
local macro_rules |`(command|def $n:declId $s:optDeclSig $v:declVal)=>`(command|noncomputable def $n:declId $s:optDeclSig $v:declVal)
theorem lk{L R A B:Nat}(h:L<=R)(e:A+R<=B+L:=by simp+arith only):A<=B:=Nat.le_of_add_le_add_right<|bC e<|fJ h B
theorem fo{P:Prop}(h:∀G:Prop,(P->G)->G):P:=h P id
def xpp.{u}{A:Type u}(n:Nonempty A)(P:A->Prop):A:=@Classical.epsilon A n λx=>¬P x
theorem xI.{u}{A:Type u}{n:Nonempty A}{P:A->Prop}(h:P<|xpp n P)(x:A):P x:=dY λq=>dD (p:=λx=>¬P x) ⟨x,q⟩ h
theorem xN.{u}{A B:Type u}(a:Nonempty A)(b:Nonempty B):Nonempty<|A×B:=a.elim λa=>b.elim λb=>⟨(a,b)⟩
def wt1.{u}{A:Type u}(n:Nonempty<|A)(S:A->Prop):A:=@Classical.epsilon _ n λp=>¬S p
theorem we1.{u}{A:Type u}(n:Nonempty<|A){S:A->Prop}(z:S<|wt1 n S)(a:A):S a:=xI (P:=λp=>S p) z<|a
def wu1.{u}{A:Type u}(n:Nonempty<|A)(S:A->Prop):A:=@Classical.epsilon _ n λp=>S p
theorem ws1.{u}{A:Type u}(n:Nonempty<|A){S:A->Prop}(h:∃a,S a):S<|wu1 n S:=@dD _ (λp=>S p)<|h.elim λa z=>⟨a,z⟩
def wt2.{u}{A B:Type u}(n:Nonempty<|A×B)(S:A->B->Prop):A×B:=@Classical.epsilon _ n λp=>¬S p.1 p.2
theorem we2.{u}{A B:Type u}(n:Nonempty<|A×B){S:A->B->Prop}(z:S (wt2 n S).1 (wt2 n S).2)(a:A)(b:B):S a b:=xI (P:=λp=>S p.1 p.2) z (a,b)
def wu2.{u}{A B:Type u}(n:Nonempty<|A×B)(S:A->B->Prop):A×B:=@Classical.epsilon _ n λp=>S p.1 p.2
theorem ws2.{u}{A B:Type u}(n:Nonempty<|A×B){S:A->B->Prop}(h:∃a b,S a b):S (wu2 n S).1 (wu2 n S).2:=@dD _ (λp=>S p.1 p.2)<|h.elim λa z=>z.elim λb z=>⟨(a,b),z⟩
def wt3.{u}{A B C:Type u}(n:Nonempty<|A×B×C)(S:A->B->C->Prop):A×B×C:=@Classical.epsilon _ n λp=>¬S p.1 p.2.1 p.2.2
theorem we3.{u}{A B C:Type u}(n:Nonempty<|A×B×C){S:A->B->C->Prop}(z:S (wt3 n S).1 (wt3 n S).2.1 (wt3 n S).2.2)(a:A)(b:B)(c:C):S a b c:=xI (P:=λp=>S p.1 p.2.1 p.2.2) z (a,b,c)
def wu3.{u}{A B C:Type u}(n:Nonempty<|A×B×C)(S:A->B->C->Prop):A×B×C:=@Classical.epsilon _ n λp=>S p.1 p.2.1 p.2.2
theorem ws3.{u}{A B C:Type u}(n:Nonempty<|A×B×C){S:A->B->C->Prop}(h:∃a b c,S a b c):S (wu3 n S).1 (wu3 n S).2.1 (wu3 n S).2.2:=@dD _ (λp=>S p.1 p.2.1 p.2.2)<|h.elim λa z=>z.elim λb z=>z.elim λc z=>⟨(a,b,c),z⟩
def wt4.{u}{A B C D:Type u}(n:Nonempty<|A×B×C×D)(S:A->B->C->D->Prop):A×B×C×D:=@Classical.epsilon _ n λp=>¬S p.1 p.2.1 p.2.2.1 p.2.2.2
theorem we4.{u}{A B C D:Type u}(n:Nonempty<|A×B×C×D){S:A->B->C->D->Prop}(z:S (wt4 n S).1 (wt4 n S).2.1 (wt4 n S).2.2.1 (wt4 n S).2.2.2)(a:A)(b:B)(c:C)(d:D):S a b c d:=xI (P:=λp=>S p.1 p.2.1 p.2.2.1 p.2.2.2) z (a,b,c,d)
def wu4.{u}{A B C D:Type u}(n:Nonempty<|A×B×C×D)(S:A->B->C->D->Prop):A×B×C×D:=@Classical.epsilon _ n λp=>S p.1 p.2.1 p.2.2.1 p.2.2.2
theorem ws4.{u}{A B C D:Type u}(n:Nonempty<|A×B×C×D){S:A->B->C->D->Prop}(h:∃a b c d,S a b c d):S (wu4 n S).1 (wu4 n S).2.1 (wu4 n S).2.2.1 (wu4 n S).2.2.2:=@dD _ (λp=>S p.1 p.2.1 p.2.2.1 p.2.2.2)<|h.elim λa z=>z.elim λb z=>z.elim λc z=>z.elim λd z=>⟨(a,b,c,d),z⟩
def wt5.{u}{A B C D E:Type u}(n:Nonempty<|A×B×C×D×E)(S:A->B->C->D->E->Prop):A×B×C×D×E:=@Classical.epsilon _ n λp=>¬S p.1 p.2.1 p.2.2.1 p.2.2.2.1 p.2.2.2.2
theorem we5.{u}{A B C D E:Type u}(n:Nonempty<|A×B×C×D×E){S:A->B->C->D->E->Prop}(z:S (wt5 n S).1 (wt5 n S).2.1 (wt5 n S).2.2.1 (wt5 n S).2.2.2.1 (wt5 n S).2.2.2.2)(a:A)(b:B)(c:C)(d:D)(e:E):S a b c d e:=xI (P:=λp=>S p.1 p.2.1 p.2.2.1 p.2.2.2.1 p.2.2.2.2) z (a,b,c,d,e)
def wu5.{u}{A B C D E:Type u}(n:Nonempty<|A×B×C×D×E)(S:A->B->C->D->E->Prop):A×B×C×D×E:=@Classical.epsilon _ n λp=>S p.1 p.2.1 p.2.2.1 p.2.2.2.1 p.2.2.2.2
theorem ws5.{u}{A B C D E:Type u}(n:Nonempty<|A×B×C×D×E){S:A->B->C->D->E->Prop}(h:∃a b c d e,S a b c d e):S (wu5 n S).1 (wu5 n S).2.1 (wu5 n S).2.2.1 (wu5 n S).2.2.2.1 (wu5 n S).2.2.2.2:=@dD _ (λp=>S p.1 p.2.1 p.2.2.1 p.2.2.2.1 p.2.2.2.2)<|h.elim λa z=>z.elim λb z=>z.elim λc z=>z.elim λd z=>z.elim λe z=>⟨(a,b,c,d,e),z⟩
def wt6.{u}{A B C D E F:Type u}(n:Nonempty<|A×B×C×D×E×F)(S:A->B->C->D->E->F->Prop):A×B×C×D×E×F:=@Classical.epsilon _ n λp=>¬S p.1 p.2.1 p.2.2.1 p.2.2.2.1 p.2.2.2.2.1 p.2.2.2.2.2
theorem we6.{u}{A B C D E F:Type u}(n:Nonempty<|A×B×C×D×E×F){S:A->B->C->D->E->F->Prop}(z:S (wt6 n S).1 (wt6 n S).2.1 (wt6 n S).2.2.1 (wt6 n S).2.2.2.1 (wt6 n S).2.2.2.2.1 (wt6 n S).2.2.2.2.2)(a:A)(b:B)(c:C)(d:D)(e:E)(f:F):S a b c d e f:=xI (P:=λp=>S p.1 p.2.1 p.2.2.1 p.2.2.2.1 p.2.2.2.2.1 p.2.2.2.2.2) z (a,b,c,d,e,f)
def wt7.{u}{A B C D E F G:Type u}(n:Nonempty<|A×B×C×D×E×F×G)(S:A->B->C->D->E->F->G->Prop):A×B×C×D×E×F×G:=@Classical.epsilon _ n λp=>¬S p.1 p.2.1 p.2.2.1 p.2.2.2.1 p.2.2.2.2.1 p.2.2.2.2.2.1 p.2.2.2.2.2.2
theorem we7.{u}{A B C D E F G:Type u}(n:Nonempty<|A×B×C×D×E×F×G){S:A->B->C->D->E->F->G->Prop}(z:S (wt7 n S).1 (wt7 n S).2.1 (wt7 n S).2.2.1 (wt7 n S).2.2.2.1 (wt7 n S).2.2.2.2.1 (wt7 n S).2.2.2.2.2.1 (wt7 n S).2.2.2.2.2.2)(a:A)(b:B)(c:C)(d:D)(e:E)(f:F)(g:G):S a b c d e f g:=xI (P:=λp=>S p.1 p.2.1 p.2.2.1 p.2.2.2.1 p.2.2.2.2.1 p.2.2.2.2.2.1 p.2.2.2.2.2.2) z (a,b,c,d,e,f,g)
def wt8.{u}{A B C D E F G H:Type u}(n:Nonempty<|A×B×C×D×E×F×G×H)(S:A->B->C->D->E->F->G->H->Prop):A×B×C×D×E×F×G×H:=@Classical.epsilon _ n λp=>¬S p.1 p.2.1 p.2.2.1 p.2.2.2.1 p.2.2.2.2.1 p.2.2.2.2.2.1 p.2.2.2.2.2.2.1 p.2.2.2.2.2.2.2
theorem we8.{u}{A B C D E F G H:Type u}(n:Nonempty<|A×B×C×D×E×F×G×H){S:A->B->C->D->E->F->G->H->Prop}(z:S (wt8 n S).1 (wt8 n S).2.1 (wt8 n S).2.2.1 (wt8 n S).2.2.2.1 (wt8 n S).2.2.2.2.1 (wt8 n S).2.2.2.2.2.1 (wt8 n S).2.2.2.2.2.2.1 (wt8 n S).2.2.2.2.2.2.2)(a:A)(b:B)(c:C)(d:D)(e:E)(f:F)(g:G)(h:H):S a b c d e f g h:=xI (P:=λp=>S p.1 p.2.1 p.2.2.1 p.2.2.2.1 p.2.2.2.2.1 p.2.2.2.2.2.1 p.2.2.2.2.2.2.1 p.2.2.2.2.2.2.2) z (a,b,c,d,e,f,g,h)
def wt9.{u}{A B C D E F G H I:Type u}(n:Nonempty<|A×B×C×D×E×F×G×H×I)(S:A->B->C->D->E->F->G->H->I->Prop):A×B×C×D×E×F×G×H×I:=@Classical.epsilon _ n λp=>¬S p.1 p.2.1 p.2.2.1 p.2.2.2.1 p.2.2.2.2.1 p.2.2.2.2.2.1 p.2.2.2.2.2.2.1 p.2.2.2.2.2.2.2.1 p.2.2.2.2.2.2.2.2
theorem we9.{u}{A B C D E F G H I:Type u}(n:Nonempty<|A×B×C×D×E×F×G×H×I){S:A->B->C->D->E->F->G->H->I->Prop}(z:S (wt9 n S).1 (wt9 n S).2.1 (wt9 n S).2.2.1 (wt9 n S).2.2.2.1 (wt9 n S).2.2.2.2.1 (wt9 n S).2.2.2.2.2.1 (wt9 n S).2.2.2.2.2.2.1 (wt9 n S).2.2.2.2.2.2.2.1 (wt9 n S).2.2.2.2.2.2.2.2)(a:A)(b:B)(c:C)(d:D)(e:E)(f:F)(g:G)(h:H)(i:I):S a b c d e f g h i:=xI (P:=λp=>S p.1 p.2.1 p.2.2.1 p.2.2.2.1 p.2.2.2.2.1 p.2.2.2.2.2.1 p.2.2.2.2.2.2.1 p.2.2.2.2.2.2.2.1 p.2.2.2.2.2.2.2.2) z (a,b,c,d,e,f,g,h,i)
theorem yI.{u}{A:Type u}[n:Nonempty A]:Nonempty A:=n
theorem yH:Nonempty PySem.Shared:=⟨{}⟩
theorem yP:Nonempty PySem.Params:=⟨{strHash:=λU=>0,shareClass:=λU=>0,mergeTok:=λU=>0,idOf:=λU=>0,idOfShared:=λU U=>0,followText:=λU=>false,idOfImm:=λU=>0}⟩
theorem yW:Nonempty PySem.World:=yP.elim λp=>⟨⟨λU U=>0,p⟩⟩
theorem yA:Nonempty PySem.Around:=⟨{}⟩
open Lean in
set_option hygiene false in
local macro_rules
 | `(tactic| exists $xs,*) => do
  let mut a := xs.getElems
  let l := a.back!
  let mut r ← `(tactic| skip)
  let mut z := "t"
  let mut o := none
  let mut e := r
  unless l.raw.isIdent do
   a := a.pop
   if let `([$ps,*]) := l then
    let ps : Array (TSyntax `ident) := ps.getElems.map fun x => ⟨x.raw⟩
    let d : Array (TSyntax `ident) := a.map fun x => ⟨x.raw⟩
    r ← `(tactic| revert $d*)
    unless ps.isEmpty do
     e ← `(tactic| intro $ps*)
     let q := ps.filter (·.raw.isIdent)
     unless q.isEmpty do r ← `(tactic| (revert $q*; $r))
   else if let `(_) := l then
    let d : Array (TSyntax `ident) := a.map fun x => ⟨x.raw⟩
    r ← `(tactic| revert $d*)
    e ← `(tactic| set_option tactic.hygienic false in intros)
   else if let `(($y : $h)) := l then
    z := "u"
    o ← `(Parser.Tactic.location| at $(⟨y.raw⟩):ident)
    r ← `(tactic| have $(⟨y.raw⟩):ident := $(mkIdent (.mkSimple s!"ws{a.size}")) (by trivial) $h)
  let n := a.size
  if n == 0 then return ← `(tactic| refine fo fun g9 k9 => ?_)
  if n > 9 then
   let b := a[:9].toArray
   let c := a[9:].toArray
   return ← `(tactic| ($r; exists $[$b],*; exists $[$c],*; $e))
  if z == "t" then r ← `(tactic| ($r; refine no_implicit_lambda% ($(mkIdent (.mkSimple s!"we{n}")) (by trivial) ?_)))
  let mut p ← `($(mkIdent (.mkSimple s!"w{z}{n}")) _ _)
  for i in [0:n] do
   let q ← if i+1 < n then `(($p).1) else pure p
   r ← `(tactic| ($r; generalize $q = $(⟨a[i]!.raw⟩) $[$o]?))
   p ← `(($p).2)
  `(tactic| ($r; $e))
set_option hygiene false in
local macro_rules
 | `(tactic| trivial) => `(tactic| first | exact yI | exact yH | exact yP | exact yW | exact yA | exact yT | exact yC | exact ySm | exact yO | exact yFl | exact yBs | exact yAd | exact yEn | exact yGk | exact yLm | exact yLx | (refine xN ?_ ?_ <;> trivial))
local macro_rules |`(tactic|rfl')=>`(tactic|kernel_rfl)
set_option bootstrap.genMatcherCode false
set_option genSizeOf false
set_option genSizeOfSpec false
open PySem PySem.W
noncomputable section
variable{R:Type}
def uR(n:Nat)(k:Nat->R):R:=Nat.rec (k 0) (λm U=>k<|Nat.succ m) n
theorem qX(n:Nat)(k:Nat->R):uR n k=k n:=by cases n<;>rfl
def Hn{α:Type}(f:α->(α->R)->R)(l:List α):(List α->R)->R:=
 List.rec (motive:=λU=>(List α->R)->R) (λk=>k []) (λa U ih k=>f a λa'=>ih λl'=>k (a'::l')) l
theorem wI{α:Type}{f:α->(α->R)->R}(hf:∀a k,f a k=k a):∀(l:List α)(k:List α->R),Hn f l k=k l:=by
 intro zr;induction zr with
 |nil=> intro _;exact rfl
 |cons a l pD=> intro k;exact(hf a _).trans<|pD _
def qy{α:Type}(f:α->(α->R)->R)(x:Array α)(k:Array α->R):R:=Array.rec (motive:=λU=>R) (λl=>Hn f l λl'=>k ⟨l'⟩) x
theorem E5{α:Type}{f:α->(α->R)->R}(hf:∀a k,f a k=k a):∀(x:Array α)(k:Array α->R),qy f x k=k x
 |⟨l⟩,k=>wI hf l λl'=>k ⟨l'⟩
def bt{α:Type}(f:α->(α->R)->R)(x:Option α)(k:Option α->R):R:=Option.rec (motive:=λU=>R) (k none) (λa=>f a λa'=>k<|some a') x
theorem Cb{α:Type}{f:α->(α->R)->R}(hf:∀a k,f a k=k a):∀(x:Option α)(k:Option α->R),bt f x k=k x
 |none,_=>rfl
 |some a,k=>hf a λa'=>k<|some a'
def Jx(x:Bool)(k:Bool->R):R:=Bool.rec (motive:=λU=>R) (k false) (k true) x
theorem y7(x:Bool)(k:Bool->R):Jx x k=k x:=by cases x<;>rfl
def Qd(x:Str)(k:Str->R):R:=Str.rec (motive:=λU=>R) (λa=>Array.rec (motive:=λU=>R) (λl=>k ⟨⟨l⟩⟩) a) x
theorem xG:∀(x:Str)(k:Str->R),Qd x k=k x
 |⟨⟨_⟩⟩,_=>rfl
def aaJ(x:Int)(k:Int->R):R:=Int.rec (motive:=λU=>R) (λn=>uR n λn'=>k<|.ofNat n') (λn=>uR n λn'=>k<|.negSucc n') x
theorem CI:∀(x:Int)(k:Int->R),aaJ x k=k x
 |.ofNat n,k=>qX n λn=>k<|.ofNat n
 |.negSucc n,k=>qX n λn=>k<|.negSucc n
def xX(v:Value)(k:Value->R):R:=Value.rec (motive:=λU=>R) (k .none) (k .ellipsis) (k .notImplemented) (λb=>Jx b λb'=>k<|.bool b') (λi t=>aaJ i λi'=>uR t λt'=>k<|.int i' t')
 (λb t=>k<|.float b t) (λs t=>Qd s λs'=>uR t λt'=>k<|.str s' t') (λb t=>k<|.bytes b t) (λn=>k<|.type n) (λn=>k<|.builtin n) (λa=>uR a λa'=>k<|.ref a') v
theorem qY(v:Value)(k:Value->R):xX v k=k v:=by
 cases v with
 |bool b=>exact y7 b λb=>k<|.bool b
 |int i t=>exact(CI i λi=>uR t λt=>k<|.int i t).trans<|qX t λt=>k<|.int i t
 |str s t=>exact(xG s λs=>uR t λt=>k<|.str s t).trans<|qX t λt=>k<|.str s t
 |ref a=>exact qX a λa=>k<|.ref a
 |_=>rfl
def ve{α β:Type}(f:α->(α->R)->R)(g:β->(β->R)->R)(x:α×β)(k:α×β->R):R:=Prod.rec (motive:=λU=>R) (λa b=>f a λa=>g b λb=>k (a,b)) x
theorem Ph{α β:Type}{f:α->(α->R)->R}{g:β->(β->R)->R}(hf:∀a k,f a k=k a)(hg:∀a k,g a k=k a)(x:α×β)(k:α×β->R):ve f g x k=k x:=(hf _ _).trans<|hg _ _
def aaR(e:DictEntry)(k:DictEntry->R):R:=ve xX xX (e.key,e.val) λx=>k ⟨e.hash,x.1,x.2⟩
theorem AI(e:DictEntry)(k:DictEntry->R):aaR e k=k e:=Ph qY qY _ _
def fFn(e:FuncData)(k:FuncData->R):R:=FuncData.rec (motive:=λU=>R) (λnm qn ps bd sc g cl df kd dc pm an cd ct bi=>
 Qd nm λnm=>Qd qn λqn=>uR g λg=>Hn (ve Qd uR) cl λcl=>xX df λdf=>xX kd λkd=>xX dc λdc=>xX pm λpm=>bt uR an λan=>xX cd λcd=>xX ct λct=>uR bi λbi=>
 k ⟨nm,qn,ps,bd,sc,g,cl,df,kd,dc,pm,an,cd,ct,bi⟩) e
theorem SS(e:FuncData)(k:FuncData->R):fFn e k=k e:=by cases e;dsimp only[fFn];rw[xG,xG,qX,wI<|Ph xG qX,qY,qY,qY,qY,Cb qX,qY,qY,qX]
def OD(e:ClassData)(k:ClassData->R):R:=ClassData.rec (motive:=λU=>R) (λnm bs mr ns qn hd sl sb ab co dl=>
 Qd nm λnm=>Hn xX bs λbs=>Hn xX mr λmr=>uR ns λns=>Qd qn λqn=>Jx hd λhd=>Hn Qd sl λsl=>Hn xX sb λsb=>Jx ab λab=>bt Jx co λco=>Jx dl λdl=>
 k ⟨nm,bs,mr,ns,qn,hd,sl,sb,ab,co,dl⟩) e
theorem EH(e:ClassData)(k:ClassData->R):OD e k=k e:=by cases e;dsimp only[OD];rw[xG,wI qY,wI qY,qX,xG,y7,wI xG,wI qY,y7,Cb y7,y7]
def JV(d:Data)(k:Data->R):R:=Data.rec (motive:=λU=>R) (k .plain) (λv=>xX v λv=>k<|.prim v) (λxs n=>qy xX xs λxs=>uR n λn=>k<|.seq xs n) (λes n=>qy aaR es λes=>uR n λn=>k<|.dict es n)
 (λes n t=>k<|.set es n t) (λb n=>k<|.bytearray b n) (λv=>bt xX v λv=>k<|.cell v) (λf=>fFn f λf=>k<|.func f) (λc=>OD c λc=>k<|.cls c) (λvs=>qy xX vs λvs=>k<|.fields vs) (k .freed) d
theorem uu(d:Data)(k:Data->R):JV d k=k d:=by
 cases d with
 |prim v=>exact qY v λv=>k<|.prim v
 |seq xs n=>exact(E5 qY xs λxs=>uR n λn=>k<|.seq xs n).trans<|qX n λn=>k<|.seq xs n
 |dict xs n=>exact(E5 AI xs λxs=>uR n λn=>k<|.dict xs n).trans<|qX n λn=>k<|.dict xs n
 |cell v=>exact Cb qY v λv=>k<|.cell v
 |func f=>exact SS f λf=>k<|.func f
 |cls c=>exact EH c λc=>k<|.cls c
 |fields vs=>exact E5 qY vs λvs=>k<|.fields vs
 |_=>rfl
def Z4(o:Obj)(k:Obj->R):R:=Obj.rec (motive:=λU=>R) (λc d dt sl=>xX c λc=>bt uR d λd=>JV dt λdt=>qy (bt xX) sl λsl=>k ⟨c,d,dt,sl⟩) o
theorem La(o:Obj)(k:Obj->R):Z4 o k=k o:=by cases o;dsimp only[Z4];rw[qY,Cb qX,uu,E5<|Cb qY]
def DX(t:BT):Nat->Obj->(BT->R)->R:=BT.rec (motive:=λU=>Nat->Obj->(BT->R)->R) (λU o k=>k<|.node o .nil .nil)
 (λv l r il ir i o k=>Bool.rec (motive:=λU=>R) (Bool.rec (motive:=λU=>R) (ir (i/2-1) o λr'=>k<|.node v l r') (il (i/2) o λl'=>k<|.node v l' r)<|Nat.beq (i%2) 1) (k<|.node o l r)<|Nat.beq i 0) t
theorem bK{α:Type}{A B:R}{c d:α}{k:α->R}{b:Bool}(h:A=k c)(q:B=k d):Bool.rec (motive:=λU=>R) A B b=k (Bool.rec (motive:=λU=>α) c d b):=by cases b;exact h;exact q
theorem X7(t:BT):∀(i:Nat)(o:Obj)(k:BT->R),DX t i o k=k (t.ins i o):=by
 induction t with
 |nil=>exact λU U U=>rfl
 |node v l r il ir=> exact λi o k=>(bK (b:=Nat.beq i 0) (k:=k) (bK (b:=Nat.beq (i%2) 1) (k:=k) (ir (i/2-1) o λr'=>k<|.node v l r')<|il (i/2) o λl'=>k<|.node v l' r) rfl).trans<|aV k<|by rfl'
def ZL(t:BT):Nat->(Obj->Obj)->(BT->R)->R:=BT.rec (motive:=λU=>Nat->(Obj->Obj)->(BT->R)->R) (λU U k=>k .nil)
 (λv l r il ir i f k=>Bool.rec (motive:=λU=>R) (Bool.rec (motive:=λU=>R) (ir (i/2-1) f λr'=>k<|.node v l r') (il (i/2) f λl'=>k<|.node v l' r)<|Nat.beq (i%2) 1) (Z4 (f v) λv'=>k<|.node v' l r)<|Nat.beq i 0) t
theorem zy(t:BT):∀(i:Nat)(f:Obj->Obj)(k:BT->R),ZL t i f k=k (t.set i f):=by
 induction t with
 |nil=>exact λU U U=>rfl
 |node v l r il ir=> exact λi f k=>(bK (b:=Nat.beq i 0) (k:=k) (bK (b:=Nat.beq (i%2) 1) (k:=k) (ir (i/2-1) f λr'=>k<|.node v l r')<|il (i/2) f λl'=>k<|.node v l' r)<|La (f v) λv'=>k<|.node v' l r).trans<|aV k<|by rfl'
def z9(JX:(Code->Sem Fin)->Program->World->Shared->Thread->Step)(den:Code->Sem Fin)(p:Program)(w:World)(s:SharedT)(t:Thread)(K:SharedT->Thread->Option R):Option R:=match s,t with
 |⟨T,n,life,gens,drawn,toks,os⟩,⟨cur,code,pos,stack⟩=>match cur with
  |.load a _ k=>match Nat.blt a n with
   |true=>match T.get a with
    |some o=>match alive o with
     |some o'=>K ⟨T,n,life,gens,drawn,toks,os⟩ ⟨k o',code,pos,stack⟩
     |none=>none
    |none=>none
   |false=>none
  |.update a _ f k=>match Nat.blt a n with
   |true=>match T.get a with
    |some o=>match alive o with
     |some _=>ZL T a f λT'=>K ⟨T',n,life,gens,drawn,toks,os⟩ ⟨k (),code,pos,stack⟩
     |none=>none
    |none=>none
   |false=>none
  |.alloc o k=>Z4 o λo'=>DX T n o' λT'=>match(T'.get n).isSome with
   |true=>uR (n+1) λn'=>K ⟨T',n',life,gens,drawn,toks,os⟩ ⟨k n,code,pos,stack⟩
   |false=>none
  |.loadIfAlive a k=>match Nat.blt a n with
   |true=>match T.get a with
    |some o=>K ⟨T,n,life,gens,drawn,toks,os⟩ ⟨k<|alive o,code,pos,stack⟩
    |none=>none
   |false=>K ⟨T,n,life,gens,drawn,toks,os⟩ ⟨k none,code,pos,stack⟩
  |c=>match JX den p w ⟨{},gens,drawn,toks,os⟩ ⟨c,code,pos,stack⟩with
   |.go s' t'=>uR s'.toks λtk=>K ⟨T,n,life,s'.gens,s'.drawn,tk,s'.os⟩ t'
   |.halt _ _=>none
theorem Pa{den:Code->Sem Fin}{p:Program}{w:World}{s:SharedT}{t:Thread}{K:SharedT->Thread->Option R}:z9 step den p w s t K=match stepT den p w s t with|some (s',t')=>K s' t'|none=>none:=by
 obtain⟨T,n,life,gens,drawn,toks,os⟩:=s;obtain⟨cur,code,pos,stack⟩:=t;have rest:∀r:Step,(match r with|.go s' t'=>uR s'.toks λtk=>K ⟨T,n,life,s'.gens,s'.drawn,tk,s'.os⟩ t'|.halt _ _=>none)=(match(match r with|.go s' t'=>some (⟨T,n,life,s'.gens,s'.drawn,s'.toks,s'.os⟩,t')|.halt _ _=>none)with|some (s',t')=>K s' t'|none=>none):=by
  intro r;induction r with
  |go s' t'=>exact qX _ _
  |halt=>rfl
 cases cur with
 |load a _ k=>
  dsimp only[z9,stepT];cases Nat.blt a n with
  |false=>rfl
  |true=>cases T.get a with
   |none=>rfl
   |some o=>dsimp only;cases alive o<;>rfl
 |update a _ f k=>
  dsimp only[z9,stepT];cases Nat.blt a n with
  |false=>rfl
  |true=>cases T.get a with
   |none=>rfl
   |some o=>dsimp only;cases alive o with
    |none=>rfl
    |some _=>exact zy _ _ _ _
 |alloc o k=>
  dsimp only[z9,stepT];rw[La,X7];cases((T.ins n o).get n).isSome with
  |false=>rfl
  |true=>exact qX _ _
 |loadIfAlive a k=>
  dsimp only[z9,stepT];cases Nat.blt a n with
  |false=>rfl
  |true=>cases T.get a<;>rfl
 |_=> dsimp only[z9,stepT];generalize step den p w _ _=r;exact rest r
def QX(JX:(Code->Sem Fin)->Program->World->Shared->Thread->Step)(den:Code->Sem Fin)(ok:Nat->Option Value->Thread->Bool)(thr:Thread->Bool)(p:Program)(w:World)(U5:Nat)(ann:Option Value)(n:Nat):SharedT->Thread->(SharedT->Option R)->Option R:=
 Nat.rec (motive:=λU=>SharedT->Thread->(SharedT->Option R)->Option R) (λU U U=>none)
  (λU ih s t K=>Bool.rec (motive:=λU=>Option R) (Bool.rec (motive:=λU=>Option R) none (z9 JX den p w s t λs' t'=>ih s' t' K)<|ok U5 ann t) (K s)<|thr t) n
theorem Zm{tb:String->Option Builtin}{p:Program}{w:World}{U5:Nat}{ann:Option Value}{K:SharedT->Option R}{r:R}:∀(n:Nat)(s:SharedT)(t:Thread),QX step (denote tb) stepOk through p w U5 ann n s t K=some r->∃s',topRun tb p w U5 ann n s.abs t=some s'.abs/\K s'=some r:=by
 intro zr;induction zr with
 |zero=> intro _ _ h;exact nomatch h
 |succ n pD=>
  intro s t h;replace h:Bool.rec (motive:=λU=>Option R) (Bool.rec (motive:=λU=>Option R) none (z9 step (denote tb) p w s t λs' t'=>QX step (denote tb) stepOk through p w U5 ann n s' t' K)<|stepOk U5 ann t) (K s) (through t)=some r:=h;unfold topRun;cases e:through t with
  |true=>have h:=e▸h;exact⟨s,rfl,h⟩
  |false=>
   rw[e]at h;cases e1:stepOk U5 ann t with
   |false=>rw[e1]at h;exact nomatch h
   |true=>
    rw[e1]at h;dsimp only at h⊢;have h:=Pa▸h;cases e2:stepT (denote tb) p w s t with
    |none=>rw[e2]at h;exact nomatch h
    |some x=>rw[e2]at h;rw[stepT_spec e2];exact pD x.1 x.2 h
def QK(JX:(Code->Sem Fin)->Program->World->Shared->Thread->Step)(den:Code->Sem Fin)(p:Program)(w:World)(n:Nat):SharedT->Thread->(SharedT->Option R)->Option R:=
 Nat.rec (motive:=λU=>SharedT->Thread->(SharedT->Option R)->Option R) (λU U U=>none)
  (λU ih s t K=>match t.atExitBegin with
   |some l=>match l with|[]=>K s|_::_=>none
   |none=>z9 JX den p w s t λs' t'=>ih s' t' K) n
theorem Zw{tb:String->Option Builtin}{p:Program}{w:World}{K:SharedT->Option R}{r:R}:∀(n:Nat)(s:SharedT)(t:Thread),QK step (denote tb) p w n s t K=some r->∃s',importEnds tb p w n s.abs t=some s'.abs/\K s'=some r:=by
 intro zr;induction zr with
 |zero=> intro _ _ h;exact nomatch h
 |succ n pD=>
  intro s t h;replace h:(match t.atExitBegin with
   |some l=>match l with|[]=>K s|_::_=>none
   |none=>z9 step (denote tb) p w s t λs' t'=>QK step (denote tb) p w n s' t' K)=some r:=h
  unfold importEnds;cases e:t.atExitBegin with
  |some l=>cases l with
   |nil=>rw[e]at h;exact⟨s,rfl,h⟩
   |cons=>rw[e]at h;exact nomatch h
  |none=>
   rw[e]at h;dsimp only at h⊢;rw[Pa]at h;cases e2:stepT (denote tb) p w s t with
   |none=>rw[e2]at h;exact nomatch h
   |some x=>rw[e2]at h;rw[stepT_spec e2];exact pD x.1 x.2 h
def ge(l:List Obj):Nat->BT->(BT->Option R)->Option R:=List.rec (motive:=λU=>Nat->BT->(BT->Option R)->Option R) (λU t k=>k t)
 (λo U ih i t k=>Z4 o λo=>DX t i o λt=>Bool.rec (motive:=λU=>Option R) none (uR (i+1) λi=>ih i t k) (t.get i).isSome) l
theorem Ts{k:BT->Option R}{r:R}{life:Life}:∀(l:List Obj)(i:Nat)(t:BT),ge l i t k=some r->∃T,absHeap T (i+l.length) life=⟨(absHeap t i life).objs++l.toArray,life⟩/\k T=some r:=by
 intro zr;induction zr with
 |nil=> intro i t h;exact⟨t,by rw[Array.append_empty];rfl,h⟩
 |cons o l pD=>
  intro i t h;replace h:Z4 o (λo=>DX t i o λt=>Bool.rec (motive:=λU=>Option R) none (uR (i+1) λi=>ge l i t k) (t.get i).isSome)=some r:=h;rw[La,X7]at h;cases e:((t.ins i o).get i).isSome with
  |false=>rw[e]at h;exact nomatch h
  |true=> rw[e]at h;dsimp only at h;rw[qX]at h;obtain⟨T,a,b⟩:=pD (i+1) _ h;refine⟨T,?_,b⟩;rw[absHeap_ins e]at a;rw[bA,show i+(l.length+1)=i+1+l.length by omega,a];show Heap.mk ((absHeap t i life).objs.push o++l.toArray) life=_;rw[<-Array.append_singleton,fS];simp
def Jj(T:BT)(i:Nat):List Obj->(List Obj->Option R)->Option R:=
 Nat.rec (motive:=λU=>List Obj->(List Obj->Option R)->Option R) (λacc K=>K acc) (λi ih acc K=>Option.rec (motive:=λU=>Option R) (ih (default::acc) K) (λo=>ih (o::acc) K)<|T.get i) i
theorem Hg(T:BT)(K:List Obj->Option R):∀(i:Nat)(acc:List Obj),Jj T i acc K=K (T.list i++acc):=by
 intro zr;induction zr with
 |zero=> intro _;exact rfl
 |succ i pD=>
  intro acc;have e:T.list (i+1)=T.list i++[(T.get i).getD default]:=by unfold BT.list;rw[kT,bE];rfl
  rw[e,aJ];show Option.rec (motive:=λU=>Option R) (Jj T i (default::acc) K) (λo=>Jj T i (o::acc) K) (T.get i)=_;cases T.get i<;>exact pD _
def tg(s:SharedT)(a:Nat):Option Obj:=match Nat.blt a s.n,s.tree.get a with
 |true,some o=>alive o
 |_,_=>s.abs.heap.get? a
theorem aaY(s:SharedT):tg s=s.abs.heap.get? :=by
 funext a
 unfold tg;cases h:Nat.blt a s.n with
 |false=>rfl
 |true=>cases g:s.tree.get a with
  |none=>rfl
  |some o=>exact(abs_get (Nat.blt_eq.mp h) g).symm
def T9(JX:(Code->Sem Fin)->Program->World->Shared->Thread->Step)(den:Code->Sem Fin)(ok:Nat->Option Value->Thread->Bool)(fen:Program->Shared->Option Shared)(N:Nat)(p:Program)(w:World)(obs:Shared->Shared->(Nat->Option Obj)->R):Option R:=
 QK JX den (opening p) w N ⟨.nil,0,{},#[],{},(start<|opening p).1.toks,(start<|opening p).1.os⟩ (start<|opening p).2 λs=>Jj s.tree s.n [] λl=>
  match fen p ⟨⟨⟨l⟩,s.life⟩,s.gens,s.drawn,s.toks,s.os⟩with
  |none=>none
  |some o6=>ge o6.heap.objs.toList 0 .nil λT=>uR o6.heap.objs.size λm=>Jj T m [] λaee=>
   QX JX den ok through p w m (o6.heap.nsMap mainGlobals "__annotations__") N ⟨T,m,o6.heap.life,o6.gens,o6.drawn,o6.toks,o6.os⟩ (topStub p) λoK=>
   Jj oK.tree oK.n [] λl=>some<|obs ⟨⟨⟨aee⟩,o6.heap.life⟩,o6.gens,o6.drawn,o6.toks,o6.os⟩ ⟨⟨⟨l⟩,oK.life⟩,oK.gens,oK.drawn,oK.toks,oK.os⟩<|tg oK
theorem ck(p:Program):SharedT.abs ⟨.nil,0,{},#[],{},(start p).1.toks,(start p).1.os⟩=(start p).1:=by unfold SharedT.abs absHeap BT.list start;simp
theorem N5{N:Nat}{p:Program}{w:World}{obs:Shared->Shared->(Nat->Option Obj)->R}{r:R}(h:T9 step (denote treeTable) stepOk fenceModules? N p w obs=some r):
 ∃o6 oK,fencedOpening treeTable p w N=some o6/\topRun treeTable p w o6.heap.objs.size (o6.heap.nsMap mainGlobals "__annotations__") N o6 (topStub p)=some oK/\obs o6 oK oK.heap.get? =r:=by
 obtain⟨s,a,h⟩:=Zw _ _ _ h;rw[Hg,bF]at h;have ha:(⟨⟨⟨s.tree.list s.n⟩,s.life⟩,s.gens,s.drawn,s.toks,s.os⟩:Shared)=s.abs:=rfl;rw[ha]at h;cases e:fenceModules? p s.abs with
 |none=>rw[e]at h;exact nomatch h
 |some o6=>
  rw[e]at h;obtain⟨T,b,h⟩:=Ts (life:=o6.heap.life) _ _ _ h;rw[qX,Hg,bF]at h;obtain⟨oK,c,h⟩:=Zm _ _ _ h;rw[Hg,bF]at h;have b':absHeap T o6.heap.objs.size o6.heap.life=o6.heap:=by rw[dF]at b;refine a6 (b.trans ?_) rfl;show Heap.mk (#[]++o6.heap.objs.toList.toArray) _=_;rw[Array.empty_append]
  have hb:SharedT.abs ⟨T,o6.heap.objs.size,o6.heap.life,o6.gens,o6.drawn,o6.toks,o6.os⟩=o6:=by show Shared.mk (absHeap T o6.heap.objs.size o6.heap.life) _ _ _ _=_;rw[b']
  rw[hb]at c;refine⟨o6,oK.abs,?_,c,?_⟩
  .unfold fencedOpening;have a':importEnds treeTable (opening p) w N (start<|opening p).1 (start<|opening p).2=some s.abs:=by rw[<-ck (opening p)];exact a
   rw[a'];exact e
  .rw[aaY]at h;refine a6 ?_<|aA h;have:(⟨⟨⟨T.list o6.heap.objs.size⟩,o6.heap.life⟩,o6.gens,o6.drawn,o6.toks,o6.os⟩:Shared)=o6:=hb;rw[this];rfl
theorem GC{N:Nat}{p q:Program}{loose:List Str}{Xt:Shared->Bool}{α:Type}{Yf:(Nat->Option Obj)->α}{Ya:World->α}{g0:Bool}
 (h:∀w,T9 step (denote treeTable) stepOk fenceModules? N p w (λo6 oK VL=>(o6.heap.isNs mainGlobals&&o6.gens.size==0&&(staticsOk (importedModules p.main.body) o6.heap oK.heap&&namesBound p oK.heap&&gensDone oK&&laidKept o6.heap oK.heap),
  openSeen q loose (importedModules p.main.body) Xt g0 oK,Yf VL))=some (true,openGood q loose,Ya w)):LeftO p q loose Xt (λs=>Yf s.heap.get?) Ya N g0:=λw=>by
 obtain⟨o6,oK,a,b,c⟩:=N5<|h w;obtain⟨c1,c2⟩:=bQ c;obtain⟨c3,c4⟩:=i5.mp c1;unfold openEnds;rw[a];show(topFrom treeTable p w N o6).map _=_;unfold topFrom;rw[c3,b];show(match staticsOk (importedModules p.main.body) o6.heap oK.heap&&namesBound p oK.heap&&gensDone oK&&laidKept o6.heap oK.heap with|true=>some oK|false=>none).map _=_;rw[c4];exact aV some c2
end
abbrev PG:Program:=PySem.Challenge.pw_ny0438_01
def zW(i:Nat):Stmt:=(PG.main.body[i]?).getD<|.Pass ⟨0,0,0,0⟩
def fnB:Stmt->List Stmt
 |.FunctionDef _ _ b ..=>b
 |_=>[]
def fnS:Stmt->Scope
 |.FunctionDef _ _ _ _ _ _ s ..=>s
 |_=>⟨.module,[],false,false,[]⟩
def fnP:Stmt->Arguments
 |.FunctionDef _ a ..=>a
 |_=>⟨[],[],none,[],[],none,[]⟩
def clB:Stmt->List Stmt
 |.ClassDef _ _ _ b ..=>b
 |_=>[]
def qB(i j:Nat):Stmt:=((clB<|zW i)[j]?).getD<|.Pass ⟨0,0,0,0⟩
def S(x:String)(t:Nat):Value:=.str (Str.ofString x) t
def D(P:Params)(l:List<|String×Nat×Value)(n:Nat):Data:=.dict (l.map λe=>⟨PyData.keyHash P<|Str.ofString e.1,.str (Str.ofString e.1) e.2.1,e.2.2⟩).toArray n
def F(st:Stmt)(nm qn:String)(g:Nat)(cl:List<|String×Nat)(df kd dc pm:Value)(an:Option Nat)(cd ct:Value)(bi:Nat):Data:=
 .func ⟨Str.ofString nm,Str.ofString qn,fnP st,.stmts<|fnB st,fnS st,g,cl.map λe=>(Str.ofString e.1,e.2),df,kd,dc,pm,an,cd,ct,bi⟩
def asK:List Addr:=[2,3,43,44,50,51,57,58,72,73,76,77,78,79,80,91,92,93,103,109,110,116,117,123,124,128,129,135,136,142,143,156,157,163,164,173,174,175,176,182,183,196,197,223,224,226,227,228,229,230,253,254,293,484,494,500,501,507,508,514,515,537,545,553,561,569,670,676,677,730,731,783,789,790,796,797,798,826,827,833,834,855,856,862,863,865,866,867,868,871,877,878,884,885,886,892,893,897,898,902,903,909,910,914,915,921,922,926,927,933,934]
def cf(st:Stmt)(nm qn:String)(a t l n k f e:Nat)(b:Bool)(df md:Value):Frag:=
 let q i:Value:=cond b (.ref i) .none
 [(a,⟨.type "code",none,.fields [S nm t,S qn<|t+1,S "/claim/cut.py"<|t+2,.int l 0,.int n 0,.int k 0,.int 0 0,.int f 0,.ref<|cond b (a-5)<|a-3,.bool true,.int 318 0,.ref<|cond b (a-4)<|a-2,.none,q<|a-3,q<|a-2,.ref<|a-1,.int e 0,.int l 0,S "/claim/cut.py"<|e+1].toArray,#[]⟩),
  (a+1,⟨.type "function",none,F st nm qn 3 [] df .none .none md none (.ref a) .none 0,#[]⟩)]
def qE(P:Params):Frag:=List.flatten [
 [(2,⟨.none,none,D P [("impor\x74.loaded._sre",183,.bool true),("class._frozen_impor\x74lib.BuiltinImporter",185,.ref 14),("watched.impor\x74",206,.ref 18),("class._frozen_impor\x74lib.ModuleSpec",216,.ref 22),("sys.modules.booked-epoch",245,.int 4 0),("impor\x74.later-laid._sre",270,.bool true),("watched.library",272,.ref 27),("watched.library-objects",0,S "\x0c\x1e" 0),("watched.library-deep._sre",273,S "\x04\x00\x00\x0b\x04\x00\x00\x0b\x04\x00\x00\x03\x04\x00\x00\x0b\x08\x04dict\x02" 0),("impor\x74.loaded._collections",280,.bool true),("sys.modules.landed._collections",294,.bool true),("impor\x74.later-laid._collections",309,.bool true),("watched.library-deep._collections",311,S "\x04\x00\x00\x1d\x04\x00\x00\x1d\x04\x00\x00\x03\x04\x00\x00\x1d\x08\x04dict\x02" 0),("type.__subclasses__.OSError.0",613,.int 207 0),("type.__subclasses__.OSError.n",614,.int 1 0)] 15,#[]⟩),
  (3,⟨.type "dict",none,D P [("__name__",165,S "law_ny0438_01" 1461),("__doc__",166,.none),("__package__",167,.none),("__loader__",168,.builtin "__main__.__loader__#opaque"),("__spec__",169,.none),("__annotations__",170,.ref 6),("__builtins__",171,.ref 4),("__file__",173,S "/claim/cut.py" 172),("__cached__",174,.none),("_sre",275,.ref 12),("deque",317,.type "collections.deque"),("_wall",330,.ref 44),("_iter_escaped_chars",342,.ref 51),("_strip_quoted_realnames",354,.ref 58),("_NODE_OUT",359,.int (-(0)-1) 358),("_NODE_DONE",362,.int (-(1)-1) 361),("_NodeInfo",399,.ref 77),("CycleError",417,.ref 92),("TopologicalSorter",536,.ref 174),("_twin_re_1",576,.ref 183),("_whence",586,.ref 190),("_index",594,.ref 197),("UnsupportedOperation",616,.ref 207),("IOBase",648,.ref 227),("BufferedIOBase",666,.ref 242),("TextIOBase",684,.ref 254),("BytesIO",946,.ref 484),("StringIO",1233,.ref 731),("_kind",1244,.ref 740),("_fspath",1253,.ref 747),("_check_arg_types",1263,.ref 754),("isabs",1270,.ref 761),("join",1281,.ref 885),("join_path",1282,.ref 768),("dirname",1292,.ref 775),("shlex",1433,.ref 866),("split",1443,.ref 878),("join_shlex",1451,.ref 885),("_find_unsafe",1453,.ref 886),("quote",1460,.ref 893),("_law_rows",1468,.ref 898),("_law_line",1474,.ref 903),("_law_shorn",1482,.ref 910),("_law_words",1488,.ref 915),("_law_read",1495,.ref 922),("_law_rounds",1501,.ref 927),("law",1520,.ref 934)] 47,#[]⟩)],
 cf (zW 2) "_wall" "_wall" 43 324 3 1 0 3 328 true .none (S "__main__" 164),
 cf (zW 4) "_iter_escaped_chars" "_iter_escaped_chars" 50 333 7 1 0 35 340 true .none (S "cpy313.email.utils" 331),
 cf (zW 5) "_strip_quoted_realnames" "_strip_quoted_realnames" 57 343 20 1 0 3 352 true .none (S "cpy313.email.utils" 331),
 cf (qB 9 1) "__init__" "_NodeInfo.__init__" 72 379 44 2 0 3 384 true .none (S "cpy313.graphlib" 355),
 [(76,⟨.type "dict",none,D P [("__module__",370,S "cpy313.graphlib" 355),("__firstlineno__",374,.int 41 373),("__slots__",378,.ref 66),("__init__",386,.ref 73),("__static_attributes__",390,.ref 74),("node",392,.ref 78),("npredecessors",394,.ref 79),("successors",396,.ref 80),("__doc__",397,.none)] 5,#[]⟩),
  (77,⟨.type "type",none,.cls ⟨"_NodeInfo",[.type "object"],[.ref 77,.type "object"],76,"_NodeInfo",false,["node","npredecessors","successors"],[],false,none,false⟩,[none,none,some<|S "_NodeInfo" 363,some<|S "_NodeInfo" 371,some<|.builtin "object.__new__",some<|.bool false].toArray⟩),
   (78,⟨.type "member_descriptor",none,.fields [S "node" 391,.ref 77,.builtin "proto.slot",.builtin "proto.slot#set",.int 2 0].toArray,#[]⟩),
   (79,⟨.type "member_descriptor",none,.fields [S "npredecessors" 393,.ref 77,.builtin "proto.slot",.builtin "proto.slot#set",.int 1 0].toArray,#[]⟩),
   (80,⟨.type "member_descriptor",none,.fields [S "successors" 395,.ref 77,.builtin "proto.slot",.builtin "proto.slot#set",.int 0 0].toArray,#[]⟩),
   (91,⟨.type "dict",none,D P [("__module__",407,S "cpy313.graphlib" 355),("__firstlineno__",411,.int 48 410),("__static_attributes__",412,.ref 90),("__weakref__",414,.ref 93),("__doc__",415,.none)] 3,#[]⟩),
   (92,⟨.type "type",none,.cls ⟨"CycleError",[.type "ValueError"],[.ref 92,.type "ValueError",.type "Exception",.type "BaseException",.type "object"],91,"CycleError",true,[],[],false,none,false⟩,[some<|.ref 83,none,some<|S "CycleError" 400,some<|S "CycleError" 408,some<|.builtin "ValueError.__new__",some<|.bool true].toArray⟩),
   (93,⟨.type "getset_descriptor",none,.fields [S "__weakref__" 413,.ref 92,.builtin "ExceptionGroup.__weakref__",.none].toArray,#[]⟩),
   (103,⟨.type "tuple",none,.seq [.none].toArray 0,#[]⟩)],
 cf (qB 11 0) "__init__" "TopologicalSorter.__init__" 109 430 52 2 0 3 437 true (.ref 103) (S "cpy313.graphlib" 355),
 cf (qB 11 1) "_get_nodeinfo" "TopologicalSorter._get_nodeinfo" 116 440 61 2 0 3 446 true .none (S "cpy313.graphlib" 355),
 cf (qB 11 2) "add" "TopologicalSorter.add" 123 449 66 2 0 7 458 true .none (S "cpy313.graphlib" 355),
 cf (qB 11 3) "prepare" "TopologicalSorter.prepare" 128 461 75 1 0 3 464 false .none (S "cpy313.graphlib" 355),
 cf (qB 11 4) "get_ready" "TopologicalSorter.get_ready" 135 467 83 1 0 3 474 true .none (S "cpy313.graphlib" 355),
 cf (qB 11 5) "is_active" "TopologicalSorter.is_active" 142 477 94 1 0 3 481 true .none (S "cpy313.graphlib" 355),
 cf (qB 11 7) "done" "TopologicalSorter.done" 156 491 102 1 0 7 502 true .none (S "cpy313.graphlib" 355),
 cf (qB 11 8) "_find_cycle" "TopologicalSorter._find_cycle" 163 505 125 1 0 3 515 true .none (S "cpy313.graphlib" 355),
 [(173,⟨.type "dict",none,D P [("__module__",425,S "cpy313.graphlib" 355),("__firstlineno__",429,.int 50 428),("__init__",439,.ref 110),("_get_nodeinfo",448,.ref 117),("add",460,.ref 124),("prepare",466,.ref 129),("get_ready",476,.ref 136),("is_active",483,.ref 143),("__bool__",490,.ref 150),("done",504,.ref 157),("_find_cycle",517,.ref 164),("static_order",524,.ref 171),("__static_attributes__",529,.ref 172),("__dict__",531,.ref 175),("__weakref__",533,.ref 176),("__doc__",534,.none)] 4,#[]⟩),
  (174,⟨.type "type",none,.cls ⟨"TopologicalSorter",[.type "object"],[.ref 174,.type "object"],173,"TopologicalSorter",true,[],[],false,none,false⟩,[none,none,some<|S "TopologicalSorter" 418,some<|S "TopologicalSorter" 426,some<|.builtin "object.__new__",some<|.bool true].toArray⟩),
   (175,⟨.type "getset_descriptor",none,.fields [S "__dict__" 530,.ref 174,.builtin "function.__dict__",.builtin "function.__dict__#set"].toArray,#[]⟩),
   (176,⟨.type "getset_descriptor",none,.fields [S "__weakref__" 532,.ref 174,.builtin "ExceptionGroup.__weakref__",.none].toArray,#[]⟩),
   (182,⟨.type "tuple",none,.seq [.int 14 0,.int 17 0,.int 4 0,.int 1 0,.int 1 0,.int 21 0,.int 9 0,.int 0 0,.int 604043296 0,.int 1 0,.int 0 0,.int 0 0,.int 0 0,.int 0 0,.int 0 0,.int 8 0,.int 4 0,.int 0 0,.int 13 0,.int 14 0,.int 21 0,.int 9 0,.int 0 0,.int 604043296 0,.int 1 0,.int 0 0,.int 0 0,.int 0 0,.int 0 0,.int 0 0,.int 8 0,.int 4 0,.int 0 0,.int 1 0].toArray 0,#[]⟩),
   (183,⟨.type "re.Pattern",none,.fields [S "[^\\w@%+=:,./-]" 538,.int 256 575,.int 0 0,.none,.none,.ref 182,.int 0 0].toArray,#[]⟩)],
 cf (zW 15) "_index" "_index" 196 587 163 2 0 3 592 true .none (S "io" 577),
 cf (qB 17 1) "__new__" "IOBase.__new__" 223 631 175 1 1 15 637 true .none (S "io" 577),
 [(226,⟨.type "dict",none,D P [("__module__",624,S "io" 629),("__firstlineno__",628,.int 172 627),("__new__",639,.ref 228),("__static_attributes__",640,.ref 225),("__dict__",643,.ref 229),("__weakref__",645,.ref 230),("__doc__",646,.none)] 4,#[]⟩),
  (227,⟨.type "type",none,.cls ⟨"IOBase",[.type "object"],[.ref 227,.type "object"],226,"IOBase",true,[],[.ref 242,.ref 254],false,none,false⟩,[none,none,some<|S "IOBase" 617,some<|S "IOBase" 625,some .none,some<|.bool true].toArray⟩),
   (228,⟨.type "staticmethod",none,.fields [.ref 224].toArray,#[]⟩),
   (229,⟨.type "getset_descriptor",none,.fields [S "__dict__" 642,.ref 227,.builtin "function.__dict__",.builtin "function.__dict__#set"].toArray,#[]⟩),
   (230,⟨.type "getset_descriptor",none,.fields [S "__weakref__" 644,.ref 227,.builtin "ExceptionGroup.__weakref__",.none].toArray,#[]⟩),
   (253,⟨.type "dict",none,D P [("__module__",674,S "io" 679),("__firstlineno__",678,.int 181 677),("__static_attributes__",681,.ref 252),("__doc__",682,.none)] 2,#[]⟩),
   (254,⟨.type "type",none,.cls ⟨"TextIOBase",[.ref 227],[.ref 254,.ref 227,.type "object"],253,"TextIOBase",true,[],[.ref 731],false,none,false⟩,[some<|.ref 245,none,some<|S "TextIOBase" 667,some<|S "TextIOBase" 675,some .none,some<|.bool true].toArray⟩),
   (293,⟨.type "property",none,.fields [.ref 292,.none,.none,.none,S "closed" 732,.bool false].toArray,#[]⟩),
   (484,⟨.type "type",none,.cls ⟨"BytesIO",[.ref 242],[.ref 484,.ref 242,.ref 227,.type "object"],483,"BytesIO",true,[],[],false,none,false⟩,[some<|.ref 257,none,some<|S "BytesIO" 685,some<|S "BytesIO" 693,some .none,some<|.bool true].toArray⟩),
   (494,⟨.type "tuple",none,.seq [S "" 961,S "\n" 962].toArray 0,#[]⟩)],
 cf (qB 21 1) "__init__" "StringIO.__init__" 500 963 356 3 0 3 969 true (.ref 494) (S "io" 577),
 cf (qB 21 2) "__translated" "StringIO.__translated" 507 972 369 2 0 3 978 true .none (S "io" 577),
 cf (qB 21 3) "__check" "StringIO.__check" 514 981 377 1 0 3 985 true .none (S "io" 577),
 [(537,⟨.type "property",none,.fields [.ref 536,.none,.none,.none,S "closed" 1017,.bool false].toArray,#[]⟩),
  (545,⟨.type "property",none,.fields [.ref 544,.none,.none,.none,S "line_buffering" 1025,.bool false].toArray,#[]⟩),
   (553,⟨.type "property",none,.fields [.ref 552,.none,.none,.none,S "newlines" 1033,.bool false].toArray,#[]⟩),
   (561,⟨.type "property",none,.fields [.ref 560,.none,.none,.none,S "encoding" 1041,.bool false].toArray,#[]⟩),
   (569,⟨.type "property",none,.fields [.ref 568,.none,.none,.none,S "errors" 1049,.bool false].toArray,#[]⟩),
   (670,⟨.type "tuple",none,.seq [.int (-(0)-1) 1154].toArray 0,#[]⟩)],
 cf (qB 21 25) "read" "StringIO.read" 676 1155 499 2 2 3 1162 true (.ref 670) (S "io" 577),
 [(730,⟨.type "dict",none,D P [("__module__",954,S "_io" 959),("__firstlineno__",958,.int 353 957),("__init__",971,.ref 501),("_StringIO__translated",980,.ref 508),("_StringIO__check",987,.ref 515),("_StringIO__check_dot",994,.ref 522),("_StringIO__line",1009,.ref 529),("closed",1017,.ref 537),("line_buffering",1025,.ref 545),("newlines",1033,.ref 553),("encoding",1041,.ref 561),("errors",1049,.ref 569),("close",1056,.ref 576),("__enter__",1063,.ref 583),("__exit__",1071,.ref 590),("readable",1078,.ref 597),("writable",1085,.ref 604),("seekable",1092,.ref 611),("isatty",1099,.ref 618),("flush",1106,.ref 625),("fileno",1113,.ref 632),("detach",1120,.ref 639),("getvalue",1127,.ref 646),("tell",1134,.ref 653),("seek",1144,.ref 661),("truncate",1152,.ref 669),("read",1164,.ref 677),("readline",1174,.ref 685),("readlines",1184,.ref 693),("__iter__",1191,.ref 700),("__next__",1199,.ref 707),("write",1211,.ref 714),("writelines",1219,.ref 721),("__repr__",1226,.ref 728),("__static_attributes__",1230,.ref 729),("__doc__",1231,.none)] 2,#[]⟩),
  (731,⟨.type "type",none,.cls ⟨"StringIO",[.ref 254],[.ref 731,.ref 254,.ref 227,.type "object"],730,"StringIO",true,[],[],false,none,false⟩,[some<|.ref 487,none,some<|S "StringIO" 947,some<|S "StringIO" 955,some .none,some<|.bool true].toArray⟩),
   (783,⟨.type "tuple",none,.seq [.none,.none,.bool false,.bool false].toArray 0,#[]⟩)],
 cf (qB 31 0) "__init__" "shlex.__init__" 789 1307 625 5 0 3 1316 true (.ref 783) (S "cpy313.shlex" 1293),
 cf (qB 31 1) "punctuation_chars" "shlex.punctuation_chars" 796 1319 666 1 0 3 1323 true .none (S "cpy313.shlex" 1293),
 [(798,⟨.type "property",none,.fields [.ref 797,.none,.none,.none,S "punctuation_chars" 1326,.bool false].toArray,#[]⟩)],
 cf (qB 31 5) "get_token" "shlex.get_token" 826 1351 693 1 0 3 1360 true .none (S "cpy313.shlex" 1293),
 cf (qB 31 6) "read_token" "shlex.read_token" 833 1363 720 1 0 3 1371 true .none (S "cpy313.shlex" 1293),
 cf (qB 31 9) "__iter__" "shlex.__iter__" 855 1391 867 1 0 3 1395 true .none (S "cpy313.shlex" 1293),
 cf (qB 31 10) "__next__" "shlex.__next__" 862 1398 870 1 0 3 1403 true .none (S "cpy313.shlex" 1293),
 [(865,⟨.type "dict",none,D P [("__module__",1302,S "cpy313.shlex" 1293),("__firstlineno__",1306,.int 623 1305),("__init__",1318,.ref 790),("punctuation_chars",1326,.ref 798),("push_token",1334,.ref 805),("push_source",1343,.ref 813),("pop_source",1350,.ref 820),("get_token",1362,.ref 827),("read_token",1373,.ref 834),("sourcehook",1381,.ref 841),("error_leader",1390,.ref 849),("__iter__",1397,.ref 856),("__next__",1405,.ref 863),("__static_attributes__",1426,.ref 864),("__dict__",1428,.ref 867),("__weakref__",1430,.ref 868),("__doc__",1431,.none)] 4,#[]⟩),
  (866,⟨.type "type",none,.cls ⟨"shlex",[.type "object"],[.ref 866,.type "object"],865,"shlex",true,[],[],false,none,false⟩,[none,none,some<|S "shlex" 1295,some<|S "shlex" 1303,some<|.builtin "object.__new__",some<|.bool true].toArray⟩),
   (867,⟨.type "getset_descriptor",none,.fields [S "__dict__" 1427,.ref 866,.builtin "function.__dict__",.builtin "function.__dict__#set"].toArray,#[]⟩),
   (868,⟨.type "getset_descriptor",none,.fields [S "__weakref__" 1429,.ref 866,.builtin "ExceptionGroup.__weakref__",.none].toArray,#[]⟩),
   (871,⟨.type "tuple",none,.seq [.bool false,.bool true].toArray 0,#[]⟩)],
 cf (zW 32) "split" "split" 877 1434 875 3 0 3 1441 true (.ref 871) (S "cpy313.shlex" 1293),
 cf (zW 33) "join" "join" 884 1444 883 1 0 3 1448 true .none (S "cpy313.shlex" 1293),
 [(886,⟨.type "builtin_function_or_method",none,.fields [.builtin "re.Pattern.search",.ref 183].toArray,#[]⟩)],
 cf (zW 36) "quote" "quote" 892 1454 887 1 0 3 1458 true .none (S "cpy313.shlex" 1293),
 cf (zW 38) "_law_rows" "_law_rows" 897 1463 894 1 0 3 1466 false .none (S "law_ny0438_01" 1461),
 cf (zW 39) "_law_line" "_law_line" 902 1469 898 1 0 3 1472 false .none (S "law_ny0438_01" 1461),
 cf (zW 40) "_law_shorn" "_law_shorn" 909 1475 907 1 0 3 1480 true .none (S "law_ny0438_01" 1461),
 cf (zW 41) "_law_words" "_law_words" 914 1483 912 1 0 3 1486 false .none (S "law_ny0438_01" 1461),
 cf (zW 42) "_law_read" "_law_read" 921 1489 921 1 0 3 1493 true .none (S "law_ny0438_01" 1461),
 cf (zW 43) "_law_rounds" "_law_rounds" 926 1496 926 1 0 3 1499 false .none (S "law_ny0438_01" 1461),
 cf (zW 44) "law" "law" 933 1502 947 1 0 3 1518 true .none (S "law_ny0438_01" 1461)]
def ZN:List Nat:=[0,1,2,4,5,7,8,9,10,11,12,14,15,16,17,18,19,20,21,23,24,25,26,28,29,31,33,34,35,36,38,39,40,41,42,43,44]
def vw:Program:=view PG ZN
def loose:List Str:=["_NodeInfo","_twin_re_1","UnsupportedOperation","IOBase","BufferedIOBase","TextIOBase","BytesIO","StringIO","join_path","shlex","split","join_shlex","_find_unsafe"]
theorem LL(P:Params):asK=(qE P).map (·.1):=by rfl'
abbrev rc:=PySem.Challenge.rw_ny0438_01.row.toRowW
theorem whole:∀w:World,T9 step (denote treeTable) stepOk fenceModules? 12600 PG w (λo6 oK VL=>(o6.heap.isNs mainGlobals&&o6.gens.size==0&&(staticsOk (importedModules PG.main.body) o6.heap oK.heap&&namesBound PG oK.heap&&gensDone oK&&laidKept o6.heap oK.heap),
 openSeen vw loose (importedModules PG.main.body) (λs=>xlAt vw [] s&&recOk (RowW.records rc) s) true oK,asK.map VL))=some (true,openGood vw loose,(qE w.params).map λp=>some p.2):=by
 rw[PySem.W.Fast.te8437177126325714943,PySem.W.Fast.te11892475500146522536,PySem.W.Fast.te14364793385576792824,PySem.W.Fast.te6613529449190102663,PySem.W.Fast.te4187177175401517315,PySem.W.Fast.te5923862056798008813];exact λw=>by rfl'
def aaZ:Stmt->Pos
 |.FunctionDef _ _ _ _ _ _ _ _ _ p=>p
 |_=>⟨0,0,0,0⟩
def Qu:DefRec:={name:= "law",params:=fnP<|zW 44,body:=fnB<|zW 44,scope:=fnS<|zW 44,pos:=aaZ (zW 44)}
abbrev Ce:OpenRow:=PySem.Challenge.rw_ny0438_01.row
theorem aaQ:LeftO Ce.prog vw loose (λs=>xlAt vw [] s&&recOk (RowW.records rc) s) (λs=>asK.map s.heap.get?) (λw=>(qE w.params).map λp=>some p.2) 12600:=GC (Yf:=asK.map) whole
theorem h1:defOf vw Ce.name=some (Qu,[]):=by rfl'
theorem h2:Ce.prog.theDef Ce.name=some (Qu.params,Qu.body,Qu.scope):=by rfl'
theorem h3k:kwWritten? Qu.params.kwonlyargs Qu.params.kw_defaults=some []:=by rfl'
theorem h4:(!Ce.writes||Ce.records.isEmpty)=true:=by rfl'
theorem h5a:chainsOk vw=true:=by rfl'
theorem h5c:(frees Ce.toRowW&&Ce.within.isEmpty)=true:=by rfl'
theorem h6:Ce.prog.bare:=⟨rfl,rfl,rfl,rfl,rfl,by decide+kernel⟩
theorem h7:Ce.toRowW.promised:=⟨[.list []],by decide+kernel,by decide+kernel⟩
theorem h5b:opensWell Ce.prog=true:=by rfl'
theorem aae(VM:Ce.wellSaid=true)(call:WalkO vw loose (XL vw []) (InK qE) rc Qu [] λf vs=>PySem.call f vs):Ce.Holds:=
 PySem.W.holds_open (r:=Ce) (q:=vw) (loose:=loose) (Xt:=λs=>xlAt vw [] s&&recOk (RowW.records rc) s) (XP:=XL vw []) (Yf:=λs=>asK.map s.heap.get?) (Ya:=λw=>(qE w.params).map λp=>some p.2) (YP:=InK qE) (N:=12600)
  aaQ (InK.of LL) InK.keeps (λs e=>xl_of s (i5.mp e).1) XL.keeps h1 h2 h3k (λs e=>recFacts_of (i5.mp e).2) h4 VM (by rw[h5a,h5b,h5c];rfl)
  h6 h7 call
theorem w2:namesResolve PySem.Challenge.rw_ny0438_01.row.prog=true:=by rfl'
theorem w4:noRoadLSs {strict:=!(importedModules PySem.Challenge.rw_ny0438_01.row.prog.main.body).all cThrough.contains,foot:=none,bare:=(["vars","dir","locals"]:List Str).filter (readsOut PySem.Challenge.rw_ny0438_01.row.prog PySem.Challenge.rw_ny0438_01.row.prog.main.body)} PySem.Challenge.rw_ny0438_01.row.prog.main.body=true:=by rfl'
theorem w5:(namesMeet PySem.Challenge.rw_ny0438_01.row.prog PySem.Challenge.rw_ny0438_01.row.prog.main.body λU n=>attrL n)=true:=by rfl'
theorem w37:(namesMeet PySem.Challenge.rw_ny0438_01.prog PySem.Challenge.rw_ny0438_01.above λU n=>!PySem.Challenge.rw_ny0438_01.own.contains n)=true:=by rfl'
theorem VM:PySem.Challenge.rw_ny0438_01.wellSaid=true:=by
 unfold OpenLaw.wellSaid OpenRow.wellSaid OpenRow.partSaid looksOpen;repeat' (with_reducible refine look_both ?_ ?_)
 all_goals first|with_reducible exact w2|with_reducible exact w4|with_reducible exact w5|with_reducible exact w37|rfl'
theorem head(call:WalkO vw loose (XL vw []) (InK qE) rc Qu [] λf vs=>PySem.call f vs):PySem.Challenge.rw_ny0438_01.Holds:=
 holds_law VM λs=>aae s call
section
variable{k n fu i j:Nat}{ρ oO:List Addr}{s s':Shared}{h h' ajU:Heap}{w:World}{env:Env}
def s9{α:Type}(o:Nat->Nat->Bool):KasT α->α
 |.ret a=>a
 |.ask i j k=>s9 o<|k<|o i j
theorem wX{α β:Type}{f:α->KasT β}(t):s9 o (t.bind f)=s9 o (f<|s9 o t):=by
 induction t with
 |ret _=>rfl
 |ask i j k ih=>exact ih _
structure eg(n:Nat)(o:Nat->Nat->Bool):Prop where
 tr:∀a b c,o a b=true->o b c=true->o a c=true
 ir:∀a,o a a=false
 x6:∀a b,a<n->b<n->a≠b->o a b=true\/o b a=true
def Pm(n:Nat)(p:Array Nat):Prop:=p.toList.Perm<|List.range n
def r7(p:Array Nat)(i:Nat):Nat:=p.getD i 0
def L5(o:Nat->Nat->Bool)(p:Array Nat)(k:Nat):Prop:=∀i j,i<j->j<k->o (r7 p i) (r7 p j)=true
def qh(o:Nat->Nat->Bool)(p:Array Nat)(k:Nat):Prop:=∀i j,i<j->j<k->o (r7 p j) (r7 p i)=true
theorem Pm.size(h:Pm n p):p.size=n:=by have:=h.length_eq;rwa[eS,cG]at this
theorem X8(h:i<p.size):r7 p i=p.toList[i]'(by simp only[eS];exact h):=by unfold r7;simp[h]
theorem Pm.lt(h:Pm n p)(hi:i<n):r7 p i<n:=by rw[X8 (by rw[h.size];exact hi)];exact cJ.mp<|h.mem_iff.mp<|gM _
theorem Pm.ne(h:Pm n p)(hi:i<n)(hj:j<n)(sJ:i≠j):r7 p i≠r7 p j:=by
 rw[X8 (by simp[h.size];exact hi),X8 (by simp[h.size];exact hj)];have hn:=h.nodup_iff.mpr List.nodup_range;intro e;rcases l8 sJ with q|q
 .exact dC.mp hn i j _ _ q e
 .exact dC.mp hn j i _ _ q e.symm
theorem Pm.x6(h:Pm n p)(O:eg n o)(hi:i<n)(hj:j<n)(sJ:i≠j)(hf:o (r7 p i) (r7 p j)=false):o (r7 p j) (r7 p i)=true:=by
 rcases O.x6 _ _ (h.lt hi) (h.lt hj) (h.ne hi hj sJ)with q|q
 .replace q:=hf▸q;rcases q with _|_
 .exact q
theorem L5.one:L5 o p 1:=λi j h1 h2=>by simp_all
theorem qh.one:qh o p 1:=λi j h1 h2=>by simp_all
theorem L5.grow(O:eg n o)(h:L5 o p<|k+1)(h1:o (r7 p k) (r7 p<|k+1)=true):L5 o p<|k+2:=λi j Nf hj=>by
 by_cases e:j=k+1
 .subst e;by_cases e2:i=k
  .obtain rfl:=e2.symm;exact h1
  .exact O.tr _ _ _ (h i k (by lia)<|aI _) h1
 .exact h i j Nf (by lia)
theorem qh.grow(O:eg n o)(h:qh o p<|k+1)(h1:o (r7 p<|k+1) (r7 p k)=true):qh o p<|k+2:=λi j Nf hj=>by
 by_cases e:j=k+1
 .subst e;by_cases e2:i=k
  .obtain rfl:=e2.symm;exact h1
  .exact O.tr _ _ _ h1 (h i k (by lia)<|aI _)
 .exact h i j Nf (by lia)
theorem N7(O:eg n o)(P:Pm n p):∀f m,1<=m->m+f<=n->L5 o p m->(let r:=s9 o<|kas_asc p f m;m<=r/\r<=m+f/\L5 o p r/\(r<m+f->o (r7 p r) (r7 p<|r-1)=true)):=by
 exists zr;induction zr with
 |zero=> intro m h1 hn hs;exact⟨aI _,aI _,hs,λh=>absurd h<|dJ m⟩
 |succ f pD=>
  intro m h1 hn hs;show(let r:=s9 o<|if o (r7 p m) (r7 p<|m-1)=true then KasT.ret m else kas_asc p f<|m+1;m<=r/\r<=m+(f+1)/\L5 o p r/\(r<m+(f+1)->o (r7 p r) (r7 p<|r-1)=true));by_cases hc:o (r7 p m) (r7 p<|m-1)=true
  .rw[aH hc];exact⟨aI _,by exact aT _ _,hs,λU=>hc⟩
  .rw[aL hc];obtain⟨m',rfl⟩:∃m',m=m'+1:=⟨m-1,(eZ h1).mp rfl⟩;have q8:=pD (m'+1+1) (c6 _) (lk hn)<|hs.grow O<|P.x6 O (bP hn) (lk hn) (by simp) (by simpa using hc);exact⟨by omega,by omega,q8.2.2.1,λh=>q8.2.2.2<|by omega⟩
theorem bu(O:eg n o)(P:Pm n p):∀f m,1<=m->m+f<=n->qh o p m->∃r,s9 o (kas_desc f p m 0)=(p,r,0)/\m<=r/\r<=m+f/\qh o p r:=by
 intro zr;induction zr with
 |zero=> intro m h1 hn hs;exact⟨m,rfl,aI _,aI _,hs⟩
 |succ f pD=>
  intro m h1 hn hs;obtain⟨m',rfl⟩:∃m',m=m'+1:=⟨m-1,(eZ h1).mp rfl⟩;by_cases hc:o (r7 p<|m'+1) (r7 p m')=true
  .obtain⟨r,e,q8⟩:=pD (m'+1+1) (c6 _) (lk hn)<|hs.grow O hc;refine⟨r,?_,(lk q8.1),(lk q8.2.1),q8.2.2⟩;rw[<-e];show s9 o (if o (r7 p<|m'+1) (r7 p m')=true then _ else _)=_;rw[aH hc];rfl
  .have ht:=P.x6 O (j:=m') (bP hn) (lk hn) (by simp) (by simpa using hc);refine⟨m'+1,?_,aI _,by exact aT _ _,hs⟩;show s9 o (if o (r7 p<|m'+1) (r7 p m')=true then _ else _)=_;rw[aL hc];show s9 o (if o (r7 p m') (r7 p<|m'+1)=true then _ else _)=_;rw[aH ht];rfl
theorem Ay(P:Pm n p)(i j):Pm n<|kas_rev p i j:=(jN.mp<|mirror_perm p i j _).trans P
theorem ul(P:Pm n p)(hj:j<=n)(hk:k<j):r7 (kas_rev p 0 j) k=r7 p (j-1-k):=by have:=getElem?_mirror_all (i:=0) (by rw[P.size];exact hj) k;rw[aH ⟨cV _,hk⟩,dF]at this;delta r7 kas_rev;simp only[fZ,this]
theorem qh.rev(P:Pm n p)(hj:j<=n)(h:qh o p j):L5 o (kas_rev p 0 j) j:=λa b Jb hb=>by rw[ul P hj<|cK ‹_› ‹_›,ul P hj hb];exact h _ _ (by omega) (lk<|aC (aN<|aY ((lk hb):1<=j))<|kL (j-1)<|a)
theorem ca(O:eg n o)(P:Pm n p)(h1:1<=m)(hm:m<=n)(hs:qh o p m):(let r:=s9 o<|kas_tail3 m n p;Pm n r.2/\1<=r.1/\r.1<=n/\L5 o r.2 r.1):=by exists n,o,p,m,[O,P,h1,hm,hs];unfold kas_tail3;rw[wX];obtain⟨a,b,q8⟩:=N7 O (Ay P 0 m) (n-m) m h1 (lk<|aN<|aY ((lk hm):m<=n))<|hs.rev P hm;exact⟨Ay P 0 m,by exact bC ‹_› ‹_›,by show s9 o _<=n;exact lk<|aC (aN<|aY ((lk hm):m<=n)) b,q8.1⟩
theorem I4(O:eg n o)(P:Pm n p)(h2:2<=n)(hs:o (r7 p 1) (r7 p 0)=true):(let r:=s9 o<|kas_descPart 1 n p;Pm n r.2/\1<=r.1/\r.1<=n/\L5 o r.2 r.1):=by exists n,o,p,[O,P,h2,hs];unfold kas_descPart;rw[wX];obtain⟨r,e,a,q8⟩:=bu O P (n-(1+1)) (1+1) (c6 _) (lk<|aN<|aY ((lk h2):1+1<=n))<|qh.one.grow O hs;exact e▸(ca O P (bS ‹_›) (lk<|aC (aN<|aY ((lk h2):1+1<=n)) q8.1) q8.2)
theorem Sj(O:eg n o)(P:Pm n p)(h2:2<=n):(let r:=s9 o<|kas_count n p;Pm n r.2/\1<=r.1/\r.1<=n/\L5 o r.2 r.1):=by
 exists n,o,p,[O,P,h2];unfold kas_count;rw[wX];obtain⟨a,b,c,d⟩:=N7 O P (n-1) 1 (aI _) (by omega) L5.one;generalize s9 o (kas_asc p (n-1) 1)=m at a b c d;by_cases e1:(m==n)=true
 .rw[aH e1];exact⟨P,a,by show m<=n;exact lk<|aC (aN<|aY ((lk h2):1<=n)) b,c⟩
 .rw[aL e1];by_cases e2:m>1
  .rw[aH e2];show(let r:Nat×Array Nat:=s9 o<|if o (r7 p 0) (r7 p<|m-1)=true then _ else _;Pm n r.2/\1<=r.1/\r.1<=n/\L5 o r.2 r.1);rw[aH<|c 0 (m-1) (Nat.zero_lt_sub_of_lt e2)<|Nat.sub_one_lt_of_lt a];exact⟨P,a,by show m<=n;exact lk<|aC (aN<|aY ((lk h2):1<=n)) b,c⟩
  .rw[aL e2];obtain rfl:m=1:=by lia
   exact I4 O P h2<|d (lk<|aC (aN (aY ((lk h2):1<=n)).symm) h2)
theorem Sp(O:eg n o)(P:Pm n p){k:Nat}(hk:k<n)(hs:L5 o p k):∀f l r,r-l<=f->l<=r->r<=k->(∀i,i<l->o (r7 p i) (r7 p k)=true)->(∀i,r<=i->i<k->o (r7 p k) (r7 p i)=true)->
 (let m:=s9 o<|kas_place p k f l r;m<=k/\(∀i,i<m->o (r7 p i) (r7 p k)=true)/\∀i,m<=i->i<k->o (r7 p k) (r7 p i)=true):=by
 exists n,o,p,k,[O,P,hk,hs];intro zr;induction zr with
 |zero=>
  intro l r hf hlr hrk h1 h2;obtain rfl:l=r:=by grind
  exact⟨hrk,h1,h2⟩
 |succ f pD=>
  intro l r hf hlr hrk h1 h2;show(let m:=s9 o<|if l >=r then KasT.ret l else .ask (r7 p k) (r7 p<|(l+r)/2) λc=>if c=true then kas_place p k f l ((l+r)/2)else kas_place p k f ((l+r)/2+1) r;m<=k/\(∀i,i<m->o (r7 p i) (r7 p k)=true)/\∀i,m<=i->i<k->o (r7 p k) (r7 p i)=true);by_cases GY:l >=r
  .rw[aH GY];obtain rfl:l=r:=cM hlr GY;exact⟨hrk,h1,h2⟩
  .rw[aL GY];show(let m:=s9 o<|if o (r7 p k) (r7 p<|(l+r)/2)=true then kas_place p k f l ((l+r)/2)else kas_place p k f ((l+r)/2+1) r;m<=k/\(∀i,i<m->o (r7 p i) (r7 p k)=true)/\∀i,m<=i->i<k->o (r7 p k) (r7 p i)=true);by_cases hc:o (r7 p k) (r7 p<|(l+r)/2)=true
   .rw[aH hc];refine pD l _ (by omega) (by omega) (by omega) h1 λi hi hik=>?_;by_cases e:i=(l+r)/2
    .exact e▸hc
    .exact O.tr _ _ _ hc (hs _ _ (gY hi λa=>e<|id<|nK a) hik)
   .rw[aL hc];have ht:=P.x6 O (j:=(l+r)/2) hk (by lia) (by omega) (by simpa using hc);refine pD _ r (by omega) (by omega) hrk (λi hi=>?_) h2;by_cases e:i=(l+r)/2
    .exact e▸ht
    .exact O.tr _ _ _ (hs i _ (by lia)<|by lia) ht
theorem Ka(P:Pm n p)(k d):Pm n<|bubble p k d:=(jN.mp<|bubble_perm p k d).trans P
theorem aa(P:Pm n p)(hk:k<n)(hl:l<=k):r7 (bubble p k<|k-l) i=if i=l then r7 p k else if l<i/\i<=k then r7 p (i-1)else r7 p i:=by
 have:=getElem?_bubble (by rw[P.size];exact hk) (k-l) (by grind) i;rw[show k-(k-l)=l by exact Nat.sub_sub_self hl]at this;unfold r7;refine a6 fZ ?_;rw[this];repeat' split
 all_goals simp[fZ]
theorem ii(O:eg n o):∀f p k,Pm n p->k+f=n->L5 o p k->Pm n (s9 o<|kas_bin f p k)/\L5 o (s9 o<|kas_bin f p k) n:=by
 exists n,o,[O];exists zr;induction zr with
 |zero=>
  exists p,k;intro P hk hs;obtain rfl:k=n:=by omega
  exact⟨P,hs⟩
 |succ f pD=>
  exists f,[pD];exists p,k;intro P hk hs;show Pm n (s9 o<|(kas_place p k k 0 k).bind _)/\L5 o (s9 o<|(kas_place p k k 0 k).bind _) n;rw[wX];obtain⟨h1,h2,h3⟩:=Sp O P (by lia) hs k 0 k (aI _) (cV _) (aI _) (λi hi=>absurd hi (by simp)) λi h1 h2=>absurd h1<|Nat.not_le_of_lt h2;generalize s9 o (kas_place p k k 0 k)=l at h1 h2 h3;refine pD _ (k+1) (Ka P _ _) (cM (lk<|aN hk)<|lk<|aN hk.symm) ?_;exists i,j;intro Nf hj;simp[aa P (by lia) h1];by_cases a1:i=l
  .rw[aH a1,aL (cX<|lk<|aC (aN a1.symm) Nf),aH ⟨lt_of_eq_of_lt (id<|nK a1) Nf,iG ‹_›⟩];exact h3 _ (lk<|aC (aN (aY ((lk Nf):1<=j)).symm)<|aC (aN a1.symm) Nf) (lk<|aC (aN<|aY ((lk Nf):1<=j)) hj)
  .rw[aL a1];by_cases a2:l<i/\i<=k
   .rw[aH a2,aL (cX<|lk<|aC a2.1 Nf),aH ⟨(lk<|aC a2.1 Nf),iG ‹_›⟩];exact hs _ _ (lk<|aC (aN (aY ((lk Nf):1<=j)).symm)<|aC (aN<|aY ((lk a2.1):1<=i)) Nf)<|by omega
   .rw[aL a2];by_cases b1:j=l
    .rw[aH b1];exact h2 _<|mA Nf b1
    .rw[aL b1];by_cases b2:l<j/\j<=k
     .rw[aH b2];by_cases b3:i=j-1
      .lia
      .exact hs _ _ (by lia) (by omega)
     .rw[aL b2];exact hs _ _ Nf<|by lia
theorem ba(O:eg n o)(h2:2<=n):Pm n (s9 o<|kas_sort n)/\L5 o (s9 o<|kas_sort n) n:=by
 exists n,o,_;unfold kas_sort;rw[wX];obtain⟨a,b,c,d⟩:=Sj O (p:=List.toArray<|List.range n) (.refl _) h2;by_cases e:(s9 o<|kas_count n<|List.toArray<|List.range n).1<n
 .rw[aH e];exact ii O _ _ _ a (by simp_all) (by simp only[Nat.max_eq_left b];exact d)
 .rw[aL e];have:(s9 o<|kas_count n<|List.toArray<|List.range n).1=n:=(cM (lk c)<|lk<|dU e);simp only[this]at d;exact⟨a,d⟩
end
section
variable{k n fu i j:Nat}{ρ oO:List Addr}{s s':Shared}{h h' ajU:Heap}{w:World}{env:Env}
def q6(h:Heap)(a:Addr)(x y:Int):Prop:=∃t u n,h.get? a=some ⟨.type "tuple",none,.seq #[.int x t,.int y u] n,#[]⟩
theorem q6.ty(h:q6 s.heap a x y):s.TypeIs (.ref a) "tuple" :=by exists t,u,n,(ho:h);exact⟨_,ho,rfl⟩
structure TO{α:Type}(l:α->α->Bool):Prop where
 tr:∀{a b c},l a b=true->l b c=true->l a c=true
 ir:∀a,l a a=false
 x6:∀{a b},a≠b->l a b=true\/l b a=true
def MK{α β:Type}[BEq α](l:α->α->Bool)(g:β->β->Bool)(a b:α×β):Bool:=if a.1==b.1 then g a.2 b.2 else l a.1 b.1
theorem TO.GZ{α:Type}{l:α->α->Bool}(h:TO l){a b:α}(h1:l a b=true)(h2:l b a=true):False:=bV<|(h.ir a).symm.trans<|h.tr h1 h2
theorem TO.lex{α β:Type}[BEq α][LawfulBEq α]{l:α->α->Bool}{g:β->β->Bool}(h:TO l)(k:TO g):TO (MK l g)where
 tr {a b c} h1 h2:=by
  unfold MK at*;by_cases e:(a.1==b.1)=true
  .rw[aH e]at h1;rw[eq_of_beq e];by_cases e':(b.1==c.1)=true
   .rw[aH e']at h2⊢;exact k.tr h1 h2
   .rw[aL e']at h2⊢;exact h2
  .rw[aL e]at h1;by_cases e':(b.1==c.1)=true
   .rw[<-eq_of_beq e',aL e];exact h1
   .rw[aL e']at h2;rw[aL λq=>h.GZ h1 (by rw[eq_of_beq q];exact h2)];exact h.tr h1 h2
 ir a:=(aH<|bM _).trans<|k.ir _
 x6 {a b} n:=by
  unfold MK;by_cases e:a.1=b.1
  .rw[e,aH<|bM _,aH<|bM _];exact k.x6 λq=>n<|fM e q
  .rw[aL λq=>e<|eq_of_beq q,aL λq=>e (eq_of_beq q).symm];exact h.x6 e
theorem TO.int:TO (λa b:Int=>decide<|a<b):=⟨λh1 h2=>b7<|n0 (f0 h1)<|f0 h2,λa=>cQ<|lY a,λn=>(mB n).imp b7 b7⟩
theorem TO.aba:TO (λa b:Int=>decide<|a>b):=⟨λh1 h2=>b7<|n0 (f0 h2)<|f0 h1,λa=>cQ<|lY a,λn=>(mB n).symm.imp b7 b7⟩
def K7(p q:Int×Int):Bool:=if p.1==q.1 then decide (p.2<q.2)else decide<|p.1<q.1
def rK(p q:Int×Int):Bool:=if p.1==q.1 then decide (p.2>q.2)else decide<|p.1>q.1
theorem ky:TO rK:=TO.aba.lex TO.aba
theorem Lg{s:Shared}{a b:Addr}{x y x' y':Int}{R:PySem.Fin->Shared->Prop}(ha:q6 s.heap a x y)(hb:q6 s.heap b x' y')(h:R (.done<|.ret<|.bool<|K7 (x,y) (x',y')) s):
 wpAny (model PG w) A (Builtin.«tuple.__lt__» ⟨[.ref a,.ref b],[]⟩) R E s:=by
 exists w,A,E,s,a,b,x,y,x',y',R,_;have hT:=hb.ty;exists t,u,n,(HA:ha);exists t',u',n',(hob:hb);refine(aD (iQ hT k6 ?_):wpAny _ _ (isInstance (.ref b) (.type "tuple")>>=_) _ _ s);refine aD<|gZ HA rfl ?_;refine aD<|gZ hob rfl ?_;refine aD ?_;rw[show(#[Value.int x t,.int y u].toList.zip #[Value.int x' t',.int y' u'].toList)=[(.int x t,.int x' t'),(.int y u,.int y' u')]from rfl,fU];refine aD<|aD<|gN ?_;dsimp only[K7]at h;rcases hx:(x==x')with _|_
 .replace h:=hx▸h;exact aD<|iR<|aD<|nL<|aM<|aM<|aM h
 .replace h:=hx▸h;refine aM ?_;dsimp only;rw[fU];refine aD<|aD<|gN ?_;rcases hy:(y==y')with _|_
  .dsimp only[Bool.not_false];exact aD<|iR<|aD<|nL<|aM<|aM<|aM h
  .dsimp only[Bool.not_true];refine aM ?_;refine aM ?_;refine aM ?_;have:y=y':=by simpa using hy
   subst this;exact(by simpa using h:R (.done<|.ret<|.bool false) s)
theorem EU(hu:A.units<cLine)(ha:q6 s.heap a x y)(hb:q6 s.heap b x' y')(h:Q (.bool<|K7 (x,y) (x',y')) s):
 wpAny (model PG w) A (compareOp .Lt (.ref a)<|.ref b) Q E s:=
 jJ (op:=.Lt) ha.ty hb.ty nA
  (gP nA ha.ty F.entry_tuple_lt (Lg ha hb ⟨_,rfl,λe=>by injection e,h⟩)<|F.args_tuple_lt_2 _ _) hu
theorem M8{s:Shared}{a b:Addr}{x y x' y':Int}{R:PySem.Fin->Shared->Prop}(ha:q6 s.heap a x y)(hb:q6 s.heap b x' y')(h:R (.done<|.ret<|.bool<|rK (x,y) (x',y')) s):
 wpAny (model PG w) A (Builtin.«tuple.__gt__» ⟨[.ref a,.ref b],[]⟩) R E s:=by
 exists w,A,E,s,a,b,x,y,x',y',R,_;have hT:=hb.ty;exists t,u,n,(HA:ha);exists t',u',n',(hob:hb);refine(aD (iQ hT k6 ?_):wpAny _ _ (isInstance (.ref b) (.type "tuple")>>=_) _ _ s);refine aD<|gZ HA rfl ?_;refine aD<|gZ hob rfl ?_;refine aD ?_;rw[show(#[Value.int x t,.int y u].toList.zip #[Value.int x' t',.int y' u'].toList)=[(.int x t,.int x' t'),(.int y u,.int y' u')]from rfl,fU];refine aD<|aD<|gN ?_;dsimp only[rK]at h;rcases hx:(x==x')with _|_
 .replace h:=hx▸h;exact aD<|iR<|aD<|n7<|aM<|aM<|aM h
 .replace h:=hx▸h;refine aM ?_;dsimp only;rw[fU];refine aD<|aD<|gN ?_;rcases hy:(y==y')with _|_
  .dsimp only[Bool.not_false];exact aD<|iR<|aD<|n7<|aM<|aM<|aM h
  .dsimp only[Bool.not_true];refine aM ?_;refine aM ?_;refine aM ?_;have:y=y':=by simpa using hy
   subst this;exact(by simpa using h:R (.done<|.ret<|.bool false) s)
theorem BC(hu:A.units<cLine)(ha:q6 s.heap a x y)(hb:q6 s.heap b x' y')(h:Q (.bool<|rK (x,y) (x',y')) s):
 wpAny (model PG w) A (compareOp .Gt (.ref a)<|.ref b) Q E s:=
 jJ (op:=.Gt) ha.ty hb.ty nB
  (gP nB ha.ty F.entry_tuple_gt (M8 ha hb ⟨_,rfl,λe=>by injection e,h⟩)<|F.args_tuple_gt_2 _ _) hu
end
def xW(n:Nat){α:Type}(Q:α->Prop):KasT α->Prop
 |.ret a=>Q a
 |.ask i j k=>(i<n/\j<n/\i≠j)/\∀b,xW n Q<|k b
theorem wP{n:Nat}{α β:Type}{Q:α->Prop}{R:β->Prop}{f:α->KasT β}(hf:∀a,Q a->xW n R (f a))(t)(h:xW n Q t):xW n R<|t.bind f:=by
 induction t with
 |ret a=>exact hf a h
 |ask i j k ih=>exact⟨h.1,λb=>ih b<|h.2 b⟩
theorem sC{n:Nat}{α:Type}{Q:α->Prop}{c:Prop}[Decidable c]{t u:KasT α}(h1:c->xW n Q t)(h2:¬c->xW n Q u):xW n Q<|if c then t else u:=by
 refine iteInduction (λU=>?_) λU=>?_
 .exact h1 ‹_›
 .exact h2 ‹_›
section
variable{n:Nat}{p:Array Nat}
theorem Pm.ask(P:Pm n p){i j:Nat}(hi:i<n)(hj:j<n)(h:i≠j):r7 p i<n/\r7 p j<n/\r7 p i≠r7 p j:=⟨P.lt hi,P.lt hj,P.ne hi hj h⟩
theorem bh{Q R:Nat->Prop}(h:∀r,Q r->R r)(t)(q:xW n Q t):xW n R t:=by
 induction t with
 |ret a=>exact h a q
 |ask i j k ih=>exact⟨q.1,λb=>ih b<|q.2 b⟩
theorem Pv(P:Pm n p)(f):∀m,1<=m->m+f<=n->xW n (λr=>m<=r/\r<=m+f) (kas_asc p f m):=by
 induction f with
 |zero=>exact λm U U=>⟨aI _,aI _⟩
 |succ f ih=> intro m h1 h2;have h2:=(eY m 1 f).symm▸h2;have h3:=bC (aT _ f) h2;exact⟨P.ask h3 (bW (kL _ _) h3) (cX<|lk<|aN<|aY ((lk h1):1<=m)),λb=>sC (λU=>⟨aI _,aT _ _⟩) λU=>bh (λr hr=>⟨f9 hr.1,eY m 1 f▸hr.2⟩) _<|ih (m+1) (c6 _) h2⟩
theorem Zv:∀f p m q,Pm n p->1<=m->m+f<=n->xW n (λr=>Pm n r.1/\1<=r.2.1/\r.2.1<=n) (kas_desc f p m q):=by
 exists zr;induction zr with
 |zero=> intro p m q P h1 h2;exact⟨P,h1,by omega⟩
 |succ f pD=>
  intro p m q P h1 h2;exact⟨P.ask (bP h2) (by omega) (cX<|lk<|aN<|aY ((lk h1):1<=m)),λb=>sC
  (λU=>sC (λU=>pD _ (m+1) 0 (Ay P _ _) (by lia)<|by omega) λU=>pD _ (m+1) 0 P (by lia)<|by omega)
  λU=>⟨P.ask (by omega) (bP h2)<|by omega,λc=>sC (λU=>⟨P,h1,by exact Nat.le_of_add_right_le h2⟩) λU=>pD _ (m+1) (q+1) P (by lia) (lk h2)⟩⟩
theorem Ji(P:Pm n p){m:Nat}(h1:1<=m)(hm:m<=n):xW n (λr=>Pm n r.2/\1<=r.1/\r.1<=n)<|kas_tail3 m n p:=by refine wP (λa h=>?_) _<|Pv (Ay P 0 m) (n-m) m h1 (lk<|aN<|aY ((lk hm):m<=n));exact⟨Ay P _ _,by exact lk<|aC h.1 h1,by exact lk<|aC (aN<|aY ((lk hm):m<=n)) h.2⟩
theorem Ad(P:Pm n p){m:Nat}(hm:m<n):xW n (λr=>Pm n r.2/\1<=r.1/\r.1<=n)<|kas_descPart m n p:=
 wP (λr h=>sC (λU=>Ji (Ay h.1 _ _) h.2.1 h.2.2) λU=>Ji h.1 h.2.1 h.2.2) _ (Zv (n-(m+1)) p (m+1) 0 P (c6 _) (lk<|aN<|aY ((lk hm):m+1<=n)))
theorem Ui(P:Pm n p)(h2:2<=n):xW n (λr=>Pm n r.2/\1<=r.1/\r.1<=n)<|kas_count n p:=by
 refine wP (λm h=>?_) _<|Pv P (n-1) 1 (aI _) (lk<|aN<|aY ((lk h2):1<=n));refine sC (λU=>⟨P,h.1,by exact lk<|aC (aN<|aY ((lk h2):1<=n)) h.2⟩) λhe=>?_;have hmn:m≠n:=by simpa using he
 exact sC (λh1=>⟨P.ask (bS ‹_›) (lk<|aC (aN<|aY ((lk h2):1<=n))<|aC (aN<|aY ((lk h.1):1<=m)) h.2)<|dQ<|(λ{n m}=>Nat.sub_ne_zero_iff_lt.mpr) h1,λb=>sC (λU=>⟨P,h.1,by show m<=n;omega⟩) λU=>Ad (Ay P _ _)<|by omega⟩) λU=>Ad P<|by omega
theorem Sa(P:Pm n p){k:Nat}(hk:k<n):∀f l r,r<=k->l<=k->xW n (λm=>m<=k) (kas_place p k f l r):=by
 exists zr;induction zr with
 |zero=> intro l r hr hl;exact hl
 |succ f pD=> intro l r hr hl;exact sC (λU=>hl) λh=>⟨P.ask (by omega) (by lia)<|by omega,λb=>sC (λU=>pD l _ (by lia) hl) λU=>pD _ r hr<|by omega⟩
theorem uj:∀f p k,Pm n p->k+f<=n->xW n (λU=>True) (kas_bin f p k):=by
 exists zr;induction zr with
 |zero=> intro p k P hk;exact trivial
 |succ f pD=> intro p k P hk;exact wP (λl h=>pD _ (k+1) (Ka P _ _) (lk hk)) _<|Sa P (bP hk) k 0 k (aI _)<|cV _
theorem Z6(h2:2<=n):xW n (λU=>True)<|kas_sort n:=by refine wP (λr h=>?_) _<|Ui (.refl _) h2;exact sC (λU=>uj _ _ _ h.1<|by simp_all) λU=>trivial
theorem Zl{α:Type}{cmp:Nat->Nat->(Bool->Shared->Prop)->Shared->Prop}{o:Nat->Nat->Bool}{s:Shared}(hc:∀i j C,i<n->j<n->i≠j->C (o i j) s->cmp i j C s){Q:α->Shared->Prop}{R:α->Prop}
 (t)(ha:xW n R t)(h:Q (s9 o t) s):t.kasWp cmp Q s:=by
 induction t with
 |ret a=>exact h
 |ask i j k ih=>exact hc i j _ ha.1.1 ha.1.2.1 ha.1.2.2<|ih (o i j) (ha.2 _) h
end
def Ap(h:Heap)(a:Addr)(k:(Int×Int)×Int):Prop:=∃p t nm u n,h.get? a=some ⟨.type "tuple",none,.seq #[.ref p,.int k.2 t,.str nm u] n,#[]⟩/\q6 h p k.1.1 k.1.2
def t4(k k':(Int×Int)×Int):Bool:=if k.1==k'.1 then decide (k.2<k'.2)else K7 k.1 k'.1
section
variable{w:World}{A:Around}{E:Value->Shared->Prop}{s:Shared}{a b:Addr}{x y x' y':Int}
theorem q6.key{h:Heap}(q:q6 h a x y):IsTupleKey (intKind PG w) h [x,y] a:=by exists w,a,x,y,h,_;exists t,u,n,(ho:q);exact⟨_,_,_,ho,rfl,rfl,.cons (by simp[intKind,Value.isInt])<|.cons (by simp[intKind,Value.isInt]) .nil⟩
theorem GP{Q:Bool->Shared->Prop}(hu:A.units<cLine)(ha:q6 s.heap a x y)(hb:q6 s.heap b x' y')(h:Q ((x,y)==(x',y')) s):wpAny (model PG w) A (eqBool (.ref a)<|.ref b) Q E s:=by
 refine wpAny_eqBool_tuple hu (ha.key) (hb.key) ?_;have:decide ([x,y]=[x',y'])=((x,y)==(x',y')):=by rw[eO];simp
 exact this▸h
theorem BH{Q:Bool->Shared->Prop}{k k':(Int×Int)×Int}(hu:A.units<cLine)(ha:Ap s.heap a k)(hb:Ap s.heap b k')(sJ:k≠k')(h:Q (t4 k k') s):wpAny (model PG w) A (keyLt' (tuples' false) (.ref a)<|.ref b) Q E s:=by
 exists w,A,E,s,a,b,Q,k,k',_;exists p,t,nm,u,n,(q9:ha);exists p',t',XM,u',n',(q8:hb);refine kat_lt q9.1 rfl q8.1 rfl ?_;refine kat_cons<|GP hu q9.2 q8.2 ?_;unfold t4 at h;rcases he:(k.1==k'.1)with _|_
 .replace h:=he▸h;exact kat_no<|kat_one _ _<|EU hu q9.2 q8.2 h
 .have h:=he▸h;refine kat_yes<|kat_cons<|gN ?_;have hn:(k.2==k'.2)=false:=by rw[a7];intro e;exact sJ (fM (by simpa using he) e)
  simp only[hn];exact kat_no<|kat_one _ _<|nL h
end
section
variable{k n fu i j:Nat}{ρ oO:List Addr}{s s':Shared}{h h' ajU:Heap}{w:World}{env:Env}
theorem zt:typeLookup (.type "list_iterator") "__next__" =pure (some<|.builtin "list_iterator.__next__"):=by rw[d7,cS];rfl'
theorem IE:typeOf (.builtin "list_iterator.__next__")=pure (.type "wrapper_descriptor"):=by show builtinType _=_;rw[builtinType_eq_fast];rfl'
theorem QI:typeLookup (.type "wrapper_descriptor") "__get__" =pure (some<|.builtin "wrapper_descriptor.__get__"):=by rw[d7,cS];rfl'
theorem LZ:typeLookup (.type "wrapper_descriptor") "__set__" =pure none:=by rw[d7,cS];rfl'
theorem QJ:typeLookup (.type "wrapper_descriptor") "__delete__" =pure none:=by rw[d7,cS];rfl'
theorem Wt:Slot "wrapper_descriptor" "__get__" "wrapper_descriptor.__get__" :=
 .of (owner:= "wrapper_descriptor") (n:= "__get__") (by rw[d7,cS];rfl') (by decide+kernel) (by decide+kernel) (by decide+kernel)
  (by first|exact .inl (by decide+kernel)|exact .inr<|by decide+kernel) (by rw[dH];rfl')
theorem ti:entryFor table "wrapper_descriptor.__get__" =some Builtin.«wrapper_descriptor.__get__»:=fN<|by rfl'
theorem CH(a b c):argsOk "wrapper_descriptor.__get__" ⟨[a,b,c],[]⟩:=by rfl'
theorem gx: ".".intercalate ("list_iterator.__next__".cutAt '.').dropLast= "list_iterator" :=by decide+kernel
theorem CP:isSubtype (.type "list_iterator") (.type<|".".intercalate ("list_iterator.__next__".cutAt '.').dropLast)=pure true:=by rw[gx,dH];rfl'
theorem UT{os:OsState}(hx:h.get? a=some ⟨.type "list_iterator",none,.fields #[.ref l,.int i 0],#[]⟩)(hq:R (.ok<|.ret<|.ref h.objs.size) ⟨h.push {cls:=.type "method-wrapper",data:=.fields #[.builtin "list_iterator.__next__",.ref a]},g,d,t,os⟩):
 codeAny (model PG w) A (.call (.builtin "wrapper_descriptor.__get__") ⟨[.builtin "list_iterator.__next__",.ref a,.type "list_iterator"],[]⟩) R ⟨h,g,d,t,os⟩:=by
 have hT:(⟨h,g,d,t,os⟩:Shared).TypeIs (.ref a) "list_iterator" :=⟨_,hx,rfl⟩;have f8:=CP;refine lJ Wt.plain ti<|Wt.check _ _ _ _ _ _ _ _ (IE) (CH _ _ _) ?_;repeat(any_goals(first|assumption|wp_step))
theorem xD:Slot "list_iterator" "__getattribute__" "object.__getattribute__" :=
 .of (owner:= "object") (n:= "__getattribute__") (by rw[d7,cS];rfl') (by decide+kernel) (by decide+kernel) (by decide+kernel)
  (by first|exact .inl (by decide+kernel)|exact .inr<|by decide+kernel) (by rw[dH];rfl')
theorem wu:entryFor table "object.__getattribute__" =some Builtin.«object.__getattribute__»:=fN<|by rfl'
theorem CE(a b):argsOk "object.__getattribute__" ⟨[a,b],[]⟩:=by rfl'
theorem gg{os:OsState}{a:Addr}{i:Nat}{tk:Tok}{Q:Fin->Shared->Prop}(hx:h.get? a=some ⟨.type "list_iterator",none,.fields #[.ref l,.int i 0],#[]⟩)(hq:Q (.done<|.ret<|.ref h.objs.size) ⟨h.push {cls:=.type "method-wrapper",data:=.fields #[.builtin "list_iterator.__next__",.ref a]},g,d,t,os⟩):
 wpAny (model PG w) A (Builtin.«object.__getattribute__» ⟨[.ref a,.str "__next__" tk],[]⟩) Q E ⟨h,g,d,t,os⟩:=by
 have hT:(⟨h,g,d,t,os⟩:Shared).TypeIs (.ref a) "list_iterator" :=⟨_,hx,rfl⟩;have hT5:=IE;have f4:=zt;have f6:=QI;have f7:=LZ;have f8:=QJ;repeat(any_goals(first|assumption|wp_step))
 refine UT hx ?_;repeat(any_goals(first|assumption|wp_step))
theorem ZU{os:OsState}(hx:h.get? a=some ⟨.type "list_iterator",none,.fields #[.ref l,.int i 0],#[]⟩)(hq:Q (.ref h.objs.size) ⟨h.push {cls:=.type "method-wrapper",data:=.fields #[.builtin "list_iterator.__next__",.ref a]},g,d,t,os⟩):
 wpAny (model PG w) A (getAttrBy (.ref a) (.str "__next__" tk) true true) Q E ⟨h,g,d,t,os⟩:=by
 have hT:(⟨h,g,d,t,os⟩:Shared).TypeIs (.ref a) "list_iterator" :=⟨_,hx,rfl⟩;have f2:=xD.lookup;have f3:=xD.bind<|.ref a;repeat(any_goals(first|assumption|wp_step))
 refine lJ xD.plain wu<|xD.check _ _ _ _ _ _ _ _ hT (CE _ _)<|gg hx ?_;repeat(any_goals(first|assumption|wp_step))
end
section
variable{k n fu i j:Nat}{ρ oO:List Addr}{s s':Shared}{h h' ajU:Heap}{w:World}{env:Env}
noncomputable abbrev rE:=List<|Str×Str
noncomputable abbrev Ev:=(Nat×Nat)×Str
def Rs(a b:Nat×Nat):Prop:=a.1<b.1\/(a.1=b.1/\a.2<b.2)
theorem Fa:¬Rs a a:=λh=>h.elim (dJ _) λh=>dJ _ h.2
theorem J6(h:Rs a b)(h':Rs b c):Rs a c:=h.elim (λx=>h'.elim (λy=>.inl<|cK x y) λy=>.inl<|y.1▸x) λx=>h'.elim (λy=>.inl<|x.1▸y) λy=>.inr ⟨x.1.trans y.1,cK x.2 y.2⟩
def x6(E:rE)(y:Str):Nat:=(E.filter λe=>e.1==y).length
def Eu(E:rE)(O:List Str)(y:Str):Nat:=(E.filter λe=>e.1==y&&O.contains e.2).length
def tG(E:rE)(p:Str):List Str:=(E.filter λe=>e.2==p).map (·.1)
def It(i:Nat)(p:Str):Nat->rE->List Ev
 |_,[]=>[]
 |k,e::E=>if(e.2==p)=true then((i,k),e.1)::It i p (k+1) E else It i p (k+1) E
theorem ww:It i p k []=[]:=rfl
theorem Wf:It i p k (e::E)=if(e.2==p)=true then((i,k),e.1)::It i p (k+1) E else It i p (k+1) E:=rfl
def wD(E:rE):Nat->List Str->List Ev
 |_,[]=>[]
 |i,p::O=>It i p 0 E++wD E (i+1) O
theorem aao:wD E i []=[]:=rfl
theorem afX:wD E i (p::O)=It i p 0 E++wD E (i+1) O:=rfl
def K4(ev:List Ev)(y:Str):Nat:=(ev.filter λq=>q.2==y).length
theorem Fm:K4 (ev++ev') y=K4 ev y+K4 ev' y:=by unfold K4;simp only[dR,aG]
theorem Vy:∀{k:Nat}{E:rE},(It i p k E).map (·.2)=tG E p:=by
 intro k zr;induction zr generalizing k with
 |nil=> exact rfl
 |cons e E pD=>
  dsimp only[ww,Wf,tG];by_cases h:(e.2==p)=true
  .rw[aH h,bR<|by exact h,cW,cW,pD];rfl
  .rw[aL h,bN<|by exact h,pD];rfl
theorem Mg:∀{k i' k':Nat}{y:Str},((i',k'),y)∈It i p k E<->i'=i/\∃j,k'=k+j/\E[j]?=some (y,p):=by
 exists i,p,E,[];induction E with
 |nil=>exact⟨λh=>absurd h bG,λh=>h.2.elim λU q=>by injection q.2⟩
 |cons e E ih=>
  exists e,E,[ih];exists k,i',k',y;have up:(i'=i/\∃j,k'=k+1+j/\E[j]?=some (y,p))->i'=i/\∃j,k'=k+j/\(e::E)[j]?=some (y,p):=λq=>⟨q.1,q.2.elim λj r=>⟨j+1,r.1.trans<|eY k 1 j,r.2⟩⟩;have dn:(i'=i/\∃j,k'=k+j/\(e::E)[j]?=some (y,p))->(i'=i/\k'=k/\e=(y,p))\/((i',k'),y)∈It i p (k+1) E:=by
   intro q;obtain⟨q,j,r⟩:=q;rcases j with _|j
   .exact .inl ⟨q,r.1,aA r.2⟩
   .exact .inr (ih.mpr ⟨q,j,r.1.trans (eY k 1 j).symm,r.2⟩)
  rw[Wf];by_cases h:(e.2==p)=true
  .rw[aH h];refine⟨λm=>(aK.mp m).elim (λq=>?_) λq=>up<|ih.mp q,λq=>(dn q).elim (λr=>?_) λr=>.tail _ r⟩
   .obtain⟨q1,rfl⟩:=bQ q;obtain⟨rfl,rfl⟩:=bQ q1;exact⟨rfl,0,rfl,aV some<|fM rfl<|eq_of_beq h⟩
   .rw[r.1,r.2.1,r.2.2];exact .head _
  .rw[aL h];exact⟨λm=>up<|ih.mp m,λq=>(dn q).elim (λr=>absurd (r.2.2▸bM p) h) id⟩
theorem B6:∀{O O':List Str}{i:Nat},wD E i (O++O')=wD E i O++wD E (i+O.length) O':=by
 intro zr;induction zr with
 |nil=> intro _ _;exact rfl
 |cons p O pD=> intro O' i;show It i p 0 E++wD E (i+1) (O++O')=(It i p 0 E++wD E (i+1) O)++wD E (i+(O.length+1)) O';simp[pD,show i+1+O.length=i+(O.length+1)by exact j6 i O.length]
theorem vY:∀{O:List Str}{i i' k':Nat}{y:Str},((i',k'),y)∈wD E i O<->∃j z,i'=i+j/\O[j]?=some z/\E[k']?=some (y,z):=by
 exists E,[];exists zr;induction zr with
 |nil=> simp[aao]
 |cons p O pD=>
  exists p,O,[pD];exists i,i',k',y;show _∈It i p 0 E++wD E (i+1) O<->_;rw[aO,Mg,pD];constructor
  .rintro(⟨h1,j,h2,h3⟩|⟨j,z,h1,h2,h3⟩)
   .exact⟨0,p,h1,rfl,by rw[h2,dF];exact h3⟩
   .exact⟨j+1,z,(cM (lk<|aN h1)<|lk<|aN h1.symm),h2,h3⟩
  .rintro⟨j,z,h1,h2,h3⟩
   rcases j with _|j
   .exact .inl ⟨h1,k',(dF _).symm,by rw[aA h2];exact h3⟩
   .exact .inr ⟨j,z,(cM (lk<|aN h1)<|lk<|aN h1.symm),h2,h3⟩
theorem pg:∀{k:Nat}{E:rE},(It i p k E).Pairwise λa b=>Rs a.1 b.1:=by
 intro k zr;induction zr generalizing k with
 |nil=> exact .nil
 |cons e E pD=>
  dsimp only[ww,Wf];by_cases h:(e.2==p)=true
  .rw[aH h];refine .cons (λb hb=>?_) pD;obtain⟨⟨i',k'⟩,y⟩:=b;obtain⟨h1,j,h2,_⟩:=Mg.mp hb;exact .inr ⟨h1.symm,by exact lk<|aN h2.symm⟩
  .rw[aL h];exact pD
theorem mn:∀{O:List Str}{i:Nat},(wD E i O).Pairwise λa b=>Rs a.1 b.1:=by
 exists zr;induction zr with
 |nil=> intro _;exact .nil
 |cons p O pD=> intro i;refine gE.mpr ⟨pg,pD,λa ha b hb=>?_⟩;obtain⟨⟨i1,k1⟩,y1⟩:=a;obtain⟨⟨i2,k2⟩,y2⟩:=b;obtain⟨h1,_⟩:=Mg.mp ha;obtain⟨j,z,h2,_⟩:=vY.mp hb;exact .inl (lk<|aC (aN h2.symm)<|aN h1)
theorem EO:∀{k:Nat}{E:rE},K4 (It i p k E) y=(E.filter λe=>e.1==y&&e.2==p).length:=by
 exists k,zr;induction zr generalizing k with
 |nil=> exact rfl
 |cons e E pD=>
  have ih:=pD (k:=k+1);dsimp only[ww,Wf,K4];by_cases h:(e.2==p)=true
  .rw[aH h];by_cases h':(e.1==y)=true
   .rw[bR<|by exact h',bR (by rw[h,h'];rfl),bA,bA];exact aV (· +1) ih
   .rw[bN<|by exact h',bN (by rw[h];simpa using h')];exact ih
  .rw[aL h,bN (by rw[aQ];exact λq=>h q.2)];exact ih
theorem aw{E:rE}(h:∀e,¬(f e=true/\g e=true)):(E.filter λe=>f e||g e).length=(E.filter f).length+(E.filter g).length:=by
 induction E with
 |nil=>rfl
 |cons e E ih=>
  have:=h e;rcases hf:f e with _|_<;>rcases hg:g e with _|_
  .rw[bN (by rw[hf,hg];exact bV),bN (by rw[hf];exact bV),bN (by rw[hg];exact bV),ih]
  .rw[bR (by rw[hf,hg];rfl),bN (by rw[hf];exact bV),bR hg,bA,bA,ih];rfl
  .rw[bR (by rw[hf,hg];rfl),bR hf,bN (by rw[hg];exact bV),bA,bA,ih];exact eY (List.filter f E).length (List.filter g E).length 1
  .exact absurd ⟨hf,hg⟩ this
theorem Ma:∀{O:List Str}{i:Nat},O.Nodup->K4 (wD E i O) y=Eu E O y:=by
 exists zr;induction zr with
 |nil=> intro _ _;unfold Eu;rw[b8.mpr λe U=>by simp];rfl
 |cons p O pD=>
  intro i hn;show K4 (It i p 0 E++wD E (i+1) O) y=_;simp[Fm,EO,pD (c7.mp hn).2];unfold Eu;rw[<-aw]
  .congr 1
   refine mJ λe U=>?_;rw[List.contains_cons];rcases e.1==y with _|_<;>rfl
  .rintro e ⟨h1,h2⟩
   simp only[aQ]at h1 h2;exact(c7.mp hn).1 (by rw[<-eq_of_beq h1.2];exact bB.mp h2.2)
theorem Hs{E:rE}:((e::E).filter f).length=(if f e=true then 1 else 0)+(E.filter f).length:=by
 by_cases h:f e=true
 .rw[bR h,aH h,bA,iH]
 .rw[bN h,aL h,dF]
theorem W3:Eu E O y<=x6 E y:=by
 delta Eu x6;induction E with
 |nil=>exact aI _
 |cons e E ih=>
  simp only[Hs];refine aC ?_ ih;rcases h:e.1==y with _|_
  .exact cV _
  .rw[aH rfl];by_cases q:(true&&O.contains e.2)=true
   .rw[aH q];exact aI _
   .rw[aL q];exact cV _
theorem FP:Eu E O y=x6 E y<->∀e∈E,e.1=y->e.2∈O:=by
 exists E,O,y,[];induction E with
 |nil=>exact⟨by simp,λU=>rfl⟩
 |cons e E ih=>
  exists e,E,_;have hle:=W3 (E:=E) (O:=O) (y:=y);have e1:Eu (e::E) O y=(if(e.1==y&&O.contains e.2)=true then 1 else 0)+Eu E O y:=Hs;have e2:x6 (e::E) y=(if(e.1==y)=true then 1 else 0)+x6 E y:=Hs;simp only[e1,e2,d9,<-ih];rcases h:e.1==y with _|_
  .rw[Bool.false_and,aL bV,dF,dF];exact⟨λq=>⟨λx=>absurd x<|a7.mp h,q⟩,λq=>q.2⟩
  .have hy:=eq_of_beq h;rw[lZ,aH rfl];by_cases q:e.2∈O
   .rw[aH<|bB.mpr q];exact⟨λx=>⟨λU=>q,lS x⟩,λx=>by lia⟩
   .rw[aL λx=>q<|bB.mp x];exact⟨λx=>by lia,λx=>absurd (x.1 hy) q⟩
end
section
variable{k n fu i j:Nat}{ρ oO:List Addr}{s s':Shared}{h h' ajU:Heap}{w:World}{env:Env}
theorem AX{K:Flow->Sem PySem.Fin}{H:Value->Sem PySem.Fin}(hs:∀x,foldedSetIterable iter env x=pure x)
 (h:wpAny M (A.over c fs) (eval iter env) (λx oK=>wpAny M (A.over c fs) (pyIter x) (λit pS=>∀p,Seg M A R Y n o6 (.forLoop target it body orelse env) (M.den<|.forLoop target it body orelse env)
  (.ret (λr=>((match r with|.ok f=>(.pure f:Sem Flow)|.error e=>.raise e).onRaise λx=>do
  if(<-field x 1)==Value.none then unsupported "frame.own-activation:exception-without-traceback"
  setFlight x env.frame).wrap K H gd lv) none (gd false) (lv []) c p []::fs) pS) (λU U=>False) oK) (λU U=>False) s):
  Seg M A R Y n o6 c ((exec (.For target iter body orelse pos) env).wrap K H gd lv) fs s:=by
  simp[exec_For];refine n8 ?_;show Seg M A R Y n o6 c ((eval iter env>>=λe=>foldedSetIterable iter env e>>=λx=>standAt iter.pos>>=λU=>holding [x] (pyIter x)>>=λit=>runOwn (.forLoop target it body orelse env) env).wrap K H gd lv) fs s;rw[eN<|eval iter env,fX];refine j9<|bL h (λx oK vN=>?_) λU U z=>z.elim;rw[hs x];refine n8 ?_;show Seg M A R Y n o6 c ((holding [x] (pyIter x)>>=λit=>runOwn (.forLoop target it body orelse env) env).wrap K H gd lv) fs oK;rw[eN,fX];refine j9<|cL<|bL vN (λit pS Hz=>?_) λU U z=>z.elim;exact seg_call Hz
theorem D2{n:Nat}{o6:Shared}{fs:List Frame}{s:Shared}{env:Env}{target:Expr}{it:Value}{body orelse:List Stmt}
 (h:wpAny (model PG w) (A.over (.forLoop target it body orelse env) fs) (pyNext it) (λo s'=>match o with
  |none=>Seg (model PG w) A R Y n o6 (.block orelse env) ((model PG w).den<|.block orelse env) fs s'
  |some v=>wpAny (model PG w) (A.over (.forLoop target it body orelse env) fs) (letOwnedTupleGo target it v) (λU s1=>wpAny (model PG w) (A.over (.forLoop target it body orelse env) fs) (assign target env v) (λU Co=>
   Seg (model PG w) A R Y n o6 (.forLoop target it body orelse env) ((execs body env).wrap (λf=>match f with
    |.next|.cont=>.pure<|.again<|.forLoop target it body orelse env
    |.brk=>.pure<|.done .next
    |.ret v=>.pure<|.done<|.ret v) (λe=>(do noteFrame e env;theTreesLotGoes e:Sem Unit).wrap (λU=>.raise e) .raise id id) id id) fs Co) (λU U=>False) s1) (λU U=>False) s')
  (λU U=>False) s):
 Seg (model PG w) A R Y n o6 (.forLoop target it body orelse env) ((model PG w).den<|.forLoop target it body orelse env) fs s:=by
 exists w,A,R,Y,n,o6,fs,s,env,target,it,body,orelse,_;show Seg _ A R Y n o6 _ ((forTurn target it body orelse env).onRaise (λx=>do noteFrame x env;theTreesLotGoes x)) fs s;rw[Sem.onRaise_eq_wrap];refine n8 ?_;show Seg _ A R Y n o6 _ ((((pyNext it).onRaise λU=>standAt {target.pos with line:=0})>>=λo=>(match o with
  |none=>again<|.block orelse env
  |some v=>letOwnedTupleGo target it v>>=λU=>assign target env v>>=λU=>execs body env>>=λf=>(match f with
   |.next=>again<|.forLoop target it body orelse env
   |.cont=>again<|.forLoop target it body orelse env
   |.brk=>pure<|.done .next
   |.ret v=>pure (.done<|.ret v):Sem PySem.Fin):Sem PySem.Fin)).wrap _ _ _ _) fs s
 rw[eN,fX];refine j9<|wpAny_onRaise<|bL h (λo s' ho=>?_) λU U z=>z.elim;rcases o with _|v
 .exact seg_again rfl ho
 .dsimp only at ho⊢;rw[eN<|letOwnedTupleGo target it v,fX];refine j9<|bL ho (λU s1 h1=>?_) λU U z=>z.elim;rw[eN<|assign target env v,fX];refine j9<|bL h1 (λU s2 h2=>?_) λU U z=>z.elim;rw[eN<|execs body env,fX];rw[Sem.wrap_congr (execs body env) _ _ (K':=λf=>match f with
   |.next|.cont=>.pure<|.again<|.forLoop target it body orelse env
   |.brk=>.pure<|.done .next
   |.ret v=>.pure<|.done<|.ret v)
   (λf=>by induction f<;>rfl)
   (λe=>by first|exact m2 _ _|(show do noteFrame e env;theTreesLotGoes e.bind (λU=>.raise e)=_;rw[m2]))]
  exact h2
end
inductive V where
 |none|bool (b:Bool)|int (i:Int)|str (s:Str)|ref (i:Nat)|top (a:Addr)|ty (n:String)|bi (id:String)
 deriving Inhabited
def V.enc:V->Nat×Bool×Int×Str×String
 |.none=>(0,false,0,default,"")|.bool b=>(1,b,0,default,"")|.int i=>(2,false,i,default,"")|.str x=>(3,false,0,x,"")|.ref i=>(4,false,i,default,"")|.top i=>(5,false,(i:Nat),default,"")|.ty n=>(6,false,0,default,n)|.bi n=>(7,false,0,default,n)
def V.dec(p:Nat×Bool×Int×Str×String):V:=[V.none,.bool p.2.1,.int p.2.2.1,.str p.2.2.2.1,.ref p.2.2.1.toNat,.top p.2.2.1.toNat,.ty p.2.2.2.2,.bi p.2.2.2.2].getD p.1 .none
theorem V.dec_enc(v):V.dec v.enc=v:=by induction v<;>rfl
noncomputable instance (a b:V):Decidable<|a=b:=decidable_of_iff (a.enc=b.enc) ⟨λh=>a.dec_enc▸b.dec_enc▸aV V.dec h,aV V.enc⟩
set_option genInjectivity false in
inductive AO where
 |list (xs:List V)|tuple (xs:List V)|dict (es:List<|Str×V)|o0 (es:List<|Str×V) (ep:Nat)|set (xs:List Str)
 |inst (C:Addr) (d:Nat) (xs:List V)|cell (v:Option V)|bound (f:Addr) (self:V)|qG (l:Nat) (k:Nat)|lend|mw (it:Nat)|vals (d:Nat)|range (a b c:Int)|dq|other (n:String)|r5 (zs:List Int) (o:Obj)
 deriving Inhabited
theorem tuI(h:AO.tuple a=AO.tuple b):a=b:=by injection h
theorem diI(h:AO.dict a=AO.dict b):a=b:=by injection h
theorem liI(h:AO.list a=AO.list b):a=b:=by injection h
theorem inI(h:AO.inst a b c=AO.inst d e f):c=f:=by injection h
noncomputable abbrev Hp:=List AO
noncomputable abbrev Loc:=List<|Str×V
def VC(ρ:List Addr):V->Value->Prop
 |.none,v=>v=.none
 |.bool b,v=>v=.bool b
 |.int i,v=>∃t,v=.int i t
 |.str x,v=>∃t,v=.str x t
 |.ref i,v=>∃a,ρ[i]?=some a/\v=.ref a
 |.top a,v=>v=.ref a
 |.ty n,v=>v=.type n
 |.bi id,v=>v=.builtin id
inductive oN{α β:Type}(R:α->β->Prop):List α->List β->Prop
 |nil:oN R [] []
 |cons {a b l m}:R a b->oN R l m->oN R (a::l) (b::m)
def EC(w:World)(ρ:List Addr)(e:Str×V)(d:DictEntry):Prop:=
 (∃t,d.key=.str e.1 t)/\d.hash=PyData.keyHash w.params e.1/\VC ρ e.2 d.val
def OC(w:World)(ρ:List Addr):AO->Obj->Prop
 |.list xs,o=>∃vs n,o=⟨.type "list",none,.seq vs n,#[]⟩/\oN (VC ρ) xs vs.toList
 |.tuple xs,o=>∃vs n,o=⟨.type "tuple",none,.seq vs n,#[]⟩/\oN (VC ρ) xs vs.toList
 |.dict es,o=>∃ds n,o=⟨.type "dict",none,.dict ds n,#[]⟩/\oN (EC w ρ) es ds.toList/\(es.map (·.1)).Nodup
 |.o0 es n,o=>∃ds,o=⟨.type "dict",none,.dict ds n,#[]⟩/\oN (EC w ρ) es ds.toList/\(es.map (·.1)).Nodup
 |.set xs,o=>∃es ep t,o.ExactSet/\o.data=.set es ep t/\ElemsOf (strKind PySem.Challenge.pw_ny0438_01 w) es.toList/\(∀k,k∈xs<->∃e∈es.toList,Value.isStrOf k e.2=true)/\es.size<scanBound/\t.fits es.size=true/\es.size=xs.length
 |.inst C d xs,o=>∃(a:Addr)(vs:List Value),ρ[d]?=some a/\o=⟨.ref C,some a,.plain,(vs.map some).toArray⟩/\oN (VC ρ) xs vs
 |.cell v,o=>∃u,o=⟨.type "cell",none,.cell u,#[]⟩/\(match v,u with|none,none=>True|some x,some y=>VC ρ x y|_,_=>False)
 |.bound f v,o=>∃y,o=⟨.type "method",none,.fields #[.ref f,y],#[]⟩/\VC ρ v y
 |.qG l k,o=>∃a,ρ[l]?=some a/\o=⟨.type "list_iterator",none,.fields #[.ref a,.int k 0],#[]⟩
 |.mw i,o=>∃(a:Addr),ρ[i]?=some a/\o=⟨.type "method-wrapper",none,.fields #[.builtin "list_iterator.__next__",.ref a],#[]⟩
 |.lend,o=>∃vs,o=⟨.type "list_iterator",none,.fields vs,#[]⟩/\vs[0]?=some .none
 |.vals d,o=>∃(a:Addr)(sl:Array<|Option Value),ρ[d]?=some a/\o=⟨.type "dict_values",none,.fields #[.ref a],sl⟩
 |.range a b c,o=>∃t u v,o=⟨.type "range",none,.fields #[.int a t,.int b u,.int c v],#[]⟩
 |.dq,o=>o={cls:=.type "collections.deque",data:=.fields #[.none,rawInt 0]}
 |.other n,o=>∃vs,o={cls:=.type n,data:=.fields vs}
 |.r5 zs ob,o=>o=ob/\∃vs n,ob=⟨.type "list",none,.seq vs n,#[]⟩/\oN (VC []) (zs.map V.int) vs.toList
theorem VC.mono(h:ρ<+:oO)(c:VC ρ v x):VC oO v x:=by
 obtain⟨t,rfl⟩:=h;induction v<;>try exact c
 obtain⟨a,q8⟩:=c;refine⟨a,?_,q8.2⟩;exact a6 (bO (aU.mp q8.1).1)<|q8.1
theorem oN.imp{α β:Type}{R S:α->β->Prop}(f:∀a b,R a b->S a b){l m}(h:oN R l m):oN S l m:=by
 induction h with
 |nil=>exact .nil
 |cons h _ ih=>exact .cons (f _ _ h) ih
theorem oN.length{α β:Type}{R:α->β->Prop}{l m}(h:oN R l m):l.length=m.length:=by
 induction h with
 |nil=>rfl
 |cons _ _ ih=>exact aV (· +1) ih
theorem oN.append{α β:Type}{R:α->β->Prop}{l l':List α}{m m':List β}(h:oN R l m)(k:oN R l' m'):oN R (l++l')<|m++m':=by
 induction h with
 |nil=>exact k
 |cons a _ ih=>exact .cons a ih
theorem oN.get{α β:Type}{R:α->β->Prop}{l:List α}{m:List β}(h:oN R l m){i:Nat}{a:α}(e:l[i]?=some a):∃b,m[i]?=some b/\R a b:=by
 induction h generalizing i with
 |nil=>exact nomatch i<;>cases e
 |cons r t ih=>
  rcases i with _|i
  .obtain rfl:=aA e;exact⟨_,rfl,r⟩
  .exact ih (by simpa using e)
theorem pT(h:ρ<+:oO){i:Nat}{a:Addr}(e:ρ[i]?=some a):oO[i]?=some a:=by obtain⟨t,rfl⟩:=h;exact a6 (bO (aU.mp e).1)<|e
theorem EC.mono(h:ρ<+:oO)(c:EC w ρ e d):EC w oO e d:=⟨c.1,c.2.1,c.2.2.mono h⟩
theorem OC.mono(h:ρ<+:oO)(c:OC w ρ o x):OC w oO o x:=by
 exists w,ρ,oO,o,x,_;induction o with
 |list xs=>obtain⟨vs,n,e,a⟩:=c;exact⟨vs,n,e,a.imp λU U=>VC.mono h⟩
 |tuple xs=>obtain⟨vs,n,e,a⟩:=c;exact⟨vs,n,e,a.imp λU U=>VC.mono h⟩
 |dict es=>obtain⟨ds,n,e,a,d⟩:=c;exact⟨ds,n,e,a.imp λU U=>EC.mono h,d⟩
 |o0 es n=>obtain⟨ds,e,a,d⟩:=c;exact⟨ds,e,a.imp λU U=>EC.mono h,d⟩
 |set xs=>exact c
 |inst C d xs=> obtain⟨a,vs,q8⟩:=c;exact⟨a,vs,pT h q8.1,q8.2.1,q8.2.2.imp λU U=>VC.mono h⟩
 |bound f v=>obtain⟨y,e,hv⟩:=c;exact⟨y,e,hv.mono h⟩
 |qG l k=>obtain⟨a,ha,e⟩:=c;exact⟨a,pT h ha,e⟩
 |mw i=>obtain⟨a,ha,e⟩:=c;exact⟨a,pT h ha,e⟩
 |lend=>exact c
 |vals d=>obtain⟨a,sl,ha,e⟩:=c;exact⟨a,sl,pT h ha,e⟩
 |range a b c'=>exact c
 |cell v=> obtain⟨u,e,a⟩:=c;refine⟨u,e,?_⟩;induction v<;>induction u<;>first|exact a|exact VC.mono h a
 |dq=>exact c
 |other n=>exact c
 |r5 zs ob=>exact c
def B3(F:List Addr)(b:Addr)(o o':Obj):Prop:=
 o'=o\/(b∈F/\b≠builtinsNs/\∃sl,o'={o with slots:=sl})\/(o.cls=.none/\b=880/\builtinsNs∈F/\∃vs more,(o.data=.fields vs/\(TriplesOk vs.toList->TriplesOk (vs++more).toList))/\o'={o with data:=.fields (vs++more)})
def uD(F:List Addr)(ajU h:Heap):Prop:=(∀b o,ajU.get? b=some o->∃o',h.get? b=some o'/\B3 F b o o')/\∀f∈F,∀o,ajU.get? f=some o->∃es n,o.data=.dict es n
theorem B3.refl{F:List Addr}(b)(o):B3 F b o o:=.inl rfl
theorem B3.trans{F:List Addr}{o o' U6:Obj}(x:B3 F b o o')(y:B3 F b o' U6)(hF:b∈F->∃es n,o.data=.dict es n):B3 F b o U6:=by
 exists F,b,o,o',U6,_;rcases x with rfl|⟨hc,hc2,sl,rfl⟩|⟨hc,hb,hg,vs,more,hd,rfl⟩
 .exact y
 .exists sl,_;rcases y with rfl|⟨_,_,sl',rfl⟩|⟨XO,hr⟩
  .exact .inr (.inl ⟨hc,hc2,sl,rfl⟩)
  .exact .inr (.inl ⟨hc,hc2,sl',rfl⟩)
  .exists vs,more,(q_:hr.2.2);obtain⟨hd,x7⟩:=q_;exists es,n,(tI:hF hc);rw[show o.data=.fields vs from hd.1]at tI;injection tI
 .exists vs,more,_;rcases y with rfl|⟨XO,_⟩|⟨_,_,_,vs',abf,tI,rfl⟩
  .exact .inr (.inr ⟨hc,hb,hg,vs,more,hd,rfl⟩)
  .exists es,n,(tI:hF XO);have tI:=hd.1▸tI;injection tI
  .obtain⟨tI,tr'⟩:=tI;injection tI with e;subst e;exact .inr<|.inr ⟨hc,hb,hg,vs,more++abf,⟨hd.1,λh=>by exact fS▸(tr'<|hd.2 h)⟩,by rw[fS]⟩
theorem uD.exact{F:List Addr}(k:uD F ajU h){b:Addr}{o:Obj}(e:ajU.get? b=some o)(h1:b∉F)(h2:o.cls≠.none\/b=cStatics):h.get? b=some o:=by
 exists F,ajU,h,b,o,[k,e,h1,h2];exists o',(q8:k.1 b o e);rcases q8.2 with rfl|⟨hc,_⟩|⟨hc,hb,_⟩
 .exact q8.1
 .exact absurd hc h1
 .rcases h2 with h2|h2
  .exact absurd hc h2
  .replace h2:=hb▸h2;rcases h2 with _|_
theorem uD.same{F:List Addr}(k:uD F ajU h)(hs:Heap.SameBut a h h')(ha:ajU.get? a=none):uD F ajU h':=by refine⟨λb o e=>?_,k.2⟩;exists o',(q8:k.1 b o e);refine⟨o',(hs.2 b ?_).trans q8.1,q8.2⟩;rintro rfl;replace e:=ha▸e;injection e
theorem uD.ext{F:List Addr}(k:uD F ajU h)(x:∀b o,h.get? b=some o->h'.get? b=some o):uD F ajU h':=⟨λb o e=>by obtain⟨o',q8⟩:=k.1 b o e;exact⟨o',x _ _ q8.1,q8.2⟩,k.2⟩
theorem uD.push{F:List Addr}(k:uD F ajU h)(o):uD F ajU<|h.push o:=k.ext λU U e=>aZ o e
theorem uD.ns{F:List Addr}(k:uD F ajU h){a:Addr}{m:Str->Option Value}(n:ajU.Ns a m):h.Ns a m:=by
 exists F,ajU,h,a,m,[k,n];exists _;exists o,es,ep,(q_:n);obtain⟨ho,hd,r⟩:=q_;exists o',(q_:k.1 a o ho);obtain⟨e',l⟩:=q_;rcases l with rfl|⟨_,_,sl,rfl⟩|⟨_,_,_,vs,more,tI,rfl⟩
 .exact k9 ⟨_,es,ep,e',hd,r⟩
 .exact k9 ⟨_,es,ep,e',hd,r⟩
 .replace tI:=hd▸tI;rcases tI.1 with _|_
structure dy(F:List Addr)(w:World)(ajU:Heap)(ρ:List Addr)(H:Hp)(h:Heap):Prop where
 len:ρ.length=H.length
 nd:ρ.Nodup
 obj:∀(i:Nat)(a:Addr)(ao:AO),ρ[i]?=some a->H[i]?=some ao->∃o,h.get? a=some o/\OC w ρ ao o
 new:∀a∈ρ,ajU.get? a=none/\2<=a
 keep:uD F ajU h
theorem dy.lt{F:List Addr}{ρ:List Addr}{H:Hp}(S:dy F w ajU ρ H h){i:Nat}{a:Addr}(e:ρ[i]?=some a):∃o,h.get? a=some o:=by obtain⟨o,q8⟩:=S.obj i _ (H[i]'(S.len▸(aU.mp e).1)) e<|aP _;exact⟨o,q8.1⟩
theorem dy.same{F:List Addr}(S:dy F w ajU ρ H h)(hs:Heap.SameBut L h h')(hL:ajU.get? L=none)(hρ:L∉ρ):dy F w ajU ρ H h':=
 ⟨S.len,S.nd,λi a ao e1 e2=>by obtain⟨o,q8⟩:=S.obj i a ao e1 e2;refine⟨o,(hs.2 a ?_).trans q8.1,q8.2⟩;rintro rfl;exact hρ<|aR e1,S.new,S.keep.same hs hL⟩
theorem dy.ext{F:List Addr}{ρ:List Addr}{H:Hp}(S:dy F w ajU ρ H h)(x:∀b o,h.get? b=some o->h'.get? b=some o):dy F w ajU ρ H h':=
 ⟨S.len,S.nd,λi a ao e1 e2=>let⟨o,ho,c⟩:=S.obj i a ao e1 e2;⟨o,x _ _ ho,c⟩,S.new,S.keep.ext x⟩
theorem u8{F:List Addr}(k:uD F ajU h)(ha:h.objs.size<=a):ajU.get? a=none:=by
 rcases e:ajU.get? a with _|o
 .rfl
 .obtain⟨o',q8⟩:=k.1 a o e;exact absurd (b9 q8.1)<|gF.mpr ha
theorem dy.push{F:List Addr}{ρ:List Addr}{H:Hp}{o:Obj}{ao:AO}(S:dy F w ajU ρ H h)(Af:935<=h.objs.size)(hf:o.isFreed=false)(c:OC w (ρ++[h.objs.size]) ao o):
 dy F w ajU (ρ++[h.objs.size]) (H++[ao]) (h.push o):=by
 exists F,w,ajU,h,ρ,H,o,ao,_;refine⟨by simp[S.len],?_,λi a x e1 e2=>?_,λa ha=>?_,S.keep.push o⟩
 .rw[cH];refine⟨S.nd,by simp,?_⟩;intro a ha b hb;rw[aE]at hb;subst hb;obtain⟨i,hi⟩:=cE ha;exists o',(uI:S.lt hi);exact bI<|b9 uI
 .by_cases hi:i<ρ.length
  .rw[bO hi]at e1;rw[bO<|S.len▸hi]at e2;exists o',(q8:S.obj i a x e1 e2);exact⟨o',aZ _ q8.1,q8.2.mono<|⟨_,rfl⟩⟩
  .have wx:i=ρ.length:=by have:=(aU.mp e1).1;simp at this;exact jK this hi
   subst wx;rw[aS<|aI _,cD]at e1;rw[aS<|S.len▸aI _,S.len,cD]at e2;obtain rfl:=aA e1;obtain rfl:=aA e2;exact⟨o,bT _ hf,c⟩
 .rcases aO.mp ha with h'|h'
  .exact S.new a h'
  .rw[aE]at h';subst h';exact⟨u8 S.keep<|aI _,bC (cR _ _) Af⟩
theorem LN{l:List Addr}(nd:l.Nodup){i j:Nat}{a:Addr}(hi:l[i]?=some a)(hj:l[j]?=some a):i=j:=by
 have q9:=aU.mp hi;have q8:=aU.mp hj;have p:=dC.mp nd;rcases Nat.lt_trichotomy i j with h|h|h
 .exact absurd (q9.2.trans q8.2.symm) (p i j q9.1 q8.1 h)
 .exact h
 .exact absurd (q8.2.trans q9.2.symm) (p j i q8.1 q9.1 h)
section
variable{k n fu i j:Nat}{ρ oO:List Addr}{s s':Shared}{h h' ajU:Heap}{w:World}{env:Env}
def V.sh(n:Nat):V->V
 |.ref i=>.ref<|n+i
 |v=>v
def AO.sh(n:Nat):AO->AO
 |.list xs=>.list<|xs.map<|V.sh n
 |.tuple xs=>.tuple<|xs.map<|V.sh n
 |.dict es=>.dict<|es.map λe=>(e.1,V.sh n e.2)
 |.o0 es ep=>.o0 (es.map λe=>(e.1,V.sh n e.2)) ep
 |.set xs=>.set xs
 |.inst C d xs=>.inst C (n+d)<|xs.map<|V.sh n
 |.cell v=>.cell<|v.map<|V.sh n
 |.bound f v=>.bound f<|V.sh n v
 |.qG l k=>.qG (n+l) k
 |.lend=>.lend
 |.mw i=>.mw<|n+i
 |.vals d=>.vals<|n+d
 |.range a b c=>.range a b c
 |.dq=>.dq
 |.other n=>.other n
 |.r5 zs o=>.r5 zs o
theorem Hi(h:oO[i]?=some a):(ρ++oO)[ρ.length+i]?=some a:=by refine a6 (aS<|aT _ _) ?_;rw[b5];exact h
theorem VC.sh(c:VC oO v x):VC (ρ++oO) (V.sh ρ.length v) x:=by
 induction v with
 |ref i=>obtain⟨a,ha,rfl⟩:=c;exact⟨a,Hi ha,rfl⟩
 |_=>exact c
theorem oN.sh(h:oN (VC oO) l m):oN (VC<|ρ++oO) (l.map<|V.sh ρ.length) m:=by
 induction h with
 |nil=>exact .nil
 |cons h _ ih=>exact .cons h.sh ih
theorem EC.sh(c:EC w oO e d):EC w (ρ++oO) (e.1,V.sh ρ.length e.2) d:=⟨c.1,c.2.1,VC.sh c.2.2⟩
theorem oN.shE(h:oN (EC w oO) l m):oN (EC w<|ρ++oO) (l.map λe=>(e.1,V.sh ρ.length e.2)) m:=by
 induction h with
 |nil=>exact .nil
 |cons h _ ih=>exact .cons h.sh ih
theorem OC.sh{ρ oO:List Addr}{ao:AO}{o:Obj}(c:OC w oO ao o):OC w (ρ++oO) (AO.sh ρ.length ao) o:=by
 exists w,ρ,oO,ao,o,_;have keys:∀es:List<|Str×V,(es.map λe=>(e.1,V.sh ρ.length e.2)).map (·.1)=es.map (·.1):=λes=>by refine a6 bX ?_;rfl
 induction ao with
 |list=>obtain⟨vs,n,e,h⟩:=c;exact⟨vs,n,e,h.sh⟩
 |tuple=>obtain⟨vs,n,e,h⟩:=c;exact⟨vs,n,e,h.sh⟩
 |dict es=>obtain⟨ds,n,e,h,hd⟩:=c;exact⟨ds,n,e,h.shE,by rw[keys];exact hd⟩
 |o0 es ep=>obtain⟨ds,e,h,hd⟩:=c;exact⟨ds,e,h.shE,by rw[keys];exact hd⟩
 |set xs=>exact c
 |inst C d xs=>obtain⟨a,vs,h,e,hx⟩:=c;exact⟨a,vs,Hi h,e,hx.sh⟩
 |cell v=> obtain⟨u,e,h⟩:=c;refine⟨u,e,?_⟩;induction v<;>induction u<;>first|exact h|exact VC.sh h
 |bound f v=>obtain⟨y,e,h⟩:=c;exact⟨y,e,h.sh⟩
 |qG l k=>obtain⟨a,h,e⟩:=c;exact⟨a,Hi h,e⟩
 |lend=>exact c
 |mw i=>obtain⟨a,h,e⟩:=c;exact⟨a,Hi h,e⟩
 |vals d=>obtain⟨a,sl,h,e⟩:=c;exact⟨a,sl,Hi h,e⟩
 |range=>exact c
 |dq=>exact c
 |other n=>exact c
 |r5 zs ob=>exact c
end
abbrev KF(w:World):Frag:=qE w.params
structure rC(w:World)(h:Heap):Prop where
 K:(KF w).In h
 glob:∃mg,h.Ns mainGlobals mg
 bi:∃mb,h.Ns builtinsNs mb/\∀x:Str,x≠ "__name__" ->mb x=bootBuiltins x
 lim:h.NoLimit
 bm:∃ob,h.get? 4=some ob/\ob.cls=.type "module" /\ob.dict=some builtinsNs/\ob.data=.plain
 tab:∃ps,h.get? 880=some {cls:=.none,data:=.fields ps}/\TriplesOk ps.toList
set_option genInjectivity false in
structure Cx where
 w:World
 A:Around
 env:Env
 ajU:Heap
 F:List Addr
set_option genInjectivity false in
structure St where
 H:Hp
 loc:Loc
theorem yT:Nonempty St:=⟨⟨[],[]⟩⟩
theorem yC:Nonempty Cx:=yW.elim λw=>⟨⟨w,{},default,{},[]⟩⟩
def LR(ρ:List Addr):Option V->Option Value->Prop
 |none,none=>True
 |some v,some x=>VC ρ v x
 |_,_=>False
theorem LR.mono(h:ρ<+:oO)(c:LR ρ v x):LR oO v x:=by induction v<;>induction x<;>first|exact c|exact VC.mono h c
structure TM(ρ:List Addr)(env:Env)(ajU h:Heap)(loc:Loc):Prop where
 ns:∃m,h.Ns env.locals m/\∀x,env.kindOf x=some .local->LR ρ (loc.lookup x) (m x)
 none:ajU.get? env.locals=none
 out:env.locals∉ρ
 cell:∀x a,env.cells.lookup x=some a->a∉ρ/\a≠env.locals/\∃u,h.IsCell a u/\LR ρ (loc.lookup x) u
 own:∀x a,env.cells.lookup x=some a->env.kindOf x=some .cell->ajU.get? a=.none/\∀y,env.cells.lookup y=some a->y=x
 has:∀x,(env.kindOf x=some .cell\/env.kindOf x=some .free)->env.cells.lookup x≠.none
 kind:∀x a,env.cells.lookup x=some a->env.kindOf x≠some .local
 lo:935<=env.locals
structure oD(C:Cx)(ρ:List Addr)(st:St)(s:Shared):Prop where
 sim:dy C.F C.w C.ajU ρ st.H s.heap
 fr:TM ρ C.env C.ajU s.heap st.loc
 tk:s.toks≠0
def wB(F:List Addr)(g g':Array GenState):Prop:=∃l:List GenState,g'=g++l.toArray/\(∀x∈l,x.bare=true)/\(builtinsNs∉F->l=[])
structure pZ(F:List Addr)(s s':Shared):Prop where
 os:s'.os=s.os
 dr:s'.drawn=s.drawn
 tk:s.toks<=s'.toks
 gn:wB F s.gens s'.gens
theorem wB.refl{F:List Addr}(g):wB F g g:=⟨[],rfl,λU h=>absurd h<|bG,λU=>rfl⟩
theorem wB.trans{F:List Addr}(x:wB F a b)(y:wB F b c):wB F a c:=by
 exists F,a,b,c,_;exists l,(q_:x);obtain⟨rfl,q9⟩:=q_;exists m,(q_:y);obtain⟨rfl,q8⟩:=q_;refine⟨l++m,by simp[fS],λz hz=>?_,λq=>by simp only[q9.2 q,q8.2 q];rfl⟩;rcases aO.mp hz with q|q
 .exact q9.1 z q
 .exact q8.1 z q
theorem pZ.refl{F:List Addr}(s):pZ F s s:=⟨rfl,rfl,aI _,.refl _⟩
theorem pZ.trans{F:List Addr}(x:pZ F a b)(y:pZ F b c):pZ F a c:=⟨y.os.trans x.os,y.dr.trans x.dr,bC x.tk y.tk,x.gn.trans y.gn⟩
theorem nn{α:Type}{x:α}{P:Prop}(h:none=some x):P:=by rcases h with _|_
theorem Iu{α:Type}[Decidable c]{x:Option α}{q:α}(h:(if c then x else none)=some q):c/\x=some q:=by
 by_cases e:c
 .exact⟨e,(aH e).symm.trans h⟩
 .exact nn ((aL e).symm.trans h)
inductive r8(β:Type)where
 |ok (b:β)
 |exc (c:V)
theorem yO{β:Type}:Nonempty<|r8 β:=⟨.exc .none⟩
inductive TbE(ajU:Heap)(L:Addr)(ρ:List Addr)(vs:Array Value)(a:Addr)(h:Heap):Prop
 |mk (t:Addr) (ot:Obj) (vt:Array Value) (fl:Value) (e1:vs[1]?=some (.ref t)) (e2:h.get? t=some ot) (e3:ot.data=.fields vt) (e4:vt[3]?=some fl) (e5:t∉ρ) (e6:ajU.get? t=none) (e7:t≠L) (e8:t≠a)
inductive adB(ajU:Heap)(L:Addr)(ρ:List Addr)(c:V)(e:Value)(h:Heap):Prop
 |mk (a:Addr) (o:Obj) (vs:Array Value) (a0:Value) (e1:e=.ref a) (e2:h.get? a=some o) (e3:o.data=.fields vs) (e4:vs[0]?=some a0) (e5:VC [] c o.cls) (e6:a∉ρ) (e7:ajU.get? a=none) (e8:a≠L) (tb:vs[1]?=some .none\/TbE ajU L ρ vs a h)
structure rN(C:Cx)(ρ:List Addr)(c:V)(e:Value)(s:Shared):Prop where
 ex:adB C.ajU C.env.locals ρ c e s.heap
section
variable{α β γ δ:Type}
noncomputable abbrev oM(β:Type):=Option<|r8 β×St
def oM.then(o:oM β)(g:β->St->oM γ):oM γ:=match o with
 |none=>none
 |some (.exc c,st)=>some (.exc c,st)
 |some (.ok b,st)=>g b st
inductive aa9(o:oM β)(g:β->St->oM γ)(r:r8 γ)(oE:St):Prop
 |exc (c:V) (e:o=some (.exc c,oE)) (er:r=.exc c)
 |ok (b:β) (pU:St) (e:o=some (.ok b,pU)) (e':g b pU=some (r,oE))
theorem qJ(h:o.then g=some (r,oE)):aa9 o g r oE:=by
 match o,h with
 |some (.exc c,_),h=>exact .exc c (by injection h with h;injection h with h1 h2;rw[h2]) (by injection h with h;injection h with h1 h2;exact h1.symm)
 |some (.ok b,pU),h=>exact .ok b pU rfl h
inductive PQ(C:Cx)(Rel:List Addr->β->α->Prop)(ρ:List Addr)(s:Shared)(r:r8 β)(oE:St)(x:α)(s':Shared):Prop
 |mk (b:β) (oO:List Addr) (e:r=.ok b) (p:ρ<+:oO) (q:Rel oO b x) (g:oD C oO oE s') (n:pZ C.F s s')
inductive PE(C:Cx)(ρ:List Addr)(s:Shared)(r:r8 β)(oE:St)(e:Value)(s':Shared):Prop
 |mk (c:V) (oO:List Addr) (er:r=.exc c) (p:ρ<+:oO) (x:rN C oO c e s') (g:oD C oO oE s') (n:pZ C.F s s')
def Sd(C:Cx)(t:Sem α)(Rel:List Addr->β->α->Prop)(ρ:List Addr)(s:Shared)(st:St)(o:oM β):Prop:=
 oD C ρ st s->∀r oE,o=some (r,oE)->wpAny (model PG C.w) C.A t (PQ C Rel ρ s r oE) (PE C ρ s r oE) s
theorem Sd.qe{st:St}{Rel:List Addr->β->α->Prop}(h:oD C ρ st s->∀r oE,o=some (r,oE)->∀Q E,(∀x s',PQ C Rel ρ s r oE x s'->Q x s')->(∀x s',PE C ρ s r oE x s'->E x s')->wpAny (model PG C.w) C.A t Q E s):Sd C t Rel ρ s st o:=
 λG r oE e=>h G r oE e _ _ (λU U h=>h) λU U h=>h
theorem Sd.ok{st:St}{b:β}(h:Sd C t Rel ρ s st o)(G:oD C ρ st s)(e:o=some (.ok b,oE)){Q:α->Shared->Prop}
 (k:∀x s' oO,ρ<+:oO->Rel oO b x->oD C oO oE s'->pZ C.F s s'->Q x s'):wpAny (model PG C.w) C.A t Q E s:=
  bL (h G _ _ e) (λx s' P=>by obtain⟨_,oO,e,p,q,g,n⟩:=P;obtain rfl:=r8.ok.inj e;exact k x s' oO p q g n) λU U P=>by induction P;contradiction
theorem Sd.ex{st:St}{o:oM β}(h:Sd C t Rel ρ s st o)(G:oD C ρ st s)(e:o=some (.exc c,oE)){Q:α->Shared->Prop}
 (k:∀x s' oO,ρ<+:oO->rN C oO c x s'->oD C oO oE s'->pZ C.F s s'->E x s'):wpAny (model PG C.w) C.A t Q E s:=
  bL (h G _ _ e) (λU U P=>by rcases P with⟨⟩;contradiction) λx s' P=>by obtain⟨_,oO,e,p,q,g,n⟩:=P;rcases e with _|_;exact k x s' oO p q g n
theorem Sd.bind{st:St}{Rel:List Addr->β->α->Prop}{abg:List Addr->δ->γ->Prop}
 (h:Sd C t Rel ρ s st o)(k:∀oO s' oE b x,ρ<+:oO->Rel oO b x->Sd C (f x) abg oO s' oE (g b oE)):Sd C (t>>=f) abg ρ s st<|o.then g:=by
  refine Sd.qe λG r oE e Q E kQ kE=>aD ?_;obtain⟨c,e1,rfl⟩|⟨b,pU,e,e'⟩:=qJ e
  .exact h.ex G e1 λx s' oO p q g n=>kE _ _ ⟨c,oO,rfl,p,q,g,n⟩
  .refine h.ok G e λx oK pH hp hr o8 n=>bL (k pH oK pU b x hp hr o8 r oE e') (λy pS P=>?_) λv pS P=>?_
   .obtain⟨d,pF,e2,JY,hr2,qC,n2⟩:=P;exact kQ _ _ ⟨d,pF,e2,hp.trans JY,hr2,qC,n.trans n2⟩
   .obtain⟨d,pF,e2,JY,hr2,qC,n2⟩:=P;exact kE _ _ ⟨d,pF,e2,hp.trans JY,hr2,qC,n.trans n2⟩
theorem Sd.pure{st:St}(h:Rel ρ b a):Sd C (pure a) Rel ρ s st<|some (.ok b,st):=by intro G r oE e;obtain⟨rfl,rfl⟩:=bQ<|aA e;exact aM ⟨b,ρ,rfl,a8 _,h,G,.refl s⟩
theorem Sd.holding{st:St}{Rel:List Addr->β->α->Prop}(h:Sd C t Rel ρ s st o):Sd C (holding vs t) Rel ρ s st o:=
 λG r oE e=>cL<|h G r oE e
theorem Sd.standAt{st:St}{Rel:List Addr->β->α->Prop}(h:Sd C t Rel ρ s st o):Sd C (standAt p>>=λU=>t) Rel ρ s st o:=
 λG r oE e=>aD<|dK<|h G r oE e
theorem Sd.congr{st:St}{Rel:List Addr->β->α->Prop}(h:Sd C t Rel ρ s st o)(et:t'=t)(eo:o'=o):Sd C t' Rel ρ s st o':=by subst et eo;exact h
theorem Sd.nil{st:St}:Sd C t Rel ρ s st none:=λU U U e=>nn e
theorem Sd.of{st:St}{b:β}{oE:St}(h:oD C ρ st s->∀Q:α->Shared->Prop,∀E,(∀x s' oO,ρ<+:oO->Rel oO b x->oD C oO oE s'->pZ C.F s s'->Q x s')->wpAny (model PG C.w) C.A t Q E s):
 Sd C t Rel ρ s st (some (.ok b,oE)):=by
 intro G r xY e;obtain⟨rfl,rfl⟩:=bQ<|aA e;exact h G _ _ λx s' oO p q g n=>⟨b,oO,rfl,p,q,g,n⟩
end
theorem TM.mono(F:TM ρ env ajU h loc)(p:ρ<+:oO)(out:env.locals∉oO)(aei:∀x a,env.cells.lookup x=some a->a∉oO):TM oO env ajU h loc:=by obtain⟨⟨m,hn,hl⟩,b,x7,c,o,hs,kd,lo⟩:=F;exact⟨⟨m,hn,λx hx=>(hl x hx).mono p⟩,b,out,λx a hm=>let⟨_,h2,u,h3,h4⟩:=c x a hm;⟨aei x a hm,h2,u,h3,h4.mono p⟩,o,hs,kd,lo⟩
theorem pZ.oV{F:List Addr}(s)(h):pZ F s {s with heap:=h}:=⟨rfl,rfl,aI _,.refl _⟩
theorem oD.tok{st:St}{s:Shared}(G:oD C ρ st s)(n):oD C ρ st {s with toks:=s.toks+n}:=⟨G.sim,G.fr,by have:=G.tk;simp_all⟩
theorem pZ.tok{F:List Addr}(s)(n):pZ F s {s with toks:=s.toks+n}:=⟨rfl,rfl,aT ..,.refl _⟩
theorem pZ.heap{F:List Addr}(s)(h)(n):pZ F s {s with heap:=h,toks:=s.toks+n}:=⟨rfl,rfl,aT ..,.refl _⟩
variable{k n fu i j:Nat}{C:Cx}{ρ oO:List Addr}{st oE:St}{s s':Shared}{H H':Hp}{h h' ajU:Heap}{w:World}{env:Env}{loc:Loc}
set_option genInjectivity false in
structure oY where
 glob:Str->Option V
 call:V->List V->List (Str×V)->Hp->Option (r8 V×Hp)
 kp:V->Hp->Bool
 attr:V->Str->Hp->Option (r8 V×Hp)
 qB:V->Str->Hp->Option (V×List V)
 setattr:V->Str->V->Hp->Option Hp
 cmp:CmpOp->V->V->Hp->Option V
 bin:Operator->V->V->Hp->Option (V×Hp)
 Ew:Operator->V->V->Hp->Option (V×Hp)
 JZ:UnaryOp->V->Hp->Option V
 Kt:V->Hp->Option Bool
 item:V->V->Hp->Option (r8 V×Hp)
 slice:V->V->V->V->Hp->Option (V×Hp)
 v8:V->V->V->Hp->Option Hp
 uW:V->V->Hp->Option Hp
 unpack:V->Nat->Hp->Option (List V)
 idx:V->Hp->Bool
 comp:Scope->Expr->St->oM V
 iter:V->Hp->Option (List Nat×List V)
 Qy:V->Str->Bool
 raise:Scope->Expr->St->oM Unit
 star:Scope->Expr->St->oM V
 stmt:Scope->Stmt->St->oM Unit
theorem ySm:Nonempty oY:=⟨⟨λU=>none,λU U U U=>none,λU U=>false,λU U U=>none,λU U U=>none,λU U U U=>none,λU U U U=>none,λU U U U=>none,λU U U U=>none,λU U U=>none,λU U=>none,λU U U=>none,λU U U U U=>none,λU U U U=>none,λU U U=>none,λU U U=>none,λU U=>false,λU U U=>none,λU U=>none,λU U=>false,λU U U=>none,λU U U=>none,λU U U=>none⟩⟩
theorem yBs:Nonempty<|Bool->oY:=ySm.elim λS=>⟨λU=>S⟩
def put(x:Str)(v:V):Loc->Loc
 |[]=>[(x,v)]
 |(y,u)::r=>if y=x then(y,v)::r else(y,u)::put x v r
theorem D3:put x v []=[(x,v)]:=rfl
theorem Po:put x v (e::r)=if e.1=x then(e.1,v)::r else e::put x v r:=rfl
theorem At(x)(v):∀l y,(put x v l).lookup y=if y=x then some v else l.lookup y:=by
 intro zr;induction zr with
 |nil=>
  intro y;by_cases h:y=x
  .subst h;simp[D3]
  .have hb:=a7.mpr h;simp[D3,List.lookup,hb,h]
 |cons zh r pD=>
  obtain⟨z,u⟩:=zh;intro y;dsimp only[D3,Po];by_cases hz:z=x
  .subst hz;rw[aH rfl];by_cases h:y=z
   .replace h:=h.symm;subst h;simp
   .have hb:=a7.mpr h;simp[List.lookup,hb,h]
  .rw[aL hz];by_cases h:y=z
   .subst h;have:=hz;simp[this]
   .have hb:=a7.mpr h;simp[List.lookup,hb,pD y]
def Ms:Const->Option V
 |.none=>some .none
 |.bool b=>some<|.bool b
 |.int i=>some<|.int i
 |.str x=>some<|.str x
 |_=>none
def pX(st:St){β:Type}(o:Option<|r8 β×Hp):oM β:=o.map λp=>(p.1,{st with H:=p.2})
def uL(st:St){β:Type}(o:Option<|β×Hp):oM β:=o.map λp=>(.ok p.1,{st with H:=p.2})
def sO(st:St){β:Type}(o:Option β):oM β:=o.map λb=>(.ok b,st)
def yZ:Expr->Bool
 |.Set ..=>true
 |_=>false
def rH:Expr->Bool
 |.Starred ..=>true
 |_=>false
def sI(as:List Expr)(ks:List Keyword):Bool:=as.all (λa=>!rH a)&&ks.all λk=>k.arg.isSome
def ki(x:Str):List Expr->Bool
 |[.Starred ..]=>true
 |[.GeneratorExp ..]=>true
 |[.Constant (.str _) _ _,.Constant (.str _) _ _]=>x== "replace"
 |_=>false
def w8:Expr->Bool
 |.Call (.Name id _) [] [] _=>id != "super"
 |_=>true
def aaS:List Expr->Option V
 |[.Constant (.str x) _ _]=>some<|.str x
 |_=>none
def Am(sc:Scope)(x:Str):Bool:=x != "__debug__" &&x != "__classdict__" &&sc.kind==.function
def p0(sc:Scope)(x:Str)(v:V)(st:St):oM Unit:=
 if sc.kind==.function&&(sc.names.lookup x==some .local||sc.names.lookup x==some .cell)then some (.ok (),{st with loc:=put x v st.loc})else none
def wU(ao:AO)(st:St):oM V:=some (.ok<|.ref st.H.length,{st with H:=st.H++[ao]})
section
variable(S:oY)(env:Scope)
def G9(x:Str)(st:St):oM V:=
 if Am env x then
  match env.names.lookup x with
  |some .local|some .cell|some .free=>sO st<|st.loc.lookup x
  |some .globalImplicit=>sO st<|S.glob x
  |_=>none
 else none
def y9:Expr->Option (Expr×Str×Pos)
 |.Attribute o x p=>some (o,x,p)
 |_=>none
def rY:Expr->Option (Str×Pos)
 |.Name x p=>some (x,p)
 |_=>none
def Dt:Expr->Option (Expr×List Expr×List Keyword×Pos)
 |.Call f as ks p=>some (f,as,ks,p)
 |_=>none
def zJ:Expr->Option (Option Expr×Option Expr×Option Expr)
 |.Slice l u x _=>some (l,u,x)
 |_=>none
def Lu{α:Type}:List α->Option α
 |[x]=>some x
 |_=>none
def ac:Expr->Option (Str×Nat×Pos)
 |.Constant c k p=>(match c with
  |.str a=>some (a,k,p)
  |_=>none)
 |_=>none
def BP:List Expr->Option (List Str)
 |[]=>some []
 |e::r=>(ac e).bind λa=>(BP r).bind λl=>some (a.1::l)
def im:Expr->Option (List Expr×Nat×Pos)
 |.Tuple es k p=>some (es,k,p)
 |_=>none
def IO(op:CmpOp)(r:Expr):Option<|List Str:=match op with
 |.In=>(im r).bind λq=>BP q.1
 |_=>none
def Ua:V->Option Str
 |.str x=>some x
 |_=>none
section
variable(ev:Expr->St->oM V)(te:Expr->St->oM Bool)
def Ss:Option Expr->St->oM V
 |none,st=>some (.ok .none,st)
 |some e,st=>ev e st
def yw(op:BoolOp)(t:Bool):Bool:=match op with
 |.And=>!t
 |.Or=>t
def Xo(op:BoolOp):List Expr->St->oM V
 |[],_=>none
 |x::r,st=>match r with
  |[]=>ev x st
  |_::_=>(ev x st).then λv st=>(sO st<|S.Kt v st.H).then λt st=>bif yw op t then some (.ok v,st)else Xo op r st
def Hh(op:BoolOp):List Expr->St->oM Bool
 |[],st=>some (.ok<|op==.And,st)
 |x::r,st=>(te x st).then λb st=>bif yw op b then some (.ok b,st)else Hh op r st
def y6:List Expr->St->oM (List V)
 |[],st=>some (.ok [],st)
 |e::r,st=>if rH e then none else(ev e st).then λv st=>(y6 r st).then λvs st=>some (.ok (v::vs),st)
def BD:List Keyword->St->oM (List<|Str×V)
 |[],st=>some (.ok [],st)
 |k::r,st=>match k.arg with
  |some n=>(ev k.value st).then λv st=>(BD r st).then λvs st=>some (.ok ((n,v)::vs),st)
  |none=>none
def akE(as:List Expr)(ks:List Keyword)(st:St):oM<|List V×List (Str×V):=(y6 ev as st).then λvs st=>(BD ev ks st).then λkv st=>some (.ok (vs,kv),st)
def sj(op:CmpOp)(l r:Expr)(st:St):oM V:=match IO op r with
 |some xs=>(ev l st).then λv st=>sO st<|(Ua v).bind λx=>if(PyData.strOk x&&xs.all PyData.strOk)=true/\xs.length<1000 then some (.bool<|xs.any (· ==x))else none
 |none=>(ev l st).then λa st=>(ev r st).then λb st=>sO st<|S.cmp op a b st.H
def ly:Expr->St->oM V
 |.Constant c _ _,st=>sO st<|Ms c
 |.Name x _,st=>G9 S env x st
 |.BoolOp op vs _,st=>Xo S ev op vs st
 |.UnaryOp op x _,st=>(ev x st).then λv st=>sO st<|S.JZ op v st.H
 |.BinOp l op r _,st=>(ev l st).then λa st=>(ev r st).then λb st=>uL st<|S.bin op a b st.H
 |.IfExp t b o _,st=>(te t st).then λc st=>bif c then ev b st else ev o st
 |.Compare l ops rs _,st=>(Lu ops).bind λop=>(Lu rs).bind λr=>if yZ r then none else sj S ev op l r st
 |.Attribute o x _,st=>if w8 o then(ev o st).then λv st=>pX st (S.attr v x st.H)else none
 |.NamedExpr t e _,st=>(rY t).bind λx=>(ev e st).then λv st=>(p0 env x.1 v st).then λU st=>some (.ok v,st)
 |.List es _,st=>(y6 ev es st).then λvs st=>if vs.length<1000 then wU (.list vs) st else none
 |.Tuple es _ _,st=>(y6 ev es st).then λvs st=>if vs.length<1000 then wU (.tuple vs) st else none
 |.Subscript o i _,st=>(ev o st).then λa st=>match zJ i with
  |some p=>(Ss ev p.1 st).then λvl st=>(Ss ev p.2.1 st).then λvu st=>(Ss ev p.2.2 st).then λvx st=>if S.idx a st.H then uL st (S.slice a vl vu vx st.H)else none
  |none=>(ev i st).then λb st=>if S.idx a st.H then pX st (S.item a b st.H)else none
 |.JoinedStr vs _,st=>sO st<|aaS vs
 |.ListComp elt gens scope pos,st=>S.comp env (.ListComp elt gens scope pos) st
 |.Dict ks vs _,st=>if ks.isEmpty&&vs.isEmpty then wU (.dict []) st else none
 |.Call f as ks p,st=>match y9 f with
  |some q=>if ki q.2.1 as then S.star env (.Call f as ks p) st else if w8 q.1&&(as.length+ks.length+1<30&&q.2.2.endLine==p.line)&&sI as ks then(ev q.1 st).then λv st=>(sO st<|S.qB v q.2.1 st.H).then λf st=>(akE ev as ks st).then λa st=>if S.kp f.1 st.H then pX st (S.call f.1 (f.2++a.1) a.2 st.H)else none else none
  |none=>if sI as ks then(ev f st).then λv st=>(akE ev as ks st).then λa st=>if S.kp v st.H then pX st (S.call v a.1 a.2 st.H)else none else none
 |_,_=>none
def II(we:Expr->St->oM V):Expr->St->oM Bool
 |.UnaryOp op x p,st=>match op with
  |.Not=>(te x st).then λb st=>some (.ok (!b),st)
  |op=>(we (.UnaryOp op x p) st).then λv st=>sO st<|S.Kt v st.H
 |.BoolOp op vs _,st=>Hh te op vs st
 |.Compare l ops rs _,st=>(Lu ops).bind λop=>(Lu rs).bind λr=>if yZ r then none else(sj S ev op l r st).then λc st=>sO st<|S.Kt c st.H
 |.IfExp ..,_=>none
 |e,st=>(we e st).then λv st=>sO st<|S.Kt v st.H
end
def EV:Nat->(Expr->St->oM V)×(Expr->St->oM Bool)
 |0=>(λU U=>none,λU U=>none)
 |n+1=>(ly S env (EV n).1 (EV n).2,II S (EV n).1 (EV n).2<|ly S env (EV n).1 (EV n).2)
def pW:Expr->St->oM V:=(EV S env 24).1
def u7:Expr->St->oM Bool:=(EV S env 24).2
end
def KR(ρ:List Addr)(k:Str×V)(x:Str×Value):Prop:=k.1=x.1/\VC ρ k.2 x.2
abbrev pi(C:Cx)(S:oY):Prop:=∀{a x v ρ s st y z},VC ρ a y->VC ρ v z->Sd C (setAttr y x z) (λU(U:Unit)U=>True) ρ s st (uL st<|(S.setattr a x v st.H).map λh=>((),h))
abbrev rm(C:Cx)(S:oY):Prop:=∀{a i v ρ s st x j y},VC ρ a x->VC ρ i j->VC ρ v y->Sd C (setItem x j y) (λU(U:Unit)U=>True) ρ s st (uL st<|(S.v8 a i v st.H).map λh=>((),h))
abbrev pv(C:Cx)(S:oY):Prop:=∀{a i ρ s st x j},VC ρ a x->VC ρ i j->Sd C (delItem x j) (λU(U:Unit)U=>True) ρ s st (uL st<|(S.uW a i st.H).map λh=>((),h))
abbrev aas(C:Cx)(S:oY):Prop:=∀{op a b ρ s st x y},VC ρ a x->VC ρ b y->Sd C (inplaceOp op x y) VC ρ s st (uL st<|S.Ew op a b st.H)
abbrev NP(C:Cx)(S:oY):Prop:=∀{c T e ρ s st p},oD C ρ st s->rN C ρ c e s->S.Qy c T=true->C.env.scope.kind=.function->C.env.scope.names.lookup T=some .globalImplicit->∀E:Value->Shared->Prop,
 wpAny (model PG C.w) (C.A.mark<|some e) (eval (.Name T p) C.env) (λcv oK=>oK=s/\wpAny (model PG C.w) (C.A.mark<|some e) (excMatches e cv) (λb pS=>b=true/\pS=s) E s) E s
abbrev ZF(C:Cx)(S:oY):Prop:=∀{a x xs ρ st s},oD C ρ st s->VC ρ a x->S.iter a st.H=some xs->∀(Q:Value->Shared->Prop)(E:Value->Shared->Prop),
 (∀(i:Addr)(P:Nat->Obj->Prop)(s':Shared)(o:Obj),oD C ρ st s'->pZ C.F s s'->s'.heap.get? i=some o->P 0 o->i∉ρ->i≠C.env.locals->C.ajU.get? i=none->(∀k o,P k o->∃n vs,o.cls=.type n/\o.data=.fields vs)->
  (∀(oO:List Addr)(oE:St)(s':Shared)(k:Nat)(o:Obj),ρ<+:oO->oD C oO oE s'->S.iter a oE.H=some xs->s'.heap.get? i=some o->P k o->i∉oO->
   (∀v,xs.2[k]?=some v->∀(Q:Option Value->Shared->Prop)(E:Value->Shared->Prop),(∀(h':Heap)(y:Value)(o':Obj)(n:Nat),Heap.SameBut i s'.heap h'->h'.get? i=some o'->P (k+1) o'->VC oO v y->Q (some y) {s' with heap:=h',toks:=s'.toks+n})->wpAny (model PG C.w) C.A (pyNext<|.ref i) Q E s')/\
   (xs.2.length<=k->∀(Q:Option Value->Shared->Prop)(E:Value->Shared->Prop),(∀(h':Heap)(n:Nat),Heap.ExtBut i s'.heap h'->Q none {s' with heap:=h',toks:=s'.toks+n})->wpAny (model PG C.w) C.A (pyNext<|.ref i) Q E s'))->
  Q (.ref i) s')->wpAny (model PG C.w) C.A (pyIter x) Q E s
abbrev ZO(C:Cx)(S:oY):Prop:=∀{f vs kv ρ s st fv xs ks},VC ρ f fv->oN (VC ρ) vs xs->oN (KR ρ) kv ks->Sd C (call fv xs ks) VC ρ s st (pX st<|S.call f vs kv st.H)
abbrev OKp(C:Cx)(S:oY):Prop:=∀{f ρ s st fv},oD C ρ st s->VC ρ f fv->S.kp f st.H=true->∃k,∀(Q:Keeper->Shared->Prop)(E:Value->Shared->Prop),Q k s->wpAny (model PG C.w) C.A (keeperOf fv) Q E s
abbrev YJ(C:Cx)(S:oY):Prop:=∀{v x ρ s st ov pl},VC ρ v ov->Sd C (getMethod ov x pl) (λρ(f:V×List V)(g:Value×List Value)=>VC ρ f.1 g.1/\oN (VC ρ) f.2 g.2) ρ s st (sO st<|S.qB v x st.H)
abbrev adU(C:Cx)(S:oY):Prop:=∀{op a b ρ s st x y},VC ρ a x->VC ρ b y->Sd C (compareOp op x y) VC ρ s st (sO st<|S.cmp op a b st.H)
abbrev adO(C:Cx)(S:oY):Prop:=∀{op a b ρ s st x y},VC ρ a x->VC ρ b y->Sd C (binaryOp op x y) VC ρ s st (uL st<|S.bin op a b st.H)
abbrev ad7(C:Cx)(S:oY):Prop:=∀{a ρ s st x},oD C ρ st s->VC ρ a x->S.idx a st.H=true->∀(Q:Bool->Shared->Prop)(E:Value->Shared->Prop),Q false s->wpAny (model PG C.w) C.A (getitemInPython x) Q E s
abbrev YX(C:Cx)(S:oY):Prop:=∀{a b ρ s st x y},VC ρ a x->VC ρ b y->S.idx a st.H=true->Sd C (getItem x y) VC ρ s st (pX st<|S.item a b st.H)
abbrev QP(C:Cx)(S:oY):Prop:=∀{a l u k ρ s st x xl xu xk i},VC ρ a x->VC ρ l xl->VC ρ u xu->VC ρ k xk->S.idx a st.H=true->s.heap.get? i=some ⟨.type "slice",none,.fields #[xl,xu,xk],#[]⟩->i∉ρ->C.ajU.get? i=none->i≠C.env.locals->Sd C (getItem x<|.ref i) VC ρ s st (uL st<|S.slice a l u k st.H)
structure o4(C:Cx)(S:oY):Prop where
 un:C.A.units+5<cLine
 comp:∀{e ρ s st},Sd C (eval e C.env) VC ρ s st<|S.comp C.env.scope e st
 Yi:∀{e use g ρ s st},(∀h' oO s' oE b v,ρ<+:oO->VC oO b v->Sd {C with ajU:=h'} (use v) (λU(U:Unit)U=>True) oO s' oE (g b oE))->Sd C (evalThenUse e C.env use) (λU(U:Unit)U=>True) ρ s st ((S.comp C.env.scope e st).then g)
 raise:∀{e p ρ s st},Sd C (exec (.Raise (some e) none p) C.env) (λU(U:Unit)(U:Flow)=>False) ρ s st<|S.raise C.env.scope e st
 stmt:∀{t ρ s st},Sd C (exec t C.env) (λU(U:Unit)f=>f=Flow.next) ρ s st<|S.stmt C.env.scope t st
 setattr:pi C S
 v8:rm C S
 uW:pv C S
 Ew:aas C S
 unpack:∀{a n ρ s st x},VC ρ a x->Sd C (unpackItems x n none) (λρ vs ys=>oN (VC ρ) vs ys/\vs.length=n) ρ s st (sO st<|S.unpack a n st.H)
 Ng:NP C S
 iter:ZF C S
 glob:∀{x v ρ s st},S.glob x=some v->Sd C (loadGlobal C.env x) VC ρ s st (some (.ok v,st))
 call:ZO C S
 kp:OKp C S
 star:∀{e ρ s st},Sd C (eval e C.env) VC ρ s st<|S.star C.env.scope e st
 attr:∀{v x ρ s st ov},VC ρ v ov->Sd C (getAttr ov x true) VC ρ s st (pX st<|S.attr v x st.H)
 qB:YJ C S
 cmp:adU C S
 bin:adO C S
 JZ:∀{op a ρ s st x},VC ρ a x->Sd C (unaryOp op x) VC ρ s st (sO st<|S.JZ op a st.H)
 Kt:∀{a ρ s st x},VC ρ a x->Sd C (truthy x) (λU b c=>b=c) ρ s st (sO st<|S.Kt a st.H)
 idx:ad7 C S
 item:YX C S
 slice:QP C S
section
variable{α β γ:Type}
theorem Sd.release{o:oM β}(h:Sd C t Rel ρ s st o):Sd C (release vs keep>>=λU=>t) Rel ρ s st o:=by intro G r oE e Γ p wy;simp[Sem.wp_bind'];exact h G r oE e Γ p wy
theorem Sd.operate(h:Sd C t Rel ρ s st o):Sd C (operate vs t) Rel ρ s st o:=by intro G r oE e Γ p wy;rw[Sem.wp_operate];exact h G r oE e Γ p wy
theorem Sd.keep(h:Sd C t Rel ρ s st o):Sd C (t.keep vs) Rel ρ s st o:=by intro G r oE e Γ p wy;rw[Sem.wp_keep];exact h G r oE e Γ p wy
end
set_option tactic.hygienic true in
theorem Br(e:Ms c=some v):Sd C (constValue C.env c) VC ρ s st<|some (.ok v,st):=by
 induction c<;>first|exact nn e|(obtain rfl:=aA e)
 case none=>exact Sd.pure rfl
 case bool=>exact Sd.pure rfl
 case int i=>
  exact Sd.of λG Q E k=>λΓ p U=>k _ _ ρ (a8 _) ⟨s.toks,rfl⟩ (G.tok 1)<|pZ.tok s 1
 case str i=>
  exact Sd.of λG Q E k=>λΓ p U=>k _ _ ρ (a8 _) ⟨s.toks,rfl⟩ (G.tok 1)<|pZ.tok s 1
set_option tactic.hygienic true in
theorem Xq{S:oY}(O:o4 C S){ρ:List Addr}{s:Shared}{st:St}(x)(pos):Sd C (eval (.Name x pos) C.env) VC ρ s st<|G9 S C.env.scope x st:=by
 exists C,S,ρ,s,st,x,pos,[O];refine iteInduction (λhs=>?_) λU=>?_
 .simp only[Am,aQ,hV,a5]at hs;have hd:=a7.mpr hs.1.1;split
  .rename_i hk;cases e:st.loc.lookup x with
   |none=>exact Sd.nil
   |some v=>
    refine Sd.of λG Q E k=>?_;exists m,(q8:G.fr.ns);have h:=q8.2 x hk;rw[e]at h;rcases em:m x with _|y
    .simp only[em]at h;exact h.elim
    .simp only[em]at h;exact iS (fD hs.2 hk q8.1 em<|k y s ρ (a8 _) h G<|.refl s) hd
  .rename_i hk;cases e:st.loc.lookup x with
   |none=>exact Sd.nil
   |some v=>
    refine Sd.of λG Q E k=>iS ?_ hd;cases ec:C.env.cells.lookup x with
    |none=> exact(G.fr.has x (.inl hk) ec).elim
    |some a=>
     obtain⟨_,_,u,hu,hl⟩:=G.fr.cell x a ec;rw[e]at hl;cases u with
     |none=>exact hl.elim
     |some y=>exact wpAny_loadName_cell hs.2 hk ec hu<|k y s ρ (a8 _) hl G<|.refl s
  .rename_i hk;cases e:st.loc.lookup x with
   |none=>exact Sd.nil
   |some v=>
    refine Sd.of λG Q E k=>iS ?_ hd;cases ec:C.env.cells.lookup x with
    |none=>exact(G.fr.has x (.inr hk) ec).elim
    |some a=>
     obtain⟨_,_,u,hu,hl⟩:=G.fr.cell x a ec;rw[e]at hl;cases u with
     |none=>exact hl.elim
     |some y=>exact wpAny_loadName_free hs.2 hk ec hu (k y s ρ (a8 _) hl G<|.refl s)<|a7.mpr hs.1.2
  .rename_i hk;rcases e:S.glob x with _|v
   .exact Sd.nil
   .exact λG r oE e'=>eC hs.2 hk (O.glob e G r oE e') hd
  .exact Sd.nil
 .exact Sd.nil
theorem TM.ext{ajU h h':Heap}{loc:Loc}(F:TM ρ env ajU h loc)(x:∀b o,h.get? b=some o->h'.get? b=some o):TM ρ env ajU h' loc:=by obtain⟨⟨m,hn,hl⟩,b,c,d,o,hs,kd,lo⟩:=F;exact⟨⟨m,hn.keeps x,hl⟩,b,c,λy a hm=>let⟨h1,h2,u,h3,h4⟩:=d y a hm;⟨h1,h2,u,h3.keeps x,h4⟩,o,hs,kd,lo⟩
theorem oD.ext(G:oD C ρ st s)(x:∀b o,s.heap.get? b=some o->h'.get? b=some o)(n):oD C ρ st {s with heap:=h',toks:=s.toks+n}:=
 ⟨G.sim.ext x,G.fr.ext x,by have:=G.tk;simp_all⟩
theorem oD.push(G:oD C ρ st s)(hf:o.isFreed=false)(c:OC C.w (ρ++[s.heap.objs.size]) ao o):
 oD C (ρ++[s.heap.objs.size]) {st with H:=st.H++[ao]} {s with heap:=s.heap.push o}:=by
 have Af:935<=s.heap.objs.size:=by obtain⟨m,o5⟩:=G.fr.ns;exact bS<|bW G.fr.lo o5.1.lt
 refine⟨G.sim.push Af hf c,?_,G.tk⟩;refine(G.fr.ext λU U e=>aZ o e).mono (⟨_,rfl⟩) (λhm=>?_) λx a hx hm=>?_
 .rcases aO.mp hm with h|h
  .exact G.fr.out h
  .obtain⟨m,q9⟩:=G.fr.ns;rw[aE]at h;exact absurd q9.1.lt<|h▸(dJ _)
 .obtain⟨h1,_,u,q8⟩:=G.fr.cell x a hx;rcases aO.mp hm with h|h
  .exact h1 h
  .rw[aE]at h;exact absurd q8.1.lt<|h▸(dJ _)
theorem oD.len(G:oD C ρ st s):ρ.length=st.H.length:=G.sim.len
theorem q7(G:oD C ρ st s):VC (ρ++[s.heap.objs.size]) (.ref st.H.length)<|.ref s.heap.objs.size:=by refine⟨_,?_,rfl⟩;rw[<-G.len,aS<|aI _,cD];rfl
theorem vD{st:St}{x:Str}{v:V}{y:Value}(hv:VC ρ v y):Sd C (bindName C.env x y) (λU U U=>True) ρ s st<|p0 C.env.scope x v st:=by
 exists C,ρ,s,st,x,v,y,_;refine iteInduction (λh=>?_) λU=>?_
 .simp only[aQ,a5,d8]at h;have U7:∀z,(z≠x->∀u,LR ρ (st.loc.lookup z) u->LR ρ ((put x v st.loc).lookup z) u):=λz hz u hu=>by rw[At,aL hz];exact hu
  have KA:LR ρ ((put x v st.loc).lookup x)<|some y:=by rw[At,aH rfl];exact hv
  refine Sd.of λG Q E k=>nM ?_;exists Q,E,_;exists m,(o5:G.fr.ns);rcases h.2 with hk|hk
  .refine k7 hk o5.1 (λh' Ex hs=>?_) (h.1▸rfl);exists h',_;refine k () _ ρ (a8 _) trivial ⟨G.sim.same hs G.fr.none G.fr.out,⟨⟨_,Ex,λz hz=>?_⟩,G.fr.none,G.fr.out,λz a hm=>?_,G.fr.own,G.fr.has,G.fr.kind,G.fr.lo⟩,by simp⟩ (pZ.heap s h' 1)
   .by_cases e:z=x
    .rw[aH e,e];exact KA
    .rw[aL e];exact U7 z e _<|o5.2 z hz
   .exists z,a,_;obtain⟨h1,h2,u,q9⟩:=G.fr.cell z a hm;refine⟨h1,h2,u,q9.1.sameBut hs h2,U7 z ?_ _ q9.2⟩;rintro rfl
    exact absurd hk<|G.fr.kind _ _ hm
  .rcases ec:C.env.cells.lookup x with _|a
   .exact(G.fr.has x (.inl hk) ec).elim
   .exists a,_;obtain⟨h1,h2,u,q8⟩:=G.fr.cell x a ec;obtain⟨o1,o2⟩:=G.fr.own x a ec hk;refine wpAny_storeName_cell h.1 hk ec q8.1 ?_;exists h';intro hc hs;have HB:C.env.locals≠a:=λe=>h2 e.symm;refine k () _ ρ (a8 _) trivial ⟨G.sim.same hs o1 h1,⟨⟨m,o5.1.sameBut hs HB,λz hz=>U7 z ?_ _<|o5.2 z hz⟩,G.fr.none,G.fr.out,λz b hb=>?_,G.fr.own,G.fr.has,G.fr.kind,G.fr.lo⟩,G.tk⟩ (pZ.oV s h')
    .rintro rfl
     rw[show C.env.kindOf z=some .cell from hk]at hz;simp at hz
    .exists z,b,_;by_cases e:b=a
     .subst e;obtain rfl:=o2 z hb;exact⟨h1,h2,some y,hc,KA⟩
     .obtain⟨g1,g2,u',g3,g4⟩:=G.fr.cell z b hb;refine⟨g1,g2,u',g3.sameBut hs e,U7 z ?_ _ g4⟩;rintro rfl
      exact e<|aA<|hb.symm.trans ec
 .exact Sd.nil
theorem Ur(h:oN (VC ρ) vs xs)(hz:vs.length<1000):Sd C (newList xs) VC ρ s st<|wU (.list vs) st:=
 Sd.of λG Q E k=>j7 (k _ _ _ ⟨_,rfl⟩ (q7 G) (G.push rfl ⟨xs.toArray,0,rfl,h.imp λU U=>VC.mono ⟨_,rfl⟩⟩) ⟨rfl,rfl,aI _,.refl _⟩)<|h.length▸(bC (bS hz)<|by decide)
theorem Sz:Sd C newDict VC ρ s st<|wU (.dict []) st:=
 Sd.of λG Q E k=>eD<|k _ _ _ ⟨_,rfl⟩ (q7 G) (G.push rfl ⟨#[],0,rfl,.nil,by decide⟩) ⟨rfl,rfl,aI _,.refl _⟩
theorem y5(h:oN (VC ρ) vs xs)(hz:vs.length<1000):Sd C (newTuple xs) VC ρ s st<|wU (.tuple vs) st:=
 Sd.of λG Q E k=>lK (k _ _ _ ⟨_,rfl⟩ (q7 G) (G.push rfl ⟨xs.toArray,0,rfl,h.imp λU U=>VC.mono ⟨_,rfl⟩⟩) ⟨rfl,rfl,aI _,.refl _⟩)<|h.length▸(bC (bS hz)<|by decide)
def S9(env:Env):List Addr:=env.cells.filterMap λc=>if env.kindOf c.1==some .cell then env.cells.lookup c.1 else none
set_option tactic.hygienic true in
theorem Pg(h:a∈S9 env):∃x,env.cells.lookup x=some a/\env.kindOf x=some .cell:=by
 exists env,a,_;exists c,(q_:jO.mp h);obtain⟨hc,e⟩:=q_;split at e
 .rename_i q;exact⟨_,e,a5.mp q⟩
 .exact nn e
theorem qz(h:env.cells.lookup x=some a)(k:env.kindOf x=some .cell):a∈S9 env:=
 jO.mpr ⟨(x,a),cF h,by refine a6 (aH (by rw[k];rfl)) ?_;exact h⟩
def Cx.wY(C:Cx)(h:Heap)(ρ:List Addr):Cx:={C with ajU:=hideAll h (C.env.locals::(S9 C.env++ρ))}
theorem Pj(e:(C.wY h ρ).ajU.get? b=some o):h.get? b=some o:=dS _ e
theorem zI(e:h.get? b=some o)(h1:b≠C.env.locals)(h2:b∉ρ)(h3:b∉S9 C.env):(C.wY h ρ).ajU.get? b=some o:=
 dL _ e (by simp[h1,h2,h3])
theorem De(m:b=C.env.locals\/b∈ρ\/b∈S9 C.env):(C.wY h ρ).ajU.get? b=none:=eM _ (by rcases m with h|h|h<;>simp[h])
theorem oD.kept(G:oD C ρ st s)(e:C.ajU.get? b=some o):b≠C.env.locals/\b∉ρ/\b∉S9 C.env:=by
 refine⟨?_,λhm=>?_,λhm=>?_⟩
 .rintro rfl;replace e:=G.fr.none▸e;exact nn e
 .replace e:=((G.sim.new b hm).1)▸e;exact nn e
 .obtain⟨x,h1,h2⟩:=Pg hm;replace e:=((G.fr.own x b h1 h2).1)▸e;exact nn e
theorem oD.Nh(G:oD C ρ st s)(e:s.heap.get? b=some o)(h:∀u,o.data≠.cell u):b∉S9 C.env:=λhm=>by obtain⟨x,q8⟩:=Pg hm;obtain⟨_,_,u,⟨o',h3,h4⟩,_⟩:=G.fr.cell x b q8.1;replace h3:=e▸h3;obtain rfl:=aA h3;exact h u h4
theorem oD.wY(G:oD C ρ st s)(hF:∀f∈C.F,∀o,s.heap.get? f=some o->∃es n,o.data=.dict es n):oD (C.wY s.heap ρ) ρ st s:=by refine⟨⟨G.sim.len,G.sim.nd,G.sim.obj,λa ha=>⟨De<|.inr<|.inl ha,(G.sim.new a ha).2⟩,⟨λb o e=>⟨o,Pj e,.refl _ _⟩,λf hf o e=>?_⟩⟩,⟨G.fr.ns,De<|.inl rfl,G.fr.out,G.fr.cell,λx a h k=>⟨De<|.inr<|.inr<|qz h k,(G.fr.own x a h k).2⟩,G.fr.has,G.fr.kind,G.fr.lo⟩,G.tk⟩;exact hF f hf o<|Pj e
theorem oD.zB(G:oD C ρ st s)(G':oD (C.wY s.heap ρ) oO oE s'):oD C oO oE s':=by
 exists C,ρ,oO,st,oE,s,s',_;have key:∀b o,C.ajU.get? b=some o->∃o',s.heap.get? b=some o'/\B3 C.F b o o'/\(C.wY s.heap ρ).ajU.get? b=some o':=λb o e=>by obtain⟨o',qV⟩:=G.sim.keep.1 b o e;have o5:=G.kept e;exact⟨o',qV.1,qV.2,zI qV.1 o5.1 o5.2.1 o5.2.2⟩
 refine⟨⟨G'.sim.len,G'.sim.nd,G'.sim.obj,λa ha=>?_,⟨λb o e=>?_,G.sim.keep.2⟩⟩,⟨G'.fr.ns,G.fr.none,G'.fr.out,G'.fr.cell,G.fr.own,G.fr.has,G.fr.kind,G.fr.lo⟩,G'.tk⟩
 .refine⟨?_,(G'.sim.new a ha).2⟩;rcases e:C.ajU.get? a with _|o
  .rfl
  .obtain⟨o',_,_,h3⟩:=key a o e;replace h3:=((G'.sim.new a ha).1)▸h3;rcases h3 with _|_
 .obtain⟨o',q9⟩:=key b o e;exists U6,(q8:G'.sim.keep.1 b o' q9.2.2);exact⟨U6,q8.1,q9.2.1.trans q8.2 λhb=>G.sim.keep.2 b hb o e⟩
theorem rN.zB(G:oD C ρ st s)(x:rN (C.wY s.heap ρ) oO c e s'):rN C oO c e s':=by
 have key:∀a,(C.wY s.heap ρ).ajU.get? a=none->C.ajU.get? a=none:=λa h=>by
  rcases q:C.ajU.get? a with _|o
  .rfl
  .obtain⟨o',e',_⟩:=G.sim.keep.1 a o q;replace h:=(zI e' (G.kept q).1 (G.kept q).2.1 (G.kept q).2.2)▸h;rcases h with _|_
 obtain⟨a,o,vs,a0,h1,h2,h3,h4,h5,h6,h7,h8,h9⟩:=x.ex;refine⟨a,o,vs,a0,h1,h2,h3,h4,h5,h6,key a h7,h8,?_⟩;rcases h9 with h9|⟨t,ot,vt,fl,g1,g2,g3,g4,g5,g6,g7,g8⟩
 .exact .inl h9
 .exact .inr ⟨t,ot,vt,fl,g1,g2,g3,g4,g5,key t g6,g7,g8⟩
def Wy(e:Value)(s:Shared):Prop:=∃a o vs t,e=.ref a/\s.heap.get? a=some o/\o.data=.fields vs/\vs[1]?=some (.ref t)
set_option genInjectivity false in
inductive Fl where
 |next|brk|cont|ret (v:V)
theorem yFl:Nonempty Fl:=⟨.next⟩
def FR(ρ:List Addr):Fl->Flow->Prop
 |.next,f=>f=.next
 |.brk,f=>f=.brk
 |.cont,f=>f=.cont
 |.ret v,f=>∃x,f=.ret x/\VC ρ v x
def Ge(it:Hp->Option (List Nat×List V))(xs:List Nat×List V)(asg:V->St->oM Unit)(body:St->oM Fl):List V->St->oM Fl
 |[],st=>if it st.H=some xs then some (.ok .next,st)else none
 |v::r,st=>if it st.H=some xs then(asg v st).then λU st=>(body st).then λf st=>match f with
  |.next|.cont=>Ge it xs asg body r st
  |.brk=>some (.ok .next,st)
  |.ret v=>some (.ok<|.ret v,st)else none
def tX(test:St->oM Bool)(body orelse:St->oM Fl):Nat->St->oM Fl
 |0,_=>none
 |n+1,st=>(test st).then λb st=>if b then(body st).then λf st=>match f with
  |.next|.cont=>tX test body orelse n st
  |.brk=>some (.ok .next,st)
  |.ret v=>some (.ok<|.ret v,st)else orelse st
def kOk(p:Nat×Obj):Bool:=Nat.blt p.1 935&&(match p.2.cls with|.none=>Nat.beq p.1 2|_=>true)
theorem SA(P):(qE P).all kOk=true:=by rfl'
set_option tactic.hygienic true in
theorem uC{w:World}{a:Addr}{o:Obj}(e:(KF w).lookup a=some o):a<935/\(o.cls≠.none\/a=cStatics):=by
 exists w,a,o,_;have hm:(a,o)∈KF w:=by
  have:∀(l:List<|Addr×Obj),l.lookup a=some o->(a,o)∈l:=by
   intro l;induction l with
   |nil=>intro e;exact nn e
   |cons p r ih=>
    intro e;obtain⟨b,x⟩:=p;simp only[List.lookup]at e;split at e
    .rename_i q;obtain rfl:=aA e;exact(a5.mp q)▸(.head _)
    .exact .tail _ (ih e)
  exact this _ e
 have h:=aX.mp (SA w.params) _ hm;rw[kOk,aQ]at h;refine⟨Nat.le_of_ble_eq_true h.1,?_⟩;have h2:=h.2;cases hc:o.cls with
 |none=>rw[hc]at h2;exact .inr<|Nat.eq_of_beq_eq_true h2
 |_=>exact .inl λh=>by injection h
theorem rC.keep{F:List Addr}{w:World}{ajU h:Heap}(T:rC w ajU)(k:uD F ajU h)(hi:∀f∈F,(KF w).lookup f=none):rC w h:=by
 exists F,w,ajU,h,_;refine⟨λa o e=>?_,?_,?_,?_,?_,?_⟩
 .have:=uC e;exact k.exact (T.K a o e) (λhm=>by replace e:=(hi a hm)▸e;exact nn e) this.2
 .exists mg,(n:T.glob);exact⟨mg,k.ns n⟩
 .exists mb,(q_:T.bi);obtain⟨n,r⟩:=q_;exact⟨mb,k.ns n,r⟩
 .exists mc,(q_:T.lim);obtain⟨n,r⟩:=q_;exact⟨mc,k.ns n,r⟩
 .exists _;exists ob,(q_:T.bm);obtain⟨e,q8⟩:=q_;exists o',(q_:k.1 _ _ e);obtain⟨e',l⟩:=q_;rcases l with rfl|⟨hm,_,sl,rfl⟩|⟨hc,_⟩
  .exact k9 ⟨_,e',q8.1,q8.2.1,q8.2.2⟩
  .exact k9 ⟨_,e',q8.1,q8.2.1,q8.2.2⟩
  .replace hc:=q8.1▸hc;injection hc
 .exists _;exists ps,(q_:T.tab);obtain⟨e,tr⟩:=q_;exists o',(q_:k.1 _ _ e);obtain⟨e',l⟩:=q_;rcases l with rfl|⟨hm,_,sl,rfl⟩|⟨_,_,_,vs,more,⟨hd,tr'⟩,rfl⟩
  .exact k9 ⟨ps,e',tr⟩
  .exists es,n,(hd:k.2 _ hm _ e);injection hd
  .injection hd with q_;subst q_;exact k9 ⟨ps++more,e',tr' tr⟩
structure oF(k:Nat)(C:Cx):Prop where
 top:rC C.w C.ajU
 hi:∀f∈C.F,(KF C.w).lookup f=none
 live:∀f∈C.F,∃o es n,C.ajU.get? f=some o/\o.data=.dict es n
 dp:C.A.depth+k<1000
 un:C.A.units+20*k<9000
 fn:C.env.scope.kind=.function
 gl:C.env.globals=mainGlobals/\C.env.builtins=builtinsNs
noncomputable abbrev An(env:Env):Prop:=env.scope.names.lookup ("split_command" :Str)≠none->env.code=.ref 884
structure pP(C:Cx):Prop where
 hh:C.A.handled=none
 mg:builtinsNs∈C.F
 cd:An C.env
 lo:935<=C.env.locals
 fr:∃outer,C.A.frames=some (C.env::outer)/\C.env.frame=some C.env.locals/\C.env.scope.kind≠.module/\∀e∈outer,e.scope.kind≠.module/\∃L∈C.F,L≠builtinsNs/\e.frame=some L
theorem B3.dict{F:List Addr}{b:Addr}{o o':Obj}{es:Array DictEntry}{n:Nat}(l:B3 F b o o')(hd:o.data=.dict es n):o'.data=.dict es n:=by
 exists F,b,o,o',es,n,_;rcases l with rfl|⟨_,_,sl,rfl⟩|⟨_,_,_,vs,more,hv,_⟩
 .exact hd
 .exact hd
 .replace hv:=hd▸hv;rcases hv.1 with _|_
theorem oF.cls{k:Nat}{C:Cx}(B:oF k C){ρ:List Addr}{st:St}{s:Shared}(G:oD C ρ st s):∀f∈C.F,∀o,s.heap.get? f=some o->∃es n,o.data=.dict es n:=λf hf o e=>by exists _;obtain⟨Ni,es,n,h0,hd⟩:=B.live f hf;obtain⟨o',e',l⟩:=G.sim.keep.1 f Ni h0;replace e':=e▸e';obtain rfl:=aA e';exact k9 ⟨es,n,l.dict hd⟩
theorem Kn{C:Cx}{ρ:List Addr}{st:St}{s:Shared}(G:oD C ρ st s):uD C.F C.ajU (C.wY s.heap ρ).ajU:=by refine⟨λb o e=>?_,G.sim.keep.2⟩;exists o',(q8:G.sim.keep.1 b o e);exact⟨o',zI q8.1 (G.kept e).1 (G.kept e).2.1 (G.kept e).2.2,q8.2⟩
theorem oF.wY{k:Nat}{C:Cx}(B:oF k C){ρ:List Addr}{st:St}{s:Shared}(G:oD C ρ st s):oF k<|C.wY s.heap ρ:=by refine⟨B.top.keep (Kn G) B.hi,B.hi,λf hf=>?_,B.dp,B.un,B.fn,B.gl⟩;obtain⟨Ni,es,n,q9⟩:=B.live f hf;obtain⟨o',q8⟩:=(Kn G).1 f Ni q9.1;exact⟨o',es,n,q8.1,q8.2.dict q9.2⟩
def Cx.at(C:Cx)(h:Heap):Cx:={C with ajU:=h}
section
variable{C:Cx}{β:Type}
inductive HQ{α:Type}(C:Cx)(Rel:List Addr->β->α->Prop)(ρ:List Addr)(s:Shared)(r:r8 β)(oE:St)(x:α)(s':Shared):Prop
 |mk (b:β) (oO:List Addr) (e:r=.ok b) (p:ρ<+:oO) (q:Rel oO b x) (g:oD C oO oE s') (n:pZ C.F s s')
  (k:∀i ob n,s.heap.get? i=some ob->i∉ρ->i≠C.env.locals->i∉C.F->ob.cls=.type n->(∀u,ob.data≠.cell u)->s'.heap.get? i=some ob/\i∉oO)
theorem Sd.held{k:Nat}{α:Type}{t:Sem α}{Rel:List Addr->β->α->Prop}{o:oM β}{ρ:List Addr}{s:Shared}{st:St}(B:oF k C)(h:∀h',oF k (C.at h')->Sd (C.at h') t Rel ρ s st o)(G:oD C ρ st s){r:r8 β}{oE:St}(e:o=some (r,oE)):
 wpAny (model PG C.w) C.A t (HQ C Rel ρ s r oE) (PE C ρ s r oE) s:=by
 refine bL (h (C.wY s.heap ρ).ajU (B.wY G) (G.wY<|B.cls G) r oE e) (λx s' P=>?_) λx s' P=>?_
 .obtain⟨b,oO,e1,hp,hr,G',n⟩:=P;refine⟨b,oO,e1,hp,hr,G.zB G',n,λi ob m ho hi hl hf hc hu=>?_⟩;have h0:=zI ho hl hi<|G.Nh ho hu;exact⟨G'.sim.keep.exact h0 hf<|.inl<|hc▸Value.noConfusion,λhm=>by replace h0:=((G'.sim.new i hm).1)▸h0;cases h0⟩
 .obtain⟨c,oO,e1,hp,hx,G',n⟩:=P;exact⟨c,oO,e1,hp,hx.zB G,G.zB G',n⟩
theorem Sd.Nj{k:Nat}{α:Type}{t:Sem α}{Rel:List Addr->β->α->Prop}{o:oM β}{ρ:List Addr}{s:Shared}{st:St}(B:oF k C)(h:∀h',oF k (C.at h')->Sd (C.at h') t Rel ρ s st o)(G:oD C ρ st s){b:β}{oE:St}(e:o=some (.ok b,oE)){Q:α->Shared->Prop}{E:Value->Shared->Prop}
 (kk:∀x s' oO,ρ<+:oO->Rel oO b x->oD C oO oE s'->pZ C.F s s'->(∀i ob n,s.heap.get? i=some ob->i∉ρ->i≠C.env.locals->i∉C.F->ob.cls=.type n->(∀u,ob.data≠.cell u)->s'.heap.get? i=some ob/\i∉oO)->Q x s'):
 wpAny (model PG C.w) C.A t Q E s:=
 bL (Sd.held B h G e) (λx s' P=>by obtain⟨_,oO,e,p,q,g,n,k⟩:=P;obtain rfl:=r8.ok.inj e;exact kk x s' oO p q g n k) λU U P=>by induction P;contradiction
theorem Sd.VN{k:Nat}{α:Type}{t:Sem α}{Rel:List Addr->β->α->Prop}{o:oM β}{ρ:List Addr}{s:Shared}{st:St}(B:oF k C)(h:∀h',oF k (C.at h')->Sd (C.at h') t Rel ρ s st o)(G:oD C ρ st s){c:V}{oE:St}(e:o=some (.exc c,oE)){Q:α->Shared->Prop}{E:Value->Shared->Prop}
 (kk:∀x s' oO,ρ<+:oO->rN C oO c x s'->oD C oO oE s'->pZ C.F s s'->E x s'):wpAny (model PG C.w) C.A t Q E s:=
 bL (Sd.held B h G e) (λU U P=>by rcases P with⟨⟩;contradiction) λx s' P=>by obtain⟨_,oO,e,p,q,g,n⟩:=P;rcases e with _|_;exact kk x s' oO p q g n
end
def big:Nat:=1000000
theorem rG:big<=sizeLine:=by decide
def lE(H:Hp)(i:Nat):Option<|List V:=(H[i]?).bind λo=>match o with
 |.list xs=>some xs
 |_=>none
def tE(H:Hp)(i:Nat):Option<|List V:=(H[i]?).bind λo=>match o with
 |.tuple xs=>some xs
 |_=>none
def dE(H:Hp)(i:Nat):Option<|List<|Str×V:=(H[i]?).bind λo=>match o with
 |.dict es=>some es
 |_=>none
def fE(H:Hp)(i:Nat):Option<|List (Str×V)×Nat:=(H[i]?).bind λo=>match o with
 |.o0 es n=>some (es,n)
 |_=>none
def sE(H:Hp)(i:Nat):Option<|List Str:=(H[i]?).bind λo=>match o with
 |.set xs=>some xs
 |_=>none
theorem q0{xs}(h:lE H i=some xs):H[i]?=some (.list xs):=by obtain⟨o,h1,h⟩:=aB.mp h;refine a6 h1 ?_;induction o<;>first|exact nn h|exact aV (λx=>some<|AO.list x)<|aA h
theorem zF{xs}(h:tE H i=some xs):H[i]?=some (.tuple xs):=by obtain⟨o,h1,h⟩:=aB.mp h;refine a6 h1 ?_;induction o<;>first|exact nn h|exact aV (λx=>some<|AO.tuple x)<|aA h
theorem tQ{xs}(h:dE H i=some xs):H[i]?=some (.dict xs):=by obtain⟨o,h1,h⟩:=aB.mp h;refine a6 h1 ?_;induction o<;>first|exact nn h|exact aV (λx=>some<|AO.dict x)<|aA h
theorem Cp{q}(h:fE H i=some q):H[i]?=some (.o0 q.1 q.2):=by obtain⟨o,h1,h⟩:=aB.mp h;refine a6 h1 ?_;induction o<;>first|exact nn h|exact aV (λx=>some<|AO.o0 x.1 x.2)<|aA h
theorem Fo{xs}(h:sE H i=some xs):H[i]?=some (.set xs):=by obtain⟨o,h1,h⟩:=aB.mp h;refine a6 h1 ?_;induction o<;>first|exact nn h|exact aV (λx=>some<|AO.set x)<|aA h
section
variable{γ:Type}
def vS(f:Str->Hp->Option γ):V->Hp->Option γ
 |.str x=>f x
 |_=>λU=>none
def vI(f:Int->Hp->Option γ):V->Hp->Option γ
 |.int x=>f x
 |_=>λU=>none
def vR(f:Nat->Hp->Option γ):V->Hp->Option γ
 |.ref i=>f i
 |_=>λU=>none
theorem E9{H:Hp}{q:γ}(h:vR f v H=some q):∃i,v=.ref i/\f i H=some q:=by induction v<;>first|exact nn h|exact⟨_,rfl,h⟩
def vL(f:Nat->List V->Hp->Option γ):V->Hp->Option γ:=vR λi H=>(lE H i).bind λxs=>if xs.length<big then f i xs H else none
end
abbrev pO:=Option<|r8 V×Hp
def lU(st:St)(o:Option Hp):oM Unit:=uL st<|o.map λh=>((),h)
theorem Sd.good{α β:Type}{t:Sem α}{Rel:List Addr->β->α->Prop}{o:oM β}(h:oD C ρ st s->Sd C t Rel ρ s st o):Sd C t Rel ρ s st o:=λG=>h G G
theorem Sd.plain{α β:Type}{t:Sem α}{Rel:List Addr->β->α->Prop}{b:β}(h:oD C ρ st s->∀Q E,(∀x n,Rel ρ b x->Q x {s with toks:=s.toks+n})->wpAny (model PG C.w) C.A t Q E s):Sd C t Rel ρ s st<|some (.ok b,st):=
 Sd.of λG Q E kk=>h G Q E λx n hr=>kk x _ ρ (a8 _) hr (G.tok n)<|pZ.tok s n
theorem Sd.rV{α β:Type}{t:Sem α}{Rel:List Addr->β->α->Prop}{b:β}(h:oD C ρ st s->∀Q E,(∀x,Rel ρ b x->Q x s)->wpAny (model PG C.w) C.A t Q E s):Sd C t Rel ρ s st<|some (.ok b,st):=
 Sd.of λG Q E kk=>h G Q E λx hr=>kk x s ρ (a8 _) hr G<|.refl s
theorem oD.list(G:oD C ρ st s)(hi:st.H[i]?=some (.list xs))(hv:VC ρ (.ref i) y):
 ∃a vs n,y=.ref a/\ρ[i]?=some a/\s.heap.get? a=some ⟨.type "list",none,.seq vs n,#[]⟩/\oN (VC ρ) xs vs.toList:=by
 exists _;obtain⟨a,ha,rfl⟩:=hv;obtain⟨o,ho,vs,n,rfl,h⟩:=G.sim.obj i a _ ha hi;exact k9 ⟨a,vs,n,rfl,ha,ho,h⟩
theorem oD.tuple(G:oD C ρ st s)(hi:st.H[i]?=some (.tuple xs))(hv:VC ρ (.ref i) y):
 ∃a vs n,y=.ref a/\ρ[i]?=some a/\s.heap.get? a=some ⟨.type "tuple",none,.seq vs n,#[]⟩/\oN (VC ρ) xs vs.toList:=by
 exists _;obtain⟨a,ha,rfl⟩:=hv;obtain⟨o,ho,vs,n,rfl,h⟩:=G.sim.obj i a _ ha hi;exact k9 ⟨a,vs,n,rfl,ha,ho,h⟩
theorem tN{vs:Array Value}(h:oN (VC ρ) xs vs.toList):xs.length=vs.size:=h.length
theorem F7{vs:Array Value}(h:oN (VC ρ) xs vs.toList)(hz:xs.length<big):vs.size<=sizeLine:=tN h▸bC (bS hz) rG
section
variable{α β γ δ:Type}
theorem gS{lift:Option γ->oM β}{T:Value->Sem α}(hl:lift none=none)(hv:VC ρ v y)(h:∀x t,Sd C (T<|.str x t) Rel ρ s st<|lift<|f x st.H):Sd C (T y) Rel ρ s st<|lift<|vS f v st.H:=by
 induction v<;>first|exact hl▸Sd.nil|skip
 obtain⟨t,rfl⟩:=hv;exact h _ t
theorem gI{lift:Option γ->oM β}{T:Value->Sem α}(hl:lift none=none)(hv:VC ρ v y)(h:∀x t,Sd C (T<|.int x t) Rel ρ s st<|lift<|f x st.H):Sd C (T y) Rel ρ s st<|lift<|vI f v st.H:=by
 induction v<;>first|exact hl▸Sd.nil|skip
 obtain⟨t,rfl⟩:=hv;exact h _ t
theorem gR{lift:Option γ->oM β}{T:Value->Sem α}(hl:lift none=none)(hv:VC ρ v y)(h:∀i a,ρ[i]?=some a->VC ρ (.ref i) (.ref a)->Sd C (T<|.ref a) Rel ρ s st (lift<|f i st.H)):Sd C (T y) Rel ρ s st<|lift<|vR f v st.H:=by
 induction v<;>first|exact hl▸Sd.nil|skip
 obtain⟨a,ha,rfl⟩:=hv;exact h _ a ha ⟨a,ha,rfl⟩
theorem gB{lift:Option γ->oM β}{g:δ->Option γ}(hl:lift none=none)(h:∀x,o=some x->Sd C t Rel ρ s st (lift<|g x)):Sd C t Rel ρ s st<|lift<|o.bind g:=by
 rcases o with _|x
 .exact hl▸Sd.nil
 .exact h x rfl
theorem As{lift:Option γ->oM β}{c:Prop}[Decidable c]{o:Option γ}(hl:lift none=none)(h:c->Sd C t Rel ρ s st (lift o)):Sd C t Rel ρ s st<|lift<|if c then o else none:=by
 by_cases q:c
 .rw[aH q];exact h q
 .rw[aL q,hl];exact Sd.nil
theorem gO{lift:Option γ->oM β}(h:Sd C t Rel ρ s st<|lift o)(h':Sd C t Rel ρ s st<|lift o'):Sd C t Rel ρ s st<|lift<|o.or o':=by
 rcases o with _|_
 .exact h'
 .exact h
theorem ZD{lift:Option γ->oM β}{c:Prop}[Decidable c]{o o':Option γ}(h:c->Sd C t Rel ρ s st (lift o))(h':¬c->Sd C t Rel ρ s st (lift o')):Sd C t Rel ρ s st<|lift<|if c then o else o':=by
 by_cases q:c
 .rw[aH q];exact h q
 .rw[aL q];exact h' q
theorem gL{lift:Option γ->oM β}{T:Value->Sem α}(hl:lift none=none)(hv:VC ρ v y)(h:∀i xs a vs n,ρ[i]?=some a->s.heap.get? a=some ⟨.type "list",none,.seq vs n,#[]⟩->oN (VC ρ) xs vs.toList->xs.length<big->Sd C (T<|.ref a) Rel ρ s st (lift<|f i xs st.H)):Sd C (T y) Rel ρ s st<|lift<|vL f v st.H:=
 gR hl hv λi a ha hv=>gB hl λxs hi=>As hl λhz=>Sd.good λG=>by exists _;obtain⟨a',vs,n,e,q8⟩:=G.list (q0 hi) hv;rcases e with _|_;exact k9<|h i xs a vs n ha q8.2.1 q8.2.2 hz
end
def tT(f:V->Option PyData):List V->Option (List PyData)
 |[]=>some []
 |v::r=>(f v).bind λd=>(tT f r).map (d:: ·)
def rd(n:Nat)(v:V)(H:Hp):Option PyData:=match v with
 |.none=>some .none
 |.bool b=>some<|.bool b
 |.int i=>some<|.int i
 |.str x=>some<|.str x
 |.ref i=>(match n with
  |0=>none
  |n+1=>(lE H i).elim ((tE H i).bind λxs=>(tT (λv=>rd n v H) xs).bind λds=>some<|.tuple ds) λxs=>(tT (λv=>rd n v H) xs).bind λds=>some<|.list ds)
 |_=>none
theorem yF(hf:∀v y d,VC ρ v y->f v=some d->(∃as,Reads s.heap y d as)/\d.depth<=m)(h:oN (VC ρ) xs ys)(e:tT f xs=some ds):(∃as,ReadsAll s.heap ys ds as)/\PyData.depthAll ds<=m:=by
 induction h generalizing ds with
 |nil=>obtain rfl:=aA e;exact⟨⟨[],.nil⟩,cV _⟩
 |cons h t ih=> obtain⟨d,q8⟩:=aB.mp e;obtain⟨ds',VO,rfl⟩:=a9.mp q8.2;obtain⟨⟨as,ra⟩,h1⟩:=hf _ _ d h q8.1;obtain⟨⟨bs,rb⟩,h2⟩:=ih VO;exact⟨⟨_,.cons ra rb⟩,Nat.max_le.mpr ⟨h1,h2⟩⟩
set_option tactic.hygienic true in
theorem Gb(G:oD C ρ st s)(n):∀v y d,VC ρ v y->rd n v st.H=some d->(∃as,Reads s.heap y d as)/\d.depth<=n:=by
 exists C,ρ,st,s,n,[G];induction n with
 |zero=>
  intro v y d hv e;induction v<;>first|exact nn e|skip
  .subst hv;obtain rfl:=aA e;exact⟨⟨_,.none⟩,aI _⟩
  .subst hv;obtain rfl:=aA e;exact⟨⟨_,.bool _⟩,aI _⟩
  .obtain⟨t,rfl⟩:=hv;obtain rfl:=aA e;exact⟨⟨_,.int _ t⟩,aI _⟩
  .obtain⟨t,rfl⟩:=hv;obtain rfl:=aA e;exact⟨⟨_,.str _ t⟩,aI _⟩
 |succ n ih=>
  intro v y d hv e;induction v<;>first|exact nn e|skip
  .subst hv;obtain rfl:=aA e;exact⟨⟨_,.none⟩,cV _⟩
  .subst hv;obtain rfl:=aA e;exact⟨⟨_,.bool _⟩,cV _⟩
  .obtain⟨t,rfl⟩:=hv;obtain rfl:=aA e;exact⟨⟨_,.int _ t⟩,cV _⟩
  .obtain⟨t,rfl⟩:=hv;obtain rfl:=aA e;exact⟨⟨_,.str _ t⟩,cV _⟩
  rename_i i;rcases hl:lE st.H i with _|xs
  .replace e:((tE st.H i).bind λxs=>(tT (λv=>rd n v st.H) xs).bind λds=>some<|PyData.tuple ds)=some d:=by have e:(lE st.H i).elim _ _=_:=e;rw[hl]at e;exact e
   obtain⟨xs,hi,e⟩:=aB.mp e;obtain⟨ds,VO,e⟩:=aB.mp e;obtain rfl:=aA e;obtain⟨a,vs,m,rfl,q8⟩:=G.tuple (zF hi) hv;obtain⟨⟨as,ra⟩,hd⟩:=yF ih q8.2.2 VO;exact⟨⟨_,.tuple q8.2.1 rfl rfl ra⟩,gQ hd⟩
  .exists _;replace e:((tT (λv=>rd n v st.H) xs).bind λds=>some<|PyData.list ds)=some d:=by have e:(lE st.H i).elim _ _=_:=e;rw[hl]at e;exact e
   obtain⟨ds,VO,e⟩:=aB.mp e;obtain rfl:=aA e;obtain⟨a,vs,m,rfl,q9⟩:=G.list (q0 hl) hv;obtain⟨⟨as,ra⟩,hd⟩:=yF ih q9.2.2 VO;exact k9 ⟨⟨_,.list q9.2.1 rfl rfl ra⟩,gQ hd⟩
theorem H7{h:Heap}{ds:List DictEntry}{n:Nat}(ho:h.get? a=some (dictOf ds n))(hal:oN (EC w ρ) es ds)(Fp:(es.map (·.1)).Nodup):
 ∃rQ,h.DictOf (strKind PG w) a rQ/\oN (KR ρ) es rQ:=by
 exists ρ,w,h,a,es,ds,n,_;have key:∀{es:List (Str×V)}{ds:List DictEntry},oN (EC w ρ) es ds->∃rQ,Pairs (strKind PG w) ds rQ/\oN (KR ρ) es rQ/\rQ.map (·.1)=es.map (·.1)/\∀e∈ds,∃k,(strKind PG w).is k e.key=true/\e.hash=(strKind PG w).hash k:=by
  exists es,ds;intro h;induction h with
  |nil=>exact⟨[],.nil,.nil,rfl,λU h=>absurd h<|bG⟩
  |@cons e d l m hc ht ih=>
   exists e,d,l,m,_;exists rQ,(o5:ih);obtain⟨⟨t,hk⟩,q9⟩:=hc;have his:(strKind PG w).is e.1 d.key=true:=by rw[hk];exact hZ PG w e.1 t
   refine⟨(e.1,d.val)::rQ,.cons his rfl o5.1,.cons ⟨rfl,q9.2⟩ o5.2.1,by simp[o5.2.2.1],?_⟩;exists x;intro hx;rcases aK.mp hx with rfl|hx
   .exact⟨e.1,his,q9.1⟩
   .exact o5.2.2.2 x hx
 exists rQ,(q8:key hal);exact⟨rQ,⟨_,ds.toArray,n,ho,⟨rfl,rfl,rfl⟩,rfl,λe he=>q8.2.2.2 e<|by simpa using he,by simpa using q8.1,by rw[q8.2.2.1];exact Fp⟩,q8.2.1⟩
theorem Fy(hd:h.DictOf (strKind PG w) a rQ)(hr:oN (KR ρ) es rQ):∃o,h.get? a=some o/\OC w ρ (.dict es) o:=by
 obtain⟨o,ds,ep,ho,⟨e1,e2,e3⟩,cs,hk,hp,Fp⟩:=hd;obtain⟨oc,q9⟩:=o;dsimp only at e1 e2 e3 cs;subst e1 e2 e3 cs;refine⟨_,ho,ds,ep,rfl,?_,?_⟩
 .have cu:∀e∈ds.toList,∃k,(strKind PG w).is k e.key=true/\e.hash=(strKind PG w).hash k:=λe he=>hk e (by simpa using he);clear hk ho Fp;generalize ds.toList=l at hp cu;induction hp generalizing es with
  |nil=>cases hr;exact .nil
  |@cons e kv es' HC h1 h2 h3 ih=>
   cases hr with
   |@cons a _ l' _ hh ht=> refine .cons ?_<|ih ht λx hx=>cu x<|.tail _ hx;obtain⟨k,q8⟩:=cu e<|.head _;obtain⟨t,he⟩:=jF h1;have hkk:=(strKind PG w).inj e.key k kv.1 q8.1 h1;subst hkk;exact⟨⟨t,by exact hh.1▸he⟩,by refine hh.1▸q8.2,by rw[h2];exact hh.2⟩
 .have:es.map (·.1)=rQ.map (·.1):=by
   clear hp hk ho Fp;induction hr with
   |nil=>rfl
   |cons h _ ih=>simp[h.1,ih]
  rw[this];exact Fp
theorem oD.dict(G:oD C ρ st s){i:Nat}{es:List (Str×V)}(hi:st.H[i]?=some (.dict es)){y:Value}(hv:VC ρ (.ref i) y):
 ∃a rQ,y=.ref a/\ρ[i]?=some a/\s.heap.DictOf (strKind PG C.w) a rQ/\oN (KR ρ) es rQ:=by
 exists _;obtain⟨a,ha,rfl⟩:=hv;obtain⟨o,ho,ds,n,rfl,q9⟩:=G.sim.obj i a _ ha hi;exists rQ,(q8:H7 ho q9.1 q9.2);exact k9 ⟨a,rQ,rfl,ha,q8.1,q8.2⟩
theorem oD.o0(G:oD C ρ st s){i ep:Nat}{es:List (Str×V)}(hi:st.H[i]?=some (.o0 es ep)){y:Value}(hv:VC ρ (.ref i) y):
 ∃a rQ,y=.ref a/\ρ[i]?=some a/\s.heap.DictAt (strKind PG C.w) a rQ ep/\oN (KR ρ) es rQ:=by
 exists C,ρ,st,s,i,ep,es,y,[G,hi,hv];exists a,(q_:hv);obtain⟨ha,rfl⟩:=q_;exists o,(q_:G.sim.obj i a _ ha hi);obtain⟨ho,ds,rfl,q8⟩:=q_;exists ds,_;exists rQ,(q_:H7 ho q8.1 q8.2);obtain⟨⟨o',ds',n',uI,r⟩,h2⟩:=q_;have e:=uI;replace e:=ho▸e;obtain rfl:=aA e;obtain⟨r1,r2,r3⟩:=r;rcases r2 with _|_;exact⟨a,rQ,rfl,ha,⟨_,_,ho,r1,rfl,r3⟩,h2⟩
theorem vU(h:oN (KR ρ) es rQ)(x):LR ρ (es.lookup x)<|valueAt rQ x:=by
 unfold valueAt;induction h with
 |nil=>exact trivial
 |@cons e kv l m hh ht ih=>
  obtain⟨ek,ev⟩:=e;obtain⟨kk,kv⟩:=kv;obtain⟨h1,h2⟩:=hh;dsimp only at h1 h2;subst h1;by_cases hx:x=ek
  .subst hx;simp only[List.lookup,bM,jA,decide_true];exact h2
  .have hb:=a7.mpr hx;simp only[List.lookup,hb,jA,cQ<|dQ hx];exact ih
theorem oD.setOf(G:oD C ρ st s){i:Nat}{xs:List Str}(hi:st.H[i]?=some (.set xs)){y:Value}(hv:VC ρ (.ref i) y):
 ∃a,ρ[i]?=some a/\y=.ref a/\s.heap.SetOf (strKind PG C.w) a (λk=>xs.contains k) xs.length:=by
 exists C,ρ,st,s,i,xs,y,[G,hi,hv];exists a,(q9:hv);exists o,(q_:G.sim.obj i a _ q9.1 hi);obtain⟨ho,es,ep,t,q8⟩:=q_;exact⟨a,q9.1,q9.2,o,es,ep,t,ho,q8.1,q8.2.1,q8.2.2.1,λk=>by rw[bB];exact q8.2.2.2.1 k,q8.2.2.2.2.1,q8.2.2.2.2.2.1,q8.2.2.2.2.2.2⟩
def Fw(x y:Str):Bool:=!(Builtin.Str.occurrences x y 0 x.length 1).isEmpty
def eqV(a b:V)(H:Hp):Option Bool:=(rd 3 a H).bind λda=>(rd 3 b H).bind λdb=>if(da.canLay0&&db.canLay0)=true then some (PyData.eqv da db)else none
def Uq(a b:V):Option Bool:=match b with
 |.none=>some<|a==.none
 |.bool b=>(match a with
  |.bool a=>some<|a==b
  |_=>none)
 |.ty b=>(match a with
  |.ty a=>some<|a==b
  |_=>none)
 |_=>none
def D4(y:Str)(xs:List V)(H:Hp):Option Bool:=(tT (λv=>rd 2 v H) xs).bind λds=>if(PyData.canLayAll0 ds&&PyData.strOk y)=true then some (ds.any λd=>PyData.eqv d<|.str y)else none
def L6(a b:V)(H:Hp):Option Bool:=vS (λy H=>(vS (λx U=>some<|Fw x y) b H).or<|vR (λi H=>(lE H i).bind λxs=>D4 y xs H) b H) a H
def Hb(a b:V)(H:Hp):Option Bool:=vS (λy=>vR (λi H=>((tE H i).bind λxs=>D4 y xs H).or<|((dE H i).bind λes=>some (es.lookup y).isSome).or<|(sE H i).bind λxs=>some<|xs.contains y) b) a H
def We(f:Int->Int->Bool)(a b:V)(H:Hp):Option V:=vI (λa=>vI (λb U=>some<|.bool<|f a b) b) a H
def Bk(op:CmpOp)(a b:V)(H:Hp):Option V:=match op with
 |.Eq=>(eqV a b H).bind λr=>some<|.bool r
 |.NotEq=>(eqV a b H).bind λr=>some<|.bool (!r)
 |.Lt=>We (λa b=>decide<|a<b) a b H
 |.Gt=>We (λa b=>decide<|a>b) a b H
 |.GtE=>We (λa b=>decide<|a >=b) a b H
 |.In=>((L6 a b H).or<|Hb a b H).bind λr=>some<|.bool r
 |.NotIn=>(L6 a b H).bind λr=>some<|.bool (!r)
 |.Is=>(Uq a b).bind λr=>some<|.bool r
 |.IsNot=>(Uq a b).bind λr=>some<|.bool (!r)
 |_=>none
theorem VC.isNone(h:VC ρ a x):(x==Value.none)=(a==.none):=by induction a<;>first|(subst h;rfl)|(obtain⟨t,rfl⟩:=h;rfl)|(obtain⟨t,_,rfl⟩:=h;rfl)
inductive IsI(x y:Value)(r:Bool):Prop
 |none (e:y=.none) (h:(x==Value.none)=r)
 |plain (e:plainIs x y=true) (h:(x==y)=r)
set_option tactic.hygienic true in
theorem Yc(h:Uq a b=some r)(ha:VC ρ a x)(hb:VC ρ b y):IsI x y r:=by
 induction b<;>first|exact nn h|skip
 .subst hb;obtain rfl:=aA h;exact .none rfl ha.isNone
 .induction a<;>first|exact nn h|skip
  rcases h with _|_;subst ha;subst hb;refine .plain rfl ?_;rename_i c d;induction c<;>induction d<;>rfl
 .induction a<;>first|exact nn h|skip
  obtain rfl:=aA h;subst ha;subst hb;refine .plain rfl ?_;rename_i m n;by_cases hm:n=m
  .subst hm;simp[bM]
  .rw[a7.mpr hm,a7.mpr λq=>hm<|by injection q]
inductive EqI(C:Cx)(x y:Value)(r:Bool)(h:Heap):Prop
 |mk (da db:PyData) (as bs:List Addr) (ra:Reads h x da as) (rb:Reads h y db bs) (c1:da.canLay0=true) (c2:db.canLay0=true) (hd:C.A.units+min da.depth db.depth<cLine) (e:PyData.eqv da db=r)
theorem oF.units(B:oF k C):C.A.units+5<cLine:=by have:=B.un;show C.A.units+5<9900;exact lk this
theorem N1(B:oF k C)(G:oD C ρ st s)(ha:VC ρ a x)(hb:VC ρ b y)(e:eqV a b st.H=some r):EqI C x y r s.heap:=by obtain⟨da,h1,e⟩:=aB.mp e;obtain⟨db,h2,e⟩:=aB.mp e;obtain⟨hc,e⟩:=Iu e;cases e;simp only[aQ]at hc;obtain⟨⟨as,ra⟩,d1⟩:=Gb G 3 a x da ha h1;obtain⟨⟨bs,rb⟩,d2⟩:=Gb G 3 b y db hb h2;exact⟨da,db,as,bs,ra,rb,hc.1,hc.2,bW (fJ (bC (fV ..)<|bC d1<|cR _ _) _) B.units,rfl⟩
inductive adS(C:Cx)(y:Str)(ds:List PyData)(vs:List Value)(h:Heap):Prop
 |mk (as:List Addr) (ra:ReadsAll h vs ds as) (c1:PyData.canLayAll0 ds=true) (c2:(PyData.str y).canLay0=true) (hd:C.A.units+1+min (PyData.depthAll ds) (PyData.depth<|.str y)<cLine)
theorem Kh(B:oF k C)(G:oD C ρ st s){xs:List V}{vs:List Value}(hx:oN (VC ρ) xs vs)(e:D4 y xs st.H=some r):∃ds,adS C y ds vs s.heap/\(ds.any λd=>PyData.eqv d<|.str y)=r:=by exists k,C,ρ,st,s,y,xs,vs,r,[B,G,hx,e];exists ds,(q_:aB.mp e);obtain⟨VO,e⟩:=q_;obtain⟨hc,e⟩:=Iu e;cases e;simp only[aQ]at hc;obtain⟨⟨as,ra⟩,hd⟩:=yF (Gb G 2) hx VO;exact⟨ds,⟨as,ra,hc.1,by simpa[PyData.canLay0]using hc.2,bW (by rw[nQ];exact fJ (bC (fJ (bC (fV ..) hd) 1)<|cR _ _) _) B.units⟩,rfl⟩
theorem jd{T:Value->Value->Sem Value}(ha:VC ρ a x)(hb:VC ρ b y)(h:∀a b t u Q E,Q (.bool<|f a b) s->wpAny (model PG C.w) C.A (T (.int a t)<|.int b u) Q E s):Sd C (T x y) VC ρ s st<|sO st<|We f a b st.H:=
 gI (T:=λx=>T x y) rfl ha λa t=>gI rfl hb λb u=>Sd.rV λG Q E kk=>h a b t u Q E<|kk _ rfl
theorem Wl(B:oF k C){T:Value->Value->Sem Value}{g:Bool->V}{x y:Value}(ha:VC ρ a x)(hb:VC ρ b y)(e:L6 a b st.H=some r)
 (h1:∀u v t t' Q E,(∀z,VC ρ (g<|Fw u v) z->Q z s)->wpAny (model PG C.w) C.A (T (.str v t)<|.str u t') Q E s)
  (h2:∀v t z ds as Q E,Reads s.heap z (.list ds) as->PyData.canLayAll0 ds=true->(PyData.str v).canLay0=true->C.A.units+1+min (PyData.depthAll ds) (PyData.depth<|.str v)<cLine->(∀z,VC ρ (g<|ds.any λd=>PyData.eqv d<|.str v) z->Q z s)->wpAny (model PG C.w) C.A (T (.str v t) z) Q E s):
  Sd C (T x y) VC ρ s st (some (.ok<|g r,st)):=by
  induction a<;>first|exact nn e|skip
  obtain⟨t,rfl⟩:=ha;induction b<;>first|exact nn e|skip
  .obtain rfl:=aA e;obtain⟨u,rfl⟩:=hb;exact Sd.rV λG Q E kk=>h1 _ _ t u Q E λz hz=>kk z hz
  .obtain⟨xs,q9⟩:=aB.mp e;refine Sd.rV λG Q E kk=>?_;obtain⟨a',vs,m,rfl,q8⟩:=G.list (q0 q9.1) hb;obtain⟨ds,⟨as,ra,c1,c2,hd⟩,rfl⟩:=Kh B G q8.2.2 q9.2;exact h2 _ t _ ds _ Q E (.list q8.2.1 rfl rfl ra) c1 c2 hd λz hz=>kk z hz
set_option tactic.hygienic true in
theorem Zd(B:oF k C){x y:Value}(ha:VC ρ a x)(hb:VC ρ b y):Sd C (compareOp .In x y) VC ρ s st<|sO st<|(Hb a b st.H).bind λr=>some<|.bool r:=by
 exists k,C,ρ,st,s,a,b,x,y,[B,ha,hb];refine gB rfl ?_;exists r;intro e;induction a<;>first|exact nn e|skip
 rename_i z;obtain⟨t,rfl⟩:=ha;induction b<;>first|exact nn e|skip
 rename_i i;replace e:((tE st.H i).bind _).or (((dE st.H i).bind _).or<|(sE st.H i).bind _)=some r:=e;rcases h1:tE st.H i with _|xs
 .replace e:=h1▸e;rcases h2:dE st.H i with _|es
  .rw[h2]at e;obtain⟨xs,q8⟩:=aB.mp e;injection q8.2 with q_;subst q_;refine Sd.plain λG Q E kk=>?_;obtain⟨a',Qz,rfl,hS⟩:=G.setOf (Fo q8.1) hb;exact wpAny_inSet_of (hZ PG C.w _ t) rfl hS<|kk _ 1 rfl
  .replace e:=h2▸e;obtain rfl:=aA e;refine Sd.plain λG Q E kk=>?_;obtain⟨a',rQ,rfl,q9⟩:=G.dict (tQ h2) hb;have:=vU q9.2.2 z;refine wpAny_in_of (hZ PG C.w _ t) ?_ q9.2.1.mapOf (kk _ 1 ?_)
   .have h9:=(G.sim.new a'<|aR q9.1).2;refine a7.mpr λq=>?_;simp only[q]at h9;exact absurd h9<|by decide
   .induction h1:es.lookup z<;>rcases h2:valueAt rQ z with _|_<;>rw[h1,h2]at this<;>first|exact this.elim|rfl
 .rw[h1]at e;have no:∀{q},st.H[i]?=some q->q=.tuple xs:=λh=>aA<|h.symm.trans<|zF h1;cases h2:dE st.H i with
  |some es=>injection no (tQ h2)
  |none=>
  cases h3:sE st.H i with
  |some es=>injection no (Fo h3)
  |none=>
  rw[h2,h3]at e;replace e:D4 z xs st.H=some r:=by revert e;show((D4 z xs st.H).or none)=some r->_;induction D4 z xs st.H<;>exact id
  refine Sd.rV λG Q E kk=>?_;obtain⟨a',vs,m,rfl,o5⟩:=G.tuple (zF h1) hb;obtain⟨ds,⟨as,ra,c1,c2,hd⟩,rfl⟩:=Kh B G o5.2.2 e;exact lL (.tuple o5.2.1 rfl rfl ra) (.str _ t) c1 c2 hd<|kk _ rfl
theorem NU(B:oF k C)(ha:VC ρ a x)(hb:VC ρ b y):Sd C (compareOp op x y) VC ρ s st<|sO st<|Bk op a b st.H:=by
 induction op with
 |Eq=>
  exact gB rfl λr e=>Sd.rV λG Q E kk=>by obtain⟨da,db,as,bs,ra,rb,c1,c2,hd,rfl⟩:=N1 B G ha hb e;exact SeqAt.compareEq_reads ra rb c1 c2 hd<|kk _ rfl
 |NotEq=>
  exact gB rfl λr e=>Sd.rV λG Q E kk=>by obtain⟨da,db,as,bs,ra,rb,c1,c2,hd,rfl⟩:=N1 B G ha hb e;exact SeqAt.compareNe_reads ra rb c1 c2 hd<|kk _ rfl
 |Lt=>exact jd ha hb λa b t u Q E q=>nL q
 |Gt=>exact jd ha hb λa b t u Q E q=>n7 q
 |GtE=>exact jd ha hb λa b t u Q E q=>P.ge_int q
 |LtE=>exact Sd.nil
 |Is=>
  exact gB rfl λr e=>Sd.rV λG Q E kk=>by
   rcases Yc e ha hb with⟨rfl,h⟩|⟨h1,h2⟩
   .exact is_none (h▸(kk _ rfl))
   .exact wpAny_is_plain h1 (h2▸(kk _ rfl))
 |IsNot=>
  exact gB rfl λr e=>Sd.rV λG Q E kk=>by
   rcases Yc e ha hb with⟨rfl,h⟩|⟨h1,h2⟩
   .exact isNot_none (h▸(kk _ rfl))
   .exact wpAny_isNot_plain h1 (h2▸(kk _ rfl))
 |In=>
  show Sd C _ _ _ _ _<|sO st<|((L6 a b st.H).or<|Hb a b st.H).bind λr=>some<|V.bool r;rcases e:L6 a b st.H with _|r
  .exact Zd B ha hb
  .exact Wl B ha hb e (λu v t t' Q E q=>P.in_str<|q _ rfl) λv t z ds as Q E h1 h2 h3 h4 q=>SeqAt.in_list_reads h1 (.str _ t) h2 h3 h4<|q _ rfl
 |NotIn=>exact gB rfl λr e=>Wl B (g:=λr=>V.bool (!r)) ha hb e (λu v t t' Q E q=>P.notIn_str<|q _ rfl) λv t z ds as Q E h1 h2 h3 h4 q=>SeqAt.notIn_list_reads h1 (.str _ t) h2 h3 h4<|q _ rfl
noncomputable abbrev oP(l:List Nat):Str:=⟨l.toArray⟩
theorem rF(l):(oP l).length=l.length:=rfl
theorem wT(l):(oP l).cps.toList=l:=by simp[oP]
theorem FO(x):oP x.cps.toList=x:=by induction x;simp[oP]
theorem K5{l m:List Nat}:oP l=oP m<->l=m:=by
 constructor
 .intro h;have:=aV (λs:Str=>s.cps.toList) h;simpa using this
 .rintro rfl;rfl
theorem Bj(l m):oP l++oP m=oP (l++m):=by apply Str.ext';simp only[Str.cps_append];simp[oP]
def rS(c:Nat):List Nat->List (List Nat)
 |[]=>[[]]
 |d::r=>if d=c then[]::rS c r else match rS c r with
  |p::ps=>(d::p)::ps
  |[]=>[[d]]
theorem Bp:rS c []=[[]]:=rfl
theorem Gl:rS c (d::r)=if d=c then[]::rS c r else match rS c r with|p::ps=>(d::p)::ps|[]=>[[d]]:=rfl
theorem Ax(c):∀l,rS c l≠[]:=by
 intro zr;induction zr with
 |nil=> simp[Bp]
 |cons d r pD=>
  dsimp only[Bp,Gl];split
  .simp
  .split<;>simp
theorem Bt(c):∀p,c∉p->rS c p=[p]:=by
 intro zr;induction zr with
 |nil=> intro _;exact rfl
 |cons d r pD=> intro h;dsimp only[Bp,Gl];rw[aL (λe=>h (e▸cN):d≠c),pD λm=>h<|cO _ m]
theorem B8(c):∀p r,c∉p->rS c (p++c::r)=p::rS c r:=by
 exists zr;induction zr with
 |nil=> intro r _;simp[Bp,Gl]
 |cons d q pD=>
  intro r h;show(if d=c then[]::rS c (q++c::r)else match rS c (q++c::r)with
  |p::ps=>(d::p)::ps
  |[]=>[[d]])=_
  rw[aL (λe=>h (e▸cN):d≠c),pD r λm=>h<|cO _ m]
set_option tactic.hygienic true in
theorem Ml(c):∀l,(rS c l).length<=l.length+1:=by
 intro zr;induction zr with
 |nil=> simp[Bp]
 |cons d r pD=>
  have ih:=pD;dsimp only[Bp,Gl];split
  .simp;omega
  .split
   .rename_i h;rw[h]at ih;simp at ih⊢;exact dG ih
   .simp
def jn(s:List Nat):List (List Nat)->List Nat
 |[]=>[]
 |[p]=>p
 |p::q::r=>p++s++jn s (q::r)
theorem ac5{s:List Nat}:jn s []=[]:=rfl
theorem adT{s p:List Nat}:jn s [p]=p:=rfl
theorem RM{s p q:List Nat}{r}:jn s (p::q::r)=p++s++jn s (q::r):=rfl
theorem AQ(s p){r:List (List Nat)}(h:r≠[]):jn s (p::r)=p++s++jn s r:=by
 rcases r with _|⟨q,r⟩
 .exact absurd rfl h
 .rfl
theorem Bx(s):∀ps:List<|List Nat,Str.join (oP s) (ps.map oP)=oP (jn s ps)
 |[]=>rfl
 |[p]=>rfl
 |p::q::r=>by show oP p++oP s++Str.join (oP s) ((q::r).map oP)=_;simp only[Bx s (q::r),Bj];rfl
theorem Di(s)(ps):Txt.join (oP s) (ps.map oP)=oP (jn s ps):=by show Builtin.Str.glued _ _=_;simp[StrLaws.glued_eq_join,Bx]
theorem li{α:Type}{P:List α->Prop}(h0:P [])(h1:∀x,P [x])(h2:∀x y r,P (y::r)->P (x::y::r))(l):P l:=by
 induction l with
 |nil=>exact h0
 |cons x l ih=>
  rcases l with _|⟨y,r⟩
  .exact h1 x
  .exact h2 x y r ih
theorem L9{α:Type}{P:List α->Prop}(h0:P [])(h1:∀x,P [x])(h2:∀x y r,P r->P (x::y::r))(l):P l:=by
 have:P l/\∀x,P (x::l):=by
  induction l with
  |nil=>exact⟨h0,h1⟩
  |cons x l ih=>exact⟨ih.2 x,λy=>h2 y x l ih.1⟩
 exact this.1
theorem NL(c)(ps):ps≠[]->(∀p∈ps,c∉p)->rS c (jn [c] ps)=ps:=by
 induction ps using li with
 |h0=>exact λh=>absurd rfl h
 |h1 p=>exact λU h=>Bt c p<|h p cN
 |h2 p q r ih=> intro _ h;show rS c (p++[c]++jn [c] (q::r))=_;simp[B8 c _ _<|h p cN,ih (by simp) λx hx=>h x<|cO _ hx]
theorem U1(l)(c):Txt.split (oP l) (oP [c])=(rS c l).map oP:=by
 revert l c;exists l,c;have hj:=StrLaws.join_split (oP l)<|oP [c];have hf:=StrLaws.split_free (oP l) c;have sJ:Txt.split (oP l) (oP [c])≠[]:=by have h:=split_pos (oP l)<|oP [c];intro h';replace h:=h'▸h;cases h
 generalize Txt.split (oP l) (oP [c])=ps at hj hf sJ;have e:ps=(ps.map λp=>p.cps.toList).map oP:=by rw[bX];have:(oP∘λp:Str=>p.cps.toList)=id:=funext λp=>FO p;simp[this]
 rw[e,Bx,K5]at hj;refine a6 e ?_;rw[<-hj,NL c _ (by simpa using sJ) (λp hp=>by obtain⟨q,hq,rfl⟩:=cA.mp hp;exact hf q hq)]
theorem Gx(l)(c):(Builtin.Str.partsBetween (oP l) (Builtin.Str.occurrences (oP l) (oP [c]) 0 (oP l).length<|(oP l).length+1) (oP [c]).length).length<=l.length+2:=by rw[len_partsBetween];have:=lA (oP l) (oP [c]) 0 (oP l).length<|(oP l).length+1;rw[rF]at this;rw[rF];exact i6 this 1
theorem Qb(l)(c)(z):Txt.replace (oP l) (oP [c]) (oP z)=oP (jn z<|rS c l):=by simp[show Txt.replace (oP l) (oP [c]) (oP z)=Str.join (oP z) (Txt.split (oP l)<|oP [c])from StrLaws.replace_one _ _ _,U1,Bx]
def wE(c:Nat)(z:List Nat)(l:List Nat):List Nat:=l.flatMap λd=>if d=c then z else[d]
set_option tactic.hygienic true in
theorem my(c)(z):∀l,jn z (rS c l)=wE c z l:=by
 exists zr;induction zr with
 |nil=> exact rfl
 |cons d r pD=>
  have ih:=pD;dsimp only[Bp,Gl];by_cases h:d=c
  .rw[aH h,AQ _ _<|Ax c r,ih];simp[wE,h]
  .rw[aL h];split
   .rename_i p ps e;have ih:=e▸ih;have:wE c z (d::r)=d::wE c z r:=by simp[wE,h]
    simp[this,<-ih];rcases ps with _|_<;>rfl
   .rename_i e;exact absurd e<|Ax c r
theorem Dm(l)(c):Fw (oP l) (oP [c])=decide (c∈l):=by
 exists l,c,[];rw[eO,d6];unfold Fw;rw[StrLaws.found_iff];constructor
 .rintro⟨i,h1,h2⟩
  have:=(mK (oP l) c i).mp ⟨h1,h2⟩;exact aR this
 .intro h;exists i,(hi:cE h);have:=(mK (oP l) c i).mpr (by simp[wT];exact hi);exact⟨i,this.1,this.2⟩
def xK:Expr->Bool
 |.ListComp ..|.SetComp ..|.DictComp ..=>true
 |_=>false
def zL:Expr->Bool
 |.Slice ..=>true
 |_=>false
def yM:Expr->Bool
 |.Tuple ..|.List ..=>true
 |_=>false
def E8:List Expr->Option (List Str)
 |[]=>some []
 |e::r=>(rY e).bind λq=>(E8 r).bind λl=>some (q.1::l)
def ai:Expr->Option (Expr×List Comprehension×Scope×Pos)
 |.ListComp e g s p=>some (e,g,s,p)
 |_=>none
def JB:Expr->Option (Expr×Expr×Pos)
 |.Subscript o i p=>some (o,i,p)
 |_=>none
def JP:List ExceptHandler->Option (Str×Pos×Stmt×List Stmt×Pos)
 |[.ExceptHandler (some e) none (b::r) p]=>(rY e).map λq=>(q.1,q.2,b,r,p)
 |_=>none
def D1{β:Type}(_:β)(st:St):oM Fl:=some (.ok .next,st)
section
variable(S:oY)(sc:Scope)
def sD:List Str->List V->St->oM Unit
 |[],vs,st=>if vs.isEmpty then some (.ok (),st)else none
 |x::xs,vs,st=>match vs with
  |v::vs=>(p0 sc x v st).then λU st=>sD xs vs st
  |[]=>none
def vW:Expr->V->St->oM Unit
 |.Name x _,v,st=>p0 sc x v st
 |.Attribute o x _,v,st=>(pW S sc o st).then λa st=>uL st<|(S.setattr a x v st.H).map λh=>((),h)
 |.Subscript o i _,v,st=>if zL i then none else(pW S sc o st).then λa st=>(pW S sc i st).then λb st=>uL st<|(S.v8 a b v st.H).map λh=>((),h)
 |.Tuple es _ _,v,st=>(E8 es).bind λxs=>(sO st<|S.unpack v xs.length st.H).then λvs st=>sD sc xs vs st
 |_,_,_=>none
end
section
def EQ(o:oM Fl)(g:V->St->oM Fl):oM Fl:=match o with
 |none=>none
 |some p=>match p.1 with
  |.ok f=>some (.ok f,p.2)
  |.exc c=>g c p.2
def F9(o:oM Fl):oM Fl:=match o with
 |none=>none
 |some p=>match p.1 with
  |.ok f=>some (.ok f,p.2)
  |.exc _=>none
def fh(g:St->oM Fl)(f:Fl)(st:St):oM Fl:=match f with
 |.next=>g st
 |f=>some (.ok f,st)
variable(S:Bool->oY)(fu:Nat)
section
variable(ex:Bool->Scope->List Stmt->St->oM Fl)(q:Bool)(sc:Scope)
def vd(ob:St->oM Fl)(hs:List ExceptHandler)(st:St):oM Fl:=(JP hs).bind λh=>EQ (ob st) λc st=>if sc.kind==.function&&sc.names.lookup h.1==some .globalImplicit&&(S false).Qy c h.1 then F9 (ex true sc (h.2.2.1::h.2.2.2.1) st)else none
def D0:Stmt->St->oM Fl
 |.Expr e _,st=>if xK e then none else(pW (S q) sc e st).then D1
 |.Pass _,st=>D1 () st
 |.Break _,st=>some (.ok .brk,st)
 |.Continue _,st=>some (.ok .cont,st)
 |.Return e _,st=>match e with
  |none=>some (.ok<|.ret .none,st)
  |some e=>(pW (S q) sc e st).then λv st=>some (.ok<|.ret v,st)
 |.Assign ts e _,st=>match ts with
  |[]=>none
  |t::r=>match r with
   |[]=>if yM t&&yM e||rH t||(xK e&&(ai e).isNone)then none else(pW (S q) sc e st).then λv st=>(vW (S q) sc t v st).then D1
   |u::r=>if rH t||rH u||!r.isEmpty then none else(pW (S q) sc e st).then λv st=>(vW (S q) sc t v st).then λU st=>(vW (S q) sc u v st).then D1
 |.AugAssign t op e _,st=>match rY t with
  |some x=>(G9 (S q) sc x.1 st).then λa st=>(pW (S q) sc e st).then λb st=>(uL st<|(S q).Ew op a b st.H).then λc st=>(p0 sc x.1 c st).then D1
  |none=>(y9 t).bind λx=>(pW (S q) sc x.1 st).then λa st=>(pX st<|(S q).attr a x.2.1 st.H).then λb st=>(pW (S q) sc e st).then λd st=>(uL st<|(S q).Ew op b d st.H).then λc st=>(uL st<|((S q).setattr a x.2.1 c st.H).map λh=>((),h)).then D1
 |.If t b o _,st=>(u7 (S q) sc t st).then λc st=>bif c then ex q sc b st else ex q sc o st
 |.While t b o _,st=>if q then none else tX (u7 (S false) sc t) (ex false sc b) (ex false sc o) fu st
 |.For t it b o p,st=>if q then none else match rY t with
  |some x=>if o.isEmpty&&!yZ it then(pW (S false) sc it st).then λa st=>((S false).iter a st.H).bind λxs=>Ge ((S false).iter a) xs (p0 sc x.1) (ex false sc b) xs.2 st else none
  |none=>((S false).stmt sc (.For t it b o p) st).then D1
 |.Try b hs o f _,st=>if q||!(o.isEmpty&&f.isEmpty)then none else vd S ex sc (ex false sc b) hs st
 |.Raise e c _,st=>e.bind λe=>if c.isSome then none else((S q).raise sc e st).then λU U=>none
 |.Delete ts _,st=>(Lu ts).bind λt=>(JB t).bind λx=>if zL x.2.1 then none else(pW (S q) sc x.1 st).then λa st=>(pW (S q) sc x.2.1 st).then λb st=>(uL st<|((S q).uW a b st.H).map λh=>((),h)).then D1
 |_,_=>none
end
def Aa(f:Stmt->St->oM Fl):List Stmt->St->oM Fl
 |[],st=>D1 () st
 |s::r,st=>match r with
  |[]=>f s st
  |_::_=>(f s st).then<|fh<|Aa f r
def pY:Nat->Bool->Scope->List Stmt->St->oM Fl
 |0=>λU U U U=>none
 |n+1=>λq sc=>Aa<|D0 S fu (pY n) q sc
def rA:Bool->Scope->List Stmt->St->oM Fl:=pY S fu 40
end
def qF(k:Nat)(S:Bool->oY):Prop:=∀C,oF k C->o4 C (S true)/\(pP C->o4 C (S false))
theorem qF.at{S:Bool->oY}(OK:qF k S)(B:oF k C)(L:q=false->pP C):o4 C<|S q:=by
 induction q
 .exact(OK C B).2 (L rfl)
 .exact(OK C B).1
section
variable{C:Cx}{S:oY}
theorem oN.mono{ρ oO:List Addr}(p:ρ<+:oO){l:List V}{m:List Value}(h:oN (VC ρ) l m):oN (VC oO) l m:=h.imp λU U=>VC.mono p
theorem KR.mono{ρ oO:List Addr}(p:ρ<+:oO){l:List (Str×V)}{m:List (Str×Value)}(h:oN (KR ρ) l m):oN (KR oO) l m:=h.imp λU U q=>⟨q.1,q.2.mono p⟩
set_option tactic.hygienic true in
theorem qA{o:Expr}{name:Str}{env:Env}{whole:Sem Value}(h:w8 o=true):attributeBase o name env whole=whole:=by
 revert h;rcases o with _|_<;>first|exact λU=>rfl|skip
 rename_i f as ks p;rcases f with _|_<;>first|exact λU=>rfl|skip
 rcases as with _|_<;>first|exact λU=>rfl|skip
 rcases ks with _|_<;>first|exact λU=>rfl|skip
 rename_i id p;intro h;exact aH (by rw[show(id != "super")=true from h];rfl)
section
variable{ρ:List Addr}{s:Shared}{st:St}
theorem Sd.iff{β:Type}{c:Prop}[Decidable c]{α:Type}{t:Sem α}{Rel:List Addr->β->α->Prop}{o:oM β}(h:c->Sd C t Rel ρ s st o):Sd C t Rel ρ s st<|if c then o else none:=by
 by_cases q:c
 .rw[aH q];exact h q
 .rw[aL q];exact Sd.nil
theorem Sd.orR{α β:Type}{t:Sem α}{Rel:List Addr->β->α->Prop}{a b:oM β}(h1:Sd C t Rel ρ s st a)(h2:Sd C t Rel ρ s st b):Sd C t Rel ρ s st<|a.or b:=by
 rcases a with _|p
 .exact h2
 .exact h1
set_option backward.match.sparseCases true in
theorem P8(O:o4 C S){f:V}{fv:Value}{first:List Value}{fs vs:List V}{xs:List Value}{kv:List (Str×V)}{ks:List (Str×Value)}{Nk:Bool}{n:Nat}(hf:VC ρ f fv)(XQ:oN (VC ρ) fs first)(hv:oN (VC ρ) vs xs)(hk:oN (KR ρ) kv ks)(hs:Nk=false):
 Sd C (do
  let r<-match<-keeperOf fv,Nk with
   |.frame,true=>callMarked starredCall fv (first++xs) ks
   |.frame,false=>if n>30 then call fv (first++xs) ks else callMarked plainCall fv (first++xs) ks
   |.boundFrame,false=>if n>30 then call fv (first++xs) ks else callMarked callOfAMethodObject fv (first++xs) ks
   |.machine,false=>call fv (first++xs) ks
   |_,_=>operate (fv::(if Nk then(first++xs).reverse else(first++xs))++ks.map (·.2))<|call fv (first++xs) ks
  holding [r] point
  pure r) VC ρ s st (if S.kp f st.H then pX st (S.call f (fs++vs) kv st.H)else none):=by
 subst hs;refine Sd.iff λhkp=>?_;intro G cw abh aek;obtain⟨k',cu⟩:=O.kp G hf hkp;refine aD<|cu _ _ ?_;refine(?_:Sd C _ VC ρ s st<|pX st<|S.call f (fs++vs) kv st.H) G cw abh aek;have key:Sd C (call fv (first++xs) ks) VC ρ s st<|pX st<|S.call f (fs++vs) kv st.H:=O.call hf (XQ.append hv) hk
 have fin:∀t:Sem Value,Sd C t VC ρ s st (pX st<|S.call f (fs++vs) kv st.H)->Sd C (t>>=λr=>do holding [r] point;pure r) VC ρ s st (pX st<|S.call f (fs++vs) kv st.H):=λt h=>by intro G r xY e;refine aD<|bL (h G r xY e) (λx oK P=>?_) λU U x=>x;exact aD<|cL λU U U=>aM P
 rcases k' with _|_|_|_
 .show Sd C (if n>30 then _ else _) _ _ _ _ _;split
  .exact fin _ key
  .exact fin _ (Sd.keep key)
 .show Sd C (if n>30 then _ else _) _ _ _ _ _;split
  .exact fin _ key
  .exact fin _ (Sd.keep key)
 .exact fin _ key
 .exact fin _ (Sd.operate key)
end
section
variable{α β γ:Type}{ρ:List Addr}{s:Shared}{st:St}
theorem Sd.xM{vs:List Value}{t:Sem α}{f:α->Sem γ}{Rel:List Addr->β->γ->Prop}{o:oM β}(h:Sd C (t>>=f) Rel ρ s st o):Sd C (PySem.holding vs t>>=f) Rel ρ s st o:=by intro G r oE e Γ p wy;have:=h G r oE e Γ p wy;simp only[Sem.wp_bind']at this⊢;rw[Sem.wp_holding];exact this
theorem Sd.assoc{δ:Type}{t:Sem α}{f:α->Sem γ}{g:γ->Sem δ}{Rel:List Addr->β->δ->Prop}{o:oM β}(h:Sd C (t>>=λa=>f a>>=g) Rel ρ s st o):Sd C ((t>>=f)>>=g) Rel ρ s st o:=by rw[bind_assoc];exact h
theorem Sd.Nl{base:Expr}{ov:Value}{t:Sem Value}{o:oM V}(h:Sd C t VC ρ s st o):Sd C (t>>=λr=>letTemporaryGo base ov r>>=λU=>Pure.pure r) VC ρ s st o:=
 λG r oE e=>aD<|bL (h G r oE e) (λU U P=>aD<|wpAny_letTemporaryGo<|aM P) λU U y=>y
end
theorem Qh{op:CmpOp}{e:Expr}(h:yZ e=false):behindInMarks op e=false:=by revert h;rcases e with _|_<;>first|exact λU=>rfl|(intro h;injection h)
theorem kt(p)(env):∀as,(∀a∈as,∀x q,a≠.Starred x q)->(backTo p<|starEach as env).any (·.1)=false:=by
 intro zr;induction zr with
 |nil=> intro _;exact rfl
 |cons e r pD=>
  intro h;have:backTo p (starEach (e::r) env)=(false,eval e env)::backTo p (starEach r env):=by rcases e with _|_<;>first|rfl|exact absurd rfl<|h _ (.head _) _ _
  rw[this];exact pD λa ha=>h a<|.tail _ ha
theorem AE(p)(env)(ks)(h:∀k∈ks,k.arg.isSome=true):(backToKw p<|keywordEach ks env).all (·.1.isSome)=true/\(backToKw p<|keywordEach ks env).any (·.1.isNone)=false:=by
 induction ks with
 |nil=>exact⟨rfl,rfl⟩
 |cons k r ih=>
  have ih:=ih λa ha=>h a<|.tail _ ha;have hk:=h k<|.head _;obtain⟨_|n,e,q⟩:=k
  .injection hk
  .exact ih
theorem vX{as:List Expr}{ks:List Keyword}(h:sI as ks=true)(p)(env):
 (backTo p<|starEach as env).any (·.1)=false/\(backToKw p<|keywordEach ks env).all (·.1.isSome)=true/\(backToKw p<|keywordEach ks env).any (·.1.isNone)=false:=by
 simp only[sI,aQ,aX]at h;refine⟨kt p env as λa ha x q e=>?_,AE p env ks h.2⟩;subst e;have:=h.1 _ ha;rcases this with _|_
theorem yS{as:List Expr}{ks:List Keyword}{p:Pos}{f:Value}{oa:St->oM (List V)}{ok:St->oM (List<|Str×V)}(h:sI as ks=true)
 (args:∀ρ s st,Sd C (spliced<|backTo p<|starEach as C.env) (λρ vs xs=>oN (VC ρ) vs xs) ρ s st<|oa st)
 (XR:∀ρ s st,Sd C (evalAll<|(backToKw p<|keywordEach ks C.env).map (·.2)) (λρ kv xs=>oN (KR ρ) kv<|((backToKw p<|keywordEach ks C.env).filterMap (·.1)).zip xs) ρ s st<|ok st){ρ:List Addr}{s:Shared}{st:St}:
 Sd C (evalArgs f true (backTo p<|starEach as C.env)<|backToKw p<|keywordEach ks C.env) (λρ x a=>oN (VC ρ) x.1 a.pos/\oN (KR ρ) x.2 a.kw) ρ s st
  ((oa st).then λvs st=>(ok st).then λkv st=>some (.ok (vs,kv),st)):=by
 exists C,as,ks,p,f,oa,ok,ρ,s,st,[h,args,XR];obtain⟨h1,q8⟩:=vX h p C.env;generalize backTo p (starEach as C.env)=ta at*;generalize backToKw p (keywordEach ks C.env)=tk at*;have e:evalArgs f true ta tk=(do
  let pos<-spliced ta
  holding (pos++[]) (do
   let vs<-evalAll (tk.map (·.2))
   pure ⟨pos,(tk.filterMap (·.1)).zip vs⟩)):=by
  dsimp only[evalArgs];simp only[q8.1,if_true];rcases ta with _|⟨⟨b,x⟩,l⟩
  .simp only[pure_bind];rfl
  .rcases b with _|_
   .simp only[pure_bind];rfl
   .injection h1
 exact e▸(Sd.bind (args ρ s st) λoO s' oE vs xs hp hv=>Sd.holding<|Sd.bind (XR oO s' oE) λDv Co xY kv ys uM hk=>Sd.pure ⟨hv.mono uM,hk⟩)
set_option backward.match.sparseCases true in
theorem Ed(O:o4 C S){as:List Expr}{ks:List Keyword}{p p':Pos}{f:V}{fv:Value}{fs:List V}{first:List Value}{oa:St->oM (List V)}{ok:St->oM (List<|Str×V)}(h:sI as ks=true)
 {ρ:List Addr}{s:Shared}{st:St}(hf:VC ρ f fv)(XQ:oN (VC ρ) fs first)
 (args:∀ρ s st,Sd C (spliced<|backTo p<|starEach as C.env) (λρ vs xs=>oN (VC ρ) vs xs) ρ s st<|oa st)
 (XR:∀ρ s st,Sd C (evalAll<|(backToKw p<|keywordEach ks C.env).map (·.2)) (λρ kv xs=>oN (KR ρ) kv<|((backToKw p<|keywordEach ks C.env).filterMap (·.1)).zip xs) ρ s st<|ok st):
 Sd C (callWith p' fv first (backTo p<|starEach as C.env)<|backToKw p<|keywordEach ks C.env) VC ρ s st
  (((oa st).then λvs st=>(ok st).then λkv st=>some (.ok (vs,kv),st)).then λa st=>if S.kp f st.H then pX st (S.call f (fs++a.1) a.2 st.H)else none):=by
 have q8:=vX h p C.env;refine Sd.bind (Sd.holding<|yS h args XR) λoO s' oE a x hp ha=>Sd.standAt ?_;exact P8 O (hf.mono hp) (XQ.mono hp) ha.1 ha.2 (by simp only[q8.1,q8.2.2];rfl)
theorem Y4(O:o4 C S){o:Expr}{x:Str}{ap p:Pos}{as:List Expr}{ks:List Keyword}{oa:St->oM (List V)}{ok:St->oM (List<|Str×V)}{oo:oM V}{ρ:List Addr}{s:Shared}{st:St}
 (ho:w8 o=true)(hn:as.length+ks.length+1<30)(hl:(ap.endLine==p.line)=true)(h:sI as ks=true)(hb:Sd C (eval o C.env) VC ρ s st oo)
 (args:∀ρ s st,Sd C (spliced<|backTo p<|starEach as C.env) (λρ vs xs=>oN (VC ρ) vs xs) ρ s st<|oa st)
 (XR:∀ρ s st,Sd C (evalAll<|(backToKw p<|keywordEach ks C.env).map (·.2)) (λρ kv xs=>oN (KR ρ) kv<|((backToKw p<|keywordEach ks C.env).filterMap (·.1)).zip xs) ρ s st<|ok st):
 Sd C (eval (.Call (.Attribute o x ap) as ks p) C.env) VC ρ s st (oo.then λv st=>(sO st<|S.qB v x st.H).then λf st=>
  ((oa st).then λvs st=>(ok st).then λkv st=>some (.ok (vs,kv),st)).then λa st=>if S.kp f.1 st.H then pX st (S.call f.1 (f.2++a.1) a.2 st.H)else none):=by
 have q8:=vX h p C.env;have few:methodCallForm (as.length+ks.length) (backTo p<|starEach as C.env) (backToKw p<|keywordEach ks C.env)=true:=by
  unfold methodCallForm;have XS:(backTo p<|starEach as C.env).all (!·.1)=true:=by refine a6 List.all_eq_not_any_not ?_;simpa using q8.1
  simp only[XS,q8.2.1];simp only[lZ,d6];split<;>exact lk hn
 show Sd C (do
  let ov<-attributeBase o x C.env (eval o C.env)
  standAt ap.atName
  methodCall o x ap p C.env ov (as.length+ks.length) (backTo p<|starEach as C.env) (backToKw p<|keywordEach ks C.env)) _ _ _ _ _
 simp[qA ho];refine Sd.bind hb λoO s' oE v ov hp hv=>Sd.standAt ?_;dsimp only[methodCall,methodCallPos];rw[few,hl];exact Sd.bind (Sd.holding<|O.qB hv) λDv Co xY f g uM hg=>Ed O h hg.1 hg.2 args XR
section
variable{β:Type}{α γ:Type}{ρ:List Addr}{s:Shared}{st:St}
theorem Sd.qD{t:Sem α}{Rel:List Addr->β->α->Prop}{o:Option γ}{g:γ->oM β}(h:∀x,o=some x->Sd C t Rel ρ s st (g x)):Sd C t Rel ρ s st<|o.bind g:=by
 rcases o with _|x
 .exact Sd.nil
 .exact h x rfl
theorem tD{l:List γ}{x:γ}(h:Lu l=some x):l=[x]:=by
 match l,h with
 |[y],h=>obtain rfl:=aA h;rfl
theorem vV{e:Expr}{q}(h:y9 e=some q):e=.Attribute q.1 q.2.1 q.2.2:=by revert h;rcases e with _|_<;>first|exact nn|(intro h;obtain rfl:=aA h;rfl)
theorem yK{e:Expr}{q}(h:Dt e=some q):e=.Call q.1 q.2.1 q.2.2.1 q.2.2.2:=by revert h;rcases e with _|_<;>first|exact nn|(intro h;obtain rfl:=aA h;rfl)
theorem qZ{e:Expr}{q}(h:rY e=some q):e=.Name q.1 q.2:=by revert h;rcases e with _|_<;>first|exact nn|(intro h;obtain rfl:=aA h;rfl)
theorem Lh{e:Expr}{q}(h:zJ e=some q):∃p,e=.Slice q.1 q.2.1 q.2.2 p:=by revert h;rcases e with _|_<;>first|exact nn|(intro h;obtain rfl:=aA h;exact⟨_,rfl⟩)
theorem Yx{i:Expr}{x y:Value}(h:zJ i=none):subscripted i false x y=operate [x,y] (getItem x y):=by revert h;rcases i with _|_<;>first|exact λU=>rfl|(intro h;injection h)
theorem Uz{f:Expr}{as:List Expr}{ks:List Keyword}{p:Pos}{env:Env}(h:y9 f=none):eval (.Call f as ks p) env=(do callWith p (<-eval f env) [] (backTo p<|starEach as env) (backToKw p<|keywordEach ks env)):=by revert h;rcases f with _|_<;>first|exact λU=>rfl|(intro h;injection h)
theorem kc{e:Expr}{r:List Expr}{p:Pos}{env:Env}(h:rH e=false):spliced (backTo p<|starEach (e::r) env)=(do let v<-eval e env;return [v]++(<-holding [v] (spliced<|backTo p<|starEach r env))):=by rcases e with _|_<;>first|rfl|rcases h with _|_
end
section
variable{ev:Expr->St->oM V}{te:Expr->St->oM Bool}
theorem Ll(hE:∀e ρ s st,Sd C (eval e C.env) VC ρ s st<|ev e st)(e)(ρ)(s)(st):Sd C (valueOrNone<|evalOpt e C.env) VC ρ s st<|Ss ev e st:=by
 rcases e with _|e
 .exact Sd.pure rfl
 .exact hE e ρ s st
theorem wK(hE:∀e ρ s st,Sd C (eval e C.env) VC ρ s st<|ev e st)(p)(as):∀ρ s st,Sd C (spliced<|backTo p<|starEach as C.env) (λρ vs xs=>oN (VC ρ) vs xs) ρ s st<|y6 ev as st:=by
 induction as with
 |nil=>exact λU U U=>Sd.pure .nil
 |cons e r ih=>
  intro ρ s st;dsimp only[y6];by_cases hs:rH e=true
  .rw[aH hs];exact Sd.nil
  .rw[aL hs,kc<|by simpa using hs];exact Sd.bind (hE e ρ s st) λoO s' oE b v hp hv=>Sd.bind (Sd.holding<|ih oO s' oE) λDv Co xY bs vs uM Ey=>Sd.pure<|.cons (hv.mono uM) Ey
theorem Xe(hE:∀e ρ s st,Sd C (eval e C.env) VC ρ s st<|ev e st)(p)(ks):∀ρ s st,Sd C (evalAll<|(backToKw p<|keywordEach ks C.env).map (·.2)) (λρ kv xs=>oN (KR ρ) kv<|((backToKw p<|keywordEach ks C.env).filterMap (·.1)).zip xs) ρ s st<|BD ev ks st:=by
 induction ks with
 |nil=>exact λU U U=>Sd.pure .nil
 |cons k r ih=>
  intro ρ s st;obtain⟨a,e,q⟩:=k;induction a with
  |none=>exact Sd.nil
  |some n=>
  show Sd C (do let v<-(do let v<-eval e C.env;standAt p;pure v);return v::(<-holding [v] (evalAll<|(backToKw p<|keywordEach r C.env).map (·.2)))) (λρ kv xs=>oN (KR ρ) kv<|(n::(backToKw p<|keywordEach r C.env).filterMap (·.1)).zip xs) ρ s st
   ((ev e st).then λv st=>(BD ev r st).then λvs st=>some (.ok ((n,v)::vs),st))
  have h1:Sd C (do let v<-eval e C.env;standAt p;pure v) VC ρ s st<|ev e st:=λG r oE e'=>
   aD (bL (hE e ρ s st G r oE e') (λy oK P=>aD<|dK<|aM P) λU U y=>y)
  exact Sd.bind h1 λoO s' oE b v hp hv=>Sd.bind (Sd.holding<|ih oO s' oE) λDv Co xY bs vs uM Ey=>Sd.pure<|.cons ⟨rfl,hv.mono uM⟩ Ey
set_option backward.match.sparseCases true in
theorem jv(O:o4 C S)(hE:∀e ρ s st,Sd C (eval e C.env) VC ρ s st<|ev e st)(op)(p)(vs):∀ρ s st,Sd C (boolOp p op<|evalEach vs C.env) VC ρ s st<|Xo S ev op vs st:=by
 induction vs with
 |nil=>exact λU U U=>Sd.nil
 |cons x r ih=>
  intro ρ s st;cases r with
  |nil=>exact hE x ρ s st
  |cons y r=>
  show Sd C (do
   let v<-eval x C.env
   standAt p
   let t<-holding [v] (truthy v)
   match op,t with
   |.And,false|.Or,true=>pure v
   |_,_=>boolOp p op<|evalEach (y::r) C.env) _ _ _ _<|(ev x st).then λv st=>(sO st<|S.Kt v st.H).then λt st=>bif yw op t then some (.ok v,st)else Xo S ev op (y::r) st
  refine Sd.bind (hE x ρ s st) λoO s' oE b v hp hv=>Sd.standAt<|Sd.bind (Sd.holding<|O.Kt hv) λDv Co xY t t' uM ht=>?_;subst ht;induction op<;>induction t<;>first|exact Sd.pure (hv.mono uM)|exact ih Dv Co xY
set_option backward.match.sparseCases true in
theorem aq(hT:∀e ρ s st,Sd C (isTrue e C.env<|eval e C.env) (λU b c=>b=c) ρ s st<|te e st)(op)(vs):∀ρ s st,Sd C (allTrue op vs C.env) (λU b c=>b=c) ρ s st<|Hh te op vs st:=by
 induction vs with
 |nil=>exact λU U U=>Sd.pure rfl
 |cons x r ih=>
  intro ρ s st;show Sd C (do
   match op,<-isTrue x C.env (eval x C.env)with
   |.And,false=>pure false
   |.Or,true=>pure true
   |_,_=>allTrue op r C.env) _ ρ s st<|(te x st).then λb st=>bif yw op b then some (.ok b,st)else Hh te op r st
  refine Sd.bind (hT x ρ s st) λoO s' oE b c hp hc=>?_;subst hc;induction op<;>induction b<;>first|exact Sd.pure rfl|exact ih oO s' oE
set_option tactic.hygienic true in
theorem wN{e:Expr}{q}(h:ac e=some q):e=.Constant (.str q.1) q.2.1 q.2.2:=by
 revert h;rcases e with _|_<;>first|exact nn|skip
 rename_i c k p;induction c<;>first|exact nn|skip
 intro h;obtain rfl:=aA h;rfl
theorem Hm{e:Expr}{q}(h:im e=some q):e=.Tuple q.1 q.2.1 q.2.2:=by revert h;rcases e with _|_<;>first|exact nn|(intro h;obtain rfl:=aA h;rfl)
def evK(e:Expr)(st:St):oM V:=(ac e).bind λa=>some (.ok<|.str a.1,st)
theorem SD(e)(ρ)(s)(st):Sd C (eval e C.env) VC ρ s st<|evK e st:=Sd.qD λa h=>by exact(wN h)▸(Br rfl)
theorem Zc{es:List Expr}:∀{xs:List Str}{st:St},BP es=some xs->y6 evK es st=some (.ok<|xs.map .str,st):=by
 induction es with
 |nil=>intro xs st h;obtain rfl:=aA h;rfl
 |cons e r ih=> intro xs st h;obtain⟨a,q9⟩:=aB.mp h;obtain⟨l,q8⟩:=aB.mp q9.2;obtain rfl:=aA q8.2;dsimp only[y6];rw[wN q9.1,aL<|show ¬rH (.Constant (.str a.1) a.2.1 a.2.2)=true from bV];show oM.then (y6 evK r st) _=_;rw[ih q8.1];rfl
theorem Qv{h:Heap}{ρ:List Addr}{xs:List Str}:∀{vs:List Value},oN (VC ρ) (xs.map V.str) vs->∃as,ReadsAll h vs (xs.map PyData.str) as:=by
 revert h ρ xs;exists h,ρ,xs;induction xs with
 |nil=>intro vs hv;cases hv;exact⟨_,.nil⟩
 |cons x xs ih=>
  intro vs hv;cases hv with
  |cons h0 hv=> obtain⟨t,rfl⟩:=h0;exists as,(ra:ih hv);exact⟨_,.cons (.str x t) ra⟩
theorem az{xs:List Str}(h:xs.all PyData.strOk=true):PyData.canLayAll0 (xs.map PyData.str)=true:=by
 induction xs with
 |nil=>rfl
 |cons x xs ih=> simp only[iZ,aQ]at h;simp[PyData.canLayAll0,PyData.canLay0,h.1,ih h.2]
theorem Zo(xs:List Str)(x):((xs.map PyData.str).any λd=>PyData.eqv d<|.str x)=xs.any (· ==x):=by refine a6 n4 ?_;rfl
theorem Pq(xs:List Str):PyData.depthAll (xs.map PyData.str)=0:=by
 induction xs with
 |nil=>rfl
 |cons x xs ih=>simp only[cW,PyData.depthAll,ih];rfl
theorem adc{es:List Expr}{xs:List Str}{n:Nat}{p:Pos}(h:BP es=some xs)(hz:xs.length<1000){ρ:List Addr}{s:Shared}{st:St}(G:oD C ρ st s){Q:Value->Shared->Prop}{E:Value->Shared->Prop}
 (k:∀a vs s',oD C ρ st s'->pZ C.F s s'->s'.heap.get? a=some ⟨.type "tuple",none,.seq vs 0,#[]⟩->oN (VC ρ) (xs.map V.str) vs.toList->Q (.ref a) s'):wpAny (model PG C.w) C.A (eval (.Tuple es n p) C.env) Q E s:=by
 refine aD<|dK<|aD<|(wK SD p es ρ s st).ok G (Zc h) λvs s1 ρ1 hp hv G1 n1=>?_;obtain rfl:=hp.eq_of_length<|G.len.trans G1.len.symm;refine lK ?_ (by simp[<-hv.length];exact bC (bS hz)<|by decide);exact k _ vs.toArray _ (G1.ext (λU U e=>aZ _ e) 0) (n1.trans<|pZ.oV ..) (bT _ rfl) hv
set_option tactic.hygienic true in
theorem Vz(O:o4 C S)(hE:∀e ρ s st,Sd C (eval e C.env) VC ρ s st<|ev e st){l r:Expr}{op:CmpOp}{p:Pos}(ρ)(s)(st):
 Sd C (do let a<-eval l C.env;let b<-holding [a] (eval r C.env);standAt p;operate [a,b] (compareOp op a b)) VC ρ s st (sj S ev op l r st):=by
 unfold sj;rcases hi:IO op r with _|xs
 .exact Sd.bind (hE l ρ s st) λoO s' oE b v hp hv=>Sd.bind (Sd.holding<|hE r oO s' oE) λDv Co xY b' v' uM hv'=>Sd.standAt<|Sd.operate<|O.cmp (hv.mono uM) hv'
 .induction op<;>first|exact nn hi|skip
  obtain⟨q,q8⟩:=aB.mp hi;obtain rfl:=Hm q8.1;refine Sd.bind (hE l ρ s st) λoO s' oE b v hp hv=>?_;induction b<;>first|exact Sd.nil|skip
  rename_i x;obtain⟨t,rfl⟩:=hv;by_cases hc:(PyData.strOk x&&xs.all PyData.strOk)=true/\xs.length<1000;rotate_left
  .exact Sd.nil.congr rfl (aV (sO oE)<|aL hc)
  rw[show sO oE ((Ua<|V.str x).bind λx=>if(PyData.strOk x&&xs.all PyData.strOk)=true/\xs.length<1000 then some (V.bool<|xs.any (· ==x))else none)=some (.ok<|.bool<|xs.any (· ==x),oE)from aV (sO oE)<|aH hc];obtain⟨h3,hz⟩:=hc;simp only[aQ]at h3;refine Sd.of λG Q E kk=>aD<|cL<|adc q8.2 hz G λa vs oK o8 ajV ho hv=>aD<|dK<|wpAny_operateT ?_;obtain⟨as,ra⟩:=Qv hv;exact lL (.tuple ho rfl rfl ra) (.str x t) (az h3.2) (by simpa[PyData.canLay0]using h3.1) (by rw[Pq];have:=O.un;lia) (by rw[Zo];exact kk _ oK oO (a8 _) rfl o8 ajV)
theorem pd(O:o4 C S)(hE:∀e ρ s st,Sd C (eval e C.env) VC ρ s st<|ev e st){l r:Expr}{op:CmpOp}{p:Pos}(ρ)(s)(st):
 Sd C (do let a<-eval l C.env;let b<-holding [a] (eval r C.env);standAt p;let c<-operate [a,b] (compareOp op a b);holding [c] (truthy c)) (λU b c=>b=c) ρ s st ((sj S ev op l r st).then λc st=>sO st<|S.Kt c st.H):=by
 have:=Sd.bind (Vz O hE (l:=l) (r:=r) (op:=op) (p:=p) ρ s st) (f:=λc=>holding [c]<|truthy c) λoO s' oE c c' U hc=>Sd.holding<|O.Kt hc;simpa only[bind_assoc]using this
theorem ku(O:o4 C S)(hE:∀e ρ s st,Sd C (eval e C.env) VC ρ s st<|ev e st){o:Expr}{x:Str}{p:Pos}(ho:w8 o=true)(ρ)(s)(st):Sd C (eval (.Attribute o x p) C.env) VC ρ s st<|(ev o st).then λv st=>pX st<|S.attr v x st.H:=by
 show Sd C (do
  let ov<-attributeBase o x C.env (eval o C.env)
  standAt p.atName
  let r<-holding [ov] (getAttr ov x true)
  letTemporaryGo o ov r
  pure r) _ _ _ _ _
 exact(qA ho)▸(Sd.bind (hE o ρ s st) λoO s' oE b v hp hv=>Sd.standAt<|Sd.Nl<|Sd.holding<|O.attr hv)
theorem wi(O:o4 C S)(hE:∀e ρ s st,Sd C (eval e C.env) VC ρ s st<|ev e st){o:Expr}{l u x:Option Expr}{q p:Pos}(ρ)(s)(st):
 Sd C (eval (.Subscript o (.Slice l u x q) p) C.env) VC ρ s st ((ev o st).then λa st=>(Ss ev l st).then λvl st=>(Ss ev u st).then λvu st=>(Ss ev x st).then λvx st=>
  if S.idx a st.H then uL st (S.slice a vl vu vx st.H)else none):=by
 show Sd C (do
  let ov<-eval o C.env
  let iv<-holding [ov] (do
   let l<-valueOrNone (evalOpt l C.env)
   let u<-holding [l] (valueOrNone<|evalOpt u C.env)
   let s<-holding [l,u] (valueOrNone<|evalOpt x C.env)
   newFields "slice" [l,u,s])
  standAt p
  let r<-subscripted (.Slice l u x q) (<-getitemInPython ov) ov iv
  letTemporaryGo o ov r
  pure r) _ _ _ _ _
 refine Sd.bind (hE o ρ s st) λpH oK pU a ov p1 ha=>Sd.xM<|Sd.assoc ?_;refine Sd.bind (Ll hE l pH oK pU) λpF pS sK vl xl p2 hvl=>Sd.assoc<|Sd.xM ?_;refine Sd.bind (Ll hE u pF pS sK) λqO pQ qH vu xu p3 hvu=>Sd.assoc<|Sd.xM ?_;refine Sd.bind (Ll hE x qO pQ qH) λQ0 Cq H8 vx xx p4 hvx=>Sd.iff λhix=>?_;replace ha:=((ha.mono p2).mono p3).mono p4;replace hvl:=(hvl.mono p3).mono p4;replace hvu:=hvu.mono p4;generalize hi:Cq.heap.objs.size=i;refine Sd.qe λG r Ku e Q E kQ kE=>?_;refine aD<|eD<|aD<|dK<|aD ?_;refine hi▸?_;generalize hs:{Cq with heap:=Cq.heap.push {cls:=.type "slice",data:=.fields #[xl,xu,xx]}}=A0;have G':=hs▸G.ext (λU U e=>aZ _ e) 0;have n':pZ C.F Cq A0:=hs▸pZ.oV ..;refine O.idx G' ha hix _ _ ?_;have key:Sd C (getItem ov<|.ref i) VC Q0 A0 H8<|uL H8<|S.slice a vl vu vx H8.H:=by
  refine O.slice ha hvl hvu hvx hix (hs▸hi▸bT _ rfl) (λhm=>?_) (hi▸u8 G.sim.keep (aI _)) λe=>?_
  .obtain⟨j,hj⟩:=cE hm;obtain⟨o',uI⟩:=G.sim.lt hj;exact absurd (b9 uI)<|hi▸dJ _
  .obtain⟨m,q8⟩:=G.fr.ns;exact absurd q8.1.lt (by simp only[<-e,hi];exact dJ _)
 have fin:Sd C (subscripted (.Slice l u x q) false ov (.ref i)>>=λr=>letTemporaryGo o ov r>>=λU=>pure r) VC Q0 A0 H8<|uL H8<|S.slice a vl vu vx H8.H:=by induction x<;>exact Sd.Nl<|Sd.operate key
 refine bL (fin G' r Ku e) (λy Jc P=>?_) λy Jc P=>?_
 .obtain⟨b,oO,e',hp,hr,qC,n⟩:=P;exact kQ _ _ ⟨b,oO,e',hp,hr,qC,n'.trans n⟩
 .obtain⟨b,oO,e',hp,hr,qC,n⟩:=P;exact kE _ _ ⟨b,oO,e',hp,hr,qC,n'.trans n⟩
theorem vi(O:o4 C S)(hE:∀e ρ s st,Sd C (eval e C.env) VC ρ s st<|ev e st){o i:Expr}{p:Pos}(hi:zJ i=none)(ρ)(s)(st):
 Sd C (eval (.Subscript o i p) C.env) VC ρ s st ((ev o st).then λa st=>(ev i st).then λb st=>if S.idx a st.H then pX st (S.item a b st.H)else none):=by
 show Sd C (do
  let ov<-eval o C.env
  let iv<-holding [ov] (eval i C.env)
  standAt p
  let r<-subscripted i (<-getitemInPython ov) ov iv
  letTemporaryGo o ov r
  pure r) _ _ _ _ _
 refine Sd.bind (hE o ρ s st) λoO s' oE a ov hp ha=>Sd.bind (Sd.holding<|hE i oO s' oE) λDv Co xY b iv uM hb=>Sd.standAt<|Sd.iff λhx=>?_;intro G r qH e;exact aD<|O.idx G (ha.mono uM) hx _ _<|(Yx hi)▸(Sd.Nl (Sd.operate<|O.item (ha.mono uM) hb hx) G r qH e)
set_option tactic.hygienic true in
theorem P0(O:o4 C S)(hE:∀e ρ s st,Sd C (eval e C.env) VC ρ s st<|ev e st)(hT:∀e ρ s st,Sd C (isTrue e C.env<|eval e C.env) (λU b c=>b=c) ρ s st<|te e st)(e)(ρ)(s)(st):
 Sd C (eval e C.env) VC ρ s st (ly S C.env.scope ev te e st):=by
 exists C,S,ev,te,e,ρ,s,st,[O,hE,hT];cases e with
 |Constant c k p=>
  show Sd C (constValue C.env c) VC ρ s st<|sO st<|Ms c;rcases e:Ms c with _|v
  .exact Sd.nil
  .exact Br e
 |Name x p=>exact Xq O x p
 |BoolOp op vs p=>exact jv O hE op p vs ρ s st
 |UnaryOp op x p=>exact Sd.bind (hE x ρ s st) λoO s' oE b v hp hv=>Sd.standAt<|Sd.holding<|O.JZ hv
 |BinOp l op r p=>exact Sd.bind (hE l ρ s st) λoO s' oE b v hp hv=>Sd.bind (Sd.holding<|hE r oO s' oE) λDv Co xY b' v' uM hv'=>Sd.standAt<|Sd.operate<|O.bin (hv.mono uM) hv'
 |IfExp t b o p=>
  refine Sd.bind (hT t ρ s st) λoO s' oE c c' hp hc=>?_;subst hc;rcases c with _|_
  .exact hE o oO s' oE
  .exact hE b oO s' oE
 |Compare l ops rs p=>
  refine Sd.qD λop h1=>Sd.qD λr h2=>?_;obtain rfl:=tD h1;obtain rfl:=tD h2;by_cases hr:yZ r=true
  .rw[aH hr];exact Sd.nil
  .rw[aL hr,eval_Compare1,kA<|Qh<|by simpa using hr];exact Vz O hE ρ s st
 |Attribute o x p=>exact Sd.iff λho=>ku O hE ho ρ s st
 |Call f as ks p=>
  show Sd C _ _ _ _ _ (match y9 f with|some q=>_|none=>_);rcases ha:y9 f with _|q
  .exact(Uz ha)▸(Sd.iff λwz=>Sd.bind (hE f ρ s st) λoO s' oE b v hp hv=>Ed O wz hv .nil (wK hE p as)<|Xe hE p ks)
  .obtain rfl:=vV ha;dsimp only;by_cases xO:ki q.2.1 as=true
   .rw[aH xO];exact O.star
   rw[aL xO];refine Sd.iff λhc=>?_;simp only[aQ,d6]at hc;exact Y4 O hc.1.1 hc.1.2.1 hc.1.2.2 hc.2 (hE _ ρ s st) (wK hE p as)<|Xe hE p ks
 |NamedExpr t e p=> refine Sd.qD λx h1=>?_;obtain rfl:=qZ h1;exact Sd.bind (hE e ρ s st) λoO s' oE b v hp hv=>Sd.bind (Sd.holding<|Sd.standAt<|vD hv) λDv Co xY U U uM U=>Sd.pure<|hv.mono uM
 |Dict ks vs p=> refine Sd.iff λh=>?_;rw[aQ,cI,cI]at h;obtain⟨rfl,rfl⟩:=h;exact Sz
 |ListComp=>exact O.comp
 |JoinedStr vs p=>
  rcases vs with _|⟨e,r⟩
  .exact Sd.nil
  .rcases e with _|_<;>first|exact Sd.nil|skip
   rename_i c k q;induction c<;>first|exact Sd.nil|skip
   rcases r with _|⟨_,_⟩
   .exact Br (c:=.str _) rfl
   .exact Sd.nil
 |Subscript o i p=>
  rcases hi:zJ i with _|q
  .have:=vi O hE (o:=o) (p:=p) hi ρ s st;show Sd C _ _ _ _ _ ((ev o st).then λa st=>match zJ i with|some p=>_|none=>_);exact hi▸this
  .obtain⟨qp,rfl⟩:=Lh hi;exact wi O hE ρ s st
 |List es p=>exact Sd.standAt<|Sd.bind (wK hE p es ρ s st) λoO s' oE vs xs hp hv=>Sd.iff λhz=>Ur hv hz
 |Tuple es k p=>exact Sd.standAt<|Sd.bind (wK hE p es ρ s st) λoO s' oE vs xs hp hv=>Sd.iff λhz=>y5 hv hz
 |_=>exact Sd.nil
theorem Oc(O:o4 C S){e:Expr}{p:Pos}{we:Expr->St->oM V}(hW:∀e ρ s st,Sd C (eval e C.env) VC ρ s st<|we e st)(ρ)(s)(st):Sd C (do let v<-eval e C.env;standAt p;holding [v] (truthy v)) (λU b c=>b=c) ρ s st<|(we e st).then λv st=>sO st<|S.Kt v st.H:=
 Sd.bind (hW e ρ s st) λoO s' oE b v hp hv=>Sd.standAt<|Sd.holding<|O.Kt hv
theorem vb(O:o4 C S){we:Expr->St->oM V}(hE:∀e ρ s st,Sd C (eval e C.env) VC ρ s st<|ev e st)(hT:∀e ρ s st,Sd C (isTrue e C.env<|eval e C.env) (λU b c=>b=c) ρ s st<|te e st)
 (hW:∀e ρ s st,Sd C (eval e C.env) VC ρ s st<|we e st)(e)(ρ)(s)(st):Sd C (isTrue e C.env<|eval e C.env) (λU b c=>b=c) ρ s st<|II S ev te we e st:=by
 cases e with
 |UnaryOp op x p=>
  induction op with
  |Not=>exact Sd.bind (hT x ρ s st) λoO s' oE b c hp hc=>Sd.pure<|aV (!·) hc
  |_=>exact Oc O hW ρ s st
 |BoolOp op vs p=>exact aq hT op vs ρ s st
 |IfExp=>exact Sd.nil
 |Compare l ops rs p=>
  refine Sd.qD λop h1=>Sd.qD λr h2=>?_;obtain rfl:=tD h1;obtain rfl:=tD h2;by_cases hr:yZ r=true
  .rw[aH hr];exact Sd.nil
  .rw[aL hr,isTrue_Compare1,kA<|Qh<|by simpa using hr];exact pd O hE ρ s st
 |_=>exact Oc O hW ρ s st
end
theorem JU(O:o4 C S)(n):(∀e ρ s st,Sd C (eval e C.env) VC ρ s st<|(EV S C.env.scope n).1 e st)/\∀e ρ s st,Sd C (isTrue e C.env<|eval e C.env) (λU b c=>b=c) ρ s st<|(EV S C.env.scope n).2 e st:=by
 induction n with
 |zero=>exact⟨λU U U U=>Sd.nil,λU U U U=>Sd.nil⟩
 |succ n ih=>exact⟨P0 O ih.1 ih.2,vb O ih.1 ih.2<|P0 O ih.1 ih.2⟩
theorem pG(O:o4 C S)(e)(st)(ρ)(s):Sd C (eval e C.env) VC ρ s st<|pW S C.env.scope e st:=(JU O 24).1 e ρ s st
theorem wQ(O:o4 C S)(e)(st)(ρ)(s):Sd C (isTrue e C.env<|eval e C.env) (λU b c=>b=c) ρ s st<|u7 S C.env.scope e st:=(JU O 24).2 e ρ s st
end
theorem oF.dict(B:oF k C)(G:oD C ρ st s){f:Addr}(hf:f∈C.F):∃o es n,s.heap.get? f=some o/\o.data=.dict es n:=by exists _;obtain⟨Ni,es,n,q9⟩:=B.live f hf;obtain⟨o',q8⟩:=G.sim.keep.1 f Ni q9.1;exact k9 ⟨o',es,n,q8.1,q8.2.dict q9.2⟩
theorem oD.rR(G:oD C ρ st s):∃o es n,s.heap.get? C.env.locals=some o/\o.data=.dict es n:=by exists _;obtain⟨m,⟨o,es,ep,ho,hd,r⟩,_⟩:=G.fr.ns;exact k9 ⟨o,es,_,ho,hd⟩
theorem oF.Kv(B:oF k C)(L:pP C)(G:oD C ρ st s)(hb:∀L,L=C.env.locals\/(L∈C.F/\L≠builtinsNs)->base.get? L=none):
 ∃outer,C.A.frames=some (C.env::outer)/\C.env.frame=some C.env.locals/\s.heap.FunFrames base (C.env::outer):=by
 exists k,C,ρ,st,s,base,_;exists outer,(q_:L.fr);obtain⟨h1,h2,h3,h4⟩:=q_;refine⟨outer,h1,h2,h3,?_,?_⟩
 .obtain⟨o,es,n,ho,hd⟩:=G.rR;exact⟨_,o,h2,hb _<|.inl rfl,ho,λvs q=>by rw[hd]at q;cases q⟩
 .clear h1 h2 h3;induction outer with
  |nil=>trivial
  |cons e r ih=> obtain⟨hk,L,q8⟩:=h4 e<|.head _;obtain⟨o,es,n,ho,hd⟩:=B.dict G q8.1;exact⟨hk,⟨L,o,q8.2.2,hb _<|.inr ⟨q8.1,q8.2.1⟩,ho,λvs q=>by rw[hd]at q;cases q⟩,ih λe he=>h4 e<|.tail _ he⟩
def yx(C:Cx)(x:List Addr)(h:Heap):Heap:=hideAll h (x++C.env.locals::C.F.filter λb=>b !=builtinsNs)
theorem H9:∀L,L=C.env.locals\/(L∈C.F/\L≠builtinsNs)->(yx C x h).get? L=none:=λL hL=>eM _ (by
 rcases hL with rfl|hL
 .simp
 .simp[hL])
theorem C9:(yx C x h).StaysIn h:=λb o e=>dS _ e
theorem Wg(ha:a∈x):(yx C x h).get? a=none:=eM _<|by simp[ha]
theorem E4(e:h.get? b=some o)(h1:b∉x)(h2:b≠C.env.locals)(h3:b∈C.F->b=builtinsNs):(yx C x h).get? b=some o:=dL _ e<|by simpa[h1,h2]using h3
theorem oD.Cr(B:oF k C)(G:oD C ρ st s){a:Addr}(ha:a∈ρ):a∉C.F:=λhf=>by obtain⟨o,_,_,h0,_⟩:=B.live a hf;replace h0:=((G.sim.new a ha).1)▸h0;rcases h0 with _|_
theorem oD.A4(G:oD C ρ st s)(ha:a∈ρ):a≠C.env.locals:=λe=>G.fr.out<|e▸ha
theorem oD.slots(B:oF k C)(G:oD C ρ st s){h':Heap}(hx:∀a∈x,a∉ρ/\C.ajU.get? a=none)(hs:(yx C x s.heap).StaysIn h')(up:s.heap.UpToSlots h'):oD C ρ st {s with heap:=h'}:=by
 exists k,C,ρ,st,s,x,h',[B,G,hx,hs,up];have U8:=λa ha o e=>
  hs a o (E4 e (λhm=>(hx a hm).1 ha) (G.A4 ha) λq=>absurd q<|G.Cr B ha)
 refine⟨⟨G.sim.len,G.sim.nd,λi a ao e1 e2=>?_,G.sim.new,⟨λb o e=>?_,G.sim.keep.2⟩⟩,⟨?_,G.fr.none,G.fr.out,λx a hm=>?_,G.fr.own,G.fr.has,G.fr.kind,G.fr.lo⟩,G.tk⟩
 .exists o,(q9:G.sim.obj i a ao e1 e2);exact⟨o,U8 a (aR e1) o q9.1,q9.2⟩
 .exists b,o,_;exists o',(q_:G.sim.keep.1 b o e);obtain⟨e',l⟩:=q_;by_cases hf:b∈C.F/\b≠builtinsNs
  .exists _;exists Ia,es,n,(q_:B.dict G hf.1);obtain⟨h1,hd⟩:=q_;replace h1:=e'▸h1;obtain rfl:=aA h1;obtain⟨sl,KB⟩:=up b o' e' λvs q=>by rw[hd]at q;injection q
   exact k9 ⟨_,KB,l.trans (.inr<|.inl ⟨hf.1,hf.2,sl,rfl⟩) λhb=>G.sim.keep.2 b hb o e⟩
  .refine⟨o',hs b o'<|E4 e' (λhm=>?_) ?_ λq=>Classical.not_not.mp λq2=>hf ⟨q,q2⟩,l⟩
   .replace e:=((hx b hm).2)▸e;rcases e with _|_
   .rintro rfl;replace e:=G.fr.none▸e;injection e
 .exists m,(q8:G.fr.ns);exact⟨m,up.ns q8.1,q8.2⟩
 .exists x,a,_;obtain⟨h1,h2,u,⟨o,h3,h4⟩,h5⟩:=G.fr.cell x a hm;obtain⟨sl,e⟩:=up a o h3 λvs q=>by rw[h4]at q;injection q
  exact⟨h1,h2,u,⟨_,e,h4⟩,h5⟩
theorem oD.Yj(B:oF k C)(G:oD C ρ st s)(hx:∀a∈x,a∉ρ/\C.ajU.get? a=none)(up:s.heap.UpToSlots h')(h0:(yx C x s.heap).get? t=none)
 (ht:h'.get? t=some o)(hd:o.data=.fields vs):t∉ρ/\C.ajU.get? t=none/\t≠C.env.locals:=by
  have noDict:∀ob es n,s.heap.get? t=some ob->ob.data=.dict es n->False:=λob es n e q=>by
   obtain⟨sl,KB⟩:=up t ob e λvs q'=>by rw[q]at q';injection q'
   replace KB:=ht▸KB;obtain rfl:=aA KB;rw[show ob.data=.fields vs from hd]at q;injection q
  refine⟨λhm=>?_,?_,?_⟩
  .obtain⟨i,hi⟩:=cE hm;obtain⟨o',uI⟩:=G.sim.lt hi;replace h0:=(E4 uI (λXT=>(hx t XT).1 hm) (G.A4 hm) λq=>absurd q<|G.Cr B hm)▸h0;injection h0
  .rcases q:C.ajU.get? t with _|Ni
   .rfl
   .obtain⟨o',o5⟩:=G.sim.keep.1 t Ni q;by_cases hf:t∈C.F
    .exists Ia,es,n,(q9:B.dict G hf);exact(noDict _ _ _ q9.1 q9.2).elim
    .replace h0:=(E4 o5.1 (λhm=>by replace q:=((hx t hm).2)▸q;injection q) (by rintro rfl;replace q:=G.fr.none▸q;injection q) λq=>absurd q hf)▸h0;injection h0
  .rintro rfl
   exists Ia,es,n,(q8:G.rR);exact noDict _ _ _ q8.1 q8.2
theorem Wi{c:V}{e:Value}{Q:Shared->Prop}{E:Value->Shared->Prop}(B:oF k C)(L:pP C)(G:oD C ρ st s)(X:rN C ρ c e s)
 (h:∀s',oD C ρ st s'->rN C ρ c e s'->Wy e s'->pZ C.F s s'->Q s'):wpAny (model PG C.w) C.A (noteFrame e C.env) (λU s'=>Q s') E s:=by
 exists k,C,ρ,st,s,c,e,Q,E,_;obtain⟨a,o,vs,a0,rfl,ho,hd,h0,hc,xa,XU,ha3,yy⟩:=X.ex;exists a,o,vs,a0,_;rcases yy with yy|⟨t,ot,vt,fl,h1,VP,cs,h3,ht1,ht2,ht3,KC⟩
 .have hx:∀b∈[a],b∉ρ/\C.ajU.get? b=none:=by simp[xa,XU]
  exists outer,(q9:B.Kv L G (base:=yx C [a] s.heap) H9);unfold noteFrame;refine q9.2.1▸?_;refine aD<|fR ho hd yy ?_;rw[aL<|by decide];refine wpAny_entryW q9.1 q9.2.2 q9.2.1 ho C9 (Wg<|by simp) hd (c8.mp yy).1 h0 ?_;exists h';intro hN;obtain⟨k1,k2,⟨oe,ws,T,oT,ts,g1,⟨g2,g2'⟩,g3,g4,g5,g6,g7,g8,g9⟩,k4⟩:=hN;have fr:=G.Yj B hx k4 g5 g7 g8;refine h _ (G.slots B hx k1 k4) ⟨a,oe,ws,a0,rfl,g1,g3,g2',g2▸hc,xa,XU,ha3,.inr ⟨T,oT,ts,_,g4,g7,g8,g9,fr.1,fr.2.1,fr.2.2,g6⟩⟩ ⟨a,oe,ws,T,rfl,g1,g3,g4⟩<|pZ.oV ..
 .exists t,ot,vt,fl,_;have hx:∀b∈[a,t],b∉ρ/\C.ajU.get? b=none:=by simp[xa,XU,ht1,ht2]
  exists outer,(q8:(B.Kv L G (base:=yx C [a,t] s.heap) H9));unfold noteFrame;refine q8.2.1▸?_;refine aD<|fR ho hd h1 ?_;refine(aH (by rfl:(Value.ref t !=Value.none)=true))▸?_;refine aD<|fR VP cs h3 ?_;by_cases hfl:(fl==rawInt C.env.locals)=true
  .rw[aH hfl];exact aM<|h _ G X ⟨a,o,vs,t,rfl,ho,hd,h1⟩<|.refl _
  .rw[aL hfl];refine aD<|iI VP cs (c8.mp h3).1 ?_;have other:∀b,b≠t->(s.heap.update t<|Obj.mapFields (·.setIfInBounds 3 Value.none)).get? b=s.heap.get? b:=λb hb=>dW _ _<|dQ hb;have Q6:∀b o,s.heap.get? b=some o->(∀vs,o.data≠.fields vs)->b≠t:=λb o hb xb q=>by rw[q,VP]at hb;injection hb with hb;subst hb;exact xb vt cs
   refine wpAny_entryW q8.1 (q8.2.2.of_keeps λb o hb xb=>⟨o,(other b<|Q6 b o hb xb).trans hb,rfl⟩) q8.2.1 ((other a<|dQ KC).trans ho)
    (λb o hbo=>(other b λq=>by rw[q,Wg<|by simp]at hbo;injection hbo).trans<|C9 b o hbo) (Wg<|by simp) hd (c8.mp h1).1 h0 ?_;exists h';intro hN
   obtain⟨k1,k2,⟨oe,ws,T,oT,ts,g1,⟨g2,g2'⟩,g3,g4,g5,g6,g7,g8,g9⟩,k4⟩:=hN;have up:=λb o hb xb=>k4 b o ((other b<|Q6 b o hb xb).trans hb) xb;have fr:=G.Yj B hx up g5 g7 g8;exact h _ (G.slots B hx k1 up) ⟨a,oe,ws,a0,rfl,g1,g3,g2',g2▸hc,xa,XU,ha3,.inr ⟨T,oT,ts,_,g4,g7,g8,g9,fr.1,fr.2.1,fr.2.2,g6⟩⟩ ⟨a,oe,ws,T,rfl,g1,g3,g4⟩<|pZ.oV ..
theorem Ho{Q:Shared->Prop}{E:Value->Shared->Prop}(B:oF k C)(G:oD C ρ st s)(X:rN C ρ c e s)(hT:Wy e s)
 (h:∀s',oD C ρ st s'->rN C ρ c e s'->Wy e s'->pZ C.F s s'->Q s'):wpAny (model PG C.w) C.A (setFlight e f) (λU s'=>Q s') E s:=by
  exists k,C,ρ,st,s,c,e,f,Q,E,_;exists _;exists g9,_;obtain⟨a,o,vs,a0,rfl,ho,hd,h0,hc,xa,XU,ha3,yy⟩:=X.ex;exists a,o,vs,a0,_;exists a',o',vs',t',(q_:hT);obtain⟨e1,e2,e3,e4⟩:=q_;injection e1 with q_;subst q_;replace e2:=ho▸e2;obtain rfl:=aA e2;replace e3:=hd▸e3;injection e3 with q_;subst q_
  rcases yy with yy|⟨t,ot,vt,fl,h1,VP,cs,h3,ht1,ht2,ht3,KC⟩
  .replace yy:=e4▸yy;injection aA yy
  .replace h1:=e4▸h1;cases aA h1;have Nm:=(c8.mp h3).1;refine k9 ?_;refine aD<|fR ho hd e4 ?_;refine(aH (by rfl:(Value.ref t' !=Value.none)=true))▸?_;refine iI VP cs Nm ?_;have other:∀b,b≠t'->(s.heap.update t'<|Obj.mapFields (·.setIfInBounds 3 (f.elim .none λf=>rawInt f))).get? b=s.heap.get? b:=λb hb=>dW _ _<|dQ hb;have up:s.heap.UpToSlots<|s.heap.update t'<|Obj.mapFields (·.setIfInBounds 3 (f.elim .none λf=>rawInt f)):=λb o hb xb=>by refine⟨o.slots,(other b λq=>?_).trans hb⟩;rw[q,VP]at hb;obtain rfl:=aA hb;exact xb vt cs
   refine h _ (G.slots B (by simp[ht1,ht2]:∀b∈[t'],b∉ρ/\C.ajU.get? b=none) (λb o e=>(other b λq=>by rw[q,Wg<|by simp]at e;injection e).trans<|C9 b o e) up)
    ⟨a,o,vs,a0,rfl,(other a<|dQ KC).trans ho,hd,h0,hc,xa,XU,ha3,.inr ⟨t',_,_,_,e4,cT (Obj.mapFields (·.setIfInBounds 3 (f.elim .none λf=>rawInt f))) VP<|Obj.isFreed_of_fields<|mC cs _,mC cs _,by simp[Nm];rfl,ht1,ht2,ht3,KC⟩⟩
    ⟨a,o,vs,t',rfl,(other a<|dQ KC).trans ho,hd,e4⟩ (pZ.oV ..)
theorem wv(B:oF k C)(G:oD C ρ st s)(X:rN C ρ c e s)(hT:Wy e s)
 (h:∀s',oD C ρ st s'->rN C ρ c e s'->pZ C.F s s'->E e s'):cameBackBy (model PG C.w) C.A C.env E e s:=by obtain⟨a,o,vs,t,rfl,q8⟩:=id hT;refine aD<|fR q8.1 q8.2.1 q8.2.2 ?_;rw[aL<|by simp];exact Ho B G X hT λs' G' X' U n=>h s' G' X' n
noncomputable abbrev UR:List Addr->Unit->Unit->Prop:=λU U U=>True
section
variable{α β γ:Type}
theorem Sd.Ib{vs keep:List Value}(h:Sd C t UR ρ s st o):Sd C (t>>=λU=>PySem.release vs keep) UR ρ s st o:=
 λG r oE e=>aD<|bL (h G r oE e) (λU U P=>wpAny_release P) λU U y=>y
theorem oD.extBut{n:Nat}(G:oD C ρ st s)(x:Heap.ExtBut i s.heap h')(ho:s.heap.get? i=some o)(hd:o.data=.fields vs)(h1:i∉ρ)(h2:i≠C.env.locals)(h3:C.ajU.get? i=none):
 oD C ρ st {s with heap:=h',toks:=s.toks+n}:=by
 exists C,ρ,s,st,i,h',n,o,vs,_;refine⟨⟨G.sim.len,G.sim.nd,λj a ao e1 e2=>?_,G.sim.new,⟨λb ob e=>?_,G.sim.keep.2⟩⟩,⟨?_,G.fr.none,G.fr.out,λy a hm=>?_,G.fr.own,G.fr.has,G.fr.kind,G.fr.lo⟩,by have:=G.tk;simp_all⟩
 .exists o',(o5:G.sim.obj j a ao e1 e2);exact⟨o',x a o' (λe=>h1<|e▸aR e1) o5.1,o5.2⟩
 .exists o',(q9:G.sim.keep.1 b ob e);exact⟨o',x b o' (λq=>by simp only[q,h3]at e;injection e) q9.1,q9.2⟩
 .exists m,(q8:G.fr.ns);exact⟨m,q8.1.extBut x<|dQ h2,q8.2⟩
 .exists y,a,_;obtain⟨g1,g2,u,⟨oc,g3,g4⟩,g5⟩:=G.fr.cell y a hm;refine⟨g1,g2,u,⟨oc,x a oc (λe=>?_) g3,g4⟩,g5⟩;subst e;replace g3:=ho▸g3;obtain rfl:=aA g3;replace g4:=hd▸g4;rcases g4 with _|_
theorem B7(es):∀xs,E8 es=some xs->(assignEach es C.env).length=xs.length/\(assignEach es C.env).findIdx? (·.1)=none/\∀vs ys ρ s st,oN (VC ρ) vs ys->Sd C (assignInOrder ((assignEach es C.env).map (·.2)) ys) UR ρ s st (sD C.env.scope xs vs st):=by
 exists C,es,[];induction es with
 |nil=>
  exists xs;intro h;obtain rfl:=aA h;refine⟨rfl,rfl,?_⟩;exists vs,ys,ρ,s,st;intro hv;induction hv with
  |nil=>exact Sd.pure trivial
  |cons=>exact Sd.nil
 |cons e r ih=>
  exists e,r,[ih];exists xs;intro h;exists q,(o5:aB.mp h);exists VQ,(q9:aB.mp o5.2);obtain rfl:=aA q9.2;obtain rfl:=qZ o5.1;have q8:=ih VQ q9.1;refine⟨aV (· +1) q8.1,(List.findIdx?_cons ..).trans (by rw[q8.2.1];rfl),?_⟩;exists vs,ys,ρ,s,st;intro hv;induction hv with
  |nil=>exact Sd.nil
  |cons hv hr=>exact Sd.bind (Sd.holding<|Sd.standAt<|vD hv) λoO s' oE U U hp U=>q8.2.2 _ _ oO s' oE<|hr.mono hp
theorem C8{S:oY}(O:o4 C S)(t){v:V}{y:Value}(hv:VC ρ v y):Sd C (assign t C.env y) UR ρ s st<|vW S C.env.scope t v st:=by
 cases t with
 |Name x p=>exact Sd.standAt<|vD hv
 |Attribute o x p=>exact Sd.bind (Sd.holding<|pG O o st ρ s) λoO s' oE a ov hp ha=>Sd.standAt<|Sd.Ib<|Sd.holding<|O.setattr ha<|hv.mono hp
 |Subscript o i p=>
  show Sd C _ _ _ _ _<|if zL i then none else _;by_cases hi:zL i=true
  .rw[aH hi];exact Sd.nil
  .rw[aL hi];exact Sd.bind (Sd.holding<|pG O o st ρ s) λoO s' oE a ov hp ha=>Sd.bind (Sd.holding<|pG O i oE oO s') λDv Co xY b iv uM hb=>
    Sd.standAt (Sd.Ib<|Sd.holding<|O.v8 (ha.mono uM) hb<|(hv.mono hp).mono uM)
 |Tuple es kk p=> refine Sd.qD λxs hn=>?_;obtain⟨h1,q8⟩:=B7 es xs hn;exact h1▸q8.1▸(Sd.standAt<|Sd.bind (Sd.holding<|O.unpack hv) λoO s' oE vs ys hp Ey=>q8.2 vs ys oO s' oE Ey.1)
 |_=>exact Sd.nil
theorem Fk(B:oF k C)(L:pP C)(P:PE C ρ s r oE e oK)(kE:∀x s',PE C ρ s r oE x s'->E x s'):
 notedBy (model PG C.w) C.A C.env (λe s'=>cameBackBy (model PG C.w) C.A C.env E e s') e oK:=by
 obtain⟨c,oO,e',h,X,G,n⟩:=P;exact Wi B L G X λs' G' X' hT n'=>wv B G' X' hT λCo G'' X'' n''=>kE _ _ ⟨c,oO,e',h,X'',G'',(n.trans n').trans n''⟩
theorem wm{st:St}(B:oF k C)(L:pP C){test:Expr}{body orelse:List Stmt}{pos:Pos}{ot:St->oM Bool}{ob oe:St->oM Fl}
 (ht:∀ρ s st,Sd C (isTrue test C.env<|eval test C.env) (λU b c=>b=c) ρ s st<|ot st)(hb:∀ρ s st,Sd C (execs body C.env) FR ρ s st<|ob st)(he:∀ρ s st,Sd C (execs orelse C.env) FR ρ s st<|oe st)(n):
 Sd C (exec (.While test body orelse pos) C.env) FR ρ s st (tX ot ob oe n st):=by
 exists k,C,ρ,s,st,test,body,orelse,pos,ot,ob,oe,n,[B,L,ht,hb,he];refine Sd.qe λG r Jd ef Q E kQ kE=>wpAny_While ?_;exists r,Jd,Q,E,[ef,kQ,kE];refine codeAny_whileLoop (λn oK=>∃pH pU,ρ<+:pH/\oD C pH pU oK/\pZ C.F s oK/\tX ot ob oe n pU=some (r,Jd)) (λn oK hI=>?_) n ⟨ρ,st,a8 _,G,.refl s,ef⟩;exists n,oK,_;exists pH,pU,(q_:hI);obtain⟨hp,o8,ajV,Ez⟩:=q_;cases n with
 |zero=>exact nn Ez
 |succ n=>
 exists n,_;obtain⟨c,h1,rfl⟩|⟨c,sK,h1,Ez⟩:=qJ Ez
 .exact(ht pH oK pU).ex o8 h1 λx pS pF p q g m=>Fk B L ⟨c,pF,rfl,hp.trans p,q,g,ajV.trans m⟩ kE
 exists c,sK,[h1,Ez];refine(ht pH oK pU).ok o8 h1 ?_;exists x,pS,pF;intro qT hr qC rM;subst hr;replace qT:=hp.trans qT;replace rM:=ajV.trans rM;induction c with
 |false=>exact bL (he pF pS sK qC _ _ Ez) (λf pQ P=>by obtain⟨b,oO,e,p,q,g,m⟩:=P;exact kQ _ _ ⟨b,oO,e,qT.trans p,q,g,rM.trans m⟩) λe pQ P=>by obtain⟨b,oO,e,p,q,g,m⟩:=P;exact Fk B L ⟨b,oO,e,qT.trans p,q,g,rM.trans m⟩ kE
 |true=>
 obtain⟨c,h2,rfl⟩|⟨b,qH,h2,Ez⟩:=qJ Ez
 .exact(hb pF pS sK).ex qC h2 λx pS pF p q g m=>Fk B L ⟨c,pF,rfl,qT.trans p,q,g,rM.trans m⟩ kE
 exists b,qH,[h2,Ez];refine(hb pF pS sK).ok qC h2 ?_;exists f,pQ,qO;intro rW hr rL wF;replace rW:=qT.trans rW;replace wF:=rM.trans wF;induction b with
 |next|cont=>subst hr;exact⟨n,dX n,qO,qH,rW,rL,wF,Ez⟩
 |brk=>subst hr;obtain⟨rfl,rfl⟩:=bQ<|aA Ez;exact kQ _ _ ⟨.next,qO,rfl,rW,rfl,rL,wF⟩
 |ret v=>exists v,[h2,Ez,hr];exists y,(q_:hr);obtain⟨rfl,hv⟩:=q_;obtain⟨rfl,rfl⟩:=bQ<|aA Ez;exact kQ _ _ ⟨.ret v,qO,rfl,rW,⟨y,rfl,hv⟩,rL,wF⟩
end
inductive ad5(C:Cx)(it:Hp->Option (List Nat×List V))(xs:List Nat×List V)(asg:V->St->oM Unit)(ob:St->oM Fl)(i:Addr)(P:Nat->Obj->Prop)(pH:List Addr)(s:Shared)(r:r8 Fl)(Jd:St)(m:Nat)(pQ:Shared):Prop
 |mk (qO:List Addr) (qH:St) (j:Nat) (o:Obj) (e1:m=xs.2.length-j) (e2:j<=xs.2.length) (p:pH<+:qO) (g:oD C qO qH pQ) (n:pZ C.F s pQ) (ho:pQ.heap.get? i=some o) (hp:P j o) (hi:i∉qO) (e:Ge it xs asg ob (xs.2.drop j) qH=some (r,Jd))
theorem EI(h:Ge it xs asg ob l st=some p):it st.H=some xs:=by
 by_cases c:it st.H=some xs
 .exact c
 .rcases l with _|_<;>exact absurd ((aL c).symm.trans h)<|nn
theorem Al(h:p0 sc x v st=some (.exc c,oE)):False:=by unfold p0 at h;split at h<;>simp at h
theorem SN{α:Type}(j)(l:List α):(∃u,l[j]?=some u/\l.drop j=u::l.drop (j+1)/\j<l.length)\/l.length<=j:=(Nat.lt_or_ge j l.length).imp (λh=>⟨_,aP h,dZ h,h⟩) id
theorem LP{st:St}{S:oY}(B:oF k C)(L:pP C)(O:o4 C S){x:Str}{px pos:Pos}{iter:Expr}{body:List Stmt}{ob:St->oM Fl}(HD:yZ iter=false)
 (hb:∀h',oF k (C.at h')->∀ρ s st,Sd (C.at h') (execs body C.env) FR ρ s st<|ob st):
 Sd C (exec (.For (.Name x px) iter body [] pos) C.env) FR ρ s st ((pW S C.env.scope iter st).then λa st=>(S.iter a st.H).bind λxs=>Ge (S.iter a) xs (p0 C.env.scope x) ob xs.2 st):=by
 exists k,C,ρ,s,st,S,x,px,pos,iter,body,ob,[B,L,O,HD,hb];refine Sd.qe ?_;intro G;exists r,Jd;intro ef;exists Q,E;intro kQ kE;refine wpAny_For ?_ (by exists y;rcases iter with _|_<;>first|rfl|injection HD)
 obtain⟨c,h1,rfl⟩|⟨a,pU,h1,ef⟩:=qJ ef
 .exists c,_;exact(pG O iter st ρ s).ex G h1 λx pS pF p q g m=>kE _ _ ⟨c,pF,rfl,p,q,g,m⟩
 exists a,pU,[h1,ef];refine(pG O iter st ρ s).ok G h1 ?_;exists y,oK,pH;intro tH ha o8 ajV;exists xs,(vH:aB.mp ef)
 .skip;refine O.iter o8 ha vH.1 _ _ ?_;exists i,P,pS,o;intro qC rM Iv VR hi1 hi2 XV abi abj;have hiF:i∉C.F:=λhm=>by exists o',x7,Rt,(q_:B.live i hm);obtain⟨h0,xc⟩:=q_;replace h0:=XV▸h0;rcases h0 with _|_
  refine codeAny_forLoop (ad5 C (S.iter a) xs (p0 C.env.scope x) ob i P pH s r Jd) (λm pQ hI=>?_) xs.2.length ⟨pH,pU,0,o,rfl,cV _,a8 _,qC,ajV.trans rM,Iv,VR,hi1,vH.2⟩;exists m,pQ,_;obtain⟨qO,qH,j,cx,hm,hj,rW,rL,wF,Ic,hPj,Cs,tB⟩:=hI;exists qO,qH,j,cx,_;exists nm,vs,(qV:abi j cx hPj);have hit:=EI tB;have hs:=abj qO qH pQ j cx rW rL hit Ic hPj Cs;rcases SN j xs.2 with⟨u,hu,hd,vO⟩|GY
  .exists u,_;replace tB:=(aH hit).symm.trans<|hd▸tB;refine hs.1 _ hu _ _ ?_;exists h',y,o',n;intro VS uI hP' hy;exists XM,vs',(o5:abi (j+1) o' hP');have hk:∀u,o'.data≠.cell u:=λu q=>by replace q:=o5.2▸q;injection q
   obtain⟨c,h2,HE⟩|⟨XW,Ku,h2,tB⟩:=qJ tB
   .exact(Al h2).elim
   exists XW,Ku,[h2,tB];refine Sd.Nj (o:=p0 C.env.scope x u qH) B (λYk B'=>show Sd (C.at Yk) (do standAt px;bindName (C.at Yk).env x y) UR qO {pQ with heap:=h',toks:=pQ.toks+n} qH (p0 (C.at Yk).env.scope x u qH)from Sd.standAt<|vD hy)
    (rL.extBut VS.extBut Ic qV.2 Cs hi2 XV) h2 ?_;exists z_,A0,El;intro Q7 z_ E0 U9 Nn
   have q9:=Nn i o' XM uI Cs hi2 hiF o5.1 hk;have nn:=(wF.trans<|pZ.heap pQ h' n).trans U9;have pp:=rW.trans Q7;obtain⟨c,h3,rfl⟩|⟨b,Yl,h3,tB⟩:=qJ tB
   .exact Sd.VN B (λYk B'=>hb Yk B' El A0 Ku) E0 h3 λx Jc zC p q g m=>Fk B L ⟨c,zC,rfl,tH.trans<|pp.trans p,q,g,nn.trans m⟩ kE
   exists b,Yl,[h3,tB];refine Sd.Nj B (λYk B'=>hb Yk B' El A0 Ku) E0 h3 ?_;exists f,Jc,zC;intro Kw hr Id E1 Ct;have q8:=Ct i o' XM q9.1 q9.2 hi2 hiF o5.1 hk;replace pp:=pp.trans Kw;replace nn:=nn.trans E1;induction b with
   |next|cont=>subst hr;exact⟨xs.2.length-(j+1),by grind,zC,Yl,j+1,o',rfl,vO,pp,Id,nn,q8.1,hP',q8.2,tB⟩
   |brk=>cases hr;rcases tB with _|_;exact kQ _ _ ⟨.next,zC,rfl,tH.trans pp,rfl,Id,nn⟩
   |ret v=>exists v,[h3,tB,hr];exists z,(q_:hr);obtain⟨rfl,hz⟩:=q_;cases aA tB;exact kQ _ _ ⟨.ret v,zC,rfl,tH.trans pp,⟨z,rfl,hz⟩,Id,nn⟩
  .exists _;replace tB:=(iJ GY)▸tB;rcases(aH hit).symm.trans tB with _|_;exact k9<|hs.2 GY _ _ λh' n VS=>kU<|kQ _ _ ⟨.next,qO,rfl,tH.trans rW,rfl,rL.extBut VS Ic qV.2 Cs hi2 XV,wF.trans<|pZ.heap pQ h' n⟩
def Cx.mark(C:Cx)(e:Value):Cx:={C with A:=C.A.mark (some e)}
theorem oF.mark(B:oF k C)(e):oF k<|C.mark e:=⟨B.top,B.hi,B.live,B.dp,B.un,B.fn,B.gl⟩
theorem oD.mark(G:oD C ρ st s)(e):oD (C.mark e) ρ st s:=⟨G.sim,G.fr,G.tk⟩
theorem oD.unmark(G:oD (C.mark e) ρ st s):oD C ρ st s:=⟨G.sim,G.fr,G.tk⟩
theorem Tr{h}(e:JP hs=some h):hs=[.ExceptHandler (some<|.Name h.1 h.2.1) none (h.2.2.1::h.2.2.2.1) h.2.2.2.2]:=by
 rcases hs with _|⟨⟨ty,nm,bd,p⟩,_|_⟩
 .exact nn e
 .rcases ty with _|x
  .exact nn e
  rcases nm with _|_;rotate_left
  .exact nn e
  rcases bd with _|⟨b,r⟩
  .exact nn e
  obtain⟨q,hq,rfl⟩:=a9.mp e;exact(qZ hq)▸rfl
 .induction ty<;>first|exact nn e|(induction nm<;>first|exact nn e|(rcases bd with _|_<;>exact nn e))
theorem cg(h:EQ o g=some (r,oE)):(∃f,o=some (.ok f,oE)/\r=.ok f)\/∃c pU,o=some (.exc c,pU)/\g c pU=some (r,oE):=by
 rcases o with _|⟨f|c,pU⟩
 .exact nn h
 .obtain⟨rfl,rfl⟩:=bQ<|aA h;exact .inl ⟨f,rfl,rfl⟩
 .exact .inr ⟨c,pU,rfl,h⟩
theorem Q8(h:F9 o=some (r,oE)):∃f,o=some (.ok f,oE)/\r=.ok f:=by
 rcases o with _|⟨f|c,pU⟩
 .exact nn h
 .obtain⟨rfl,rfl⟩:=bQ<|aA h;exact⟨f,rfl,rfl⟩
 .exact nn h
theorem RU{S:Bool->oY}{ρ:List Addr}{s:Shared}{st:St}{ex:Bool->Scope->List Stmt->St->oM Fl}(B:oF k C)(L:pP C)(O:o4 C<|S false){body:List Stmt}{ob:St->oM Fl}{hs:List ExceptHandler}{pos:Pos}
 (hb:∀ρ s st,Sd C (execs body C.env) FR ρ s st<|ob st)(hh:∀l e ρ s st,Sd (C.mark e) (execs l C.env) FR ρ s st<|ex true C.env.scope l st):
 Sd C (exec (.Try body hs [] [] pos) C.env) FR ρ s st (vd S ex C.env.scope ob hs st):=by
 exists k,C,S,ρ,s,st,ex,body,ob,hs,pos,[B,L,O,hb,hh];refine Sd.qD ?_;exists h;intro e0;refine(Tr e0)▸?_;refine Sd.qe λG res Jd ef Q E kQ kE=>wpAny_Try_except ?_;exists res,Jd,Q,E,[ef,kQ,kE];exists _;exists g9,_;obtain⟨f,h1,rfl⟩|⟨c,pU,h1,ef⟩:=cg ef
 .exists f,_;refine k9<|(hb ρ s st).ok G h1 ?_;exists g,oK,pH;intro tH hr o8 ajV;have fin:=kQ g oK ⟨f,pH,rfl,tH,hr,o8,ajV⟩;induction g with
  |next=>exact kU fin
  |_=>exact fin
 exists c,pU,[h1,ef];refine k9<|(hb ρ s st).ex G h1 ?_;exists e,oK,pH;intro tH X o8 ajV;obtain⟨hc,ef⟩:=Iu ef;exists f,(q_:Q8 ef);obtain⟨h2,rfl⟩:=q_;simp only[aQ,a5]at hc;refine Wi B L o8 X ?_;exists pS;intro qC aer abn rM;refine Ho B qC aer abn ?_;exists pQ;intro rL Va Q9 wF;refine wpAny_handleBy_cons (codeAny_handlers_test ?_) (by obtain⟨a,x7,Rt,xc,rfl,HE⟩:=Va.ex;intro h;injection h);refine bL (O.Ng rL Va hc.2 hc.1.1 hc.1.2 _) (λcv Cq xZ=>?_) λU U x=>x;exists cv,Cq,_;obtain⟨rfl,xZ⟩:=xZ;refine bL xZ (λbb A0 HF=>?_) λU U x=>x;exists bb,A0,_;obtain⟨rfl,rfl⟩:=HF;refine codeAny_handlers_suite ?_;refine Ho (B.mark e) (rL.mark e) ⟨Va.ex⟩ Q9 ?_;exists Jc;intro Id ahW af6 E1;exact(hh _ e pH Jc pU).ok Id h2 λg VT pF qT hr No Ra=>kQ _ _ ⟨f,pF,rfl,tH.trans qT,hr,No.unmark,(((ajV.trans rM).trans wF).trans E1).trans Ra⟩
theorem Ki(h:xK e=false)(t)(l)(env):swapsWith e t l env=pure false:=by rcases e with _|_<;>first|rfl|rcases h with _|_
theorem Qi(env)(h:(yM t&&yM e)=false):swappedStores [t] e env=pure none:=by
 rcases ht:yM t with _|_
 .rcases t with _|_<;>first|rfl|exact Bool.noConfusion ht
 .replace h:=ht▸h;rcases t with _|_<;>first|exact Bool.noConfusion ht|(rcases e with _|_<;>first|rfl|exact Bool.noConfusion h)
theorem Qr(env)(h:rH t=false):(assignEach [t] env).map (·.2)=[assign t env]:=by rcases t with _|_<;>first|rfl|rcases h with _|_
theorem mj(env)(h:rH t=false)(h':rH u=false):(assignEach [t,u] env).map (·.2)=[assign t env,assign u env]:=by
 have h1:assignEach [t,u] env=(false,assign t env)::assignEach [u] env:=by rcases t with _|_<;>first|rfl|rcases h with _|_
 simp[h1,Qr env h']
theorem Sd.tail(h:Sd C t UR ρ s st o):Sd C (t>>=λU=>Pure.pure Flow.next) FR ρ s st<|o.then D1:=Sd.bind h λU U U U U U U=>Sd.pure rfl
theorem Un{β γ δ:Type}(o:oM β)(g)(h:γ->St->oM δ):(o.then λb st=>(g b st).then h)=(o.then g).then h:=by
 match o with
 |none=>rfl
 |some (.exc _,_)=>rfl
 |some (.ok _,_)=>rfl
theorem Kr{q}(h:ai e=some q):e=.ListComp q.1 q.2.1 q.2.2.1 q.2.2.2:=by revert h;rcases e with _|_<;>first|exact nn|(intro h;obtain rfl:=aA h;rfl)
theorem Od(h:rY t=none)(l)(env):swapsWith (.ListComp elt gs sc p) (some t) l env=pure false:=by revert h;rcases t with _|_<;>first|exact λU=>rfl|exact λh=>nn h.symm
theorem xA{S:oY}(O:o4 C S)(h1:(yM t&&yM e)=false)(h2:rH t=false)(h:swapsWithSole [t] e pos.line C.env=pure false):Sd C (exec (.Assign [t] e pos) C.env) FR ρ s st<|(pW S C.env.scope e st).then λv st=>(vW S C.env.scope t v st).then D1:=by
 rw[kW,h,Qi _ h1,Qr _ h2];show Sd C (do
  standAt pos
  let v<-eval e C.env
  assignStores C.env v none [assign t C.env]) _ _ _ _ _
 exact Sd.standAt<|Sd.bind (pG O e st ρ s) λoO s' oE v y hp hv=>Sd.tail<|C8 O t hv
theorem Pd{S:oY}(O:o4 C S){elt:Expr}{gs:List Comprehension}(h:swapsWithSole [.Name x px] (.ListComp elt gs sc p) pos.line C.env=pure true):Sd C (exec (.Assign [.Name x px] (.ListComp elt gs sc p) pos) C.env) FR ρ s st<|(S.comp C.env.scope (.ListComp elt gs sc p) st).then λv st=>(p0 C.env.scope x v st).then D1:=by
 simp only[kW,h,Un];show Sd C (do
  standAt pos
  evalThenUse _ C.env (λv=>assignAll v [assign (.Name x px) C.env])
  pure Flow.next) _ _ _ _ _
 exact Sd.standAt<|Sd.tail<|O.Yi λh' oO s' oE b v hp hv=>Sd.standAt<|vD hv
theorem Tq(x)(px p)(elt)(gs)(sc)(l)(env):swapsWithSole [.Name x px] (.ListComp elt gs sc p) l env=pure false\/swapsWithSole [.Name x px] (.ListComp elt gs sc p) l env=pure true:=by
 show(pure _:Sem Bool)=pure false\/(pure _:Sem Bool)=pure true;generalize(_&&_)=b;induction b
 .exact .inl rfl
 .exact .inr rfl
theorem Zg{S:oY}{t e:Expr}{pos:Pos}(O:o4 C S):Sd C (exec (.Assign [t] e pos) C.env) FR ρ s st<|if yM t&&yM e||rH t||(xK e&&(ai e).isNone)then none else(pW S C.env.scope e st).then λv st=>(vW S C.env.scope t v st).then D1:=by
 exists C,ρ,s,st,S,t,e,pos,_;by_cases hh:(yM t&&yM e||rH t||(xK e&&(ai e).isNone))=true
 .rw[aH hh];exact Sd.nil
 rw[aL hh];simp only[d8,not_or,iT]at hh;rcases hc:ai e with _|r
 .have:xK e=false:=by have:=hh.2;simp only[hc,Option.isNone_none,Bool.and_true]at this;exact this
  exact xA O hh.1.1 hh.1.2<|Ki this _ _ _
 .exists r,_;obtain rfl:=Kr hc;rcases ha:rY t with _|q
  .exact xA O hh.1.1 hh.1.2 (Od ha _ _)
  .obtain rfl:=qZ ha;rcases Tq q.1 q.2 r.2.2.2 r.1 r.2.1 r.2.2.1 pos.line C.env with h|h
   .exact xA O hh.1.1 hh.1.2 h
   .exact Pd O h
theorem O0{S:oY}(O:o4 C S)(x):Sd C (loadName C.env x) VC ρ s st<|G9 S C.env.scope x st:=by
 by_cases hd:(x== "__debug__")=false
 .intro G r oE e Γ p wy;have:=Xq O x p G r oE e;rw[eval_Name C.env x _ hd]at this;have h2:=this Γ p wy;exact h2
 .have:G9 S C.env.scope x st=none:=by
   delta G9 Am;have:x= "__debug__" :=by simpa using hd
   rw[aL<|by simp[this]]
  simp[this];exact Sd.nil
theorem pP.at(L:pP C)(h):pP<|C.at h:=⟨L.hh,L.mg,L.cd,L.lo,L.fr⟩
theorem Tc{q}(h:JB e=some q):e=.Subscript q.1 q.2.1 q.2.2:=by revert h;rcases e with _|_<;>first|exact nn|(intro h;obtain rfl:=aA h;rfl)
theorem Sd.VU{o:oM Unit}(h:Sd C t (λU U f=>f=Flow.next) ρ s st o):Sd C t FR ρ s st<|o.then D1:=by
 refine Sd.qe λG r oE e Q E kQ kE=>?_;obtain⟨c,h1,rfl⟩|⟨_,pU,h1,e'⟩:=qJ e
 .exact h.ex G h1 λx s' oO p X g n=>kE _ _ ⟨c,oO,rfl,p,X,g,n⟩
 .rcases e' with _|_;exact h.ok G h1 λx s' oO p q g n=>kQ _ _ ⟨.next,oO,rfl,p,q,g,n⟩
theorem Pl{S:oY}(O:o4 C S):Sd C (exec (.AugAssign (.Name x p') op e p) C.env) FR ρ s st<|(G9 S C.env.scope x st).then λa st=>(pW S C.env.scope e st).then λb st=>(uL st<|S.Ew op a b st.H).then λc st=>(p0 C.env.scope x c st).then D1:=
 Sd.standAt (Sd.bind (O0 O x) λpH oK pU a old tH ha=>Sd.bind (Sd.holding<|pG O e pU pH oK) λpF pS sK b v qT hb=>Sd.standAt<|Sd.bind (Sd.operate<|O.Ew (ha.mono qT) hb) λqO pQ qH c new rW hc=>Sd.standAt<|Sd.tail<|vD hc)
theorem Qk{S:oY}(O:o4 C S){o:Expr}:Sd C (exec (.AugAssign (.Attribute o x p') op e p) C.env) FR ρ s st ((pW S C.env.scope o st).then λa st=>(pX st<|S.attr a x st.H).then λb st=>(pW S C.env.scope e st).then λd st=>(uL st<|S.Ew op b d st.H).then λc st=>
 (uL st<|(S.setattr a x c st.H).map λh=>((),h)).then D1):=Sd.standAt<|Sd.bind (pG O o st ρ s) λpH oK pU a ov tH ha=>Sd.xM<|Sd.assoc<|Sd.standAt<|Sd.assoc<|Sd.bind (O.attr ha) λpF pS sK b old qT hb=>Sd.assoc<|Sd.xM<|Sd.bind (pG O e sK pF pS) λqO pQ qH d v rW hd=>Sd.assoc<|Sd.standAt<|Sd.bind (Sd.operate<|O.Ew (hb.mono rW) hd) λQ0 Cq H8 c new KD hc=>Sd.standAt<|Sd.xM<|Sd.bind (O.setattr (((ha.mono qT).mono rW).mono KD) hc) λEl A0 Ku U U U U=>Sd.release<|Sd.pure rfl
theorem VE{S:oY}(O:o4 C S){o i:Expr}{p p':Pos}(hi:¬zL i=true):Sd C (exec (.Delete [.Subscript o i p'] p) C.env) FR ρ s st<|(pW S C.env.scope o st).then λa st=>(pW S C.env.scope i st).then λb st=>(uL st<|(S.uW a b st.H).map λh=>((),h)).then D1:=by
 show Sd C (do
  standAt p
  (do
   (do
    let ov<-eval o C.env
    let iv<-holding [ov] (eval i C.env)
    standAt p'
    holding [ov,iv] (delItem ov iv)
    release [ov,iv] [])
   pure ())
  pure Flow.next) _ _ _ _ _
 exact Sd.standAt<|Sd.assoc<|Sd.assoc<|Sd.bind (pG O o st ρ s) λoO s' oE a ov hp ha=>Sd.assoc<|Sd.xM<|Sd.bind (pG O i oE oO s') λDv Co xY b iv uM hb=>Sd.assoc<|Sd.standAt<|Sd.assoc<|Sd.xM<|Sd.bind (O.uW (ha.mono uM) hb) λU U U U U U U=>Sd.release<|Sd.pure rfl
theorem S8{S:oY}(O:o4 C S){t u e:Expr}{p:Pos}(ht:rH t=false)(hu:rH u=false):Sd C (exec (.Assign [t,u] e p) C.env) FR ρ s st<|(pW S C.env.scope e st).then λv st=>(vW S C.env.scope t v st).then λU st=>(vW S C.env.scope u v st).then D1:=by
 rw[kW,mj _ ht hu,show swappedStores [t,u] e C.env=pure none by rcases t with _|_<;>rfl]
 refine Sd.standAt ?_;show Sd C (do
  let v<-eval e C.env
  (do holding [v] (assign t C.env v);assign u C.env v)
  pure Flow.next) _ _ _ _ _
 exact Sd.bind (pG O e st ρ s) λoO s' oE v y hp hv=>Sd.assoc<|Sd.bind (Sd.holding<|C8 O t hv) λDv Co xY U U uM U=>Sd.tail<|C8 O u<|hv.mono uM
theorem AT{S:oY}{k:Nat}(B:oF k C)(O:o4 C S){e:Expr}(hc:xK e=false):Sd C (exec (.Expr e p) C.env) FR ρ s st<|(pW S C.env.scope e st).then D1:=by rw[exec_Expr C.env e p (by dsimp only[interactive];refine B.fn▸?_;rfl)<|Ki hc _ _ _];exact Sd.standAt<|Sd.bind (pG O e st ρ s) λoO s' oE b v hp hv=>Sd.of λG Q E kk=>wpAny_dropValue<|kk _ _ oO (a8 _) rfl G<|.refl _
abbrev LQ(k:Nat)(ex:Bool->Scope->List Stmt->St->oM Fl):Prop:=∀(l:List Stmt)(q:Bool)(C:Cx)(_:oF k C)(_:q=false->pP C)(ρ:List Addr)(s:Shared)(st:St),Sd C (execs l C.env) FR ρ s st<|ex q C.env.scope l st
theorem wg{S:Bool->oY}(OK:qF k S)(X:LQ k ex)(t)(q)(C)(B:oF k C)(L:q=false->pP C)(ρ)(s)(st):Sd C (exec t C.env) FR ρ s st<|D0 S fu ex q C.env.scope t st:=by
 exists k,fu,S,ex,t,q,C,ρ,s,st,[OK,X,B,L];have O:=OK.at B L;cases t with
 |Expr e p=>
  show Sd C _ _ _ _ _<|if xK e then none else _;by_cases hc:xK e=true
  .rw[aH hc];exact Sd.nil
  .rw[aL hc];exact AT B O<|by simpa using hc
 |Pass p|Break p|Continue p=>exact Sd.standAt<|Sd.pure rfl
 |Return e p=>
  rcases e with _|e
  .exact Sd.standAt (Sd.pure ⟨_,rfl,rfl⟩)
  .exact Sd.standAt (Sd.bind (pG O e st ρ s) λoO s' oE b v hp hv=>Sd.pure ⟨_,rfl,hv⟩)
 |Assign ts e p=>
  rcases ts with _|⟨t,r⟩
  .exact Sd.nil
  .rcases r with _|⟨u,r⟩
   .exact Zg O
   .show Sd C _ _ _ _ _ (if rH t||rH u||!r.isEmpty then none else _);by_cases hh:(rH t||rH u||!r.isEmpty)=true
    .rw[aH hh];exact Sd.nil
    .rw[aL hh];simp only[d8,not_or,iT,jP,cI]at hh;exact hh.2▸(S8 O hh.1.1 hh.1.2)
 |AugAssign t op e p=>
  show Sd C _ _ _ _ _ (match rY t with|some x=>_|none=>_);rcases ha:rY t with _|x
  .exact Sd.qD λx hx=>by obtain rfl:=vV hx;exact Qk O
  .obtain rfl:=qZ ha;exact Pl O
 |If t b o p=>
  refine Sd.standAt<|Sd.bind (wQ O t st ρ s) λoO s' oE c c' hp hc=>?_;subst hc;rcases c with _|_
  .exact X o q C B L oO s' oE
  .exact X b q C B L oO s' oE
 |While t b o p=>
  rcases q with _|_
  .exact wm B (L rfl) (λρ s st=>wQ O t st ρ s) (X b false C B L) (X o false C B L) fu
  .exact Sd.nil
 |For t it b o p=>
  rcases q with _|_
  .show Sd C _ _ _ _ _ (match rY t with|some x=>_|none=>_);rcases ha:rY t with _|x
   .exact O.stmt.VU
   .obtain rfl:=qZ ha;refine Sd.iff λh=>?_;simp only[aQ,cI]at h;exact h.1▸(LP B (L rfl) O (by simpa using h.2) λh' B'=>X b false (C.at h') B' λU=>(L rfl).at h')
  .exact Sd.nil
 |Try b hs o f p=>
  show Sd C _ _ _ _ _<|if q||!(o.isEmpty&&f.isEmpty)then none else _;by_cases hh:(q||!(o.isEmpty&&f.isEmpty))=true
  .rw[aH hh];exact Sd.nil
  .rw[aL hh];simp only[d8,not_or,iT,jP,aQ,cI]at hh;obtain⟨rfl,rfl,rfl⟩:=hh;exact RU B (L rfl) O (X b false C B L) λl e ρ s st=>X l true (C.mark e) (B.mark e) (λq=>by injection q) ρ s st
 |Raise e c p=>
  refine Sd.qD λe he=>?_;subst he;rcases c with _|c
  .refine Sd.qe λG r oE e' Q E kQ kE=>?_;obtain⟨c,h1,rfl⟩|⟨_,_,_,e'⟩:=qJ e'
   .exact O.raise.ex G h1 λx s' oO p X g n=>kE _ _ ⟨c,oO,rfl,p,X,g,n⟩
   .rcases e' with _|_
  .exact Sd.nil
 |Delete ts p=>
  refine Sd.qD λt h1=>Sd.qD λx h2=>?_;obtain rfl:=tD h1;obtain rfl:=Tc h2;by_cases hi:zL x.2.1=true
  .rw[aH hi];exact Sd.nil
  .rw[aL hi];exact VE O hi
 |_=>exact Sd.nil
theorem OB(x:oM Fl):x.then (fh<|D1 ())=x:=by
 match x with
 |none=>rfl
 |some (.exc _,_)=>rfl
 |some (.ok f,_)=>induction f<;>rfl
theorem rx(h:∀t ρ s st,Sd C (exec t C.env) FR ρ s st<|f t st)(l):∀ρ s st,Sd C (execs l C.env) FR ρ s st<|Aa f l st:=by
 induction l with
 |nil=>exact λU U U=>Sd.pure rfl
 |cons t r ih=>
  intro ρ s st;have key:Sd C (execs (t::r) C.env) FR ρ s st<|(f t st).then<|fh<|Aa f r:=Sd.bind (h t ρ s st) λoO s' oE f g hp hf=>by
   induction f with
   |next=>subst hf;exact ih oO s' oE
   |brk|cont=>subst hf;exact Sd.pure rfl
   |ret v=>obtain⟨y,rfl,hv⟩:=hf;exact Sd.pure ⟨y,rfl,hv⟩
  rcases r with _|⟨_,_⟩
  .exact key.congr rfl (OB _).symm
  .exact key
theorem kg{S:Bool->oY}(OK:qF k S)(n):LQ k<|pY S fu n:=by
 induction n with
 |zero=>exact λU U U U U U U U=>Sd.nil
 |succ n ih=>exact λl q C B L=>rx (λt ρ s st=>wg OK ih t q C B L ρ s st) l
theorem yG{S:Bool->oY}(OK:qF k S):LQ k<|rA S fu:=kg OK 40
def Cx.into(C:Cx)(h:Heap)(ρ:List Addr)(env:Env):Cx:={w:=C.w,A:=C.A.deeper env,env:=env,ajU:=hideAll h ρ,F:=C.env.locals::C.F}
theorem Mn{F:List Addr}(lo:935<=L)(h:builtinsNs∈L::F):builtinsNs∈F:=by
 rcases aK.mp h with e|h
 .simp only[<-e]at lo;exact absurd lo<|by decide
 .exact h
theorem pZ.out{F:List Addr}(lo:935<=L)(n:pZ (L::F) s s'):pZ F s s':=⟨n.os,n.dr,n.tk,let⟨l,e,b,k⟩:=n.gn;⟨l,e,b,λq=>k λm=>q<|Mn lo m⟩⟩
theorem yL(e:(C.into h ρ env).ajU.get? b=some o):h.get? b=some o:=dS _ e
theorem sX(e:h.get? b=some o)(h1:b∉ρ):(C.into h ρ env).ajU.get? b=some o:=dL _ e h1
theorem Z0(m:b∈ρ):(C.into h ρ env).ajU.get? b=none:=eM _ m
theorem w7(e:h.get? b=none):(C.into h ρ env).ajU.get? b=none:=by
 rcases q:(C.into h ρ env).ajU.get? b with _|o
 .rfl
 .replace e:=(yL q)▸e;rcases e with _|_
theorem oD.live(G:oD C ρ st s)(ha:a∈ρ):∃o,s.heap.get? a=some o:=by obtain⟨i,hi⟩:=cE ha;exact G.sim.lt hi
theorem zT(G:oD C ρ st s):uD C.F C.ajU (C.into s.heap ρ env).ajU:=by refine⟨λb o e=>?_,G.sim.keep.2⟩;exists o',(q8:G.sim.keep.1 b o e);exact⟨o',sX q8.1 (G.kept e).2.1,q8.2⟩
theorem oF.into(B:oF (k+1) C)(G:oD C ρ st s)(hf:env.scope.kind=.function)(Ru:env.globals=mainGlobals/\env.builtins=builtinsNs):oF k<|C.into s.heap ρ env:=by
 exists k,C,ρ,st,s,env,_;refine⟨B.top.keep (zT G) B.hi,λf hm=>?_,λf hm=>?_,?_,?_,hf,Ru⟩
 .rcases aK.mp hm with rfl|hm
  .show(KF C.w).lookup C.env.locals=none;rcases q:(KF C.w).lookup C.env.locals with _|o
   .rfl
   .have:=B.top.K _ _ q;replace this:=G.fr.none▸this;rcases this with _|_
  .exact B.hi f hm
 .exists f,_;rcases aK.mp hm with rfl|hm
  .exists o,es,n,(q9:G.rR);exact⟨o,es,n,sX q9.1 G.fr.out,q9.2⟩
  .exists o,es,n,(q8:B.dict G hm);exact⟨o,es,n,sX q8.1 λhr=>G.Cr B hr hm,q8.2⟩
 .have:=B.dp;exact((lk this):C.A.depth+1+k<1000)
 .have:=B.un;show C.A.units+3+20*k<9000;exact lk this
theorem pP.into(B:oF (k+1) C)(L:pP C){h:Heap}(yz:env.frame=some env.locals)(hf:env.scope.kind=.function)(cy:An env)(Af:935<=env.locals):pP<|C.into h ρ env:=by
 exists k,C,ρ,env,h,[B,L,yz,hf,cy,Af];obtain⟨hh,mg,x7,lo,outer,q9⟩:=L;refine⟨hh,.tail _ mg,cy,Af,C.env::outer,lM q9.1,yz,?_,λe he=>?_⟩
 .refine hf▸?_;intro h;injection h
 .rcases aK.mp he with rfl|he
  .exact⟨q9.2.2.1,C.env.locals,.head _,λq=>absurd (q▸lo)<|by decide,q9.2.1⟩
  .obtain⟨g1,L,q8⟩:=q9.2.2.2 e he;exact⟨g1,L,.tail _ q8.1,q8.2⟩
theorem oD.enter(B:oF k C)(G:oD C ρ st s)(keep:∀b o,s.heap.get? b=some o->h'.get? b=some o)(hL:s.heap.get? env.locals=none)
 (hn:∃m,h'.Ns env.locals m/\∀x,env.kindOf x=some .local->LR ρ (loc.lookup x) (m x))(ht:s.toks<=t)
  (hc:∀x a,env.cells.lookup x=some a->s.heap.get? a=none/\a≠env.locals/\(∃u,h'.IsCell a u/\LR ρ (loc.lookup x) u)/\(∀y,env.cells.lookup y=some a->y=x)/\env.kindOf x≠some .local)
  (hh:∀x,(env.kindOf x=some .cell\/env.kindOf x=some .free)->env.cells.lookup x≠none)(Af:935<=env.locals):oD (C.into s.heap ρ env) ρ ⟨st.H,loc⟩ {s with heap:=h',toks:=t}:=by
  exists k,C,ρ,st,s,env,h',t,loc,_;refine⟨⟨G.sim.len,G.sim.nd,λi a ao e1 e2=>?_,λa ha=>⟨Z0 ha,(G.sim.new a ha).2⟩,⟨λb o e=>⟨o,keep _ _<|yL e,.refl _ _⟩,λf hf o e=>?_⟩⟩,⟨hn,w7 hL,λhm=>?_,λx a hx=>?_,λx a hx hk=>?_,hh,λx a hx=>(hc x a hx).2.2.2.2,Af⟩,?_⟩
  .exists o,(q8:G.sim.obj i a ao e1 e2);exact⟨o,keep _ _ q8.1,q8.2⟩
  .have e':=yL e;rcases aK.mp hf with rfl|hf
   .exists o',es,n,(q9:G.rR);replace e':=q9.1▸e';obtain rfl:=aA e';exact⟨es,n,q9.2⟩
   .exact B.cls G f hf o e'
  .exists o,(ho:G.live hm);exact absurd (hL.symm.trans ho)<|nn
  .exists x,a,_;obtain⟨h1,h2,⟨u,h3,h4⟩,x7⟩:=hc x a hx;refine⟨λhm=>?_,h2,u,h3,h4⟩;exists o,(ho:G.live hm);replace ho:=h1▸ho;rcases ho with _|_
  .exact⟨w7 (hc x a hx).1,(hc x a hx).2.2.2.1⟩
  .have:=G.tk;lia
theorem uD.cell{F:List Addr}{ajU h:Heap}(kk:uD F ajU h){a:Addr}{u:Option Value}(c:ajU.IsCell a u):h.IsCell a u:=by
 exists F,ajU,h,a,u,[kk,c];exists o,(q_:c);obtain⟨ho,hd⟩:=q_;exists o',(q8:kk.1 a o ho);rcases q8.2 with rfl|⟨_,_,sl,rfl⟩|⟨_,_,_,vs,more,hv,_⟩
 .exact⟨_,q8.1,hd⟩
 .exact⟨_,q8.1,hd⟩
 .have hv:=hd▸hv;rcases hv.1 with _|_
theorem oD.back(G:oD C ρ st s)(hp:ρ<+:oO)(G':oD (C.into s.heap ρ env) oO oE s'):oD C oO ⟨oE.H,st.loc⟩ s':=by
 exists C,ρ,oO,st,oE,s,s',env,_;have Ie:∀b o,(C.into s.heap ρ env).ajU.get? b=some o->b∉oO:=λb o e hm=>by replace e:=((G'.sim.new b hm).1)▸e;rcases e with _|_
 refine⟨⟨G'.sim.len,G'.sim.nd,G'.sim.obj,λa ha=>?_,⟨λb o e=>?_,G.sim.keep.2⟩⟩,⟨?_,G.fr.none,?_,λx a hx=>?_,G.fr.own,G.fr.has,G.fr.kind,G.fr.lo⟩,G'.tk⟩
 .refine⟨?_,(G'.sim.new a ha).2⟩;rcases e:C.ajU.get? a with _|o
  .rfl
  .exists o',(Em:(zT (env:=env) G).1 a o e);exact absurd ha<|Ie a o' Em.1
 .exists b,o,_;exists o',(C4:(zT (env:=env) G).1 b o e);exists U6,(q_:G'.sim.keep.1 b o' C4.1);obtain⟨e'',l'⟩:=q_;refine⟨U6,e'',?_⟩;have l2:B3 C.F b o' U6:=by
   rcases l' with rfl|⟨hm,hb0,sl,rfl⟩|r
   .exact .inl rfl
   .rcases aK.mp hm with rfl|hm
    .exact absurd rfl (G.kept e).1
    .exact .inr (.inl ⟨hm,hb0,sl,rfl⟩)
   .exact .inr (.inr ⟨r.1,r.2.1,Mn G.fr.lo r.2.2.1,r.2.2.2⟩)
  exact C4.2.trans l2 λhb=>G.sim.keep.2 b hb o e
 .exists m,(vH:G.fr.ns);have Ex:(C.into s.heap ρ env).ajU.Ns C.env.locals m:=by exists o,es,ep,(qV:vH.1);exact⟨o,es,ep,sX qV.1 G.fr.out,qV.2⟩
  exact⟨m,G'.sim.keep.ns Ex,λx hx=>(vH.2 x hx).mono hp⟩
 .exists o,x7,Rt,(o5:G.rR);exact Ie _ _<|sX o5.1 G.fr.out
 .exists x,a,_;obtain⟨h1,h2,u,q9⟩:=G.fr.cell x a hx;exists o,(q8:q9.1);have h0:=sX (C:=C) (env:=env) q8.1 h1;exact⟨Ie _ _ h0,h2,u,G'.sim.keep.cell ⟨o,h0,q8.2⟩,q9.2.mono hp⟩
theorem rN.back(G:oD C ρ st s)(x:rN (C.into s.heap ρ env) oO c e s'):rN C oO c e s':=by
 have key:∀a,(C.into s.heap ρ env).ajU.get? a=none->C.ajU.get? a=none/\a≠C.env.locals:=λa h=>by
  refine⟨?_,?_⟩
  .rcases q:C.ajU.get? a with _|o
   .rfl
   .obtain⟨o',e',_⟩:=(zT G).1 a o q;replace e':=h▸e';injection e'
  .rintro rfl
   obtain⟨o,_,_,ho,_⟩:=G.rR;replace h:=(sX ho G.fr.out)▸h;injection h
 obtain⟨a,o,vs,a0,h1,h2,h3,h4,h5,h6,h7,h8,h9⟩:=x.ex;refine⟨a,o,vs,a0,h1,h2,h3,h4,h5,h6,(key a h7).1,(key a h7).2,?_⟩;rcases h9 with h9|⟨t,ot,vt,fl,g1,g2,g3,g4,g5,g6,g7,g8⟩
 .exact .inl h9
 .exact .inr ⟨t,ot,vt,fl,g1,g2,g3,g4,g5,(key t g6).1,(key t g6).2,g8⟩
def JN:Value->Option Addr
 |.ref c=>some c
 |_=>none
def IB:Data->Option (Array Value)
 |.fields vs=>some vs
 |_=>none
theorem Ul(h:JN v=some c):v=.ref c:=by induction v<;>first|exact nn h|exact aV Value.ref<|aA h
theorem Sm{c}(h:IB v=some c):v=.fields c:=by induction v<;>first|exact nn h|exact aV Data.fields<|aA h
def Gn(K:Frag)(fd:FuncData):Bool:=(JN fd.code).any λc=>(K.lookup c).any λo=>(IB o.data).any λvs=>(vs[1]?).any λv=>Value.isStrOf fd.qualname v
theorem AM{α:Type}{o:Option α}{p:α->Bool}(h:o.any p=true):∃x,o=some x/\p x=true:=by
 induction o with
 |none=>injection h
 |some x=>exact⟨x,rfl,h⟩
theorem tU{K:Frag}(X:K.In h)(e:Gn K fd=true):h.CodeRec fd.code fd.qualname:=by obtain⟨c,hc,e⟩:=AM e;obtain⟨o,ho,e⟩:=AM e;obtain⟨vs,hd,e⟩:=AM e;obtain⟨v,hv,e⟩:=AM e;obtain⟨t,rfl⟩:=jF e;exact⟨c,o,vs,t,Ul hc,X _ _ ho,Sm hd,hv⟩
structure CX(w:World)(a:Addr)(fd:FuncData)(body:List Stmt):Prop where
 obj:∃o,(KF w).lookup a=some o/\o.data=.func fd
 body:fd.body=.stmts body
 co:fd.scope.isCoroutine=false
 gen:fd.scope.isGenerator=false
 kind:fd.scope.kind=.function
 clo:fd.closure=[]
 code:Gn (KF w) fd=true
 gl:fd.globals=mainGlobals/\fd.builtins=builtinsNs
 cd:fd.scope.names.lookup ("split_command" :Str)≠none->fd.code=.ref 884
def pN:Option (r8 Fl×St)->Option (r8 V×Hp)
 |some (.ok<|.ret v,st)=>some (.ok v,st.H)
 |some (.ok .next,st)=>some (.ok .none,st.H)
 |some (.exc c,st)=>some (.exc c,st.H)
 |_=>none
def Cx.in1(C:Cx):Cx:={C with A:=C.A.in1}
theorem oD.in1(G:oD C ρ st s):oD C.in1 ρ st s:=⟨G.sim,G.fr,G.tk⟩
theorem oD.Je(G:oD C.in1 ρ st s):oD C ρ st s:=⟨G.sim,G.fr,G.tk⟩
set_option backward.match.sparseCases true in
theorem Wv{S:Bool->oY}{ρ:List Addr}{s:Shared}{st:St}(B:oF (k+1) C)(LI:∀h env,env.frame=some env.locals->env.scope.kind=.function->An env->935<=env.locals->pP (C.into h ρ env))(OK:qF k S){fd:FuncData}{body:List Stmt}{env:Env}(zD:env.scope=fd.scope)(hk:fd.scope.kind=.function)(yz:env.frame=some env.locals)(Ru:env.globals=mainGlobals/\env.builtins=builtinsNs)(cy:An env)(G:oD C ρ st s){oK:Shared}{loc:Loc}(ajV:pZ C.F s oK)
 (o8:oD (C.into s.heap ρ env) ρ ⟨st.H,loc⟩ oK){r:r8 V}{oE:St}(e:pX st (pN<|rA S fu false fd.scope body ⟨st.H,loc⟩)=some (r,oE)):
 codeAny (model PG C.w) C.A (.func body env) (λr' s'=>match r' with|.ok (.ret v)=>PQ C VC ρ s r oE v s'|.ok _=>False|.error x=>PE C ρ s r oE x s') oK:=by
 exists k,fu,C,S,ρ,s,st,fd,body,env,oK,loc,r,oE,[B,LI,OK,zD,hk,yz,Ru,cy,G,ajV,o8,e];have hke:env.scope.kind=.function:=by exact zD▸hk
 have B':=B.into G hke Ru;have L':=LI s.heap env yz hke cy o8.fr.lo;rcases h1:rA S fu false fd.scope body ⟨st.H,loc⟩with _|p
 .replace e:=h1▸e;exact nn e
 .obtain⟨q,sK⟩:=p;exists q,sK,_;replace e:=h1▸e;refine kM ?_;refine bL (yG OK body false (C.into s.heap ρ env) B' (λU=>L') ρ oK ⟨st.H,loc⟩ o8 q sK (by simp[<-h1];show rA S fu false env.scope body _=_;rw[zD])) (λf pS P=>?_) λx pS P=>?_
  .exists f,pS,_;obtain⟨fl,pF,e2,qT,hr,qC,rM⟩:=P;exists fl,pF,_;subst e2;rcases fl with _|_|_|v
   .subst hr;obtain⟨rfl,rfl⟩:=bQ<|aA e;exact⟨.none,pF,rfl,qT,rfl,G.back qT qC,ajV.trans<|rM.out G.fr.lo⟩
   .exact nn e
   .exact nn e
   .exists v,_;exists y,(q_:hr);obtain⟨rfl,hv⟩:=q_;obtain⟨rfl,rfl⟩:=bQ<|aA e;exact⟨v,pF,rfl,qT,hv,G.back qT qC,ajV.trans<|rM.out G.fr.lo⟩
  .exists x,pS,_;obtain⟨c,pF,e2,qT,X,qC,rM⟩:=P;exists c,pF,_;obtain rfl:=e2.symm;obtain⟨rfl,rfl⟩:=bQ<|aA e;refine aD<|Wi B' L' qC X ?_;exists pQ;intro rL Va Q9 wF;exact Ho B' rL Va Q9 λCq Np VV U xd=>⟨c,pF,rfl,qT,VV.back G,G.back qT Np,ajV.trans<|((rM.trans wF).trans xd).out G.fr.lo⟩
theorem QO(P):((qE P).lookup 934).isSome=true:=by rfl'
theorem v5(X:(KF w).In h):935<=h.objs.size:=by
 rcases q:(KF w).lookup 934 with _|o
 .have:=QO w.params;replace this:=q▸this;rcases this with _|_
 .exact b9 (X _ _ q)
set_option backward.match.sparseCases true in
def Cd(C:Cx)(c:Code)(ρ:List Addr)(s:Shared)(st:St)(o:oM V):Prop:=
 oD C ρ st s->∀r oE,o=some (r,oE)->codeAny (model PG C.w) C.A c (λr' s'=>match r' with|.ok (.ret v)=>PQ C VC ρ s r oE v s'|.ok _=>False|.error x=>PE C ρ s r oE x s') s
theorem Cd.call(h:Cd C (.call f ⟨xs,ks⟩) ρ s st o):Sd C (call f xs ks) VC ρ s st o:=λG r oE e=>eJ<|h G r oE e
theorem Cd.ok(h:Cd C c ρ s st o)(G:oD C ρ st s)(e:o=some (.ok b,oE))(k:∀x s' oO,ρ<+:oO->VC oO b x->oD C oO oE s'->pZ C.F s s'->R (.ok<|.ret x) s'):codeAny (model PG C.w) C.A c R s:=
 dP (h G _ _ e) λr' s' P=>by
  rcases r' with x|f
  .induction P;contradiction
  .induction f with
   |ret v=>obtain⟨_,oO,e,p,q,g,n⟩:=P;obtain rfl:=r8.ok.inj e;exact k _ _ oO p q g n
   |_=>exact P.elim
theorem Cd.ex(h:Cd C c ρ s st o)(G:oD C ρ st s)(e:o=some (.exc b,oE))(k:∀x s' oO,ρ<+:oO->rN C oO b x s'->oD C oO oE s'->pZ C.F s s'->R (.error x) s'):codeAny (model PG C.w) C.A c R s:=
 dP (h G _ _ e) λr' s' P=>by
  rcases r' with x|f
  .obtain⟨_,oO,e,p,q,g,n⟩:=P;rcases e with _|_;exact k _ _ oO p q g n
  .induction f with
   |ret v=>induction P;contradiction
   |_=>exact P.elim
theorem Wj{S:Bool->oY}{ρ:List Addr}{s:Shared}{st:St}(B:oF (k+1) C)(L:pP C)(OK:qF k S){a:Addr}{fd:FuncData}{body:List Stmt}(F:CX C.w a fd body)(Ig:fd.scope.names.all (λx=>x.2 !=.cell&&x.2 !=.free)=true)
 {xs:List Value}{ks:List (Str×Value)}{ob:oM Loc}
 (hb:Sd C.in1 (bindArgs fd ⟨xs,ks⟩) (λρ l b=>oN (KR ρ) l b/\∀x∈b,fd.scope.names.lookup x.1=some .local) ρ s st ob)(sJ:∀c oE,ob≠some (.exc c,oE)):
 Cd C (.call (.ref a) ⟨xs,ks⟩) ρ s st (ob.then λloc st=>pX st<|pN<|rA S fu false fd.scope body ⟨st.H,loc.reverse⟩):=by
 exists k,fu,C,S,ρ,s,st,a,fd,body,xs,ks,ob,[B,L,OK,F,Ig,hb,sJ];intro G;exists r,oE;intro e;rcases h1:ob with _|p
 .replace e:=h1▸e;exact nn e
 .obtain⟨q,pU⟩:=p;rcases q with loc|c
  .rw[h1]at e;change pX pU (pN<|rA S fu false fd.scope body ⟨pU.H,loc.reverse⟩)=_ at e;exists o,(q8:F.obj);have X:=(B.top.keep G.sim.keep B.hi).K;refine e9 (by have:=B.dp;exact bP this) (X _ _ q8.1) q8.2 F.co F.gen F.body (tU X F.code) ?_;refine bL (hb G.in1 _ _ h1) (λbs oK P=>?_) λx oK P=>?_;rotate_left
   .obtain⟨c,_,e',_⟩:=P;injection e'
   obtain⟨l,pH,e',tH,⟨hl,xP⟩,abr,ajV⟩:=P;obtain rfl:=r8.ok.inj e';have o8:=abr.Je;have HG:=B.top.keep o8.sim.keep B.hi;simp only[aX,aQ,hV]at Ig;refine fF (λx hx=>(Ig x hx).1) xP (λh' hn hs=>?_) F.kind;have keep:∀b o,oK.heap.get? b=some o->h'.get? b=some o:=λb o eb=>(hs.2 b<|bI<|b9 eb).trans<|aZ _ eb;refine⟨HG.lim.keeps keep,?_⟩;have HH:∀x:Str,(newEnv fd.scope oK.heap.objs.size fd.globals fd.closure (fd.qualname++ ".<locals>.") (some a) fd.code none fd.builtins).cells.lookup x=none:=λx=>by exact F.clo▸rfl
   have kind:∀x:Str,fd.scope.names.lookup x≠some .cell/\fd.scope.names.lookup x≠some .free:=λx=>by
    constructor
    .intro q;exact(Ig _<|cF q).1 rfl
    .intro q;exact(Ig _<|cF q).2 rfl
   have rel:∀l bs,oN (KR pH) l bs->∀x,LR pH (l.lookup x)<|bs.lookup x:=by
    intro l bs h x;induction h with
    |nil=>exact trivial
    |@cons pa pb la lb hh ht ih=>
     obtain⟨ak,av⟩:=pa;obtain⟨bk,bv⟩:=pb;obtain⟨h1,h2⟩:=hh;subst h1;rcases hx:(x==ak)with _|_
     .simp[List.lookup,hx];exact ih
     .simp[List.lookup,hx];exact h2
   have rev:∀l bs,oN (KR pH) l bs->oN (KR pH) l.reverse bs.reverse:=by
    intro l bs h;induction h with
    |nil=>exact .nil
    |cons hh _ ih=>simp[cY];exact ih.append<|.cons hh .nil
   have qC:=o8.enter (t:=oK.toks+bs.length) B keep (cB<|aI _) ⟨_,hn,λx U=>rel _ _ (rev _ _ hl) x⟩ (aT _ _)
    (λx a' hx=>by replace hx:=(HH x)▸hx;exact nn hx) (λx hx=>by rcases hx with hx|hx;exact absurd hx (kind x).1;exact absurd hx (kind x).2) (v5 HG.K)
   refine dP (Wv B (λh env=>pP.into B L) OK rfl F.kind rfl F.gl F.cd o8 (pZ.heap oK h' bs.length) qC e) λr' pQ P=>?_;rcases r' with x|f
   .obtain⟨b,oO,e,p,q,g,m⟩:=P;exact⟨b,oO,e,tH.trans p,q,g,ajV.trans m⟩
   .induction f with
    |ret v=>obtain⟨b,oO,e,p,q,g,m⟩:=P;exact⟨b,oO,e,tH.trans p,q,g,ajV.trans m⟩
    |_=>exact P
  .exact absurd h1 (sJ c pU)
def Qt:V->Hp->Option Bool
 |.none,_=>some false
 |.bool b,_=>some b
 |.int i,_=>some<|i !=0
 |.str x,_=>if x.length<big then some ((x.length:Int)!=0)else none
 |.ref i,H=>(lE H i).bind λxs=>if xs.length<big then some (!xs.isEmpty)else none
 |_,_=>none
def DA:UnaryOp->V->Hp->Option V
 |.Not,a,H=>(Qt a H).map λb=>.bool (!b)
 |.USub,.int i,_=>some<|.int (-i)
 |_,_,_=>none
abbrev xe:=Option<|V×Hp
def gz(x y:Str)(H:Hp):xe:=if x.length+y.length<big then some (.str<|if x.length==0 then y else if y.length==0 then x else x++y,H)else none
def arI(f:Int->Int->Int)(a b:V)(H:Hp):xe:=vI (λa=>vI (λb H=>some (.int<|f a b,H)) b) a H
def Uh(op:Operator)(a b:V)(H:Hp):xe:=match op with
 |.Add=>(arI (· + ·) a b H).or<|(vS (λx=>vS (λy=>gz x y) b) a H).or<|vL (λU xs=>vL (λU ys H=>if xs.length+ys.length<big then some (.ref H.length,H++[.list<|xs++ys])else none) b) a H
 |.Mod=>vI (λa=>vI (λb H=>if b≠0 then some (.int<|a.fmod b,H)else none) b) a H
 |.FloorDiv=>vI (λa=>vI (λb H=>if b=6 then some (.int<|a.fdiv b,H)else none) b) a H
 |_=>none
def Jl(op:Operator)(a b:V)(H:Hp):xe:=match op with
 |.Add=>(arI (· + ·) a b H).or<|vS (λx=>vS (λy=>gz x y) b) a H
 |.Sub=>arI (· - ·) a b H
 |_=>none
theorem wp(B:oF k C)(ha:VC ρ a x):Sd C (truthy x) (λU b c=>b=c) ρ s st<|sO st<|Qt a st.H:=by
 rcases a with _|b|i|z|i|a|n|n
 .subst ha;exact Sd.rV λG Q E kk=>truthy_none<|kk _ rfl
 .subst ha;exact Sd.rV λG Q E kk=>mL<|kk _ rfl
 .obtain⟨t,rfl⟩:=ha;exact Sd.rV λG Q E kk=>P.truthy_int<|kk _ rfl
 .obtain⟨t,rfl⟩:=ha;exact As rfl λh=>Sd.plain λG Q E kk=>P.truthy_str (by unfold big at h;lia)<|kk _ 2 rfl
 .refine gB rfl λxs hi=>As rfl λh=>Sd.plain λG Q E kk=>?_;obtain⟨a,vs,n,rfl,hr,ho,Vb⟩:=G.list (q0 hi) ha;have hl:xs.length=vs.size:=Vb.length;refine mM ⟨_,ho,rfl,n,rfl⟩ (by unfold big at h;lia)<|kk _ 2 ?_;rcases xs with _|⟨a,l⟩
  .have:=fO hl.symm;subst this;rfl
  .simp only[List.isEmpty_cons,lI];rw[eq_comm,dA,jQ];rintro rfl;simp at hl
 .exact Sd.nil
 .exact Sd.nil
 .exact Sd.nil
theorem RR(B:oF k C)(ha:VC ρ a x):Sd C (unaryOp op x) VC ρ s st<|sO st<|DA op a st.H:=by
 induction op with
 |Not=>
  show Sd C _ _ _ _ _<|sO st<|(Qt a st.H).map λb=>V.bool (!b);intro G r oE e;rcases h:Qt a st.H with _|b
  .replace e:=h▸e;exact nn e
  .replace e:=h▸e;injection e with q_;injection q_ with q_ p_;subst q_ p_;refine not_of (bL (wp B ha G (.ok b) st<|h▸rfl) (λc oK P=>?_) λU U P=>by obtain⟨_,_,e,_⟩:=P;injection e);obtain⟨b',oO,e',hp,hr,G',n⟩:=P;obtain rfl:=r8.ok.inj e';subst hr;exact⟨.bool (!b),oO,rfl,hp,rfl,G',n⟩
 |USub=>
  induction a<;>first|exact Sd.nil|skip
  obtain⟨t,rfl⟩:=ha;exact Sd.plain λG Q E kk=>P.neg_int<|kk _ 1 ⟨_,rfl⟩
 |_=>exact Sd.nil
set_option tactic.hygienic true in
theorem rl(hz:x.length+y.length<big)(kk:∀v n,VC ρ (.str<|if x.length==0 then y else if y.length==0 then x else x++y) v->Q v {s with toks:=s.toks+n}):
 (if x.length==0 then Made.val (.str y u)else if y.length==0 then Made.val (.str x t)else Made.str<|x++y).post Q s:=by
  split
  .rename_i h;have:=kk (.str y u) 0 ⟨u,by rw[aH h]⟩;simpa[Made.post]using this
  .rename_i h;split
   .rename_i h';have:=kk (.str x t) 0 ⟨t,by rw[aL h,aH h']⟩;simpa[Made.post]using this
   .rename_i h';have:=kk (.str (x++y) s.toks) 1 ⟨_,by rw[aL h,aL h']⟩;refine⟨?_,this⟩;exact(Str.length_append ..)▸(bC (bS hz) rG)
theorem uh{T:Value->Value->Sem Value}{a b:V}{x y:Value}(ha:VC ρ a x)(hb:VC ρ b y)(h:∀a b t u Q E,Q (.int (f a b) s.toks) {s with toks:=s.toks+1}->wpAny (model PG C.w) C.A (T (.int a t)<|.int b u) Q E s):Sd C (T x y) VC ρ s st<|uL st<|arI f a b st.H:=
 gI (T:=λx=>T x y) rfl ha λa t=>gI rfl hb λb u=>Sd.plain λG Q E kk=>h a b t u Q E<|kk _ 1 ⟨_,rfl⟩
theorem uo{T:Value->Value->Sem Value}(ha:VC ρ a x)(hb:VC ρ b y)(h:∀a b t u Q E,(if a.length==0 then Made.val (.str b u)else if b.length==0 then Made.val (.str a t)else Made.str<|a++b).post Q s->wpAny (model PG C.w) C.A (T (.str a t)<|.str b u) Q E s):Sd C (T x y) VC ρ s st<|uL st<|vS (λx=>vS (λy=>gz x y) b) a st.H:=
 gS (T:=λx=>T x y) rfl ha λa t=>gS rfl hb λb u=>As rfl λhz=>Sd.plain λG Q E kk=>h a b t u Q E<|rl hz kk
theorem Sd.orV{α β:Type}{t:Sem α}{Rel:List Addr->β->α->Prop}{a b:Option (β×Hp)}(h1:Sd C t Rel ρ s st<|uL st a)(h2:Sd C t Rel ρ s st<|uL st b):Sd C t Rel ρ s st<|uL st<|a.or b:=by
 rcases a with _|p
 .exact h2
 .exact h1
theorem MH(B:oF k C)(ha:VC ρ a x)(hb:VC ρ b y):Sd C (binaryOp op x y) VC ρ s st<|uL st<|Uh op a b st.H:=by
 induction op with
 |Add=> refine Sd.orV (uh ha hb λa b t u Q E q=>P.add_int q)<|Sd.orV (uo ha hb λa b t u Q E q=>P.add_str q) ?_;refine gL (T:=λx=>binaryOp .Add x y) rfl ha λi xs l vs n hr ho Vb U=>gL rfl hb λj ys l' vs' n' hr' uI A6 U=>As rfl λhz=>Sd.of λG Q E kk=>?_;refine P.add_list ho uI (kk _ _ _ ⟨_,rfl⟩ (q7 G) (G.push rfl ⟨vs++vs',0,rfl,by simp[lT];exact(Vb.append A6).mono ⟨_,rfl⟩⟩)<|pZ.oV ..) ?_;simp only[tN Vb,tN A6]at hz;exact bC (bS hz) rG
 |Mod=>exact gI (T:=λx=>binaryOp .Mod x y) rfl ha λa t=>gI rfl hb λb u=>As rfl λhq=>Sd.plain λG Q E kk=>PyProof.Rows.mod_int hq<|kk _ 1 ⟨_,rfl⟩
 |FloorDiv=>
  exact gI (T:=λx=>binaryOp .FloorDiv x y) rfl ha λa t=>gI rfl hb λb u=>As rfl λhq=>by subst hq;exact Sd.plain λG Q E kk=>PyProof.Rows.floordiv_int (by decide) (kk _ 1 ⟨_,rfl⟩)<|.inl<|by first|exact kN (by simp)|exact PyProof.noPylong_of_log2<|by decide+kernel
 |_=>exact Sd.nil
theorem CN(B:oF k C)(ha:VC ρ a x)(hb:VC ρ b y):Sd C (inplaceOp op x y) VC ρ s st<|uL st<|Jl op a b st.H:=by
 induction op with
 |Add=>exact Sd.orV (uh ha hb λa b t u Q E q=>P.iadd_int q)<|uo ha hb λa b t u Q E q=>P.iadd_str q
 |Sub=>exact uh ha hb λa b t u Q E q=>P.isub_int q
 |_=>exact Sd.nil
def zM(n:String):Bool:=["enumerate","zip","dict_itemiterator","dict_reverseitemiterator","odict_iterator","itertools.zip_longest","itertools.pairwise"].contains n
def Qn(x:Str):List V:=x.cps.toList.map λc=>.str ⟨#[c]⟩
def tV(a b c:Int):List V:=(List.range (Builtin.Range.rangeSize a b c).toNat).map λ(k:Nat)=>V.int<|a+(k:Int)*c
def ue(H:Hp):AO->Option (List Nat×List V)
 |.list xs=>some ([1],xs)
 |.tuple xs=>some ([2],xs)
 |.o0 es ep=>some ([4,ep],es.map λe=>V.str e.1)
 |.vals d=>(fE H d).map λp=>([5,d,p.2],p.1.map λe=>e.2)
 |.range a b c=>if Builtin.Range.small a b c=true/\0<=Builtin.Range.rangeSize a b c then some ([3],tV a b c)else none
 |_=>none
def o9:V->Hp->Option (List Nat×List V)
 |.str x,_=>if x.cps.all (· <128)=true then some ([0],Qn x)else none
 |.ref i,H=>(H[i]?).bind<|ue H
 |_,_=>none
inductive Ae(H:Hp):AO->List Nat×List V->Prop
 |list (xs):Ae H (.list xs) ([1],xs)
 |tuple (xs):Ae H (.tuple xs) ([2],xs)
 |o0 (es ep):Ae H (.o0 es ep) ([4,ep],es.map λe=>V.str e.1)
 |vals (d es ep) (h:fE H d=some (es,ep)):Ae H (.vals d) ([5,d,ep],es.map λe=>e.2)
 |range (a b c) (h:Builtin.Range.small a b c=true/\0<=Builtin.Range.rangeSize a b c):Ae H (.range a b c) ([3],tV a b c)
theorem iter_inv(h:ue H ao=some xs):Ae H ao xs:=by
 induction ao<;>first|exact nn h|(obtain rfl:=aA h;constructor;done)|skip
 .obtain⟨⟨es,ep⟩,h1,rfl⟩:=a9.mp h;exact .vals _ es ep h1
 .obtain⟨hc,h⟩:=Iu h;obtain rfl:=aA h;exact .range _ _ _ hc
theorem it1(h:Ae H ao p)(e:p.1=[1]):ao=.list p.2:=by induction h<;>first|rfl|exact absurd (b0 e).1<|by decide
theorem it2(h:Ae H ao p)(e:p.1=[2]):ao=.tuple p.2:=by induction h<;>first|rfl|exact absurd (b0 e).1<|by decide
theorem it4(h:Ae H ao p)(e:p.1=[4,ep]):∃es,ao=.o0 es ep/\p.2=es.map λe=>V.str e.1:=by induction h<;>first|exact⟨_,(b0 (b0 e).2).1▸rfl,rfl⟩|exact absurd (b0 e).1<|by decide
theorem it5(h:Ae H ao p)(e:p.1=[5,d,ep]):∃es,fE H d=some (es,ep)/\p.2=es.map λe=>e.2:=by
 induction h with
 |vals d' es ep' h=> have e:=b0 (b0 e).2;exact⟨es,e.1▸(b0 e.2).1▸h,rfl⟩
 |_=>exact absurd (b0 e).1<|by decide
def D5(C:Cx)(it:Hp->Option (List Nat×List V))(ρ:List Addr)(xs:List Nat×List V)(i:Addr)(P:Nat->Obj->Prop):Prop:=
 ∀(env:Env)(ajU:Heap)(F:List Addr)(oO:List Addr)(oE:St)(s':Shared)(k:Nat)(o:Obj),ρ<+:oO->oD {w:=C.w,A:=C.A,env:=env,ajU:=ajU,F:=F} oO oE s'->it oE.H=some xs->s'.heap.get? i=some o->P k o->i∉oO->
  (∀v,xs.2[k]?=some v->∀(Q:Option Value->Shared->Prop)(E:Value->Shared->Prop),(∀(h':Heap)(y:Value)(o':Obj)(n:Nat),Heap.SameBut i s'.heap h'->h'.get? i=some o'->P (k+1) o'->VC oO v y->Q (some y) {s' with heap:=h',toks:=s'.toks+n})->wpAny (model PG C.w) C.A (pyNext<|.ref i) Q E s')/\
  (xs.2.length<=k->∀(Q:Option Value->Shared->Prop)(E:Value->Shared->Prop),(∀(h':Heap)(n:Nat),Heap.ExtBut i s'.heap h'->Q none {s' with heap:=h',toks:=s'.toks+n})->wpAny (model PG C.w) C.A (pyNext<|.ref i) Q E s')
def jw(w:World)(i:Addr)(P:Nat->Obj->Prop):Prop:=
 ∀(s':Shared)(k:Nat)(o:Obj),s'.heap.get? i=some o->P k o->∀(A':Around)(Q:Value->Shared->Prop)(E:Value->Shared->Prop),Q (.ref i) s'->wpAny (model PG w) A' (pyIter<|.ref i) Q E s'
theorem Et(hit:s.heap.IsStrIter it "str_ascii_iterator" x t i)(h:Q (.ref it) s):wpAny (model PG w) A (pyIter<|.ref it) Q E s:=by refine wpAny_pyIter_slot hit.typeIs iU<|gP iU hit.typeIs F.entry_str_ascii_iterator_iter ?_<|F.args_str_ascii_iterator_iter_1 _;exact aM ⟨_,rfl,"str_ascii_iterator",_,hit.typeIs,F.slot_str_ascii_iterator_next.lookup,h⟩
theorem oD.fresh(G:oD C ρ st s):s.heap.objs.size∉ρ/\s.heap.objs.size≠C.env.locals/\C.ajU.get? s.heap.objs.size=none:=by
 refine⟨λhm=>?_,λe=>?_,u8 G.sim.keep<|aI _⟩
 .exists o,(ho:G.live hm);exact absurd (b9 ho)<|dJ _
 .obtain⟨m,q8⟩:=G.fr.ns;exact absurd q8.1.lt<|e▸(dJ _)
theorem oD.zU(G:oD C ρ st s)(o):oD C ρ st {s with heap:=s.heap.push o}:=by have:=G.ext (h':=s.heap.push o) (λU U e=>aZ _ e) 0;exact this
theorem oD.notModules(G:oD C ρ st s){i:Nat}{a:Addr}(ha:ρ[i]?=some a):(a==sysModules)=false:=by have h9:=(G.sim.new a<|aR ha).2;refine a7.mpr λq=>?_;rw[q]at h9;exact absurd h9<|by decide
theorem xf(h:oN (KR ρ) es rQ)(e:(es.map λe=>V.str e.1)[k]?=some v):∃p,rQ[k]?=some p/\v=.str p.1:=by rw[bD]at e;obtain⟨a,ha,rfl⟩:=a9.mp e;exists b,(q8:h.get ha);exact⟨b,q8.1,aV V.str q8.2.1⟩
theorem xg(h:oN (KR ρ) es rQ)(e:(es.map (·.2))[k]?=some v):∃p,rQ[k]?=some p/\VC ρ v p.2:=by rw[bD]at e;obtain⟨a,ha,rfl⟩:=a9.mp e;exists b,(q8:h.get ha);exact⟨b,q8.1,q8.2.2⟩
def IP(n:String)(vs:Nat->Array Value)(k:Nat)(o:Obj):Prop:=o.cls=.type n/\o.data=.fields (vs k)
theorem aaA(hh:C.A.handled=none):D5 C (o9<|.str z) ρ ([0],Qn z) i<|IP "str_ascii_iterator" λk=> #[.str z t,.int k 0]:=by intro env ajU F oO oE s' k o hp G' hit ho hP hi;refine⟨λv hv Q E q=>?_,λhk Q E q=>wpAny_pyNext_ascii_end hh ⟨o,ho,hP.1,hP.2⟩ (by refine a6 bU.symm ?_;rw[bZ];simpa[Qn]using hk) λh' hs=>(q h' 0 hs:_)⟩;unfold Qn at hv;rw[bD]at hv;obtain⟨c,hc,rfl⟩:=a9.mp hv;exact wpAny_pyNext_ascii_item ⟨o,ho,hP.1,hP.2⟩ (bU▸hc) λh' zY hs=>zY.elim λo' q8=>q h' _ o' 1 hs q8.1 q8.2 ⟨_,rfl⟩
theorem RY(hh:C.A.handled=none)(hr:ρ[j]?=some l):D5 C (o9<|.ref j) ρ ([1],ys) i<|IP "list_iterator" λk=> #[.ref l,.int k 0]:=by exists i,j,C,ρ,l,ys,[hh,hr];exists env,ajU,F,oO,oE,s',k,o;intro hp G' hit Iv hP hi;exists ao,(q_:aB.mp hit);obtain⟨h1,h2⟩:=q_;exists l',ws,m,(q_:G'.list (it1 (iter_inv h2) rfl▸h1) ⟨l,pT hp hr,rfl⟩);obtain⟨e,x7,uI,KE⟩:=q_;have uI:=(fY e)▸uI;refine⟨λv hv Q E q=>?_,λhk Q E q=>lB hh ⟨o,Iv,hP.1,hP.2⟩ ⟨_,uI,rfl,m,rfl⟩ (bU.symm.trans<|bZ.mpr<|KE.length▸hk) λh' hs=>q h' 0 hs⟩;exists y,(q9:KE.get hv);exact iK ⟨o,Iv,hP.1,hP.2⟩ ⟨_,uI,rfl,m,rfl⟩ (bU▸q9.1) λh' zY hs=>zY.elim λo' q8=>q h' _ o' 0 hs q8.1 q8.2 q9.2
theorem zx(hh:C.A.handled=none)(hr:ρ[j]?=some l):D5 C (o9<|.ref j) ρ ([2],ys) i<|IP "tuple_iterator" λk=> #[.ref l,.int k 0]:=by exists i,j,C,ρ,l,ys,[hh,hr];exists env,ajU,F,oO,oE,s',k,o;intro hp G' hit Iv hP hi;exists ao,(q_:aB.mp hit);obtain⟨h1,h2⟩:=q_;exists l',ws,m,(q_:G'.tuple (it2 (iter_inv h2) rfl▸h1) ⟨l,pT hp hr,rfl⟩);obtain⟨e,x7,uI,KE⟩:=q_;have uI:=(fY e)▸uI;refine⟨λv hv Q E q=>?_,λhk Q E q=>wpAny_pyNext_tuple_end hh ⟨o,Iv,hP.1,hP.2⟩ ⟨_,uI,rfl,m,rfl⟩ (bU.symm.trans<|bZ.mpr<|KE.length▸hk) λh' hs=>q h' 0 hs⟩;exists y,(q9:KE.get hv);exact wpAny_pyNext_tuple_item ⟨o,Iv,hP.1,hP.2⟩ ⟨_,uI,rfl,m,rfl⟩ (bU▸q9.1) λh' zY hs=>zY.elim λo' q8=>q h' _ o' 0 hs q8.1 q8.2 q9.2
theorem TJ{es:List (Str×V)}{rQ:List (Str×Value)}(hh:C.A.handled=none)(hr:ρ[j]?=some l)(hn:rQ.length=es.length):D5 C (o9<|.ref j) ρ ([4,ep],es.map λe=>V.str e.1) i<|IP "dict_keyiterator" λk=> #[.ref l,.int k 0,.int rQ.length 0,.int ep 0]:=by
 exists i,j,C,ρ,l,ep,es,rQ,[hh,hr,hn];exists env,ajU,F,oO,oE,s',k,o;intro hp G' hit Iv hP hi;exists ao,(q_:aB.mp hit);obtain⟨h1,h2⟩:=q_;exists es',(q_:it4 (iter_inv h2) rfl);obtain⟨e4,e5⟩:=q_;exists d',HC,(q_:G'.o0 (e4▸h1) ⟨l,pT hp hr,rfl⟩);obtain⟨e,x7,tI,xh⟩:=q_;have tI:=(fY e)▸tI;have hlen:HC.length=rQ.length:=by have:=aV List.length e5;rw[aF,aF]at this;exact xh.length.symm.trans<|this.symm.trans hn.symm
 rw[<-hlen]at hP⊢;refine⟨λv hv Q E q=>?_,λhk Q E q=>wpAny_pyNext_dict_end hh ⟨o,Iv,hP.1,hP.2⟩ tI (bZ.mpr (by rw[hlen,hn];exact aF (f:=λe:Str×V=>V.str e.1)▸hk)) λh' hs=>q h' 0 hs⟩;exists v,Q,E,[hv,q];exists p,(q_:xf xh<|e5▸hv);obtain⟨hpk,rfl⟩:=q_;refine wpAny_pyNext_dict_item ⟨o,Iv,hP.1,hP.2⟩ tI hpk ?_;exists key,h';intro aeu zY hs;exists o',(q8:zY);exact q h' _ o' 0 hs q8.1 q8.2<|jF aeu
theorem SB{es:List (Str×V)}{rQ:List (Str×Value)}{ep:Nat}(hh:C.A.handled=none)(hr:ρ[d]?=some l)(hn:rQ.length=es.length):D5 C (o9<|.ref j) ρ ([5,d,ep],es.map λe=>e.2) i<|IP "dict_valueiterator" λk=> #[.ref l,.int k 0,.int rQ.length 0,.int ep 0]:=by
 exists i,j,C,ρ,d,l,es,rQ,ep,[hh,hr,hn];exists env,ajU,F,oO,oE,s',k,o;intro hp G' hit Iv hP hi;exists ao,(q_:aB.mp hit);obtain⟨h1,h2⟩:=q_;exists es',(q_:it5 (iter_inv h2) rfl);obtain⟨e4,e5⟩:=q_;exists d',HC,(q_:G'.o0 (Cp e4) ⟨l,pT hp hr,rfl⟩);obtain⟨e,x7,tI,xh⟩:=q_;have tI:=(fY e)▸tI;have hlen:HC.length=rQ.length:=by have:=aV List.length e5;rw[aF,aF]at this;exact xh.length.symm.trans<|this.symm.trans hn.symm
 rw[<-hlen]at hP⊢;refine⟨λv hv Q E q=>?_,λhk Q E q=>wpAny_pyNext_values_end hh ⟨o,Iv,hP.1,hP.2⟩ tI (bZ.mpr (by rw[hlen,hn];exact aF (f:=λe:Str×V=>e.2)▸hk)) λh' hs=>q h' 0 hs⟩;exists p,(q8:xg xh<|e5▸hv);exact wpAny_pyNext_values_item ⟨o,Iv,hP.1,hP.2⟩ tI q8.1 λh' zY hs=>zY.elim λo' q9=>q h' _ o' 0 hs q9.1 q9.2 q8.2
theorem EW(hh:C.A.handled=none)(hc:0<=Builtin.Range.rangeSize a b c):D5 C (o9<|.ref j) ρ ([3],tV a b c) i λk o=>o={cls:=.type "range_iterator",dict:=none,data:=.fields #[rawInt<|a+(k:Int)*c,rawInt<|Builtin.Range.rangeSize a b c-k,rawInt c],slots:= #[]}:=λenv ajU F oO oE s' k o hp G' hit Iv hP hi=>by
 subst hP;have hl:(tV a b c).length=(Builtin.Range.rangeSize a b c).toNat:=by unfold tV;simp[aF]
 refine⟨λw hw Q E q=>?_,λhk Q E q=>wpAny_pyNext_range_end hh Iv (by rw[hl]at hk;lia) λh' hs=>q h' 0 hs⟩;have vO:=(aU.mp hw).1;replace vO:=hl▸vO;unfold tV at hw;rw[bD,eT vO]at hw;obtain rfl:=aA hw;refine wpAny_pyNext_range_item Iv (by simp_all) λh' zY hs=>q h' _ _ 1 hs zY ?_ ⟨_,rfl⟩;simp only[show a+k*c+c=a+(k+1:Nat)*c by simp only[Int.natCast_add,Int.add_mul];lia,show Builtin.Range.rangeSize a b c-k-1=Builtin.Range.rangeSize a b c-(k+1:Nat)by lia]
theorem L7(hh:C.A.handled=none)(G:oD C ρ st s)(ha:VC ρ a x)(hx:o9 a st.H=some xs)(Q)(E)
 (h:∀P o,o.isFreed=false->P 0 o->(∀k o,P k o->∃n vs,o.cls=.type n/\o.data=.fields vs/\zM n=false)->D5 C (o9 a) ρ xs s.heap.objs.size P->jw C.w s.heap.objs.size P->Q (.ref s.heap.objs.size) {s with heap:=s.heap.push o}):
  wpAny (model PG C.w) C.A (pyIter x) Q E s:=by
  exists C,ρ,st,s,a,x,xs,Q,E,[hh,G,ha,hx,h];exists _;have hI:∀n vs,zM n=false->∀k o,IP n vs k o->∃n vs,o.cls=.type n/\o.data=.fields vs/\zM n=false:=λn vs hn k o hP=>⟨_,_,hP.1,hP.2,hn⟩;induction a with
  |str z=> obtain⟨t,rfl⟩:=ha;obtain⟨VW,hx⟩:=Iu hx;cases hx;exact k9<|wpAny_pyIter_ascii VW<|h _ _ rfl ⟨rfl,rfl⟩ (hI _ _<|rfl) (aaA hh) λs' k o ho hP A' Q E q=>Et ⟨o,ho,hP.1,hP.2⟩ q
  |ref j=>
   obtain⟨ao,hj,h2⟩:=aB.mp hx;induction iter_inv h2 with
   |list ys=> obtain⟨l,vs,n,rfl,hr,ho,Vb⟩:=G.list hj ha;exact k9<|iL ⟨_,ho,rfl,n,rfl⟩<|h _ _ rfl ⟨rfl,rfl⟩ (hI _ _<|rfl) (RY hh hr) λs' k o ho hP A' Q E q=>wpAny_pyIter_listiter ⟨o,ho,hP.1,hP.2⟩ q
   |tuple ys=> obtain⟨l,vs,n,rfl,hr,ho,Vb⟩:=G.tuple hj ha;exact k9<|wpAny_pyIter_tuple ⟨_,ho,rfl,n,rfl⟩<|h _ _ rfl ⟨rfl,rfl⟩ (hI _ _<|rfl) (zx hh hr) λs' k o ho hP A' Q E q=>wpAny_pyIter_tupleiter ⟨o,ho,hP.1,hP.2⟩ q
   |o0 es ep=> obtain⟨d,rQ,rfl,q9⟩:=G.o0 hj ha;exact k9<|wpAny_pyIter_dict (G.notModules q9.1) q9.2.1<|h _ _ rfl ⟨rfl,rfl⟩ (hI _ _<|rfl) (TJ hh q9.1 q9.2.2.length.symm) λs' k o ho hP A' Q E q=>wpAny_pyIter_keyiter ⟨o,ho,hP.1,hP.2⟩ q
   |vals dd es ep wH=> obtain⟨l,hr,rfl⟩:=ha;obtain⟨Ni,ho,d,sl,VX,rfl⟩:=G.sim.obj j l _ hr hj;obtain⟨d',rQ,e,q8⟩:=G.o0 (Cp wH) ⟨d,VX,rfl⟩;injection e with q_;subst q_;exact k9<|wpAny_pyIter_values ⟨_,ho,rfl,rfl⟩ q8.2.1<|h _ _ rfl ⟨rfl,rfl⟩ (hI _ _<|rfl) (SB hh VX q8.2.2.length.symm) λs' k o ho hP A' Q E q=>wpAny_pyIter_valiter ⟨o,ho,hP.1,hP.2⟩ q
   |range a b c hc=> obtain⟨l,hr,rfl⟩:=ha;obtain⟨Ni,ho,t,u,v,rfl⟩:=G.sim.obj j l _ hr hj;refine k9 ?_;exact wpAny_pyIter_range ho hc.1<|h _ _ rfl (by simp) (λk o hP=>by subst hP;exact⟨_,_,rfl,rfl,rfl⟩) (EW hh hc.2) λs' k o ho hP A' Q E q=>wpAny_pyIter_rangeiter (by subst hP;exact ho) q
  |_=>rcases hx with _|_
theorem FZ(hh:C.A.handled=none)(G:oD C ρ st s)(ha:VC ρ a x)(hx:o9 a st.H=some xs)(Q)(E)
 (h:∀i(P:Nat->Obj->Prop)s' o,oD C ρ st s'->pZ C.F s s'->s'.heap.get? i=some o->P 0 o->i∉ρ->i≠C.env.locals->C.ajU.get? i=none->(∀k o,P k o->∃n vs,o.cls=.type n/\o.data=.fields vs)->
  (∀oO oE s' k o,ρ<+:oO->oD C oO oE s'->o9 a oE.H=some xs->s'.heap.get? i=some o->P k o->i∉oO->
  (∀v,xs.2[k]?=some v->∀Q E,(∀h' y o' n,Heap.SameBut i s'.heap h'->h'.get? i=some o'->P (k+1) o'->VC oO v y->Q (some y) {s' with heap:=h',toks:=s'.toks+n})->wpAny (model PG C.w) C.A (pyNext<|.ref i) Q E s')/\
  (xs.2.length<=k->∀Q E,(∀h' n,Heap.ExtBut i s'.heap h'->Q none {s' with heap:=h',toks:=s'.toks+n})->wpAny (model PG C.w) C.A (pyNext<|.ref i) Q E s'))->
  Q (.ref i) s'):wpAny (model PG C.w) C.A (pyIter x) Q E s:=by
  have q8:=G.fresh;refine L7 hh G ha hx Q E λP o hf h0 hc hk U=>h _ P _ o (G.zU _) (pZ.oV ..) (bT _ hf) h0 q8.1 q8.2.1 q8.2.2 (λk o hP=>let⟨n,vs,h1,h2,_⟩:=hc k o hP;⟨n,vs,h1,h2⟩) ?_;intro oO oE s' k o hp G';exact hk C.env C.ajU C.F oO oE s' k o hp G'
def t9(v:V)(n:Nat):Hp->Option (List V):=vR (λi H=>(tE H i).bind λxs=>if xs.length=n then some xs else none) v
theorem Jp(hh:C.A.handled=none)(ha:VC ρ a x):Sd C (unpackItems x n none) (λρ vs ys=>oN (VC ρ) vs ys/\vs.length=n) ρ s st<|sO st<|t9 a n st.H:=by
 refine gR (T:=(unpackItems · n none)) rfl ha λi a Qz hr=>gB rfl λxs hi=>As rfl λhn=>Sd.of λG Q E kk=>?_;obtain⟨_,vs,m,e,q8⟩:=G.tuple (zF hi) hr;injection e with e;subst e;have hl:n=vs.size:=by simp[<-hn,q8.2.2.length]
 subst hl;exact kB hh ⟨_,q8.2.1,rfl,m,rfl⟩ λh' hs=>kk _ _ ρ (a8 _) ⟨q8.2.2,hn⟩ (G.ext (λb o e=>hs b o (bI<|b9 e) e) 0)<|pZ.oV ..
theorem jz(h:H[i]?=some (.tuple xs))(hn:xs.length=n):t9 (.ref i) n H=some xs:=by show(tE H i).bind _=_;rw[show tE H i=some xs by delta tE;rw[h];rfl];exact aH hn
def fnT:List<|Addr×Stmt:=[(58,zW 5),(73,qB 9 1),(110,qB 11 0),(117,qB 11 1),(124,qB 11 2),(129,qB 11 3),(136,qB 11 4),(143,qB 11 5),(157,qB 11 7),(164,qB 11 8),(197,zW 15),(224,qB 17 1),(501,qB 21 1),(508,qB 21 2),(515,qB 21 3),(677,qB 21 25),(790,qB 31 0),(797,qB 31 1),(827,qB 31 5),(834,qB 31 6),(856,qB 31 9),(863,qB 31 10),(878,zW 32),(885,zW 33),(893,zW 36),(898,zW 38),(903,zW 39),(910,zW 40),(915,zW 41),(922,zW 42),(927,zW 43),(934,zW 44)]
def aaT(a:Addr):Stmt:=(fnT.lookup a).getD<|.Pass ⟨0,0,0,0⟩
def oW(a:Addr):List Stmt:=fnB<|aaT a
def pC(a:Addr):Scope:=fnS<|aaT a
def Ee:Scope:=pC 58
def b58:List Stmt:=oW 58
def mf:Scope:=pC 885
def QM:Scope:=pC 934
def adD:List Stmt:=oW 885
def z7:List Addr:=[58,73,110,117,124,129,136,143,157,164,197,224,501,508,515,677,790,797,827,834,856,863,878,885,893,898,903,910,915,922,927,934]
def xU(K:Frag)(a:Addr):Option FuncData:=match K.lookup a with
 |some o=>(match o.data with|.func fd=>some fd|_=>none)
 |none=>none
def aaq(K:Frag)(a:Addr):Bool:=match xU K a with
 |some fd=>fd.scope==pC a&&!fd.scope.isCoroutine&&!fd.scope.isGenerator&&fd.scope.kind==.function&&fd.closure.isEmpty&&Gn K fd&&fd.globals==mainGlobals&&fd.builtins==builtinsNs&&((fd.scope.names.lookup ("split_command" :Str)).isNone||fd.code==.ref 884)
 |none=>false
theorem UU(P):(z7.all λa=>aaq (qE P) a)=true:=by rfl'
theorem Sk(P):(z7.map λa=>(xU (qE P) a).map (·.body))=z7.map λa=>some<|.stmts<|oW a:=by rfl'
theorem UZ(h:z7.contains a=true)(e:xU (KF w) a=some fd):fd.body=.stmts (oW a):=by have:=gA.mp (Sk w.params) a (by simpa using h);rw[e]at this;exact aA this
set_option tactic.hygienic true in
theorem Ih(h:z7.contains a=true):∃fd,xU (KF w) a=some fd/\CX w a fd (oW a)/\fd.scope=pC a:=by
 exists w,a,_;have hk:=aX.mp (UU w.params) a (by simpa using h);unfold aaq at hk;split at hk
 .exists _;rename_i fd Ym;simp only[aQ,a5,dA,cI]at hk;obtain⟨⟨⟨⟨⟨⟨⟨⟨h1,h2⟩,h3⟩,h4⟩,h5⟩,h6⟩,h7⟩,h8⟩,h9⟩:=hk;refine k9 ⟨fd,Ym,⟨?_,UZ h Ym,h2,h3,h4,h5,h6,⟨h7,h8⟩,λq=>(Bool.or_eq_true_iff.mp h9).elim (λh=>absurd (Option.isNone_iff_eq_none.mp h) q) a5.mp⟩,h1⟩;unfold xU at Ym;split at Ym
  .rename_i o ho;split at Ym
   .rename_i fd' hd;obtain rfl:=aA Ym;exact⟨o,ho,hd⟩
   .exact nn Ym
  .exact nn Ym
 .injection hk
section
open PySem PySem.Calls PyProof.Rows Builtin Builtin.ObjectAttr Builtin.Getset_descriptor
theorem DF(P):(match(qE P).lookup 731 with|some ⟨_,_,.cls cd,sl⟩=>!cd.abstract&&!cd.hasDel&&!cd.mro.isEmpty|_=>false)=true:=by rfl'
theorem fk(P):peek (qE P) ⟨PG,P⟩ (Bind.staticBase<|.ref 731)=some (.type "object"):=by rfl'
theorem sy(P):peek (qE P) ⟨PG,P⟩ (Bind.madeBy<|.type "object")=some (some "object.__new__"):=by rfl'
theorem vv(P):peek (qE P) ⟨PG,P⟩ (Bind.madeBy<|.ref 731)=some none:=by rfl'
theorem FI(P):peek (qE P) ⟨PG,P⟩ (isInstance (.ref 731)<|.type "type")=some true:=by rfl'
theorem uy(P):peek (qE P) ⟨PG,P⟩ (specialOf (.ref 731) "__call__")=some (some<|.builtin "type.__call__"):=by rfl'
theorem wk(P):peek (qE P) ⟨PG,P⟩ (isSubtype (.ref 731)<|.ref 731)=some true:=by rfl'
theorem AZ(P):peek (qE P) ⟨PG,P⟩ (isSubtype (.ref 731)<|.type "object")=some true:=by rfl'
theorem vo(P):findIn (qE P) (.ref 731) "__init__" =some (some<|.ref 501):=by rfl'
theorem Yz(P):typeIn (qE P) (.ref 501)=some (.type "function"):=by rfl'
theorem vy(P):findCls (qE P) (.ref 731) (.type "type") "__new__" =some (.get (.builtin "staticmethod.__get__") (.ref 228) .none<|.ref 731):=by rfl'
theorem AW(P):((recIn (qE P) 228 "staticmethod").bind List.head?)=some (.ref 224):=by rfl'
theorem Ty:handedIn (.ref a)=true:=rfl
theorem cj(P):readsIn (qE P) 731 (.type "type")=true:=by rfl'
set_option tactic.hygienic true in
theorem Xm{h:Heap}(X:(KF w).In h):∃oc od cd sl,h.get? 731=some ⟨oc,od,.cls cd,sl⟩/\cd.abstract=false/\cd.hasDel=false/\cd.mro.isEmpty=false:=by
 exists w,h,_;have:=DF w.params;split at this
 .rename_i oc od cd sl ho;simp only[aQ,dA]at this;exact⟨oc,od,cd,sl,X _ _ ho,this.1.1,this.1.2,this.2⟩
 .rcases this with _|_
theorem VD{os:OsState}(X:(KF w).In h)(hq:R (.ok<|.ret<|.ref<|h.objs.size+1) ⟨(h.push emptyDict).push<|instObj 731 h.objs.size,g,d,t,os⟩):
 codeAny (model PG w) A (.call (.builtin "object.__new__") ⟨[.ref 731],[]⟩) R ⟨h,g,d,t,os⟩:=by
 exists _;obtain⟨oc,od,cd,sl,hC,q8⟩:=Xm X;have F:=PySem.F.objNew;have base:Looks (model PG w) h (Bind.staticBase<|.ref 731)<|.type "object":=cZ X<|fk _;have made:Looks (model PG w) h (Bind.madeBy<|.type "object")<|some "object.__new__":=cZ X<|sy _;have top:Looks (model PG w) h (isSubtype (.ref 731)<|.type "object") true:=cZ X<|AZ _;refine k9<|codeAny_call_builtin_code (iA _ F.quiet) ?_;simp only[checkBuiltinCall,F.kind,F.split,F.row];refine(by rfl':Bind.checkArgs "object.__new__" ⟨.hand,"object.__new__","__new__",.cls,[]⟩ ⟨[.ref 731],[]⟩=pure ())▸?_;repeat(first|simp only[bne_self_eq_false]|lk)
 refine eP F.entry ?_;have fin:∀A',wpAny (model PG w) A' (do
  let d<-if typeHasDict (.ref 731)then some<$>alloc {cls:=.type "dict",data:=.dict #[]}else pure none
  ret (<-newObj (.ref 731) .plain d)) (λfin s'=>match fin with|.done f=>R (.ok f) s'|.again c'=>c'.quiet=true/\codeAny (model PG w) A c' R s') (λe s'=>R (.error e) s') ⟨h,g,d,t,os⟩:=by
  intro A';refine aD<|aD<|m8<|aM<|aD ?_;refine aD<|m8<|aD<|aD<|jR (aZ _<|aZ _ hC)<|aM ?_;refine q8.2.1▸?_;refine aM<|aM ?_;rw[dI];exact hq
 repeat(first|simp only[q8.1]|exact fin _|lk)
theorem fp(X:(KF w).In s.heap)(q:Q (.ref 224) {s with toks:=s.toks+1}):wpAny (model PG w) A (getAttr (.ref 731) "__new__" expr) Q E s:=by
 have hr:=AW w.params;rcases Vc:recIn (qE w.params) 228 "staticmethod" with _|l
 .replace hr:=Vc▸hr;exact nn hr
 .have hr:=Vc▸hr;rcases l with _|⟨f,rest⟩
  .exact nn hr
  .have e:=aA hr;subst e;exact cls_bind X (cj _) (vy _)<|eJ<|sm_get X Vc<|nZ Ty q
theorem BO{g:Array GenState}{d:Drawn}{t:Nat}{os:OsState}{rest:List Value}(X:(KF w).In h)
 (hq:codeAny (model PG w) (A.under<|.builtin "type.__call__" ⟨.ref 731::rest,[]⟩) (.call (.ref 224) ⟨.ref 731::rest,[]⟩) (λr s'=>match r with
  |.ok (.ret v)=>∃x dx,v=.ref x/\s'.heap.get? x=some (instObj 731 dx)/\(KF w).In s'.heap/\codeAny (model PG w) (A.under<|.builtin "type.__call__" ⟨.ref 731::rest,[]⟩) (.call (.ref 501) ⟨.ref x::rest,[]⟩) (InitBack x R) s'
  |.ok _=>False
  |.error e=>R (.error e) s') ⟨h,g,d,t+1,os⟩):
 codeAny (model PG w) A (.call (.ref 731) ⟨rest,[]⟩) R ⟨h,g,d,t,os⟩:=by
 obtain⟨oc,od,cd,sl,q8⟩:=Xm X;have typ:Looks (model PG w) h (isInstance (.ref 731)<|.type "type") true:=cZ X<|FI _;have made:Looks (model PG w) h (Bind.madeBy<|.ref 731) none:=cZ X<|vv _;refine jB ?_;refine nd_load q8.1 ?_;show wpAny _ _ (callAny.viaDunder (.ref 731) _) _ _ _;dsimp only[callAny.viaDunder];refine aD<|(cZ X<|uy _).at ?_;dsimp only;rw[tc_bind];refine aD<|aM<|aD<|aM ?_;refine aM (a:=Fin.again<|.call (.builtin "type.__call__") ⟨.ref 731::rest,[]⟩)<|And.intro rfl ?_;refine codeAny_call_builtin_at (iA _<|by decide+kernel) entry_typeCall<|check_slot tc_kind tc_split typ (tc_args _ _ _) ?_;unfold Builtin.«type.__call__»;have hm:Looks (model PG w) h (mroOf<|.ref 731) cd.mro:=((lN (part:=none) q8.1).andThen .now).andThen .now;dsimp only;generalize VZ:getAttr (Value.ref 731) (Str.ofString "__new__")=ga;repeat(first|simp only[q8.2.2.2,Bool.false_eq_true,if_false]|lk)
 subst VZ;refine fp (s:=⟨h,g,d,t,os⟩) X ?_;refine aD<|cL<|eJ<|dP hq λr s' P=>?_;rcases r with e|(v|_|_|_)<;>first|exact P|exact P.elim|skip
 obtain⟨x,dx,rfl,q9⟩:=P;have t1:Looks (model PG w) s'.heap (typeOf<|.ref x)<|.ref 731:=(lN q9.1).andThen .now;have s1:Looks (model PG w) s'.heap (isSubtype (.ref 731)<|.ref 731) true:=cZ q9.2.1<|wk _;have i1:=jL (M:=model PG w) q9.2.1<|vo w.params;have b1:Looks (model PG w) s'.heap (bindSpecial (.ref 501)<|.ref x) (.ref 501,[.ref x]):=bind_fn q9.2.1 (.ref x)<|Yz _;repeat(first|with_reducible refine eJ ?_|lk)
 refine dP q9.2.2 λr s' z=>?_;rcases r with e|(v|_|_|_)<;>first|exact z|exact z.elim|skip
 obtain⟨rfl,z⟩:=z;exact aM<|aM z
end
def ZJ(h:Heap)(L:Addr):Heap:={h with objs:=h.objs.extract 0 L}
theorem Ox(h)(L):(ZJ h L).objs.size<=L:=by show(h.objs.extract 0 L).size<=L;simp;exact fV L h.objs.size
theorem Fi(hb:b<L):(ZJ h L).get? b=h.get? b:=by
 unfold Heap.get? ZJ;have:(h.objs.extract 0 L)[b]?=h.objs[b]? :=by
  refine a6 Array.getElem?_extract ?_;by_cases hs:b<h.objs.size
  .rw[aH (by simp[mN];exact n9.mpr ⟨hb,hs⟩),dF]
  .rw[aL (by simp only[mN];exact λq=>hs (n9.mp q).2),Array.getElem?_eq_none<|dU hs]
 rw[this]
theorem mx(e:(ZJ h L).get? b=some o):b<L/\h.get? b=some o:=by have:=b9 e;have hb:=bJ this<|Ox h L;exact⟨hb,by exact(Fi hb)▸e⟩
def wc(h:Heap)(p:Addr->Bool):List<|Addr×Obj:=(List.range h.objs.size).filterMap λb=>if p b then(h.get? b).map λo=>(b,o)else none
set_option tactic.hygienic true in
theorem zG:(b,o)∈wc h p<->p b=true/\h.get? b=some o:=by
 exists h,p,b,o,[];unfold wc;rw[jO];constructor
 .rintro⟨c,hc,e⟩
  exists c,_;split at e
  .rename_i hp;exists o',(q_:a9.mp e);obtain⟨ho,e'⟩:=q_;obtain⟨rfl,rfl⟩:=bQ e';exact⟨hp,ho⟩
  .exact nn e
 .rintro⟨hp,ho⟩
  exact⟨b,cJ.mpr<|b9 ho,by rw[aH hp,ho];rfl⟩
def under(h:Heap)(L d:Addr):Heap:=hideAll (ZJ h L) [d]
def rest(h:Heap)(L d:Addr):List<|Addr×Obj:=wc h λb=>decide (L<b)&&b !=d
theorem Xu:∀p∈rest h L d,p.1≠d:=λp hp=>by have:=(zG.mp hp).1;simp only[aQ,hV]at this;exact this.2
theorem vF(hn:h.Ns L m):Fr (under h L d) L h m:=
 ⟨hn,λb o e=>(mx<|dS _ e).2,by unfold under;rw[hideAll_size];exact Ox h L⟩
theorem Av(hd:h.get? d=some o)(sJ:d≠L):News (under h L d) L h ((d,o)::rest h L d):=λp hp=>by
 rcases aK.mp hp with rfl|hp
 .exact⟨hd,sJ,eM _<|.head _⟩
 .obtain⟨b,ob⟩:=p;obtain⟨h1,h2⟩:=zG.mp hp;simp only[aQ,d6]at h1;refine⟨h2,cX h1.1,?_⟩;rcases q:(under h L d).get? b with _|x
  .rfl
  .have:=(mx<|dS _ q).1;exact absurd this<|gF.mpr<|bS h1.1
theorem zS{K:Frag}(X:K.In h)(hL:∀a o,K.lookup a=some o->a<L)(hd:K.lookup d=none):K.In<|under h L d:=λa o e=>by
 refine dL _ ?_ ?_
 .exact a6 (Fi<|hL a o e) (X a o e)
 .intro hm;rw[aE]at hm;rw[hm,hd]at e;injection e
theorem Ar(F:Fr (under h L d) L h' m)(N:News (under h L d) L h' ((d,o')::rest h L d)):
 (∀b ob,b≠L->b≠d->h.get? b=some ob->h'.get? b=some ob)/\h'.get? d=some o':=by
  refine⟨λb ob h1 h2 e=>?_,(N _<|.head _).1⟩;by_cases hb:b<L
  .exact F.keep b ob (dL _ (a6 (Fi hb) e)<|by simp[h2])
  .have:=gY (dU hb)<|dQ h1;exact(N (b,ob)<|.tail _<|zG.mpr ⟨by simp[this,h2],e⟩).1
theorem oD.change(G:oD C ρ st s){i:Nat}{d:Addr}{ao:AO}{o':Obj}{h':Heap}{t:Nat}{m:Str->Option Value}(e:ρ[i]?=some d)
 (kp:∀b ob,b≠C.env.locals->b≠d->s.heap.get? b=some ob->h'.get? b=some ob)(hd:h'.get? d=some o')(hn:s.heap.Ns C.env.locals m)(Ex:h'.Ns C.env.locals m)(c:OC C.w ρ ao o')(ht:s.toks<=t):
 oD C ρ {st with H:=st.H.set i ao} {s with heap:=h',toks:=t}:=by
 exists C,ρ,st,s,i,d,ao,o',h',t,m,[G,e,kp,hd,hn,Ex,c,ht];have hm:=aR e;refine⟨⟨by simp[G.sim.len],G.sim.nd,λj b x e1 e2=>?_,G.sim.new,⟨λb ob eb=>?_,G.sim.keep.2⟩⟩,⟨?_,G.fr.none,G.fr.out,λy a hy=>?_,G.fr.own,G.fr.has,G.fr.kind,G.fr.lo⟩,?_⟩
 .by_cases hj:j=i
  .obtain rfl:=hj.symm;replace e1:=e▸e1;obtain rfl:=aA e1;replace e2:=(eU<|G.sim.len▸((aU.mp e).1))▸e2;obtain rfl:=aA e2;exact⟨_,hd,c⟩
  .rw[dB<|dQ hj]at e2;exists ob,(o5:G.sim.obj j b x e1 e2);refine⟨ob,kp b ob (G.A4<|aR e1) ?_ o5.1,o5.2⟩;rintro rfl
   exact hj<|LN G.sim.nd e1 e
 .exists ob',(q9:G.sim.keep.1 b ob eb);refine⟨ob',kp b ob' (G.kept eb).1 ?_ q9.1,q9.2⟩;rintro rfl
  exact(G.kept eb).2.1 hm
 .exists ah3,(q8:G.fr.ns);refine⟨m,Ex,?_⟩;exists x;intro hx;rw[hn.agree q8.1 x];exact q8.2 x hx
 .exists y,a,_;obtain⟨h1,h2,u,⟨oc,h3,h4⟩,h5⟩:=G.fr.cell y a hy;exact⟨h1,h2,u,⟨oc,kp a oc h2 (λq=>h1<|q▸hm) h3,h4⟩,h5⟩
 .have:=G.tk;lia
theorem pZ.to{F:List Addr}(ht:s.toks<=t):pZ F s {s with heap:=h,toks:=t}:=⟨rfl,rfl,ht,.refl _⟩
theorem oF.K(B:oF k C)(G:oD C ρ st s):(KF C.w).In s.heap:=(B.top.keep G.sim.keep B.hi).K
theorem oF.noK(B:oF k C)(G:oD C ρ st s)(ha:a∈ρ):(KF C.w).lookup a=none:=by
 rcases q:(KF C.w).lookup a with _|o
 .rfl
 .have:=B.top.K _ _ q;replace this:=((G.sim.new a ha).1)▸this;injection this
theorem EC.isStr(c:EC w ρ e d)(x):d.key.isStr x=(e.1==x):=by obtain⟨⟨t,hk⟩,x7⟩:=c;exact hk▸rfl
theorem Ck(x){es:List (Str×V)}{ds:List DictEntry}(h:oN (EC w ρ) es ds):(match es.lookup x with|some v=>∃y,getL x ds=some (some y)/\VC ρ v y|none=>getL x ds=some none):=by
 exists w,ρ,x,es,ds,_;induction h with
 |nil=>rfl
 |@cons e d es ds c h ih=>
  exists e,d,es,ds,_;have hs:=c.isStr x;obtain⟨k,v⟩:=e;exists k,v,_;by_cases hx:k=x
  .subst hx;simp only[show(k==k)=true from bM k]at hs;rw[List.lookup_cons_self];exact⟨d.val,by unfold getL;simp only[jA,hs],c.2.2⟩
  .rw[cP,show(x==k)=false from a7.mpr<|dQ hx];have eq:getL x (d::ds)=getL x ds:=by unfold getL;rw[jA,hs,show((k,v).1==x)=false from a7.mpr hx,nR,show d.refKey=false by obtain⟨⟨t,hk⟩,x7⟩:=c;unfold DictEntry.refKey;rw[hk],nS]
   exact eq▸ih
theorem uk(x)(hv:VC ρ v y)(h:oN (EC w ρ) es ds):oN (EC w ρ) (put x v es)<|putL x (PyData.keyHash w.params x) (.str x t) y ds:=by
 induction h with
 |nil=>exact .cons ⟨⟨t,rfl⟩,rfl,hv⟩ .nil
 |@cons e d es ds c h ih=>
  have hs:=c.isStr x;dsimp only[D3,Po,putL];by_cases hx:e.1=x
  .rw[aH hx,aH (by rw[hs];exact a5.mpr hx)];exact .cons ⟨c.1,c.2.1,hv⟩ h
  .rw[aL hx,aL (by rw[hs];simpa using hx)];exact .cons c ih
theorem jo(x)(v):∀es,(put x v es).map (·.1)=if x∈es.map (·.1)then es.map (·.1)else es.map (·.1)++[x]:=by
 exists zr;induction zr with
 |nil=> rfl
 |cons zh r pD=>
  obtain⟨k,u⟩:=zh;dsimp only[D3,Po];by_cases hx:k=x
  .obtain rfl:=hx.symm;simp
  .rw[aL hx,cW,pD];simp only[cW,aK];by_cases hm:x∈r.map (·.1)
   .rw[aH hm,aH<|.inr hm]
   .rw[aL hm,aL<|by simp[hm,dQ hx]];rfl
theorem Z8(h:(es.map (·.1)).Nodup):((put x v es).map (·.1)).Nodup:=by
 rw[jo];refine iteInduction (λU=>?_) λhm=>?_
 .exact h
 .rw[cH];exact⟨h,by simp,λa ha b hb=>by rw[aE]at hb;rintro rfl;exact hm<|hb▸ha⟩
theorem DC(x)(v):∀es,(put x v es).length<=es.length+1:=by
 exists zr;induction zr with
 |nil=> simp[D3]
 |cons zh r pD=>
  obtain⟨k,u⟩:=zh;dsimp only[D3,Po];split
  .simp
  .have:=pD;simp only[bA];exact i6 pD 1
structure Oz(K:Frag)(D:Addr):Prop where
 ga:findIn K (.ref D) "__getattribute__" =some (some<|.builtin "object.__getattribute__")
 gt:findIn K (.ref D) "__getattr__" =some none
 sa:findIn K (.ref D) "__setattr__" =some (some<|.builtin "object.__setattr__")
 pl:plainOver K D=true
def B9:V->Bool
 |.bi _=>false
 |_=>true
theorem xH(h:B9 v=true)(c:VC ρ v y):handedIn y=true:=by induction v<;>first|(injection h;done)|(subst c;rfl)|(obtain⟨t,rfl⟩:=c;rfl)|(obtain⟨t,_,rfl⟩:=c;rfl)
theorem oD.inst{i d:Nat}{D:Addr}{es:List (Str×V)}{xs:List V}(G:oD C ρ st s)(hi:st.H[i]?=some (.inst D d xs))(hd:st.H[d]?=some (.dict es)){ov:Value}(hv:VC ρ (.ref i) ov):
 ∃a dx vs ds n,ov=.ref a/\ρ[i]?=some a/\ρ[d]?=some dx/\s.heap.get? dx=some (dictOf ds n)/\oN (EC C.w ρ) es ds/\(es.map (·.1)).Nodup/\oN (VC ρ) xs vs/\InstAt s.heap a ⟨.ref D,some dx,.plain,(vs.map some).toArray⟩ D (some<|dictOf ds n):=by
 exists C,ρ,st,s,i,d,D,es,xs,ov,[G,hi,hd,hv];exists a,(q_:hv);obtain⟨ha,rfl⟩:=q_;obtain⟨o,ho,dx,vs,hdx,rfl,Ey⟩:=G.sim.obj i a _ ha hi;obtain⟨od,hod,ds,n,rfl,q8⟩:=G.sim.obj d dx _ hdx hd;exact⟨a,dx,vs,ds.toList,n,rfl,ha,hdx,hod,q8.1,q8.2,Ey,ho,rfl,rfl,hod⟩
theorem tu{i:Nat}{D:Addr}(B:oF k C)(K:Oz (KF C.w) D){x:Str}(hh:hasDictIn (KF C.w) D=true)(hf:findIn (KF C.w) (.ref D) x=some none)(hi:st.H[i]?=some (.inst D d xs))(hd:st.H[d]?=some (.dict es)){v:V}(hl:es.lookup x=some v)(hb:B9 v=true){ov:Value}(hv:VC ρ (.ref i) ov):
 Sd C (getAttr ov x true) VC ρ s st (some (.ok v,st)):=by
 exists k,C,ρ,st,s,i,d,D,es,xs,x,v,ov,[B,K,hh,hf,hi,hd,hl,hb,hv];refine Sd.of λG Q E kk=>?_;exists a,dx,ws,ds,n,(q_:G.inst hi hd hv);obtain⟨rfl,q9⟩:=q_;have:=Ck x q9.2.2.2.1;simp only[hl]at this;exists y,(q8:this);exact get_value (B.K G) q9.2.2.2.2.2.2 K.ga (findObj_own hh hf rfl q8.1) (xH hb q8.2)<|kk y _ ρ (a8 _) q8.2 (G.tok 1)<|pZ.tok s 1
theorem Tw{i:Nat}{D:Addr}{es:List (Str×V)}{xs:List V}(B:oF k C)(K:Oz (KF C.w) D){x:Str}(hh:hasDictIn (KF C.w) D=true)(hf:findIn (KF C.w) (.ref D) x=some none)(hi:st.H[i]?=some (.inst D d xs))(hd:st.H[d]?=some (.dict es))(hz:es.length<900){v:V}{y:Value}(N0:VC ρ v y){ov:Value}(hv:VC ρ (.ref i) ov):
 Sd C (setAttr ov x y) UR ρ s st (some (.ok (),{st with H:=st.H.set d (.dict<|put x v es)})):=by
 exists k,C,ρ,st,s,i,d,D,es,xs,x,v,y,ov,[B,K,hh,hf,hi,hd,hz,N0,hv];refine Sd.of λG Q E kk=>?_;exists a,dx,ws,ds,n,(q_:G.inst hi hd hv);obtain⟨rfl,o5⟩:=q_;exists m,(q9:G.fr.ns);have U7:=uk x (t:=s.toks+1) N0 o5.2.2.2.1;have hg:(getL x ds).isSome=true:=by
  have:=Ck x o5.2.2.2.1;rcases hl:es.lookup x with _|u
  .simp only[hl]at this;rw[this];rfl
  .simp only[hl]at this;obtain⟨z,hz,_⟩:=this;rw[hz];rfl
 refine set_dict (vF q9.1) (zS (B.K G) (λa o e=>bJ (uC e).1 G.fr.lo)<|B.noK G<|aR o5.2.1) (Av o5.2.2.1<|G.A4<|aR o5.2.1) o5.2.2.2.2.2.2 rfl K.sa K.pl (by unfold takerIn;rw[hf];rfl) hh hg rfl (.head Xu) ?_ λh' F' N'=>?_
 .rw[<-U7.length];have:=DC x v es;exact lk<|aC this hz
 .have q8:=Ar F' N';refine kk () _ ρ (a8 _) trivial (G.change o5.2.1 q8.1 q8.2 q9.1 F'.ns ⟨_,_,rfl,?_,Z8 o5.2.2.2.2.1⟩<|aT _ _)<|pZ.to<|aT _ _;exact U7
theorem zf{i:Nat}{D:Addr}{es:List (Str×V)}{xs:List V}(B:oF k C)(K:Oz (KF C.w) D){x:Str}{f:Addr}{pl:Sem Bool}(hf:findIn (KF C.w) (.ref D) x=some (some<|.ref f))(ht:typeIn (KF C.w) (.ref f)=some (.type "function"))(hi:st.H[i]?=some (.inst D d xs))(hd:st.H[d]?=some (.dict es))(hl:es.lookup x=none){ov:Value}(hv:VC ρ (.ref i) ov):
 Sd C (getMethod ov x pl) (λρ f g=>VC ρ f.1 g.1/\oN (VC ρ) f.2 g.2) ρ s st (some (.ok (.top f,[.ref i]),st)):=by
 exists k,C,ρ,st,s,i,d,D,es,xs,x,f,pl,ov,[B,K,hf,ht,hi,hd,hl,hv];refine Sd.of λG Q E kk=>?_;exists a,dx,ws,ds,n,(q_:G.inst hi hd hv);obtain⟨rfl,q8⟩:=q_;have:=Ck x q8.2.2.2.1;simp only[hl]at this;exact method_fn (B.K G) q8.2.2.2.2.2.2 K.ga K.gt hf ht (by show(lookIn x<|dictOf ds n).map (·.isSome)=some false;simp only[lookIn_dict,this];rfl)<|kk _ _ ρ (a8 _) ⟨rfl,.cons ⟨a,q8.1,rfl⟩ .nil⟩ G<|.refl s
def PJ(K:Frag)(D:Addr):Bool:=findIn K (.ref D) "__getattribute__" ==some (some<|.builtin "object.__getattribute__")&&findIn K (.ref D) "__getattr__" ==some none&&
 findIn K (.ref D) "__setattr__" ==some (some<|.builtin "object.__setattr__")&&plainOver K D&&isClsIn K D
theorem GQ{K:Frag}{D:Addr}(h:PJ K D=true):Oz K D/\isClsIn K D=true:=by simp only[PJ,aQ,a5]at h;exact⟨⟨h.1.1.1.1,h.1.1.1.2,h.1.1.2,h.1.2⟩,h.2⟩
def vA:List Addr:=[77,174,731,866]
theorem P7(P):(vA.all λD=>PJ (qE P) D)=true:=by rfl'
theorem yX{D:Addr}(h:vA.contains D=true):Oz (KF w) D/\isClsIn (KF w) D=true:=
 GQ (aX.mp (P7 w.params) D<|by simpa using h)
def u4:List<|Addr×Str:=
 ((["instream","infile","posix","eof","commenters","wordchars","whitespace","whitespace_split","quotes","escape","escapedquotes","state","pushback","lineno","debug","token","filestack","source","_punctuation_chars"]:List Str).map λx=>((866:Addr),x))++
 ((["_StringIO__newline","_StringIO__buf","_StringIO__pos"]:List Str).map λx=>((731:Addr),x))++
 ((["_node2info","_ready_nodes","_npassedout","_nfinished"]:List Str).map λx=>((174:Addr),x))
theorem M5(P):(u4.all λp=>findIn (qE P) (.ref p.1) p.2==some none&&hasDictIn (qE P) p.1)=true:=by rfl'
theorem mo{D:Addr}(h:u4.contains (D,x)=true):findIn (KF w) (.ref D) x=some none/\hasDictIn (KF w) D=true:=by have:=aX.mp (M5 w.params) (D,x) (by simpa using h);simpa using this
def Ju(K:Frag)(D:Addr)(x:Str)(i:Nat):Bool:=match findIn K (.ref D) x with
 |some (some<|.ref p)=>specialIn K (.ref p) "__get__" ==some (some<|.builtin "member_descriptor.__get__")&&takesIn K (.ref p)==some true&&slotIn K p D==some i&&typeIn K (.ref p)==some (.type "member_descriptor")
 |_=>false
set_option tactic.hygienic true in
theorem Rb{K:Frag}{D:Addr}{i:Nat}(h:Ju K D x i=true):∃p,findIn K (.ref D) x=some (some<|.ref p)/\specialIn K (.ref p) "__get__" =some (some<|.builtin "member_descriptor.__get__")/\takesIn K (.ref p)=some true/\slotIn K p D=some i/\typeIn K (.ref p)=some (.type "member_descriptor"):=by
 exists K,D,x,i,_;unfold Ju at h;split at h
 .rename_i p hp;simp only[aQ,a5]at h;exact⟨p,hp,h.1.1.1,h.1.1.2,h.1.2,h.2⟩
 .injection h
def y3:Str->Option Nat:=λx=>if x= "node" then some 0 else if x= "npredecessors" then some 1 else if x= "successors" then some 2 else none
theorem bg(P):(Ju (qE P) 77 "node" 0&&Ju (qE P) 77 "npredecessors" 1&&Ju (qE P) 77 "successors" 2)=true:=by rfl'
set_option tactic.hygienic true in
theorem Pz{i:Nat}(h:y3 x=some i):Ju (KF w) 77 x i=true/\i<3:=by
 exists w,x,i,_;have:=bg w.params;simp only[aQ]at this;unfold y3 at h;split at h
 .rename_i e;obtain rfl:=aA h;exact e▸(⟨this.1.1,c6 _⟩)
 .split at h
  .rename_i e;obtain rfl:=aA h;exact e▸(⟨this.1.2,dM _⟩)
  .split at h
   .rename_i e;obtain rfl:=aA h;exact e▸(⟨this.2,aI _⟩)
   .exact nn h
def B5(i:Nat)(v:V)(xs:List V):List V:=if i<xs.length then xs.set i v else xs++[v]
theorem Ou{y:Value}(hi:i<=vs.length):(((vs.map some).toArray++Array.replicate (i+1-(vs.map some).toArray.size) none).setIfInBounds i<|some y)=((if i<vs.length then vs.set i y else vs++[y]).map some).toArray:=by
 rw[List.size_toArray,aF];by_cases h:i<vs.length
 .simp[aH h,show i+1-vs.length=0 from(Nat.sub_eq_zero_of_le h)]
 .have e:i=vs.length:=(cM (lk hi)<|lk<|dU h);subst e;rw[aL h,show vs.length+1-vs.length=1 from(Nat.add_sub_self_left vs.length 1)];apply Array.ext';simp[List.set_append]
theorem oN.set{α β:Type}{R:α->β->Prop}{a:α}{b:β}(Jb:R a b){l:List α}{m:List β}(i)(h:oN R l m):oN R (l.set i a)<|m.set i b:=by
 induction h generalizing i with
 |nil=>exact .nil
 |cons h t ih=>
  rcases i with _|i
  .exact .cons Jb t
  .exact .cons h (ih i)
theorem O2(h:oN (VC ρ) xs vs)(hv:VC ρ v y):oN (VC ρ) (B5 i v xs)<|if i<vs.length then vs.set i y else vs++[y]:=by
 unfold B5;rw[h.length];split
 .exact h.set hv i
 .exact h.append (.cons hv .nil)
theorem cb(B:oF k C)(hj:y3 x=some j)(hi:st.H[i]?=some (.inst 77 d xs))(hd:st.H[d]?=some (.dict es))(hl:xs[j]?=some v)(hb:B9 v=true)(hv:VC ρ (.ref i) ov):
 Sd C (getAttr ov x true) VC ρ s st (some (.ok v,st)):=by
 refine Sd.of λG Q E kk=>?_;obtain⟨a,dx,ws,ds,n,rfl,vH⟩:=G.inst hi hd hv;obtain⟨m,qV⟩:=G.fr.ns;obtain⟨p,o5⟩:=Rb (Pz hj).1;have q9:=yX (w:=C.w) (D:=77)<|rfl;exists y,(q8:vH.2.2.2.2.2.1.get hl);refine get_slot (vF qV.1) (zS (B.K G) (λa o e=>bJ (uC e).1 G.fr.lo)<|B.noK G<|aR vH.1) vH.2.2.2.2.2.2 (by unfold plainGet;exact q9.1.ga▸q9.1.gt▸rfl) q9.2 o5.1 o5.2.1 o5.2.2.1 o5.2.2.2.1 ?_ (xH hb q8.2)<|kk y _ ρ (a8 _) q8.2 (G.tok 1)<|pZ.tok s 1;simp only[List.getElem?_toArray,bD,q8.1];rfl
theorem Oj(B:oF k C)(hj:y3 x=some j)(hi:st.H[i]?=some (.inst 77 d xs))(hd:st.H[d]?=some (.dict es))(hz:j<=xs.length)(N0:VC ρ v y)(hv:VC ρ (.ref i) ov):
 Sd C (setAttr ov x y) UR ρ s st (some (.ok (),{st with H:=st.H.set i (.inst 77 d<|B5 j v xs)})):=by
 exists k,i,j,C,ρ,st,s,x,d,xs,es,v,y,ov,[B,hj,hi,hd,hz,N0,hv];refine Sd.of ?_;intro G;exists Q,E;intro kk;exists a,dx,ws,ds,n,(q_:G.inst hi hd hv);obtain⟨rfl,vH⟩:=q_;exists m,(qV:G.fr.ns);obtain⟨h0,vO⟩:=Pz hj;exists p,(o5:Rb h0);have q9:=yX (w:=C.w) (D:=77)<|rfl;refine set_slot (vF qV.1) (zS (B.K G) (λa o e=>bJ (uC e).1 G.fr.lo)<|B.noK G<|aR vH.1) (Av vH.2.2.2.2.2.2.at_<|G.A4<|aR vH.1) vH.2.2.2.2.2.2 q9.1.sa q9.1.pl (by unfold takerIn;rw[o5.1];refine(a6 (aV _ o5.2.2.1) ?_:(takesIn _ _).map _=_);rfl) o5.2.2.2.2 o5.2.2.2.1 (lk vO) rfl rfl (.head Xu) ?_;exists h';intro F' N';have q8:=Ar F' N';refine kk () _ ρ (a8 _) trivial (G.change vH.1 q8.1 q8.2 qV.1 F'.ns ⟨dx,_,vH.2.1,?_,O2 vH.2.2.2.2.2.1 N0⟩<|aT _ _)<|pZ.to<|aT _ _;rw[<-Ou (vH.2.2.2.2.2.1.length▸hz)]
def Cx.under(C:Cx)(D:Addr)(vs:List Value)(kw:List<|Str×Value):Cx:={C with A:=C.A.under (.builtin "type.__call__" ⟨.ref D::vs,kw⟩)}
def Oe(D:Addr)(st:St):St:={st with H:=st.H++[.dict [],.inst D st.H.length []]}
def Gq(n:Nat):r8 V->Option (r8 V)
 |.ok v=>if v=.none then some (.ok<|.ref n)else none
 |.exc c=>some<|.exc c
theorem Om(h:Gq n (.ok b)=some u):b=.none/\u=.ok (.ref n):=by obtain⟨e,h⟩:=Iu h;exact⟨e,(aA h).symm⟩
def Nq(st:St)(o:oM V):oM V:=o.bind λq=>(Gq (st.H.length+1) q.1).bind λu=>some (u,q.2)
theorem Eh{D:Addr}(A:Around):(A.under<|.builtin "type.__call__" ⟨.ref D::vs,kw⟩).units=A.units+1/\(A.under<|.builtin "type.__call__" ⟨.ref D::vs,kw⟩).depth=A.depth+1/\(A.under<|.builtin "type.__call__" ⟨.ref D::vs,kw⟩).frames=A.frames/\(A.under<|.builtin "type.__call__" ⟨.ref D::vs,kw⟩).handled=A.handled:=by refine⟨rfl,rfl,rfl,rfl⟩
theorem oF.under{D:Addr}(B:oF (k+1) C):oF k<|C.under D vs kw:=by
 have q8:=Eh (D:=D) (vs:=vs) (kw:=kw) C.A;refine⟨B.top,B.hi,B.live,?_,?_,B.fn,B.gl⟩
 .show(C.A.under _).depth+k<1000;rw[q8.2.1];have:=B.dp;lia
 .show(C.A.under _).units+20*k<9000;rw[q8.1];have:=B.un;exact lk this
theorem pP.under{D:Addr}(L:pP C):pP<|C.under D vs kw:=by have q9:=Eh (D:=D) (vs:=vs) (kw:=kw) C.A;obtain⟨hh,mg,cd,lo,outer,q8⟩:=L;exact⟨q9.2.2.2.trans hh,mg,cd,lo,outer,q9.2.2.1.trans q8.1,q8.2.1,q8.2.2.1,q8.2.2.2⟩
theorem oD.abt{D:Addr}(G:oD C ρ st s):oD C ((ρ++[s.heap.objs.size])++[s.heap.objs.size+1]) (Oe D st) {s with heap:=(s.heap.push emptyDict).push (instObj D s.heap.objs.size)}:=by
 have hl:(ρ++[s.heap.objs.size])[st.H.length]?=some s.heap.objs.size:=by simp only[<-G.len,aS<|aI _,cD];rfl
 have G2:=(G.push (ao:=.dict []) rfl ⟨#[],0,rfl,.nil,by decide⟩).push (ao:=.inst D st.H.length []) rfl ⟨s.heap.objs.size,[],pT ⟨_,rfl⟩ hl,rfl,.nil⟩;have e:{s with heap:=s.heap.push emptyDict}.heap.objs.size=s.heap.objs.size+1:=dI ..;simp only[e]at G2;have e2:Oe D st={({st with H:=st.H++[.dict []]}:St)with H:=(st.H++[.dict []])++[.inst D st.H.length []]}:=by unfold Oe;simp
 simp only[e2];exact G2
theorem DW{D:Addr}{vs:List Value}{kw:List (Str×Value)}(B:oF (k+1) C)(hm:makesIn (KF C.w) D=true){fI:Addr}(hi:findIn (KF C.w) (.ref D) "__init__" =some (some<|.ref fI))(hf:typeIn (KF C.w) (.ref fI)=some (.type "function"))
 {o:oM V}(h:∀oO s' x,ρ<+:oO->VC oO (.ref<|st.H.length+1) x->Cd (C.under D vs kw) (.call (.ref fI) ⟨x::vs,kw⟩) oO s' (Oe D st) o):Cd C (.call (.ref D) ⟨vs,kw⟩) ρ s st<|Nq st o:=by
 exists k,C,ρ,st,s,D,vs,kw,fI,o,[B,hm,hi,hf,h];intro G;exists r,oE;intro e;have X:=B.K G;obtain⟨hp,q8⟩:=s;have G2:=G.abt (D:=D);have pre:ρ<+:((ρ++[hp.objs.size])++[hp.objs.size+1]):=⟨[hp.objs.size,hp.objs.size+1],by simp⟩;have hx:VC ((ρ++[hp.objs.size])++[hp.objs.size+1]) (.ref<|st.H.length+1)<|.ref<|hp.objs.size+1:=by refine⟨_,?_,rfl⟩;rw[<-G.len,aS<|by simp];simp
 refine make_core (makes_of X hm) (jL X hi) (λself=>bind_fn X self hf) (.inl rfl) ?_;rcases o with _|p
 .exact nn e
 .obtain⟨q,pU⟩:=p;obtain⟨u,h1,h2⟩:=aB.mp<|show((Gq (st.H.length+1) q).bind λu=>some (u,pU))=some (r,oE)from e;obtain⟨rfl,rfl⟩:=bQ<|aA h2;refine dP (h _ _ _ pre hx ⟨G2.sim,G2.fr,G2.tk⟩ q pU rfl) λr' s' P=>?_;rcases r' with x|f
  .obtain⟨c,oO,e',uM,X',G',n'⟩:=P;subst e';obtain rfl:=aA h1;exact⟨c,oO,rfl,pre.trans uM,⟨X'.ex⟩,⟨G'.sim,G'.fr,G'.tk⟩,⟨n'.os,n'.dr,n'.tk,n'.gn⟩⟩
  .induction f with
   |ret v=> obtain⟨b,oO,e',uM,hv,G',n'⟩:=P;subst e';obtain⟨rfl,rfl⟩:=Om h1;subst hv;exact⟨rfl,_,oO,rfl,pre.trans uM,hx.mono uM,⟨G'.sim,G'.fr,G'.tk⟩,⟨n'.os,n'.dr,n'.tk,n'.gn⟩⟩
   |_=>exact P
def SR(o:AO):Bool:=Nat.blt o.ctorIdx 4||Nat.beq o.ctorIdx 15
def Gm(a:V)(H:Hp):Bool:=((vS (λU U=>some ()) a H).or<|vR (λi H=>(H[i]?).bind λo=>if SR o=true then some ()else none) a H).isSome
def kE(H:Hp)(i:Nat):Option<|List<|Str×V:=(dE H i).or<|(fE H i).bind λq=>some q.1
def nth(xs:List V)(j:Int):Option V:=if 0<=j then xs[j.toNat]? else if-(xs.length:Int)<=j then xs[(j+xs.length).toNat]? else none
def xQ(a b:V)(H:Hp):pO:=
 (vR (λi=>vI (λj H=>((lE H i).bind λxs=>if xs.length<big then(nth xs j).bind λv=>some (.ok v,H)else none).or
  ((tE H i).bind λxs=>if 0<=j/\xs.length<big then(xs[j.toNat]?).bind λv=>some (.ok v,H)else none)) b) a H).or
 (vR (λi=>vS (λx H=>(kE H i).bind λes=>(es.lookup x).bind λv=>some (.ok v,H)) b) a H)
def part:V->Option (Option Int)
 |.none=>some none
 |.int i=>some<|some i
 |_=>none
def pick(xs:List V)(lo hi st:Option Int):List V:=
 (sliceRange (sliceBounds lo hi st xs.length).1 (sliceBounds lo hi st xs.length).2.1 (sliceBounds lo hi st xs.length).2.2).filterMap (xs[·]?)
def uP(x:Str)(lo hi:Option Int):Str:=
 if((Builtin.Str.strSliceIndices lo hi 1 x.length).length==x.length)=true then x else⟨((Builtin.Str.strSliceIndices lo hi 1 x.length).filterMap (x.cps[·]?)).toArray⟩
def lxs:AO->Option (List V)
 |.list xs=>some xs
 |.r5 zs _=>some<|zs.map V.int
 |_=>none
def rJ(a l u p:V)(H:Hp):Option<|V×Hp:=
 (part l).bind λlo=>(part u).bind λhi=>(part p).bind λst=>
 (vR (λi H=>((H[i]?).bind lxs).bind λxs=>if st≠some 0/\xs.length<big then some (.ref H.length,H++[.list<|pick xs lo hi st])else none) a H).or
 (vS (λx H=>if st=none/\(uP x lo hi).length<big then some (.str<|uP x lo hi,H)else none) a H)
def uB(a b v:V)(H:Hp):Option Hp:=
 (vR (λi=>vI (λj H=>(lE H i).bind λxs=>if 0<=j/\j<xs.length/\xs.length<big then some (H.set i<|.list<|xs.set j.toNat v)else none) b) a H).or
 (vR (λi=>vS (λx H=>(dE H i).bind λes=>if es.length<big then some (H.set i<|.dict<|put x v es)else none) b) a H)
theorem oD.uX(G:oD C ρ st s)(e:ρ[i]?=some d)(hs:Heap.SameBut d s.heap h')(hd:h'.get? d=some o')(c:OC C.w ρ ao o')(ht:s.toks<=t):
 oD C ρ {st with H:=st.H.set i ao} {s with heap:=h',toks:=t}:=by
 obtain⟨m,q8⟩:=G.fr.ns;exact G.change e (λb ob U h2 eb=>(hs.2 b h2).trans eb) hd q8.1 (q8.1.sameBut hs<|dQ<|G.A4<|aR e) c ht
theorem oD.KG(G:oD C ρ st s){i:Nat}{xs:List V}(hi:(st.H[i]?).bind lxs=some xs){y:Value}(hv:VC ρ (.ref i) y):
 ∃a vs n,y=.ref a/\ρ[i]?=some a/\s.heap.get? a=some ⟨.type "list",none,.seq vs n,#[]⟩/\oN (VC ρ) xs vs.toList:=by
 exists C,ρ,st,s,i,xs,y,[G,hi,hv];obtain⟨ao,h1,h2⟩:=aB.mp hi;induction ao<;>first|exact nn h2|skip
 .obtain rfl:=aA h2;exact G.list h1 hv
 .exists _;obtain rfl:=aA h2;exists a,(q_:hv);obtain⟨ha,rfl⟩:=q_;obtain⟨o,ho,rfl,vs,n,rfl,hx⟩:=G.sim.obj i a _ ha h1;exact k9 ⟨a,vs,n,rfl,ha,ho,hx.imp λU U=>VC.mono<|List.nil_prefix⟩
theorem mu{j:Int}(h:nth xs j=some v):(0<=j/\xs[j.toNat]?=some v)\/(j<0/\-(xs.length:Int)<=j/\xs[(j+xs.length).toNat]?=some v):=by
 by_cases a:0<=j
 .exact .inl ⟨a,(aH a).symm.trans h⟩
 .replace h:=(aL a).symm.trans h;obtain⟨b,h⟩:=Iu h;exact .inr ⟨Int.not_le.mp a,b,h⟩
theorem ZV(G:oD C ρ st s)(h:kE st.H i=some es)(hv:VC ρ (.ref i) y):∃a rQ,y=.ref a/\s.heap.DictOf (strKind PG C.w) a rQ/\oN (KR ρ) es rQ:=by
 exists C,ρ,st,s,i,es,y,_;rcases fA.mp h with h|⟨_,h⟩
 .exists a,rQ,(q_:G.dict (tQ h) hv);obtain⟨e,q⟩:=q_;exact⟨a,rQ,e,q.2.1,q.2.2⟩
 .exists p,(q_:aB.mp h);obtain⟨h1,h2⟩:=q_;exists a,rQ,(q_:G.o0 (Cp h1) hv);obtain⟨e,q⟩:=q_;exact⟨a,rQ,e,q.2.1.dictOf,aA h2▸q.2.2⟩
theorem PV(G:oD C ρ st s)(ha:VC ρ a x)(h:Gm a st.H=true)(Q)(E)(q:Q false s):wpAny (model PG C.w) C.A (getitemInPython x) Q E s:=by
 exists C,ρ,st,s,a,x,Q,E,[G,ha,h,q];have key:∀T id,s.TypeIs x T->Slot T "__getitem__" id->wpAny (model PG C.w) C.A (getitemInPython x) Q E s:=λT id hT hS=>aD<|jC hT hS.lookup<|aM q;exists x7,(h:fH.mp h);rcases fA.mp h with h|⟨_,h⟩
 .induction a<;>first|exact nn h|skip
  obtain⟨t,rfl⟩:=ha;exact key "str" _ (fT s _ t) F.slot_str_getitem
 .induction a<;>first|exact nn h|skip
  obtain⟨o,hi,h⟩:=aB.mp h;induction o<;>first|exact nn h|skip
  .obtain⟨a,vs,n,rfl,q⟩:=G.list hi ha;exact key "list" _ ⟨_,q.2.1,rfl⟩ mO
  .obtain⟨a,vs,n,rfl,q⟩:=G.tuple hi ha;exact key "tuple" _ ⟨_,q.2.1,rfl⟩ F.slot_tuple_getitem
  .obtain⟨a,rQ,rfl,q⟩:=G.dict hi ha;exact key "dict" _ q.2.1.typeIs mP
  .obtain⟨a,rQ,rfl,q⟩:=G.o0 hi ha;exact key "dict" _ q.2.1.dictOf.typeIs mP
  .obtain⟨a,vs,n,rfl,q⟩:=G.KG (by rw[hi];rfl) ha;exact key "list" _ ⟨_,q.2.1,rfl⟩ mO
theorem j63{j:Int}(h0:0<=j)(h:j.toNat<n)(hz:n<big):j<2^63:=by unfold big at hz;lia
theorem CU(B:oF k C)(ha:VC ρ a x)(hb:VC ρ b y):Sd C (getItem x y) VC ρ s st<|pX st<|xQ a b st.H:=by
 refine gO (gR (T:=(getItem · y)) rfl ha λi a' Qz hr=>gI rfl hb λj t=>gO ?_ ?_)<|gR (T:=(getItem · y)) rfl ha λi a' Qz hr=>gS rfl hb λz t=>?_
 .refine gB rfl λxs hi=>As rfl λhz=>gB rfl λv hv=>Sd.rV λG Q E kk=>?_;obtain⟨_,vs,n,e,_,ho,Vb⟩:=G.list (q0 hi) hr;injection e with e;subst e;have hl:xs.length=vs.size:=Vb.length;rcases mu hv with⟨h0,hv⟩|⟨h0,h1,hv⟩
  .obtain⟨z,xi,hvz⟩:=Vb.get hv;exact wpAny_getItem_list ⟨_,ho,rfl,n,rfl⟩ h0 (j63 h0 (aU.mp hv).1 hz) (bU▸xi)<|kk _ hvz
  .obtain⟨z,xi,hvz⟩:=Vb.get hv;unfold big at hz;exact wpAny_getItem_list_neg ⟨_,ho,rfl,n,rfl⟩ h0 (hl▸h1) (by lia) (bU▸hl▸xi)<|kk _ hvz
 .refine gB rfl λxs hi=>As rfl λhz=>gB rfl λv hv=>Sd.rV λG Q E kk=>?_;obtain⟨_,vs,n,e,_,ho,Vb⟩:=G.tuple (zF hi) hr;injection e with e;subst e;obtain⟨z,xi,hvz⟩:=Vb.get hv;have vO:=(aU.mp hv).1;have hl:=Vb.length;refine P.getItem_tuple ho (by have:=j63 hz.1 vO hz.2;lia) (j63 hz.1 vO hz.2) ?_ (bU▸xi)<|kk _ hvz;unfold seqIndex?;rw[aL<|oA.mpr hz.1,aH];simp[aQ];simp_all
 .refine gB rfl λes hi=>gB rfl λv hv=>Sd.plain λG Q E kk=>?_;obtain⟨_,rQ,e,q9⟩:=ZV G hi hr;injection e with e;subst e;have h:=vU q9.2 z;have h:=hv▸h;rcases hw:valueAt rQ z with _|y
  .rw[hw]at h;exact h.elim
  .rw[hw]at h;exact wpAny_getItem_of (hZ PG C.w z t) q9.1.mapOf hw<|kk _ 1 h
theorem zN(h:part v=some o)(c:VC ρ v x):IsPart x o/\∃p:Option<|Int×Tok,x=partValue p/\p.map (·.1)=o:=by
 induction v<;>first|exact nn h|skip
 .obtain rfl:=aA h;subst c;exact⟨.none,none,rfl,rfl⟩
 .injection h with q_;subst q_;obtain⟨t,rfl⟩:=c;exact⟨.int _ t,some (_,t),rfl,rfl⟩
theorem oN.pick(h:oN (VC ρ) xs ys)(l:List Nat):oN (VC ρ) (l.filterMap (xs[·]?))<|l.filterMap (ys[·]?):=by
 induction l with
 |nil=>exact .nil
 |cons i l ih=>
  rw[gU,gU];rcases e:xs[i]? with _|v
  .rw[bZ.mpr<|h.length▸bZ.mp e];exact ih
  .obtain⟨y,q8⟩:=h.get e;exact q8.1▸.cons q8.2 ih
theorem au(B:oF k C){a l u p:V}{x xl xu xp:Value}{i:Addr}(ha:VC ρ a x)(hl:VC ρ l xl)(hu:VC ρ u xu)(hp:VC ρ p xp)(hi:s.heap.get? i=some ⟨.type "slice",none,.fields #[xl,xu,xp],#[]⟩):
 Sd C (getItem x<|.ref i) VC ρ s st (uL st<|rJ a l u p st.H):=by
 refine gB rfl λlo h1=>gB rfl λwx h2=>gB rfl λsp h3=>gO (gR (T:=(getItem · (.ref i))) rfl ha λj a' Qz hr=>gB rfl λxs hj=>As rfl λhz=>Sd.of λG Q E kk=>?_)<|gS (T:=(getItem · (.ref i))) rfl ha λz t=>As rfl λhz=>Sd.plain λG Q E kk=>?_
 .obtain⟨_,vs,n,e,q8⟩:=G.KG hj hr;injection e with e;subst e;have hlen:xs.length=vs.size:=q8.2.2.length;refine wpAny_getItem_list_slice ⟨_,q8.2.1,rfl,n,rfl⟩ ⟨_,hi,rfl,rfl⟩ (zN h1 hl).1 (zN h2 hu).1 (zN h3 hp).1 hz.1
   (kk _ _ _ ⟨_,rfl⟩ (q7 G) (G.push rfl ⟨_,0,rfl,?_⟩)<|pZ.oV ..) ?_
  .refine oN.mono ⟨_,rfl⟩ ?_;dsimp only[pick,slicePick];rw[hlen];rw[(by funext i;simp only[bU]:(λi:Nat=>vs[i]?)=λi:Nat=>vs.toList[i]?)];exact q8.2.2.pick _
  .exact hlen▸bC (bS hz.2) rG
 .obtain⟨_,pl,rfl,rfl⟩:=zN h1 hl;obtain⟨_,pu,rfl,rfl⟩:=zN h2 hu;obtain⟨_,pp,rfl,e3⟩:=zN h3 hp;obtain rfl:=Option.map_eq_none_iff.mp<|e3.trans hz.1;refine wpAny_getItem_str_slice ⟨_,hi,rfl,rfl⟩ rfl ?_;delta sliceMade slicePicked;have kk0:=λv h=>by simpa using kk v 0 h
  have hz:=hz.2;unfold uP at kk kk0 hz;simp only[Option.map_none,Option.getD_none,bM,lZ]at kk kk0 hz⊢;by_cases hc:((Builtin.Str.strSliceIndices (pl.map (·.1)) (pu.map (·.1)) 1 z.length).length==z.length)=true
  .rw[aH hc];exact kk0 _ ⟨t,by rw[aH hc]⟩
  .rw[aL hc]at kk hz⊢;exact⟨bC (bS hz) rG,kk _ 1 ⟨_,rfl⟩⟩
theorem Td(hv:VC ρ v y)(h:oN (KR ρ) es rQ)(hn:(rQ.map (·.1)).Nodup):oN (KR ρ) (put z v es)<|stored rQ z y:=by
 induction h with
 |nil=>exact .cons ⟨rfl,hv⟩ .nil
 |@cons pu pu' es rQ h t ih=>
  obtain⟨p,u⟩:=pu;obtain⟨p',u'⟩:=pu';obtain⟨h1,h2⟩:=h;dsimp only at h1 h2;subst h1;rw[cW,c7]at hn;have ih:=ih hn.2;dsimp only[D3,Po,stored];by_cases hz:p=z
  .obtain rfl:=hz.symm;rw[aH rfl,aH<|by simp,cW,aH rfl,map_store_of_not_mem _ _ _ hn.1];exact .cons ⟨rfl,hv⟩ t
  .rw[aL hz];rw[(by simp only[nR,cQ hz,nS]:(((p,u')::rQ).any λkv=>decide<|kv.1=z)=rQ.any λkv=>decide<|kv.1=z)];unfold stored at ih;refine iteInduction (λh'=>?_) λh'=>?_
   .rw[aH h']at ih;rw[cW,aL hz];exact .cons ⟨rfl,h2⟩ ih
   .rw[aL h']at ih;exact .cons ⟨rfl,h2⟩ ih
theorem Sw(B:oF k C){a i v:V}{x j y:Value}(ha:VC ρ a x)(hi:VC ρ i j)(hv:VC ρ v y):Sd C (setItem x j y) UR ρ s st<|uL st<|(uB a i v st.H).map λh=>((),h):=by
 refine gO (lift:=lU st) (gR (T:=(setItem · j y)) rfl ha λp a' Qz hr=>gI (T:=(setItem (.ref a') · y)) rfl hi λq t=>gB rfl λxs hp=>As rfl λhz=>Sd.of λG Q E kk=>?_)<|gR (T:=(setItem · j y)) rfl ha λp a' Qz hr=>gS (T:=(setItem (.ref a') · y)) rfl hi λz t=>gB rfl λes hp=>As rfl λhz=>Sd.of λG Q E kk=>?_
 .obtain⟨_,vs,n,e,o5⟩:=G.list (q0 hp) hr;injection e with e;subst e;have hlen:=o5.2.2.length;have h3:=hz.2.2;unfold big at h3;refine ki_setAt o5.2.1 hz.1 (by have:=hz.2.1;lia) (by have:=hz.2.1;exact lt_of_lt_of_eq this<|aV Nat.cast hlen)<|kk () _ ρ (a8 _) trivial (G.uX o5.1 (fK ..) (cT _ o5.2.1 rfl) ⟨_,_,rfl,?_⟩<|aI _)<|pZ.oV ..;simp[Array.toList_setIfInBounds];exact o5.2.2.set hv q.toNat
 .obtain⟨_,rQ,e,q9⟩:=G.dict (tQ hp) hr;injection e with e;subst e;refine wpAny_setItem_pairs (hZ PG C.w z t) q9.2.1 (λh' tI Iw=>?_) ?_
  .have rel:oN (KR ρ) (put z v es)<|stored rQ z y:=Td hv q9.2.2 (by obtain⟨_,_,_,_,_,_,_,_,Fp⟩:=q9.2.1;exact Fp);obtain⟨o,q8⟩:=Fy tI rel;exact kk () _ ρ (a8 _) trivial (G.uX q9.1 Iw q8.1 q8.2<|aT _ _)<|pZ.to<|aT _ _
  .exact q9.2.2.length▸(bC (bS hz) rG)
theorem uE(h:H[i]?=some (.list xs)):lE H i=some xs:=by delta lE;rw[h];rfl
theorem aad(h:H[i]?=some (.tuple xs)):tE H i=some xs:=by delta tE;rw[h];rfl
theorem O7(h:H[i]?=some (.dict es)):dE H i=some es:=by delta dE;rw[h];rfl
theorem kz(h:H[i]?=some o)(q:SR o=true):Gm (.ref i) H=true:=by show((H[i]?).bind λo=>if SR o=true then some ()else none).isSome=true;rw[h];exact aV Option.isSome<|aH q
theorem uA(h:H[i]?=some (.list xs)):Gm (.ref i) H=true:=kz h rfl
theorem L3(h:H[i]?=some (.dict es)):Gm (.ref i) H=true:=kz h rfl
theorem ie(h:H[i]?=some (.o0 es ep)):Gm (.ref i) H=true:=kz h rfl
theorem N3(h:H[i]?=some (.tuple xs)):Gm (.ref i) H=true:=kz h rfl
theorem IS{j:Int}(h:H[i]?=some (.list xs))(hz:xs.length<big)(hv:nth xs j=some v):xQ (.ref i) (.int j) H=some (.ok v,H):=by show(((lE H i).bind _).or _).or _=_;rw[uE h];show((if xs.length<big then(nth xs j).bind _ else none).or _).or _=_;rw[aH hz,hv];rfl
theorem Mk(h:H[i]?=some (.list xs))(hz:xs.length<big)(hv:xs[k]?=some v):xQ (.ref i) (.int (k:Int)) H=some (.ok v,H):=IS h hz<|(aH<|eK k).trans hv
theorem Xc(h:H[i]?=some (.tuple xs))(hz:xs.length<big)(hv:xs[k]?=some v):xQ (.ref i) (.int (k:Int)) H=some (.ok v,H):=by
 have e:lE H i=none:=by delta lE;rw[h];rfl
 show(((lE H i).bind _).or<|(tE H i).bind _).or _=_;rw[aad h,e];show(if 0<=(k:Int)/\xs.length<big then(xs[k]?).bind _ else none).or _=_;rw[aH ⟨eK k,hz⟩,hv];rfl
theorem K6(h:H[i]?=some (.list xs))(hz:xs.length<big)(hv:xs[xs.length-1]?=some v):xQ (.ref i) (.int (-1)) H=some (.ok v,H):=by
 refine IS h hz<|(aL<|by decide).trans ?_;rcases xs with _|⟨a,xs⟩
 .exact nn hv
 .exact(aH (by simp only[bA];exact Rat.intCast_le_intCast.mp rfl)).trans ((aV (λk=>(a::xs)[k]?) (by simp only[bA];lia)).trans hv)
theorem ZI(h:kE H i=some es)(hv:es.lookup x=some v):xQ (.ref i) (.str x) H=some (.ok v,H):=by show(kE H i).bind _=_;rw[h];show(es.lookup x).bind _=_;rw[hv];rfl
theorem Tn(h:H[i]?=some (.dict es))(hv:es.lookup x=some v):xQ (.ref i) (.str x) H=some (.ok v,H):=ZI (by delta kE dE fE;rw[h];rfl) hv
theorem DU(h:H[i]?=some (.o0 es ep))(hv:es.lookup x=some v):xQ (.ref i) (.str x) H=some (.ok v,H):=ZI (by delta kE dE fE;rw[h];rfl) hv
theorem wa(h:H[i]?=some (.dict es))(hz:es.length<big):uB (.ref i) (.str x) v H=some (H.set i<|.dict<|put x v es):=by show(dE H i).bind _=_;rw[O7 h];exact aH hz
theorem OO(h:H[i]?=some (.list xs))(hk:k<xs.length)(hz:xs.length<big):uB (.ref i) (.int (k:Int)) v H=some (H.set i<|.list<|xs.set k v):=by show((lE H i).bind _).or _=_;rw[uE h];show(if 0<=(k:Int)/\(k:Int)<xs.length/\xs.length<big then some (H.set i<|.list<|xs.set k v)else none).or _=_;rw[aH ⟨eK k,iM.mpr hk,hz⟩];rfl
theorem G8{lo hi st:Option Int}(h:(H[i]?).bind lxs=some xs)(hz:xs.length<big)(hl:part a=some lo)(hu:part b=some hi)(hk:part c=some st)(hs:st≠some 0):rJ (.ref i) a b c H=some (.ref H.length,H++[.list<|pick xs lo hi st]):=by unfold rJ;rw[hl,hu,hk];show(((H[i]?).bind lxs).bind _).or _=_;rw[h];show(if st≠some 0/\xs.length<big then _ else none).or _=_;rw[aH ⟨hs,hz⟩];rfl
theorem iz{lo hi:Option Int}(hl:part a=some lo)(hu:part b=some hi)(hz:(uP x lo hi).length<big):rJ (.str x) a b .none H=some (.str<|uP x lo hi,H):=by unfold rJ;rw[hl,hu];exact aH ⟨rfl,hz⟩
section
def iE(H:Hp)(i:Nat):Option<|Addr×Nat×List V×List (Str×V):=(H[i]?).bind λo=>match o with
 |.inst D d xs=>(dE H d).bind λes=>some (D,d,xs,es)
 |_=>none
theorem Gu{D:Addr}(h:H[i]?=some (.inst D d xs))(hd:H[d]?=some (.dict es)):iE H i=some (D,d,xs,es):=by unfold iE;rw[h];show(dE H d).bind _=_;delta dE;rw[hd];rfl
theorem Cm{q}(h:iE H i=some q):H[i]?=some (.inst q.1 q.2.1 q.2.2.1)/\H[q.2.1]?=some (.dict q.2.2.2):=by
 exists H,i,q,_;exists o,(q_:aB.mp h);obtain⟨h1,h⟩:=q_;induction o<;>first|exact nn h|skip
 exists es,(q_:aB.mp h);obtain⟨h2,h⟩:=q_;obtain rfl:=aA h;exact⟨h1,tQ h2⟩
def Ca(v:V)(x:Str):Hp->pO:=vR (λi H=>(iE H i).bind λq=>
 if q.1=77 then(y3 x).bind λj=>(q.2.2.1[j]?).bind λv=>if B9 v=true then some (.ok v,H)else none
 else if u4.contains (q.1,x)=true/\vA.contains q.1=true then(q.2.2.2.lookup x).bind λv=>if B9 v=true then some (.ok v,H)else none else none) v
def tK(a:V)(x:Str)(v:V):Hp->Option Hp:=vR (λi H=>(iE H i).bind λq=>
 if q.1=77 then(y3 x).bind λj=>if j<=q.2.2.1.length then some (H.set i<|.inst 77 q.2.1<|B5 j v q.2.2.1)else none
 else if u4.contains (q.1,x)=true/\vA.contains q.1=true/\q.2.2.2.length<900 then some (H.set q.2.1<|.dict<|put x v q.2.2.2)else none) a
def Fb:List<|(Addr×Str)×Addr:=[((866,"get_token"),827),((866,"read_token"),834),((731,"read"),677),((731,"_StringIO__translated"),508),((731,"_StringIO__check"),515),
 ((174,"add"),124),((174,"prepare"),129),((174,"get_ready"),136),((174,"is_active"),143),((174,"done"),157),((174,"_get_nodeinfo"),117),((174,"_find_cycle"),164)]
theorem P6(P):(Fb.all λp=>findIn (qE P) (.ref p.1.1) p.1.2==some (some<|.ref p.2)&&typeIn (qE P) (.ref p.2)==some (.type "function")&&vA.contains p.1.1)=true:=by rfl'
theorem Qw{α β:Type}[BEq α][LawfulBEq α]{l:List (α×β)}{a:α}{b:β}(h:l.lookup a=some b):(a,b)∈l:=by
 induction l with
 |nil=>exact nn h
 |cons q l ih=>
  rw[cP]at h;rcases hb:a==q.1 with _|_
  .rw[hb]at h;exact .tail _<|ih h
  .rw[hb]at h;obtain rfl:=aA h;rw[a5.mp hb];exact .head _
def qr(v:V)(x:Str):Hp->Option (V×List V):=vR (λi H=>(iE H i).bind λq=>if q.2.2.2.lookup x=none then(Fb.lookup (q.1,x)).bind λf=>some (.top f,[.ref i])else none) v
theorem Pp(B:oF k C)(hv:VC ρ v ov):Sd C (getAttr ov x true) VC ρ s st<|pX st<|Ca v x st.H:=
 gR (T:=(getAttr · x true)) rfl hv λi a ha hr=>gB rfl λq hq=>by
  obtain⟨D,d,xs,es⟩:=q;obtain⟨hi,hd⟩:=Cm hq;refine ZD (λhD=>?_) λU=>As rfl λhc=>gB rfl λu hl=>As rfl λhb=>?_
  .obtain rfl:D=77:=hD;exact gB rfl λj hj=>gB rfl λu hl=>As rfl λhb=>cb B hj hi hd hl hb hr
  .have q8:=mo (w:=C.w) hc.1;exact tu B (yX hc.2).1 q8.2 q8.1 hi hd hl hb hr
theorem Pc(B:oF k C)(ha:VC ρ a ov)(hv:VC ρ v y):Sd C (setAttr ov x y) UR ρ s st<|uL st<|(tK a x v st.H).map λh=>((),h):=
 gR (lift:=lU st) (T:=(setAttr · x y)) rfl ha λi a ha hr=>gB rfl λq hq=>by
  obtain⟨D,d,xs,es⟩:=q;obtain⟨hi,hd⟩:=Cm hq;refine ZD (λhD=>?_) λU=>As rfl λhc=>?_
  .obtain rfl:D=77:=hD;exact gB rfl λj hj=>As rfl λhz=>Oj B hj hi hd hz hv hr
  .have q8:=mo (w:=C.w) hc.1;exact Tw B (yX hc.2.1).1 q8.2 q8.1 hi hd hc.2.2 hv hr
theorem tt(B:oF k C)(hv:VC ρ v ov):Sd C (getMethod ov x pl) (λρ f g=>VC ρ f.1 g.1/\oN (VC ρ) f.2 g.2) ρ s st<|sO st<|qr v x st.H:=
 gR (T:=(getMethod · x pl)) rfl hv λi a ha hr=>gB rfl λq hq=>As rfl λhl=>gB rfl λf hm=>by obtain⟨D,d,xs,es⟩:=q;obtain⟨hi,hd⟩:=Cm hq;have:=aX.mp (P6 C.w.params) ((D,x),f)<|Qw hm;simp only[aQ,a5]at this;exact zf B (yX this.2).1 this.1.1 this.1.2 hi hd hl hr
def ade:V->Option Addr
 |.top a=>some a
 |_=>none
def Y6(f:V)(H:Hp):Bool:=Nat.ble 6 f.ctorIdx||(ade f).any [51,58,77,174,197,731,866,878,885,886,893,898,903,910,915,922,927,827,834,677,508,515,124,129,136,143,157,117,164].contains
theorem MU(P):([51,58,77,174,197,731,866,878,885,886,893,898,903,910,915,922,927,827,834,677,508,515,124,129,136,143,157,117,164].all λa=>(peek (qE P) ⟨PG,P⟩<|keeperOf<|.ref a).isSome)=true:=by rfl'
set_option tactic.hygienic true in
theorem IU(B:oF k C)(G:oD C ρ st s)(hf:VC ρ f fv)(h:Y6 f st.H=true):∃kp,∀Q E,Q kp s->wpAny (model PG C.w) C.A (keeperOf fv) Q E s:=by
 induction f<;>first|(injection h;done)|skip
 .rename_i a;subst hf;obtain⟨kp,hk⟩:=fH.mp<|aX.mp (MU C.w.params) a<|bB.mp h;exact⟨kp,λQ E q=>(cZ (B.K G) hk).here q⟩
 .subst hf;exact⟨.machine,λQ E q=>aM q⟩
 .subst hf;exact⟨.machine,λQ E q=>aM q⟩
end
section
def qc:V->Value->Bool
 |.top a,y=>y==.ref a
 |.ty n,y=>y==.type n
 |.bi n,y=>y==.builtin n
 |.int i,.int j _=>i==j
 |_,_=>false
set_option tactic.hygienic true in
theorem Bh(h:qc v y=true):VC ρ v y:=by
 induction v with
 |top a=>exact a5.mp h
 |ty n=>exact a5.mp h
 |bi n=>exact a5.mp h
 |int i=>
  induction y<;>first|(injection h;done)|skip
  rename_i j t;exact⟨t,by rw[a5.mp h]⟩
 |_=>rcases h with _|_
def Fn:List<|Str×V:=[
 ("deque",.ty "collections.deque"),("_iter_escaped_chars",.top 51),("_strip_quoted_realnames",.top 58),("_NODE_OUT",.int (-1)),("_NODE_DONE",.int (-2)),("_NodeInfo",.top 77),("CycleError",.top 92),
 ("TopologicalSorter",.top 174),("_index",.top 197),("BytesIO",.top 484),("StringIO",.top 731),("shlex",.top 866),("split",.top 878),("join_shlex",.top 885),("_find_unsafe",.top 886),("quote",.top 893),
 ("_law_rows",.top 898),("_law_line",.top 903),("_law_shorn",.top 910),("_law_words",.top 915),("_law_read",.top 922),("_law_rounds",.top 927)]
def rj:List<|Str×V:=[("len",.bi "len"),("tuple",.ty "tuple"),("list",.ty "list"),("range",.ty "range"),("int",.ty "int"),("bool",.ty "bool"),("str",.ty "str"),("type",.ty "type"),("set",.ty "set"),
 ("isinstance",.bi "isinstance"),("iter",.bi "iter"),("sorted",.bi "sorted"),("max",.bi "max"),("enumerate",.ty "enumerate"),("object",.ty "object"),("ValueError",.ty "ValueError"),("StopIteration",.ty "StopIteration")]
theorem Ek(P):(Fn.all λp=>match nsIn (qE P) mainGlobals p.1 with|some (some y)=>qc p.2 y|_=>false)=true:=by rfl'
theorem Gw(P):(rj.all λp=>nsIn (qE P) mainGlobals p.1==some none)=true:=by rfl'
theorem Jt:(rj.all λp=>p.1 != "__name__" &&(match bootBuiltins p.1 with|some y=>qc p.2 y|none=>false))=true:=by rfl'
def Cf(x:Str):Option V:=(Fn.lookup x).or<|rj.lookup x
set_option tactic.hygienic true in
theorem Mp(gl:env.globals=mainGlobals/\env.builtins=builtinsNs)(T:rC w s.heap){x:Str}{v:V}(h:Cf x=some v)(kk:∀y,VC ρ v y->Q y s):wpAny (model PG w) A (loadGlobal env x) Q E s:=by
 exists ρ,s,w,A,env,Q,E,x,v,[gl,T,h,kk];unfold Cf at h;unfold loadGlobal;rw[gl.1,gl.2];exists _;rcases h1:Fn.lookup x with _|u
 .replace h:=h1▸h;have h2:=h;have n1:=aX.mp (Gw w.params) (x,v)<|cF h2;have n2:=aX.mp Jt (x,v)<|cF h2;simp only[aQ]at n2;exists mb,(q_:T.bi);obtain⟨hn,hb⟩:=q_;refine k9<|aD<|(jS T.K<|a5.mp n1).here ?_;refine aD<|wpAny_nsGet hn ?_;refine(hb x<|hV.mp n2.1)▸?_;have n3:=n2.2;split at n3
  .rename_i y hy;exact hy▸(aM<|kk y<|Bh n3)
  .injection n3
 .replace h:=h1▸h;rcases h with _|_;have:=aX.mp (Ek w.params) (x,v)<|cF h1;refine k9 ?_;split at this
  .rename_i y hy;exact aD<|(jS T.K hy).here<|aM<|kk y<|Bh this
  .injection this
theorem CO(B:oF k C)(h:Cf x=some v):Sd C (loadGlobal C.env x) VC ρ s st<|some (.ok v,st):=Sd.rV λG Q E kk=>Mp B.gl (B.top.keep G.sim.keep B.hi) h kk
def Bq(x:Str):Option String:=if x= "append" then some "list.append" else if x= "pop" then some "list.pop" else if x= "clear" then some "list.clear" else if x= "extend" then some "list.extend" else if x= "index" then some "list.index" else none
def Mq(x:Str):Option String:=if x= "join" then some "str.join" else if x= "split" then some "str.split" else if x= "replace" then some "str.replace" else none
def Bs(x:Str):Option String:=if x= "get" then some "dict.get" else if x= "values" then some "dict.values" else none
def K9(x:Str):Option String:=if x= "add" then some "set.add" else none
def Ab(v:V)(x:Str)(H:Hp):Option<|V×List V:=(vS (λz U=>(Mq x).bind λm=>some (.bi m,[.str z])) v H).or
 (vR (λi H=>(((lE H i).bind λU=>Bq x).or<|((dE H i).bind λU=>Bs x).or<|((sE H i).bind λU=>K9 x).or<|(fE H i).bind λU=>if x= "values" then some "dict.values" else none).bind λm=>some (.bi m,[.ref i])) v H)
def MO(T:String)(x:Str)(m:String):Prop:=Slot T x m/\typeOf (.builtin m)=pure (.type "method_descriptor")
theorem ee(h:(if x=y then some a else o)=some m)(h1:MO T y a)(h2:o=some m->MO T x m):MO T x m:=by
 by_cases q:x=y
 .subst q;obtain rfl:=aA<|(aH rfl).symm.trans h;exact h1
 .exact h2 ((aL q).symm.trans h)
theorem uf(B:oF k C){ov:Value}{pl:Sem Bool}(hv:VC ρ v ov):Sd C (getMethod ov x pl) (λρ f g=>VC ρ f.1 g.1/\oN (VC ρ) f.2 g.2) ρ s st<|sO st<|Ab v x st.H:=by
 exists k,C,ρ,st,s,v,x,ov,pl,[B,hv];refine gO (lift:=sO st) (gS (lift:=sO st) (T:=(getMethod · x pl)) rfl hv λz t=>gB rfl λm hm=>Sd.rV λG Q E kk=>?_)<|gR (lift:=sO st) (T:=(getMethod · x pl)) rfl hv λi a ha hr=>gB rfl λm hm=>Sd.rV λG Q E kk=>?_
 .exists z,t,m,Q,E,[hm,kk];have h:MO "str" x m:=ee hm ⟨kX,nC⟩ λh=>ee h ⟨iV,F.type_str_split⟩ λh=>ee h ⟨jT,mD⟩ λh=>nn h;exact iN (fT s z t) kC h.1 h.2 (λa e=>by exists a,_;injection e)<|kk (.builtin m,[.str z t]) ⟨rfl,.cons ⟨t,rfl⟩ .nil⟩
 .exists i,a,m,Q,E,[ha,hr,hm,kk];have fin:∀{T o},s.TypeIs (.ref a) T->PlainAttrs T->MO T x m->s.heap.get? a=some o->o.dict=none->wpAny (model PG C.w) C.A (getMethod (.ref a) x pl) Q E s:=λh1 h2 h3 h4 h5=>iN h1 h2 h3.1 h3.2 (λb e=>by injection e with e;subst e;exact⟨_,h4,h5⟩)<|kk (.builtin m,[.ref a]) ⟨rfl,.cons ⟨a,ha,rfl⟩ .nil⟩;have dd:∀{rQ},s.heap.DictOf (strKind PG C.w) a rQ->MO "dict" x m->wpAny (model PG C.w) C.A (getMethod (.ref a) x pl) Q E s:=λwH h=>by have hT:=wH.typeIs;exists o,x7,Rt,(q_:wH);obtain⟨ho,hE,xc⟩:=q_;exact fin hT F.plainAttrs_dict h ho hE.2.1
  rcases fA.mp hm with hm|⟨_,hm⟩
  .exists xs,(q_:aB.mp hm);obtain⟨hi,hm⟩:=q_;exists HE,ws,n,(q_:G.list (q0 hi) hr);obtain⟨e,XW,ho,z6_⟩:=q_;injection e with e;subst e;exact fin ⟨_,ho,rfl⟩ F.plainAttrs_list (ee hm ⟨F.slot_list_append,type_list_append⟩ λh=>ee h ⟨nE,F.type_list_pop⟩ λh=>ee h ⟨mQ,F.type_list_clear⟩ λh=>ee h ⟨mE,F.type_list_extend⟩ λh=>ee h ⟨mR,F.type_list_index⟩ λh=>nn h) ho rfl
  rcases fA.mp hm with hm|⟨_,hm⟩
  .exists xs,(q_:aB.mp hm);obtain⟨hi,hm⟩:=q_;exists z7_,rQ,(q_:G.dict (tQ hi) hr);obtain⟨e,z8_,wH,z9_⟩:=q_;injection e with e;subst e;exact dd wH<|ee hm ⟨nF,F.type_dict_get⟩ λh=>ee h ⟨iB,mF⟩ λh=>nn h
  rcases fA.mp hm with hm|⟨_,hm⟩
  .exists xs,(q_:aB.mp hm);obtain⟨hi,hm⟩:=q_;exists ah7,(q_:G.setOf (Fo hi) hr);obtain⟨ah8,e,hS⟩:=q_;injection e with e;subst e;exists o,(q_:hS.noDict _ rfl);obtain⟨ho,hd⟩:=q_;exact fin hS.typeIs F.plainAttrs_set (ee hm ⟨F.slot_set_add,F.type_set_add⟩ λh=>nn h) ho hd
  .exists xs,(q_:aB.mp hm);obtain⟨hi,hm⟩:=q_;exists ah9,rQ,(q_:G.o0 (Cp hi) hr);obtain⟨e,aia,wH,aib⟩:=q_;injection e with e;subst e;exact dd wH.dictOf<|ee hm ⟨iB,mF⟩ λh=>nn h
theorem zP(h:((lE H i).bind λU=>Bq x).or (((dE H i).bind λU=>Bs x).or<|((sE H i).bind λU=>K9 x).or<|(fE H i).bind λU=>if x= "values" then some "dict.values" else none)=some m):Ab (.ref i) x H=some (.bi m,[.ref i]):=by show(Option.or _ _).bind _=_;rw[h];rfl
end
theorem oD.made(G:oD C ρ st s)(m:Heap.MadeExc s.heap h' e cls args):oD C ρ st {s with heap:=h'}/\rN C ρ (.ty cls) (.ref e) {s with heap:=h'}:=by
 have G':oD C ρ st {s with heap:=h'}:=by have:=G.ext m.keeps 0;exact this
 exists t,(q8:m.there);refine⟨G',⟨e,_,_,.ref t,rfl,q8.1,rfl,rfl,rfl,λhm=>?_,?_,λq=>?_,.inl rfl⟩⟩
 .obtain⟨o,ho⟩:=G.live hm;replace ho:=m.new▸ho;exact nn ho
 .rcases q:C.ajU.get? e with _|o
  .rfl
  .obtain⟨o',e',_⟩:=G.sim.keep.1 e o q;rw[m.new]at e';injection e'
 .exists o,xc,HE,(q_:G.rR);obtain⟨ho,_⟩:=q_;simp only[<-q,m.new]at ho;injection ho
set_option tactic.hygienic true in
theorem u3(B:oF k C)(hx:C.env.scope.names.lookup x=some .globalImplicit)(hd:(x==("__debug__" :Str))=false)(h:Cf x=some v)(G:oD C ρ st s)(q:∀y,VC ρ v y->Q y s):
 wpAny (model PG C.w) A' (eval (.Name x np) C.env) Q E s:=by
 exists k,C,ρ,st,s,x,v,np,A',Q,E,_;refine eC B.fn hx ?_ hd;have T:=B.top.keep G.sim.keep B.hi;unfold Cf at h;unfold loadGlobal;refine B.gl.1▸B.gl.2▸?_;rcases h1:Fn.lookup x with _|u
 .replace h:=h1▸h;have h2:=h;have n1:=aX.mp (Gw C.w.params) (x,v)<|cF h2;have n2:=aX.mp Jt (x,v)<|cF h2;simp only[aQ]at n2;obtain⟨mb,q8⟩:=T.bi;refine aD<|(jS T.K<|a5.mp n1).here ?_;refine aD<|wpAny_nsGet q8.1 ?_;refine(q8.2 x<|hV.mp n2.1)▸?_;have n3:=n2.2;split at n3
  .rename_i y hy;exact hy▸(aM<|q y<|Bh n3)
  .injection n3
 .have h:=h1▸h;rcases aA h with _|_;have:=aX.mp (Ek C.w.params) (x,v)<|cF h1;split at this
  .rename_i y hy;exact aD<|(jS T.K hy).here<|aM<|q y<|Bh this
  .injection this
theorem Ta(B:oF k C)(L:pP C)(hx:C.env.scope.names.lookup ("StopIteration" :Str)=some .globalImplicit):
 Sd C (exec (.Raise (some<|.Name "StopIteration" np) none p) C.env) (λU(U:Unit)U=>False) ρ s st (some (.exc<|.ty "StopIteration",st)):=by
 intro G r oE e;obtain⟨rfl,rfl⟩:=bQ<|aA e;refine owsi_raiseC L.hh (u3 B hx (rfl) (v:=.ty "StopIteration") (by decide+kernel) G λy hy=>⟨hy,rfl⟩) λh' ea m=>?_;have q8:=G.made m;exact⟨_,ρ,rfl,a8 _,q8.2,q8.1,pZ.oV ..⟩
theorem O5(B:oF k C)(L:pP C){m:Str}{kk:Nat}(hx:C.env.scope.names.lookup ("ValueError" :Str)=some .globalImplicit):
 Sd C (exec (.Raise (some<|.Call (.Name "ValueError" np) [.Constant (.str m) kk q] [] cp) none p) C.env) (λU(U:Unit)U=>False) ρ s st (some (.exc<|.ty "ValueError",st)):=by
 intro G r oE e;obtain⟨rfl,rfl⟩:=bQ<|aA e;refine wpAny_Raise_call F.excCall_ValueError F.excRaise_ValueError L.hh rfl<|u3 B hx (rfl) (v:=.ty "ValueError") (by decide+kernel) G λy hy=>⟨hy,?_⟩;have args:∀ρ s st,Sd C (spliced<|backTo cp<|starEach [.Constant (.str m) kk q] C.env) (λρ vs xs=>oN (VC ρ) vs xs) ρ s st<|some (.ok [.str m],st):=by intro ρ s st;exact Sd.of λG Q E k=>λΓ p U=>k [.str m s.toks] _ ρ (a8 _) (.cons ⟨s.toks,rfl⟩ .nil) (G.tok 1)<|pZ.tok s 1
 refine bL (yS (ks:=[]) rfl args (λρ s st=>Sd.pure .nil) G _ _ rfl) (λa pS P=>?_) λU U P=>by obtain⟨_,_,e,_⟩:=P;injection e
 obtain⟨b,oO,e',hp,hr,G',n⟩:=P;obtain rfl:=r8.ok.inj e';obtain⟨h1,h2⟩:=hr;refine⟨by induction hk:a.kw with|nil=>rfl|cons=>(simp only[hk]at h2;exact nomatch h2),?_,λh' ea mm=>?_⟩
 .exact h1.length▸(bC (show 1<=big by decide) rG)
 .have q8:=G'.made mm;exact⟨_,oO,rfl,hp,q8.2,q8.1,⟨n.os,n.dr,n.tk,n.gn⟩⟩
structure Aq(T:String):Prop where
 exc:isSubtype (.type T) (.type "BaseException")=pure true
 nt:isSubtype (.type<|(Manifest.find? T).elim "type" λx=>x.metatype) (.type "tuple")=pure false
 sub:isSubtype (.type T) (.type T)=pure true
theorem Dr:Aq "ValueError" :=⟨by rw[dH];rfl',by rw[dH];rfl',by rw[dH];rfl'⟩
theorem zX:Aq "StopIteration" :=⟨by rw[dH];rfl',by rw[dH];rfl',by rw[dH];rfl'⟩
theorem Hu(B:oF k C)(F:Aq X)(hT:Cf T=some (.ty X))(hd:(T==("__debug__" :Str))=false)(G:oD C ρ st s)(x:rN C ρ (.ty X) e s)(hx:C.env.scope.names.lookup T=some .globalImplicit)(E):
 wpAny (model PG C.w) (C.A.mark<|some e) (eval (.Name T p) C.env) (λcv oK=>oK=s/\wpAny (model PG C.w) (C.A.mark<|some e) (excMatches e cv) (λb pS=>b=true/\pS=s) E s) E s:=by
 refine u3 B hx hd hT G λy hy=>⟨rfl,?_⟩;subst hy;obtain⟨a,o,vs,a0,rfl,ho,cs,h0,hc,x7⟩:=x.ex;exact wpAny_excMatches_type ⟨o,ho,hc⟩ F.exc F.nt F.sub ⟨rfl,rfl⟩
theorem wZ{α β:Type}{R:α->β->Prop}{a:α}{l:List α}{m:List β}(h:oN R (a::l) m):∃b r,m=b::r/\R a b/\oN R l r:=by rcases h with _|⟨h,t⟩;exact⟨_,_,rfl,h,t⟩
theorem nh{α β:Type}{R:α->β->Prop}{a:α}{l:List β}(h:oN R [a] l):∃b,l=[b]/\R a b:=by obtain⟨b,r,e,h1,t⟩:=wZ h;obtain rfl:=cC.mp t.length.symm;exact⟨b,e,h1⟩
theorem Vd{α β:Type}{R:α->β->Prop}{a a':α}{l:List β}(h:oN R [a,a'] l):∃b b',l=[b,b']/\R a b/\R a' b':=by obtain⟨b,r,e,h1,t⟩:=wZ h;obtain⟨b',e',h2⟩:=nh t;exact⟨b,b',by rw[e,e'],h1,h2⟩
theorem oN.eraseIdx{α β:Type}{R:α->β->Prop}{l:List α}{m:List β}(i)(h:oN R l m):oN R (l.eraseIdx i)<|m.eraseIdx i:=by
 induction h generalizing i with
 |nil=>exact .nil
 |cons h t ih=>
  rcases i with _|i
  .exact t
  .exact .cons h (ih i)
def vQ(x:Str):List V->Option Nat
 |[]=>none
 |.str y::r=>if y=x then some 0 else(vQ x r).map (· +1)
 |_::_=>none
abbrev Prim:=List V->Hp->pO
def a0(p:Hp->pO):Prim
 |[]=>p
 |_=>λU=>none
def a1(p:V->Hp->pO)(l:List V):Hp->pO:=match l with
 |[]=>λU=>none
 |x::l=>(match l with
  |[]=>p x
  |_=>λU=>none)
def a2(p:V->V->Hp->pO)(l:List V):Hp->pO:=match l with
 |[]=>λU=>none
 |x::l=>a1 (p x) l
def a3(p:V->V->V->Hp->pO)(l:List V):Hp->pO:=match l with
 |[]=>λU=>none
 |x::l=>a2 (p x) l
def gv(c:Prop)[Decidable c](v:V)(H:Hp):pO:=if c then some (.ok v,H)else none
def nw(ao:AO)(H:Hp):pO:=some (.ok<|.ref H.length,H++[ao])
def Du(i:Nat)(v:V)(H:Hp):Option Hp:=(lE H i).bind λxs=>if xs.length<big then some (H.set i<|.list<|xs++[v])else none
def Yn:Prim:=a2 λl v=>vR (λi H=>(Du i v H).bind λH=>some (.ok .none,H)) l
def abv:Prim:=a1<|vL λi xs H=>(xs[xs.length-1]?).map λv=>(.ok v,H.set i<|.list<|xs.eraseIdx<|xs.length-1)
def xj:Prim:=a1<|vL λi xs H=>some (.ok .none,H.set i<|.list [])
def Yo:Prim:=a2 λl m=>vL (λi xs=>vL (λU ys H=>if xs.length+ys.length<big then some (.ok .none,H.set i<|.list<|xs++ys)else none) m) l
def Yp:Prim:=a2 λl v=>vS (λx=>vR (λi H=>(sE H i).bind λxs=>if xs.length<900 then some (.ok .none,H.set i<|.set<|if xs.contains x then xs else xs++[x])else none) l) v
def abw:Prim:=a1 λv H=>(vL (λU xs H=>some (.ok<|.int xs.length,H)) v H).or<|(vR (λi H=>(tE H i).bind λxs=>gv (xs.length<big) (.int xs.length) H) v H).or<|vS (λx H=>gv (x.length<big) (.int x.length) H) v H
def abx:Prim:=a0<|nw<|.set []
def xm:Prim:=a1<|vL λU xs=>nw<|.tuple xs
def xn(l:List V)(H:Hp):pO:=(a1 (vI λn=>nw<|.range 0 n 1) l H).or<|a3 (λa b c=>vI (λa=>vI (λb=>vI (λc H=>if c=2\/c=3 then nw (.range a b c) H else none) c) b) a) l H
def aby:Prim:=a1<|vI λn H=>some (.ok<|.int n,H)
def KH:Prim:=a1 λv H=>(vI (λU H=>some (.ok<|.ty "int",H)) v H).or<|vS (λU H=>some (.ok<|.ty "str",H)) v H
def xo:Prim:=a2 λv t=>vS (λU H=>gv (t=.ty "str") (.bool true) H) v
section
variable{k:Nat}{C:Cx}{ρ:List Addr}{st:St}{s:Shared}
theorem Bu(G:oD C ρ st s){i:Nat}{a:Addr}{vs:Array Value}{n:Nat}{f:Array Value->Array Value}{ys:List V}(ha:ρ[i]?=some a)(ho:s.heap.get? a=some ⟨.type "list",none,.seq vs n,#[]⟩)(h:oN (VC ρ) ys (f vs).toList):
 oD C ρ {st with H:=st.H.set i (.list ys)} {s with heap:=s.heap.update a (Obj.mapSeq f)}:=
 G.uX ha (fK ..) (cT _ ho rfl) ⟨_,_,rfl,h⟩ (aI _)
abbrev PS(C:Cx)(fv:Value)(p:Prim):Prop:=∀ρ s st vs xs,oN (VC ρ) vs xs->Sd C (call fv xs) VC ρ s st (pX st<|p vs st.H)
variable{fv:Value}{T:Value->Sem Value}{y:Value}{v:V}
theorem JC{p:Hp->pO}(h:∀ρ s st,Sd C (call fv []) VC ρ s st<|pX st<|p st.H):PS C fv<|a0 p:=λρ s st vs xs hv=>by
 induction hv with
 |nil=>exact h ρ s st
 |cons=>exact Sd.nil
theorem vp{q:List Value->Sem Value}{p:V->Hp->pO}{vs:List V}{xs:List Value}(hv:oN (VC ρ) vs xs)(h:∀a x,VC ρ a x->Sd C (q [x]) VC ρ s st (pX st<|p a st.H)):Sd C (q xs) VC ρ s st<|pX st<|a1 p vs st.H:=by
 induction hv with
 |nil=>exact Sd.nil
 |cons h0 hv=>
  induction hv with
  |nil=>exact h _ _ h0
  |cons=>exact Sd.nil
theorem JG{q:List Value->Sem Value}{p:V->V->Hp->pO}{vs:List V}{xs:List Value}(hv:oN (VC ρ) vs xs)(h:∀a b x y,VC ρ a x->VC ρ b y->Sd C (q [x,y]) VC ρ s st (pX st<|p a b st.H)):Sd C (q xs) VC ρ s st<|pX st<|a2 p vs st.H:=by
 induction hv with
 |nil=>exact Sd.nil
 |cons h0 hv=>exact vp (q:=λl=>q (_::l)) hv λb y hb=>h _ b _ y h0 hb
theorem ZE{q:List Value->Sem Value}{p:V->V->V->Hp->pO}{vs:List V}{xs:List Value}(hv:oN (VC ρ) vs xs)(h:∀a b c x y z,VC ρ a x->VC ρ b y->VC ρ c z->Sd C (q [x,y,z]) VC ρ s st (pX st<|p a b c st.H)):Sd C (q xs) VC ρ s st<|pX st<|a3 p vs st.H:=by
 induction hv with
 |nil=>exact Sd.nil
 |cons h0 hv=>exact JG (q:=λl=>q (_::l)) hv λb c y z hb hc=>h _ b c _ y z h0 hb hc
theorem y4{f:Str->Hp->pO}(hv:VC ρ v y)(h:∀x t,Sd C (T<|.str x t) VC ρ s st<|pX st<|f x st.H):Sd C (T y) VC ρ s st<|pX st<|vS f v st.H:=gS rfl hv h
theorem Kk{f:Int->Hp->pO}(hv:VC ρ v y)(h:∀x t,Sd C (T<|.int x t) VC ρ s st<|pX st<|f x st.H):Sd C (T y) VC ρ s st<|pX st<|vI f v st.H:=gI rfl hv h
theorem z3{f:Nat->Hp->pO}(hv:VC ρ v y)(h:∀i a,ρ[i]?=some a->VC ρ (.ref i) (.ref a)->Sd C (T<|.ref a) VC ρ s st (pX st<|f i st.H)):Sd C (T y) VC ρ s st<|pX st<|vR f v st.H:=gR rfl hv h
theorem Gd{f:Nat->List V->Hp->pO}(hv:VC ρ v y)(h:∀i xs a vs n,ρ[i]?=some a->s.heap.get? a=some ⟨.type "list",none,.seq vs n,#[]⟩->oN (VC ρ) xs vs.toList->xs.length<big->Sd C (T<|.ref a) VC ρ s st (pX st<|f i xs st.H)):Sd C (T y) VC ρ s st<|pX st<|vL f v st.H:=gL rfl hv h
theorem Qo{α:Type}{t:Sem α}{Rel:List Addr->V->α->Prop}{c:Prop}[Decidable c]{v:V}(h:c->Sd C t Rel ρ s st (some (.ok v,st))):Sd C t Rel ρ s st<|pX st<|gv c v st.H:=by
 unfold gv;by_cases q:c
 .rw[aH q];exact h q
 .rw[aL q];exact Sd.nil
theorem Sd.cz{c:Prop}[Decidable c]{t:Sem Value}{o:pO}(h:c->Sd C t VC ρ s st (pX st o)):Sd C t VC ρ s st<|pX st<|if c then o else none:=by
 by_cases q:c
 .rw[aH q];exact h q
 .rw[aL q];exact Sd.nil
theorem Sd.de{α β:Type}{t:Sem α}{Rel:List Addr->β->α->Prop}{a b:Option (r8 β×Hp)}(h1:Sd C t Rel ρ s st<|pX st a)(h2:Sd C t Rel ρ s st<|pX st b):Sd C t Rel ρ s st<|pX st<|a.or b:=by
 rcases a with _|p
 .exact h2
 .exact h1
theorem u5{p:V->Hp->pO}(h:∀ρ s st a x,VC ρ a x->Sd C (call fv [x]) VC ρ s st (pX st<|p a st.H)):PS C fv<|a1 p:=λρ s st vs xs hv=>vp (q:=λxs=>call fv xs) hv<|h ρ s st
theorem D9{p:V->V->Hp->pO}(h:∀ρ s st a b x y,VC ρ a x->VC ρ b y->Sd C (call fv [x,y]) VC ρ s st (pX st<|p a b st.H)):PS C fv<|a2 p:=λρ s st vs xs hv=>JG (q:=λxs=>call fv xs) hv<|h ρ s st
theorem aaF{p:V->V->V->Hp->pO}(h:∀ρ s st a b c x y z,VC ρ a x->VC ρ b y->VC ρ c z->Sd C (call fv [x,y,z]) VC ρ s st (pX st<|p a b c st.H)):PS C fv<|a3 p:=λρ s st vs xs hv=>ZE (q:=λxs=>call fv xs) hv<|h ρ s st
theorem PS.or{p q:Prim}(h1:PS C fv p)(h2:PS C fv q):PS C fv λl H=>(p l H).or<|q l H:=λρ s st vs xs hv=>Sd.de (h1 ρ s st vs xs hv)<|h2 ρ s st vs xs hv
theorem uw{i:Nat}{y z:Value}{v:V}{H:Hp}(h1:VC ρ (.ref i) y)(h2:VC ρ v z)(h:Du i v st.H=some H):Sd C (call (.builtin "list.append") [y,z]) VC ρ s st<|some (.ok .none,{st with H:=H}):=by exists C,ρ,st,s,i,y,z,v,H,_;exists ys,(q9:aB.mp h);obtain⟨hz,e_⟩:=Iu q9.2;obtain rfl:=aA e_;refine Sd.of λG Q E kk=>?_;exists a,ws,n,(q_:G.list (q0 q9.1) h1);obtain⟨rfl,q8⟩:=q_;refine wpAny_list_append_plain ⟨n,q8.2.1⟩ (λh' hl hs=>?_)<|F7 q8.2.2 hz;obtain⟨n',uI⟩:=hl;exact kk _ _ ρ (a8 _) rfl (G.uX q8.1 hs uI ⟨_,_,rfl,by rw[mS];exact q8.2.2.append<|.cons h2 .nil⟩<|aI _)<|pZ.oV ..
theorem Sd.vJ{α:Type}{t:Sem Value}{o:Option α}{g:α->pO}(h:∀x,o=some x->Sd C t VC ρ s st (pX st<|g x)):Sd C t VC ρ s st<|pX st<|o.bind g:=by
 rcases o with _|x
 .exact Sd.nil
 .exact h x rfl
theorem Z7:PS C (.builtin "list.append") Yn:=D9 λρ s st U U U z h1 h2=>z3 (T:=λy=>call (.builtin "list.append") [y,z]) h1 λi a U za=>Sd.vJ λH h=>uw za h2 h
theorem PZ:PS C (.builtin "list.pop") abv:=u5 λρ s st U U h1=>Gd (T:=λy=>call (.builtin "list.pop") [y]) h1 λi ys a ws n ha ho A6 hz=>by
 rcases hl:ys[ys.length-1]? with _|v
 .exact Sd.nil
 .refine Sd.of λG Q E kk=>?_;obtain⟨y,hy,N0⟩:=A6.get hl;rw[tN A6]at hy;refine iC nE ⟨_,ho,rfl⟩ F.entry_list_pop (F.args_list_pop_1 _) (MeetsSeq.list_pop_last a ws n y (bU▸hy)<|F7 A6 hz) ⟨ho,?_⟩;refine kk _ _ ρ (a8 _) N0 (Bu G ha ho ?_)<|pZ.oV ..;rw[<-tN A6,Array.toList_eraseIdxIfInBounds];exact A6.eraseIdx _
theorem pz:PS C (.builtin "list.clear") xj:=u5 λρ s st U U h1=>Gd (T:=λy=>call (.builtin "list.clear") [y]) h1 λi ys a ws n ha ho A6 hz=>Sd.of λG Q E kk=>
 iC mQ ⟨_,ho,rfl⟩ F.entry_list_clear (F.args_list_clear_1 _) (AutoSeq1.list_clear_list_0 a ws n<|F7 A6 hz) ⟨ho,kk _ _ ρ (a8 _) rfl (Bu G ha ho .nil)<|pZ.oV ..⟩
theorem bc:PS C (.builtin "list.extend") Yo:=D9 λρ s st U U U z h1 h2=>Gd (T:=λy=>call (.builtin "list.extend") [y,z]) h1 λi ys a ws n ha ho A6 U=>Gd (T:=λz=>call (.builtin "list.extend") [.ref a,z]) h2 λj zs b us m hb uI hzs U=>Sd.cz λhz=>Sd.of λG Q E kk=>by rw[tN A6,tN hzs]at hz;have hz:=bC (bS hz) rG;refine iC mE ⟨_,ho,rfl⟩ F.entry_list_extend (F.args_list_extend_2 _ _) (AutoSeq1.list_extend_list_list_0 a ws n b us m ?_ (bC (aT _ _) hz)<|eE hz) ⟨ho,uI,kk _ _ ρ (a8 _) rfl (Bu G ha ho (by rw[lT];exact A6.append hzs))<|pZ.oV ..⟩;have:Builtin.List.listTooLong (ws.size+us.size)=false:=cQ<|gF.mpr hz;simp only[this,Bool.and_false];exact bV
theorem CF{x:Str}{ys:List Str}(q):(q∈(if ys.contains x then ys else ys++[x]))<->(q∈ys\/q=x):=by
 by_cases hx:ys.contains x=true
 .rw[aH hx];exact⟨.inl,λh=>h.elim id λe=>e▸bB.mp hx⟩
 .rw[aL hx,aO,aE]
theorem BR{x:Str}{ys:List Str}:(if ys.contains x then ys else ys++[x]).length=if ys.contains x then ys.length else ys.length+1:=by
 by_cases hx:ys.contains x=true
 .rw[aH hx,aH hx]
 .rw[aL hx,aL hx,aG];rfl
theorem Zb:PS C (.builtin "set.add") Yp:=D9 λρ s st U U y U h1 h2=>y4 (T:=λz=>call (.builtin "set.add") [y,z]) h2 λx t=>z3 (T:=λy=>call (.builtin "set.add") [y,.str x t]) h1 λi a ha za=>Sd.vJ λys hi=>Sd.cz λhz=>Sd.of λG Q E kk=>by obtain⟨a',q9⟩:=G.setOf (Fo hi) za;rcases q9.2.1 with _|_;refine call_set_add (hZ PG C.w x t) rfl q9.2.2 (bJ (Nat.succ_lt_succ hz)<|by decide) λh' hs KI=>?_;obtain⟨o,es,ep,tb,q8⟩:=KI;exact kk _ _ ρ (a8 _) rfl (G.uX ha hs q8.1 ⟨es,ep,tb,q8.2.1,q8.2.2.1,q8.2.2.2.1,λq=>(CF q).trans<|Iff.trans (by rw[d8,d6,bB])<|q8.2.2.2.2.1 q,q8.2.2.2.2.2.1,q8.2.2.2.2.2.2.1,q8.2.2.2.2.2.2.2.trans BR.symm⟩<|aT _ _)<|pZ.to<|aT _ _
theorem QG:PS C (.builtin "len") abw:=u5 λρ s st U U h1=>Sd.de
 (Gd (T:=λy=>call (.builtin "len") [y]) h1 λi ys a ws n ha ho A6 hz=>Sd.plain λG Q E kk=>Calls.call_len_list ⟨_,ho,rfl,n,rfl⟩ (by unfold big at hz;rw[<-tN A6];omega)<|kk _ 2 ⟨_,by rw[tN A6]⟩)
 (Sd.de (z3 (T:=λy=>call (.builtin "len") [y]) h1 λi a ha za=>Sd.vJ λys hi=>Qo λhz=>Sd.plain λG Q E kk=>by
  obtain⟨a',vs,n,e,q8⟩:=G.tuple (zF hi) za;obtain rfl:=fY e;exact len_tuple ⟨_,q8.2.1,rfl,n,rfl⟩ (by unfold big at hz;rw[<-tN q8.2.2];omega)<|kk _ 2 ⟨_,by rw[tN q8.2.2]⟩)
  (y4 (T:=λy=>call (.builtin "len") [y]) h1 λx t=>Qo λhz=>Sd.plain λG Q E kk=>P.len_str (by unfold big at hz;lia)<|kk _ 2 ⟨_,rfl⟩))
theorem UE:PS C (.type "set") abx:=JC λρ s st=>Sd.of λG Q E kk=>call_set_0 λled=>
 kk _ _ _ ⟨_,rfl⟩ (q7 G) (G.push rfl ⟨#[],0,.fresh 0 0 led,⟨rfl,rfl,rfl⟩,rfl,λU h=>absurd h<|bG,λq=>by simp,c6 _,by induction led<;>rfl,rfl⟩) (pZ.oV ..)
theorem pe:PS C (.type "tuple") xm:=u5 λρ s st U U h1=>Gd (T:=λy=>call (.type "tuple") [y]) h1 λi ys a ws n ha ho A6 hz=>Sd.of λG Q E kk=>
 call_tuple_list ⟨_,ho,rfl,n,rfl⟩ (λh' hk=>by have G':=G.ext hk 0;exact kk _ _ _ ⟨_,rfl⟩ (q7 G') (G'.push rfl ⟨ws,0,rfl,A6.mono ⟨_,rfl⟩⟩)<|pZ.oV ..) (F7 A6 hz)
theorem fb:PS C (.type "range") xn:=PS.or
 (u5 λρ s st U U h1=>Kk (T:=λy=>call (.type "range") [y]) h1 λn t=>Sd.of λG Q E kk=>call_range_1<|kk _ _ _ ⟨_,rfl⟩ (q7 G) ((G.push (ao:=.range 0 n 1) rfl ⟨_,_,_,rfl⟩).tok 2)<|pZ.heap s _ 2)
 (aaF λρ s st U U U U y z h1 h2 h3=>Kk (T:=λx=>call (.type "range") [x,y,z]) h1 λa t=>Kk (T:=λy=>call (.type "range") [.int a t,y,z]) h2 λb u=>Kk (T:=λz=>call (.type "range") [.int a t,.int b u,z]) h3 λc w=>Sd.cz λhc=>Sd.of λG Q E kk=>
  call_range_3 (by lia) (kk _ _ _ ⟨_,rfl⟩ (q7 G) (G.push rfl ⟨_,_,_,rfl⟩)<|pZ.oV ..) (.inl<|kN<|by omega))
theorem LV:PS C (.type "int") aby:=u5 λρ s st U U h1=>Kk (T:=λy=>call (.type "int") [y]) h1 λn t=>Sd.rV λG Q E kk=>call_int_int<|kk _ ⟨_,rfl⟩
theorem AD:PS C (.type "type") KH:=u5 λρ s st U U h1=>Sd.de
 (Kk (T:=λy=>call (.type "type") [y]) h1 λn t=>Sd.rV λG Q E kk=>call_type_of (typeIs_int s _ t) (rfl)<|kk _ rfl)
 (y4 (T:=λy=>call (.type "type") [y]) h1 λn t=>Sd.rV λG Q E kk=>call_type_of (fT s _ t) (rfl)<|kk _ rfl)
theorem sd:PS C (.builtin "isinstance") xo:=D9 λρ s st U U U z h1 h2=>y4 (T:=λy=>call (.builtin "isinstance") [y,z]) h1 λn t=>Qo λe=>Sd.rV λG Q E kk=>by subst e;subst h2;exact IsiPair.str_str<|kk _ rfl
end
theorem kh(P)(v0 v1)(rest):(xU (qE P) 124).map (λfd=>bindArgs fd ⟨v0::v1::rest,[]⟩)=some (newTuple rest>>=λt=>pure ([("self",v0),("node",v1),("predecessors",t)]:List<|Str×Value)):=by
 rcases rest with _|⟨x,r⟩
 .rfl'
 .rfl'
theorem pr(P)(v0)(rest):(xU (qE P) 157).map (λfd=>bindArgs fd ⟨v0::rest,[]⟩)=some (newTuple rest>>=λt=>pure ([("self",v0),("nodes",t)]:List<|Str×Value)):=by
 rcases rest with _|⟨x,r⟩
 .rfl'
 .rfl'
theorem fg(v0 v1 v2):(List.all ([("self",v0),("node",v1),("predecessors",v2)]:List<|Str×Value) λx=>(pC 124).names.lookup x.1==some .local)=true:=by rfl'
theorem jh(v0 v1):(List.all ([("self",v0),("nodes",v1)]:List<|Str×Value) λx=>(pC 157).names.lookup x.1==some .local)=true:=by rfl'
def t1:List<|Addr×Str×Loc:=[(58,"addr",[]),(110,"self",[("graph",.none)]),(129,"self",[]),(136,"self",[]),(143,"self",[]),(164,"self",[]),(515,"self",[]),(797,"self",[]),(827,"self",[]),(834,"self",[]),(856,"self",[]),(863,"self",[]),(878,"s",[("comments",.bool false),("posix",.bool true)]),(885,"split_command",[]),(893,"s",[]),(903,"words",[]),(910,"line",[]),(915,"line",[]),(922,"line",[]),(934,"script",[]),(898,"script",[]),(927,"rows",[])]
def t2:List<|Addr×Str×Str×Loc:=[(73,"self","node",[]),(117,"self","node",[]),(197,"n","what",[]),(501,"self","initial_value",[("newline",.str "\n")]),(508,"self","s",[]),(677,"self","size",[])]
def Oh:V->Value
 |.bool b=>.bool b
 |.str x=>.str x 962
 |_=>.none
def CK:V->Bool
 |.none|.bool _|.str _=>true
 |_=>false
theorem jp(h:CK v=true):VC ρ v<|Oh v:=by induction v<;>first|exact rfl|exact⟨_,rfl⟩|rcases h with _|_
def Up(a:Addr)(x:Str):Bool:=(pC a).names.lookup x==some .local
def Xg(a:Addr)(vs:List V)(kv:List<|Str×V):Option Loc:=match kv with
 |[]=>(match vs with
  |[x]=>(t1.find? (·.1==a)).map λr=>(r.2.1,x)::r.2.2
  |[x,y]=>(t2.find? (·.1==a)).map λr=>(r.2.1,x)::(r.2.2.1,y)::r.2.2.2
  |_=>none)
 |[z]=>(match vs with
  |[x,y]=>if a=790/\z.1= "posix" then some [("self",x),("instream",y),("infile",.none),("posix",z.2),("punctuation_chars",.bool false)]else none
  |_=>none)
 |_=>none
theorem TB(P)(x):(t1.map λr=>(xU (qE P) r.1).map λfd=>peek (qE P) ⟨PG,P⟩<|bindArgs fd ⟨[x],[]⟩)=t1.map λr=>some<|some ((r.2.1,x)::r.2.2.map λd=>(d.1,Oh d.2)):=by rfl'
theorem MM(P)(x y):(t2.map λr=>(xU (qE P) r.1).map λfd=>peek (qE P) ⟨PG,P⟩<|bindArgs fd ⟨[x,y],[]⟩)=t2.map λr=>some<|some ((r.2.1,x)::(r.2.2.1,y)::r.2.2.2.map λd=>(d.1,Oh d.2)):=by rfl'
theorem pt(P)(x y z):(xU (qE P) 790).map (λfd=>peek (qE P) ⟨PG,P⟩<|bindArgs fd ⟨[x,y],[("posix",z)]⟩)=some (some ([("self",x),("instream",y),("infile",.none),("posix",z),("punctuation_chars",.bool false)]:List<|Str×Value)):=by rfl'
theorem MJ:(t1.all λr=>z7.contains r.1&&Up r.1 r.2.1&&r.2.2.all λd=>CK d.2&&Up r.1 d.1)=true:=by rfl'
theorem RH:(t2.all λr=>z7.contains r.1&&Up r.1 r.2.1&&Up r.1 r.2.2.1&&r.2.2.2.all λd=>CK d.2&&Up r.1 d.1)=true:=by rfl'
theorem fj:((["self","instream","infile","posix","punctuation_chars"]:List Str).all<|Up 790)=true:=by rfl'
theorem Xh(h:(l.all λd=>CK d.2&&Up a d.1)=true):oN (KR ρ) l (l.map λd=>(d.1,Oh d.2))/\∀x∈l.map λd=>(d.1,Oh d.2),(pC a).names.lookup x.1=some .local:=by
 induction l with
 |nil=>exact⟨.nil,λU h=>absurd h<|bG⟩
 |cons d l ih=>
  simp only[iZ,aQ]at h;refine⟨.cons ⟨rfl,jp h.1.1⟩ (ih h.2).1,λx hx=>?_⟩;rcases aK.mp hx with e|hx
  .exact e▸(a5.mp h.1.2)
  .exact(ih h.2).2 x hx
inductive adR(w:World)(ρ:List Addr)(a:Addr)(loc:Loc)(xs:List Value)(ks:List<|Str×Value):Prop
 |mk (tab:z7.contains a=true) (bs:List<|Str×Value) (e:(xU (KF w) a).map (λfd=>peek (KF w) ⟨PG,w.params⟩<|bindArgs fd ⟨xs,ks⟩)=some (some bs)) (r:oN (KR ρ) loc bs) (l:∀x∈bs,(pC a).names.lookup x.1=some .local)
theorem zK{ρ:List Addr}{a:Addr}{vs:List V}{kv:List (Str×V)}{loc:Loc}{xs:List Value}{ks:List (Str×Value)}(hr:Xg a vs kv=some loc)(hv:oN (VC ρ) vs xs)(hk:oN (KR ρ) kv ks):adR w ρ a loc xs ks:=by
 exists w,ρ,a,vs,kv,loc,xs,ks,_;cases hk with
 |nil=>
  rcases hv with _|⟨h0,hv⟩
  .exact nn hr
  .rcases hv with _|⟨h1,hv⟩
   .obtain⟨r,e,rfl⟩:=a9.mp hr;have m:=j2 e;have ha:r.1=a:=by simpa using nG e
    subst ha;have q:=aX.mp MJ r m;simp only[aQ]at q;have d:=Xh (ρ:=ρ) q.2;exact⟨q.1.1,_,gA.mp (TB w.params _) r m,.cons ⟨rfl,h0⟩ d.1,d9.mpr ⟨a5.mp q.1.2,d.2⟩⟩
   .induction hv with
    |nil=>
     obtain⟨r,e,rfl⟩:=a9.mp hr;have m:=j2 e;have ha:r.1=a:=by simpa using nG e
     subst ha;have q:=aX.mp RH r m;simp only[aQ]at q;have d:=Xh (ρ:=ρ) q.2;exact⟨q.1.1.1,_,gA.mp (MM w.params _ _) r m,.cons ⟨rfl,h0⟩<|.cons ⟨rfl,h1⟩ d.1,d9.mpr ⟨a5.mp q.1.1.2,d9.mpr ⟨a5.mp q.1.2,d.2⟩⟩⟩
    |cons=>exact nn hr
 |@cons z b _ _ hz hk=>
  induction hk with
  |cons=>exact nn hr
  |nil=>
   rcases hv with _|⟨h0,hv⟩
   .exact nn hr
   .rcases hv with _|⟨h1,hv⟩
    .exact nn hr
    .induction hv with
     |cons=>exact nn hr
     |nil=>
      obtain⟨c,hr⟩:=Iu hr;obtain⟨rfl,hz1⟩:=c;obtain rfl:=aA<|(aH ⟨rfl,hz1⟩).symm.trans hr;obtain⟨b1,b2⟩:=b;obtain rfl:b1= "posix" :=hz.1.symm.trans hz1;exact⟨rfl,_,pt w.params _ _ _,.cons ⟨rfl,h0⟩<|.cons ⟨rfl,h1⟩<|.cons ⟨rfl,rfl⟩<|.cons ⟨rfl,hz.2⟩<|.cons ⟨rfl,rfl⟩ .nil,λx hx=>
       a5.mp (aX.mp fj x.1<|fL hx)⟩
theorem Xd{α β:Type}(B:oF k C){t:Sem α}{a:α}{b:β}{Rel:List Addr->β->α->Prop}(e:peek (KF C.w) ⟨PG,C.w.params⟩ t=some a)(h:Rel ρ b a):Sd C t Rel ρ s st<|some (.ok b,st):=
 Sd.rV λG Q E kk=>(cZ (B.K G) e).here<|kk a h
theorem s6(h:oN (KR ρ) l bs)(x):LR ρ (l.lookup x)<|bs.lookup x:=by
 induction h with
 |nil=>exact trivial
 |@cons pa pb la lb hh ht ih=>
  obtain⟨ak,av⟩:=pa;obtain⟨bk,bv⟩:=pb;obtain⟨h1,h2⟩:=hh;subst h1;rcases hx:(x==ak)with _|_
  .simp[List.lookup,hx];exact ih
  .simp[List.lookup,hx];exact h2
theorem tC(h:oN (KR ρ) l bs):oN (KR ρ) l.reverse bs.reverse:=by
 induction h with
 |nil=>exact .nil
 |cons hh _ ih=>simp[cY];exact ih.append<|.cons hh .nil
theorem Bm{kindOf:Str->Option NameKind}:∀bs m x,(∀y∈bs,kindOf y.1=some .local)->bindL kindOf bs m x=((bs.reverse.lookup x).or<|m x):=by
 exists zr;induction zr with
 |nil=> intro m x _;rfl
 |cons zh r pD=>
  obtain⟨n,v⟩:=zh;intro m x h;dsimp only[bindL];rw[aH<|h (n,v)<|.head _,pD _ x λy hy=>h y<|.tail _ hy,cY];have app:∀l,(l++[(n,v)]).lookup x=(l.lookup x).or (if x=n then some v else none):=by
   exists l;induction l with
   |nil=>
    by_cases hx:x=n
    .obtain rfl:=hx.symm;simp
    .have hb:=a7.mpr hx;simp[List.lookup,hb,hx]
   |cons p q ih=>
    obtain⟨a,b⟩:=p;simp[kD,cP];rcases hb:x==a with _|_
    .exact ih
    .rfl
  rw[app];rcases r.reverse.lookup x with _|y
  .by_cases hx:x=n
   .simp[hx]
   .simp[hx]
  .rfl
theorem Gp{kindOf:Str->Option NameKind}:∀bs m x,(∀y∈bs,kindOf y.1=some .local)->bindC kindOf bs m x=m x:=by
 exists zr;induction zr with
 |nil=> intro m x _;exact rfl
 |cons zh r pD=> obtain⟨n,v⟩:=zh;intro m x h;dsimp only[bindC];exact(aH<|h (n,v)<|.head _)▸(pD m x λy hy=>h y<|.tail _ hy)
set_option tactic.hygienic true in
theorem z4:∀names n acc x,((x,NameKind.cell)∈names\/(acc.lookup x).isSome=true)->((cellsFrom n names acc).lookup x).isSome=true:=by
 intro zr;induction zr with
 |nil=>
  intro n acc x h;rcases h with h|h
  .cases h
  .exact h
 |cons zh r pD=>
  obtain⟨y,kd⟩:=zh;intro n acc x h;dsimp only[cellsFrom];split
  .rename_i hk;refine pD (n+1) _ x ?_;rcases h with h|h
   .rcases aK.mp h with e|h
    .injection e with q_;subst q_;right;simp
    .exact .inl h
   .right;simp[cP];split
    .rfl
    .exact h
  .rename_i hk;refine pD n acc x ?_;rcases h with h|h
   .rcases aK.mp h with e|h
    .obtain⟨rfl,rfl⟩:=bQ e;exact absurd rfl hk
    .exact .inl h
   .exact .inr h
set_option tactic.hygienic true in
theorem yR:∀names n acc x a,(x,a)∈cellsFrom n names acc->(x,NameKind.cell)∈names\/(x,a)∈acc:=by
 intro zr;induction zr with
 |nil=> intro n acc x a h;exact .inr h
 |cons zh r pD=>
  obtain⟨y,kd⟩:=zh;intro n acc x a h;dsimp only[cellsFrom]at h;split at h
  .rename_i hk;rcases pD (n+1) _ x a h with h'|h'
   .exact .inl (.tail _ h')
   .rcases aK.mp h' with e|h'
    .obtain⟨rfl,rfl⟩:=bQ e;exact(a5.mp hk)▸(.inl<|.head _)
    .exact .inr h'
  .rcases pD n acc x a h with h'|h'
   .exact .inl (.tail _ h')
   .exact .inr h'
theorem I9{S:Bool->oY}{ρ:List Addr}{s:Shared}{st:St}(B:oF (k+1) C)(L:∀h env,env.frame=some env.locals->env.scope.kind=.function->An env->935<=env.locals->pP (C.into h ρ env))(OK:qF k S){a:Addr}{fd:FuncData}{body:List Stmt}(F:CX C.w a fd body)(Cu:fd.scope.names.all (λx=>x.2 !=.free&&fd.scope.names.lookup x.1==some x.2)=true)
 {xs:List Value}{ks:List (Str×Value)}{loc:Loc}{bs:List (Str×Value)}(hb:peek (KF C.w) ⟨PG,C.w.params⟩ (bindArgs fd ⟨xs,ks⟩)=some bs)(hl:oN (KR ρ) loc bs)(xP:∀x∈bs,fd.scope.names.lookup x.1=some .local):
 Cd C (.call (.ref a) ⟨xs,ks⟩) ρ s st (pX st<|pN<|rA S fu false fd.scope body ⟨st.H,loc.reverse⟩):=by
 exists k,fu,C,S,ρ,s,st,a,fd,body,xs,ks,loc,bs,[B,L,OK,F,Cu,hb,hl,xP];intro G;exists r,oE;intro e;exists o,(q8:F.obj);have T:=B.top.keep G.sim.keep B.hi;have X:=T.K;refine e9 (by have:=B.dp;exact((lk this):C.A.depth<1000)) (X _ _ q8.1) q8.2 F.co F.gen F.body (tU X F.code) ?_;refine(cZ X hb).here ?_;refine F.clo▸?_;refine fC (aI s.toks) ?_;refine jU F.kind (λx hx=>.inl<|xP x hx) ?_;exists env;intro he;exists s';intro x;subst he;intro A9;refine⟨T.lim.keeps x.toInCall.keep,?_⟩;exists h',tk,(es:x.toInCall.same);subst es;simp only[aX,aQ,hV,a5]at Cu;have mem:∀y b,(cellsFrom (s.heap.objs.size+1) fd.scope.names []).lookup y=some b->(y,b)∈cellsFrom (s.heap.objs.size+1) fd.scope.names []:=λy b q=>cF q;have kind:∀y b,(y,b)∈cellsFrom (s.heap.objs.size+1) fd.scope.names []->fd.scope.names.lookup y=some .cell:=λy b q=>by
  rcases yR _ _ _ _ _ q with h|h
  .exact(Cu (y,.cell) h).2
  .cases h
 have qC:=G.enter B x.toInCall.keep (cB<|aI _)
  ⟨_,x.toInCall.ns,λy hy=>by rw[Bm _ _ _ xP];have:=s6 (tC hl) y;induction hq:bs.reverse.lookup y<;>simp only[hq]at this<;>exact this⟩ A9
  (λy b hy=>by
   have hm:=mem y b hy;have Jb:=x.above y b hm;refine⟨cB<|bS Jb,cX Jb,⟨none,?_,?_⟩,λz hz=>(name_of_addr x.apart hm<|mem z b hz).symm,λq=>?_⟩
   .have:=x.cell y b hy;rw[Gp _ _ _ xP]at this;exact this
   .have:=s6 (tC hl) y;rcases hq:loc.reverse.lookup y with _|u
    .exact trivial
    .rw[hq]at this;rcases hq2:bs.reverse.lookup y with _|z
     .simp only[hq2]at this;exact this.elim
     .have:=xP (y,z)<|m3.mp<|cF hq2;replace this:=(kind y b hm)▸this;injection aA this
   .have q':fd.scope.names.lookup y=some .local:=q;replace q':=(kind y b hm)▸q';injection aA q')
  (λy hy q=>by
   rcases hy with hy|hy
   .have:=z4 fd.scope.names (s.heap.objs.size+1) [] y<|.inl<|cF hy;replace this:=q▸this;injection this
   .exact(Cu (y,.free)<|cF hy).1 rfl) (v5 T.K)
 exact Wv B L OK rfl F.kind rfl F.gl F.cd G (pZ.to A9) qC e
def sH(S:Bool->oY)(fu:Nat)(a:Addr)(loc:Loc)(H:Hp):Option<|r8 V×Hp:=pN<|rA S fu false (pC a) (oW a) ⟨H,loc.reverse⟩
def oG(S:Bool->oY)(fu:Nat)(a:Addr)(vs:List V)(kv:List<|Str×V)(H:Hp):Option<|r8 V×Hp:=match Xg a vs kv with
 |some loc=>sH S fu a loc H
 |none=>none
theorem Jo:(z7.all λa=>(pC a).names.all λx=>x.2 !=.free&&(pC a).names.lookup x.1==some x.2)=true:=by rfl'
theorem Ot{S:Bool->oY}{ρ:List Addr}{s:Shared}{st:St}(B:oF (k+1) C)(L:∀h env,env.frame=some env.locals->env.scope.kind=.function->An env->935<=env.locals->pP (C.into h ρ env))(OK:qF k S){a:Addr}{vs:List V}{kv:List (Str×V)}{xs:List Value}{ks:List (Str×Value)}(hv:oN (VC ρ) vs xs)(hk:oN (KR ρ) kv ks):
 Cd C (.call (.ref a) ⟨xs,ks⟩) ρ s st (pX st<|oG S fu a vs kv st.H):=by
 unfold oG;rcases hr:Xg a vs kv with _|loc
 .exact λG r oE e=>nn e
 .obtain⟨hc,bs,h1,h2,h3⟩:=zK hr hv hk;obtain⟨fd,q8⟩:=Ih hc;have zD:=aX.mp Jo a (by simpa using hc);rw[q8.1]at h1;dsimp only[sH];rw[<-q8.2.2]at h3 zD⊢;exact I9 B L OK q8.2.1 zD (aA h1) h2 h3
theorem s7{S:Bool->oY}{ρ:List Addr}{s:Shared}{st:St}(B:oF (k+1) C)(L:pP C)(OK:qF k S){a:Addr}{vs:List V}{kv:List (Str×V)}{xs:List Value}{ks:List (Str×Value)}(hv:oN (VC ρ) vs xs)(hk:oN (KR ρ) kv ks):
 Cd C (.call (.ref a) ⟨xs,ks⟩) ρ s st (pX st<|oG S fu a vs kv st.H):=Ot B (λh env=>pP.into B L) OK hv hk
def Dg:List V->Bool
 |[]=>true
 |.str _::r=>Dg r
 |_=>false
theorem Z1(h:Dg xs=true)(hv:oN (VC ρ) xs ys):∀y∈ys,∃z t,y=.str z t:=by
 induction hv with
 |nil=>exact λU hy=>absurd hy<|bG
 |@cons v w xs ys c t ih=>
  intro y hy;induction v<;>first|(injection h;done)|skip
  rcases aK.mp hy with rfl|hy
  .obtain⟨u,rfl⟩:=c;exact⟨_,u,rfl⟩
  .exact ih h y hy
def abB:Prim:=a2 λd k=>vS (λx=>vR (λi H=>(dE H i).bind λes=>some (.ok<|(es.lookup x).getD .none,H)) d) k
def Yq:Prim:=a1<|vR λi H=>((dE H i).bind λU=>nw (.vals i) H).or<|(fE H i).bind λU=>nw (.vals i) H
def xq:Prim:=a2 λl k=>vS (λx=>vL (λU xs H=>if Dg xs=true then(vQ x xs).bind λn=>some (.ok<|.int n,H)else none) l) k
def adv(x:Str):Value->Bool
 |.str y _=>y==x
 |_=>false
set_option tactic.hygienic true in
theorem R8(h:oN (VC ρ) xs ys)(e:vQ x xs=some n):∃t,ys[n]?=some (.str x t)/\∀m,m<n->∃y t,ys[m]?=some (.str y t)/\y≠x:=by
 induction h generalizing n with
 |nil=>exact nn e
 |@cons v y xs ys h t ih=>
  induction v<;>first|exact nn e|skip
  rename_i z;obtain⟨u,rfl⟩:=h;dsimp only[vQ]at e;by_cases hz:z=x
  .replace e:=(aH hz)▸e;obtain rfl:=aA e;obtain rfl:=hz.symm;exact⟨u,rfl,λm hm=>absurd hm<|kY m⟩
  .replace e:=(aL hz)▸e;obtain⟨m,hm,rfl⟩:=a9.mp e;obtain⟨t',q8⟩:=ih hm;refine⟨t',q8.1,?_⟩;exists j;intro hj;rcases j with _|j
   .exact⟨z,u,rfl,hz⟩
   .exact q8.2 j (Nat.lt_of_succ_lt_succ hj)
theorem PA:PS C (.builtin "dict.get") abB:=D9 λρ s st U U y U h1 h2=>y4 (T:=λz=>call (.builtin "dict.get") [y,z]) h2 λx t=>z3 (T:=λy=>call (.builtin "dict.get") [y,.str x t]) h1 λi a U za=>Sd.vJ λes hi=>Sd.plain λG Q E kk=>by obtain⟨a',rQ,e,q8⟩:=G.dict (tQ hi) za;rcases e with _|_;refine kO nF q8.2.1.typeIs F.entry_dict_get (F.args_dict_get_2 _ _) (meets_dict_get (strKind PG C.w) a (hZ PG C.w x t)<|G.notModules q8.1) ⟨_,q8.2.1.mapOf,kk _ 1 ?_⟩;have:=vU q8.2.2 x;rcases h3:es.lookup x with _|_<;>rcases h4:valueAt rQ x with _|_<;>rw[h3,h4]at this<;>first|exact this.elim|exact rfl|exact this
theorem AA:PS C (.builtin "dict.values") Yq:=u5 λρ s st U U h1=>z3 (T:=λy=>call (.builtin "dict.values") [y]) h1 λi a ha za=>Sd.de
 (Sd.vJ λes hi=>Sd.of λG Q E kk=>by obtain⟨a',rQ,e,_,hd,_⟩:=G.dict (tQ hi) za;cases e;exact kO iB hd.typeIs lV (lO _) (mT (strKind PG C.w) a<|G.notModules ha) ⟨⟨rQ,hd⟩,kk _ _ _ ⟨_,rfl⟩ (q7 G) (G.push rfl ⟨a,_,pT ⟨_,rfl⟩ ha,rfl⟩)<|pZ.oV ..⟩)
 (Sd.vJ λq hi=>Sd.of λG Q E kk=>by obtain⟨a',rQ,e,_,hd,_⟩:=G.o0 (Cp hi) za;cases e;exact kO iB hd.dictOf.typeIs lV (lO _) (mT (strKind PG C.w) a<|G.notModules ha) ⟨⟨rQ,hd.dictOf⟩,kk _ _ _ ⟨_,rfl⟩ (q7 G) (G.push rfl ⟨a,_,pT ⟨_,rfl⟩ ha,rfl⟩)<|pZ.oV ..⟩)
theorem vr:PS C (.builtin "list.index") xq:=D9 λρ s st U U y U h1 h2=>y4 (T:=λz=>call (.builtin "list.index") [y,z]) h2 λx t=>Gd (T:=λy=>call (.builtin "list.index") [y,.str x t]) h1 λi ys a ws m ha ho A6 hz=>Sd.cz λhs=>Sd.vJ λn hn=>Sd.plain λG Q E kk=>by
 obtain⟨u,q9⟩:=R8 A6 hn;have vO:n<ws.size:=by have:=(aU.mp q9.1).1;rwa[eS]at this
 have at_:∀m(hm:m<ws.size),ws.toList[m]?=some ws[m]:=λm hm=>by simp[bU]
 unfold big at hz;have hz:=(tN A6)▸hz;refine iC mR ⟨_,ho,rfl⟩ F.entry_list_index (F.args_list_index_2 _ _) (MeetsSeq.list_index a ws m (.str x t) (adv x) (λy hy=>?_) n vO (by lia) ?_ λj hj hjn=>?_) ⟨ho,kk _ 1 ⟨_,rfl⟩⟩
 .obtain⟨z,v,rfl⟩:=Z1 hs A6 y (by simpa using hy);exact eqGives_str z x v t
 .exact(aA<|q9.1.symm.trans<|at_ n vO)▸(bM x)
 .obtain⟨y,v,q8⟩:=q9.2 j hjn;exact(aA<|q8.1.symm.trans<|at_ j hj)▸(a7.mpr q8.2)
def uT(S:Bool->oY)(fu:Nat)(a:Addr)(vs:List V)(H:Hp):pO:=match vs with
 |[]=>none
 |v0::r=>if a=157 then(if r.length<1000 then sH S fu 157 [("self",v0),("nodes",.ref H.length)] (H++[.tuple r])else none)else if a=124 then(match r with
  |[]=>none
  |v1::r=>if r.length<1000 then sH S fu 124 [("self",v0),("node",v1),("predecessors",.ref H.length)] (H++[.tuple r])else none)else none
theorem Sx(P):(([(124,"add"),(157,"done")]:List<|Addr×Str).all λp=>isFn (qE P) (.ref p.1)&&specialIn (qE P) (.ref p.1) "__get__" ==some (some<|.builtin "function.__get__")&&takesIn (qE P) (.ref p.1)==some false&&!copiedNames.contains p.2&&
 findIn (qE P) (.ref 174) p.2==some (some<|.ref p.1)&&plainGet (qE P) 174 p.2&&hasDictIn (qE P) 174&&fnIn (qE P) p.1)=true:=by rfl'
def Ht(x:Str):Option Addr:=if x= "add" then some 124 else if x= "done" then some 157 else none
theorem Cd.nil:Cd C c ρ s st none:=λU U U e=>nn e
theorem D6{S:Bool->oY}(B:oF (k+1) C)(L:pP C)(OK:qF k S){a:Addr}(ha:z7.contains a=true)(Ig:(pC a).names.all (λx=>x.2 !=.cell&&x.2 !=.free)=true){xs xr:List Value}{rest:List V}{f:Value->List (Str×Value)}{g:V->Loc}
 (hb:(xU (KF C.w) a).map (λfd=>bindArgs fd ⟨xs,[]⟩)=some (newTuple xr>>=λt=>pure<|f t))(hl:∀v,((f v).all λx=>(pC a).names.lookup x.1==some .local)=true)(hg:∀oO v w,ρ<+:oO->VC oO v w->oN (KR oO) (g v) (f w))(hv:oN (VC ρ) rest xr):
 Cd C (.call (.ref a) ⟨xs,[]⟩) ρ s st (pX st<|if rest.length<1000 then sH S fu a (g<|.ref st.H.length) (st.H++[.tuple rest])else none):=by
 by_cases hz:rest.length<1000;rotate_left
 .rw[aL hz];exact Cd.nil
 rw[aH hz];obtain⟨fd,q8⟩:=Ih ha;rw[q8.1]at hb;have key:=Wj (fu:=fu) (st:=st) (s:=s) (ρ:=ρ) B L OK q8.2.1 (q8.2.2▸Ig) (xs:=xs) (ks:=[]) (ob:=(wU (.tuple rest) st).then λt st=>some (.ok<|g t,st))
  (by exact(aA hb:bindArgs fd ⟨xs,[]⟩=_)▸q8.2.2▸(Sd.bind (y5 hv hz) λoO s' oE b v hp hbv=>Sd.pure ⟨hg oO b v hp hbv,λx hx=>a5.mp<|aX.mp (hl v) x hx⟩))
  (λc oE q=>by rcases aA q with _|_)
 rw[q8.2.2]at key;exact key
theorem Te{S:Bool->oY}(B:oF (k+1) C)(L:pP C)(OK:qF k S){a:Addr}{vs:List V}{xs:List Value}(hv:oN (VC ρ) vs xs):Cd C (.call (.ref a) ⟨xs,[]⟩) ρ s st<|pX st<|uT S fu a vs st.H:=by
 induction hv with
 |nil=>exact Cd.nil
 |@cons v0 x0 r xr h0 hv=>
  show Cd C _ ρ s st<|pX st<|if a=157 then _ else if a=124 then _ else none;by_cases e1:a=157
  .subst e1;exact D6 B L OK (rfl) (by decide+kernel) (pr C.w.params x0 xr) (jh x0) (g:=λt=>[("self",v0),("nodes",t)]) (λoO v w hp hvw=>.cons ⟨rfl,h0.mono hp⟩<|.cons ⟨rfl,hvw⟩ .nil) hv
  rw[aL e1];by_cases e2:a=124
  .subst e2;induction hv with
   |nil=>exact Cd.nil
   |@cons v1 x1 r xr h1 hv=> exact D6 B L OK (rfl) (by decide+kernel) (kh C.w.params x0 x1 xr) (fg x0 x1) (g:=λt=>[("self",v0),("node",v1),("predecessors",t)]) (λoO v w hp hvw=>.cons ⟨rfl,h0.mono hp⟩<|.cons ⟨rfl,h1.mono hp⟩<|.cons ⟨rfl,hvw⟩ .nil) hv
  .exact(aL e2)▸Cd.nil
set_option tactic.hygienic true in
theorem Se{st:St}(B:oF k C){x:Str}{f:Addr}(hx:Ht x=some f){i d:Nat}{es:List (Str×V)}{xs:List V}(hi:st.H[i]?=some (.inst 174 d xs))(hd:st.H[d]?=some (.dict es))(hl:es.lookup x=none){ov:Value}(hv:VC ρ (.ref i) ov):
 Sd C (getAttr ov x true) VC ρ s st (wU (.bound f<|.ref i) st):=by
 exists k,C,ρ,s,st,x,f,i,d,es,xs,ov,[B,hx,hi,hd,hl,hv];have hf:=aX.mp (Sx C.w.params) (f,x) (by
  unfold Ht at hx;split at hx
  .rename_i e;obtain rfl:=aA hx;exact e▸(.head _)
  .split at hx
   .rename_i e;obtain rfl:=aA hx;rw[e];exact .tail _<|.head _
   .exact nn hx)
 simp only[aQ,a5,dA]at hf;obtain⟨⟨⟨⟨⟨⟨⟨f1,f2⟩,f3⟩,f4⟩,f5⟩,f6⟩,f7⟩,f8⟩:=hf;refine Sd.of λG Q E kk=>?_;exists a,dx,ws,ds,n,(q_:G.inst hi hd hv);obtain⟨rfl,q8⟩:=q_;have hg:=Ck x q8.2.2.2.1;simp only[hl]at hg;refine get_bind (B.K G) q8.2.2.2.2.2.2 (lP f6).1 (findObj_fn f7 f5 f2 f3 f4<|hg) (lP f6).2 ?_;have G1:=G.tok 1;exact eJ<|fn_get (B.K G1) (a5.mp f1)<|nZ rfl<|kk _ _ _ ⟨_,rfl⟩ (q7 G1) (G1.push rfl ⟨.ref a,rfl,⟨a,pT ⟨_,rfl⟩ q8.1,rfl⟩⟩)<|pZ.heap s _ 1
def wb:Expr->Option (Expr×Pos)
 |.Starred e p=>some (e,p)
 |_=>none
theorem Pn{q}(h:wb e=some q):e=.Starred q.1 q.2:=by revert h;rcases e with _|_<;>first|exact nn|(intro h;obtain rfl:=aA h;rfl)
def Bd(x:Str)(H:Hp)(v:V):Option Nat:=vR (λi H=>(iE H i).bind λq=>if q.1=174 then if q.2.2.2.lookup x=none then some i else none else none) v H
inductive W6(x:Str)(H:Hp):V->Nat->Prop
 |mk (i d:Nat) (xs:List V) (es:List<|Str×V) (h1:H[i]?=some (.inst 174 d xs)) (h2:H[d]?=some (.dict es)) (h3:es.lookup x=none):W6 x H (.ref i) i
theorem Oi(h:Bd x H v=some i):W6 x H v i:=by obtain⟨i,rfl,h⟩:=E9 h;obtain⟨q,h1,h⟩:=aB.mp h;obtain⟨hA,h⟩:=Iu h;obtain⟨hl,h⟩:=Iu h;obtain rfl:=aA h;have h1:=Cm h1;exact .mk i q.2.1 q.2.2.1 q.2.2.2 (hA▸h1.1) h1.2 hl
def IT(H:Hp)(v:V):Option<|Nat×List V:=vR (λj H=>(lE H j).map λys=>(j,ys)) v H
def boE(H:Hp)(i:Nat):Option<|Addr×V:=(H[i]?).bind λo=>match o with
 |.bound f v=>some (f,v)
 |_=>none
theorem wn{i:Nat}{q}(h:boE H i=some q):H[i]?=some (.bound q.1 q.2):=by obtain⟨o,h1,h⟩:=aB.mp h;refine a6 h1 ?_;induction o<;>first|exact nn h|exact aV (λx=>some<|AO.bound x.1 x.2)<|aA h
def ZX(H:Hp)(v:V):Option<|Nat×Addr×V:=vR (λj H=>(boE H j).map λq=>(j,q)) v H
theorem Px{q}(h:IT H v=some q):v=.ref q.1/\H[q.1]?=some (.list q.2):=by obtain⟨j,rfl,h⟩:=E9 h;obtain⟨ys,h1,rfl⟩:=a9.mp h;exact⟨rfl,q0 h1⟩
theorem vj{q}(h:ZX H v=some q):v=.ref q.1/\H[q.1]?=some (.bound q.2.1 q.2.2):=by obtain⟨j,rfl,h⟩:=E9 h;obtain⟨ys,h1,rfl⟩:=a9.mp h;exact⟨rfl,wn h1⟩
def JR(Q:oY)(S:Bool->oY)(fu:Nat)(sc:Scope)(e:Expr)(st:St):oM V:=(Dt e).bind λc=>(y9 c.1).bind λq=>(Lu c.2.1).bind λa=>(wb a).bind λz=>if c.2.2.1.isEmpty&&w8 q.1 then
 (pW Q sc q.1 st).then λv st=>(Bd q.2.1 st.H v).bind λi=>(Ht q.2.1).bind λf=>(wU (.bound f<|.ref i) st).then λb st=>(pW Q sc z.1 st).then λa st=>
  (IT st.H a).bind λl=>(ZX st.H b).bind λm=>if l.2.length<big/\(m.2.1=124\/m.2.1=157)then pX st (uT S fu m.2.1 (m.2.2::l.2) st.H)else none else none
theorem Uk(P):(fnIn (qE P) 124&&fnIn (qE P) 157)=true:=by rfl'
theorem Pt{S:Bool->oY}{ρ:List Addr}{s:Shared}{st:St}{Q:oY}(B:oF (k+1) C)(L:pP C)(OK:qF k S)(O:o4 C Q){e:Expr}{sp p:Pos}{b:V}{bv:Value}(hb:VC ρ b bv):
 Sd C (callWith p bv [] (backTo p<|starEach [.Starred e sp] C.env) []) VC ρ s st ((pW Q C.env.scope e st).then λa st=>(IT st.H a).bind λl=>(ZX st.H b).bind λm=>if l.2.length<big/\(m.2.1=124\/m.2.1=157)then pX st (uT S fu m.2.1 (m.2.2::l.2) st.H)else none):=by
 exists k,fu,C,S,ρ,s,st,Q,e,sp,p,b,bv,[B,L,OK,O,hb];refine Sd.qe ?_;intro G;exists r,oE;intro ef;exists Q',E;intro kQ kE;refine(rfl:starEach [.Starred e sp] C.env=[(true,eval e C.env)])▸?_;obtain⟨c,h1,rfl⟩|⟨a,qH,h1,ef⟩:=qJ ef
 .exact ks_call (P:=λU=>False) rfl (λh q=>q.elim) (ks_lone<|(pG O e st ρ s).ex G h1 λx pS oO p X g n=>kE _ _ ⟨c,oO,rfl,p,X,g,n⟩)
 exists a,qH,[h1,ef];exists _;exists g9,_;obtain⟨⟨j,ys⟩,hj,e1⟩:=aB.mp ef;exists j,ys,_;obtain⟨⟨l,f',v'⟩,hl',e2⟩:=aB.mp e1;exists l,f',v',_;clear ef e1;obtain⟨rfl,hj2⟩:=Px hj;obtain⟨rfl,hl2⟩:=vj hl';by_cases hz:ys.length<big/\(f'=124\/f'=157);refine k9 ?_;rotate_left
 .injection(aL hz).symm.trans e2
 exists qa,(q_:hb);obtain⟨hqa,rfl⟩:=q_;have hfn:fnIn (KF C.w) f'=true:=by
  have:=Uk C.w.params;simp only[aQ]at this;rcases hz.2 with rfl|rfl
  .exact this.1
  .exact this.2
 refine ks_call (P:=λh=>∃self,MethP (KF C.w) qa f' self h) rfl (λh q9=>by exists self,(X:q9);exact keeps_M hfn h X)<|ks_lone<|(pG O e st ρ s).ok G h1 ?_;exists y,pQ,qO;intro rW ha rL wF;exists la,ws,n,(q_:rL.list hj2 ha);obtain⟨rfl,q8⟩:=q_;refine aD<|jC ⟨_,q8.2.1,rfl⟩ PySem.F.slot_list_iter.lookup<|aM ⟨rfl,?_⟩;refine wpAny_collect_seq la (.inl rfl) q8.2.1 rfl rfl (λh' hk=>?_)<|F7 q8.2.2 hz.1;exists h',_;have Np:=rL.ext hk 0;exists om,(q_:Np.sim.obj l qa _ (pT rW hqa) hl2);obtain⟨hom,y,rfl,N0⟩:=q_;refine⟨⟨y,hom,B.K Np⟩,eJ<|method_call hom ?_⟩;refine dP (Te B L OK (.cons N0 q8.2.2) Np r oE<|(aH hz).symm.trans e2) ?_;exists r',A0;intro P;have nn:=wF.trans<|pZ.oV pQ h';rcases r' with x|fl
 .obtain⟨b,oO,e,p,q,g,m⟩:=P;exact kE _ _ ⟨b,oO,e,rW.trans p,q,g,nn.trans m⟩
 .induction fl with
  |ret v=>obtain⟨b,oO,e,p,q,g,m⟩:=P;exact kQ _ _ ⟨b,oO,e,rW.trans p,q,g,nn.trans m⟩
  |_=>exact P
theorem GW{S:Bool->oY}{ρ:List Addr}{s:Shared}{st:St}{Q:oY}(B:oF (k+1) C)(L:pP C)(OK:qF k S)(O:o4 C Q)(e):Sd C (eval e C.env) VC ρ s st<|JR Q S fu C.env.scope e st:=by
 exists k,fu,C,S,ρ,s,st,Q,e,[B,L,OK,O];refine Sd.qD λc h0=>yK h0▸?_;clear h0;obtain⟨f,as,ks,p⟩:=c;dsimp only;refine Sd.qD λq h1=>Sd.qD λa h2=>Sd.qD λz h3=>Sd.iff λhs=>?_;obtain rfl:=vV h1;obtain rfl:=tD h2;obtain rfl:=Pn h3;obtain⟨o,q8⟩:=q;rw[aQ,cI]at hs;obtain⟨rfl,hs⟩:=hs;show Sd C (do
  let ov<-attributeBase o q8.1 C.env (eval o C.env)
  standAt q8.2.atName
  let(f,first)<-holding [ov] (do pure (<-getAttr ov q8.1 true,[]))
  callWith p f first (backTo p<|starEach [.Starred z.1 z.2] C.env) []) _ _ _ _ _
 simp only[qA hs];refine Sd.bind (pG O o _ ρ s) λpH oK pU v ov tH hv=>Sd.standAt<|Sd.qD λi h4=>Sd.qD λf hx=>Sd.xM<|Sd.assoc ?_;exists _;obtain⟨i,d,xs,es,hi,hd,hl⟩:=Oi h4;exact k9<|Sd.bind (Se B hx hi hd hl hv) λpF pS sK b bv qT hb=>Pt B L OK O hb
section
theorem oF.le(B:oF k C)(h:k'<=k):oF k' C:=⟨B.top,B.hi,B.live,by have:=B.dp;exact lk<|aC this h,by have:=B.un;lia,B.fn,B.gl⟩
theorem gh(P)(v0)(rest):(xU (qE P) 224).map (λfd=>bindArgs fd ⟨v0::rest,[]⟩)=some (newTuple rest>>=λt=>alloc {cls:=.type "dict",data:=.dict #[]}>>=λd=>pure ([("cls",v0),("args",t),("kwargs",.ref d)]:List<|Str×Value)):=by
 rcases rest with _|⟨x,r⟩
 .rfl'
 .rfl'
theorem fq(v0 v1 v2):(List.all ([("cls",v0),("args",v1),("kwargs",v2)]:List<|Str×Value) λx=>(pC 224).names.lookup x.1==some .local)=true:=by rfl'
theorem RZ(P):peek (qE P) ⟨PG,P⟩ (compareOp .IsNot (.ref 731)<|.ref 484)=some (.bool true):=by rfl'
theorem UP(P):peek (qE P) ⟨PG,P⟩ (compareOp .IsNot (.ref 731)<|.ref 731)=some (.bool false):=by rfl'
def MX(op:CmpOp)(a b:V):Option V:=if op=.IsNot/\a=.top 731 then(if b=.top 484 then some (.bool true)else if b=.top 731 then some (.bool false)else none)else none
def nb(v:V)(x:Str):Option<|V×List V:=if v=.ty "object" /\x= "__new__" then some (.bi "object.__new__",[])else none
def Kf(f:V)(vs:List V)(H:Hp):pO:=if f=.bi "object.__new__" /\vs=[.top 731]then some (.ok<|.ref<|H.length+1,H++[.dict [],.inst 731 H.length []])else none
theorem DK(P):findCls (qE P) (.type "object") (.type "type") "__new__" =some (.val<|.builtin "object.__new__"):=by rfl'
theorem Tz:handedIn (.builtin "object.__new__")=true:=by decide+kernel
theorem NF:typeOf (.type "object")=pure (.type "type"):=by rfl'
theorem nr:Manifest.isStub "object" =false:=by decide+kernel
theorem BM(B:oF k C)(ha:VC ρ a x)(hb:VC ρ b y):Sd C (compareOp op x y) VC ρ s st<|sO st<|MX op a b:=by
 refine As rfl λh=>?_;obtain⟨rfl,rfl⟩:=h;subst ha;by_cases e:b=.top 484
 .rw[aH e];subst e;subst hb;exact Xd B (RZ _) rfl
 .rw[aL e];refine As rfl λe=>?_;subst e;subst hb;exact Xd B (UP _) rfl
theorem iw(B:oF k C)(hv:VC ρ v ov):Sd C (getMethod ov x pl) (λρ f g=>VC ρ f.1 g.1/\oN (VC ρ) f.2 g.2) ρ s st<|sO st<|nb v x:=by
 refine As rfl λh=>?_;obtain⟨rfl,rfl⟩:=h;obtain rfl:=hv.symm;refine Sd.plain λG Q E kk=>?_;obtain⟨m,q8⟩:=G.fr.ns;have aeA:=zS (B.K G) (λa o e=>bJ (uC e).1 G.fr.lo) (by
  rcases q:(KF C.w).lookup C.env.locals with _|o
  .rfl
  .have:=B.top.K _ _ q;replace this:=G.fr.none▸this;rcases this with _|_)
 refine method_type (T:= "object") (v:=.builtin "object.__new__") (vF q8.1) aeA ?_ ?_ ?_ ?_ ?_
 .exact NF
 .exact nr
 .exact DK C.w.params
 .exact Tz
 .exact kk _ 1 ⟨rfl,.nil⟩
theorem jc{st:St}(B:oF k C){f:V}{fv:Value}{vs:List V}{xs:List Value}(hf:VC ρ f fv)(hv:oN (VC ρ) vs xs):Sd C (call fv xs) VC ρ s st<|pX st<|Kf f vs st.H:=by
 refine As rfl λh=>?_;obtain⟨rfl,rfl⟩:=h;subst hf;obtain⟨y,rfl,rfl⟩:=nh hv;refine Sd.of λG Q E kk=>?_;obtain⟨hp,q8⟩:=s;have hx:VC ((ρ++[hp.objs.size])++[hp.objs.size+1]) (.ref<|st.H.length+1)<|.ref<|hp.objs.size+1:=by refine⟨_,?_,rfl⟩;rw[<-G.len,aS<|by simp];simp
 exact eJ<|VD (B.K G)<|kk _ _ _ ⟨[hp.objs.size,hp.objs.size+1],by simp⟩ hx (G.abt)<|pZ.oV ..
end
def Le(D:Addr):Option Addr:=if D=77 then some 73 else if D=174 then some 110 else if D=866 then some 790 else none
theorem rg(P):(([(77,73),(174,110),(866,790)]:List<|Addr×Addr).all λp=>makesIn (qE P) p.1&&findIn (qE P) (.ref p.1) "__init__" ==some (some<|.ref p.2)&&typeIn (qE P) (.ref p.2)==some (.type "function"))=true:=by rfl'
def Km(n:Nat)(o:pO):pO:=o.bind λq=>(Gq n q.1).bind λu=>some (u,q.2)
def mkV(S:Bool->oY)(fu:Nat)(D:Addr)(vs:List V)(kv:List<|Str×V)(H:Hp):pO:=(Le D).bind λf=>Km (H.length+1)<|oG S fu f (.ref (H.length+1)::vs) kv<|H++[.dict [],.inst D H.length []]
def aau:AO->Option (Addr×Nat×List V)
 |.inst D d xs=>some (D,d,xs)
 |_=>none
def adr(S:Bool->oY)(fu:Nat)(x:V)(H:Hp):r8 V->pO
 |.ok v=>vR (λi H=>(H[i]?).bind λo=>(aau o).bind λq=>if q.1=731/\q.2.2=[]then Km i (oG S fu 501 [.ref i,x] [] H)else none) v H
 |.exc c=>some (.exc c,H)
def mkS(S:Bool->oY)(fu:Nat)(x:V)(H:Hp):pO:=(sH S fu 224 [("cls",.top 731),("args",.ref H.length),("kwargs",.ref<|H.length+1)]<|H++[.tuple [x]]++[.dict []]).bind λq=>adr S fu x q.2 q.1
theorem va{D:Addr}:pX st (Km (st.H.length+1) o)=Nq st (pX (Oe D st) o):=by
 rcases o with _|⟨q,H⟩
 .rfl
 .show pX st ((Gq _ q).bind _)=(Gq _ q).bind _;rcases Gq (st.H.length+1) q with _|u<;>rfl
theorem SZ{S:Bool->oY}{ρ:List Addr}{s:Shared}{st:St}(B:oF (k+2) C)(L:pP C)(OK:qF k S){D:Addr}{vs:List V}{kv:List (Str×V)}{xs:List Value}{ks:List (Str×Value)}(hv:oN (VC ρ) vs xs)(hk:oN (KR ρ) kv ks):
 Cd C (.call (.ref D) ⟨xs,ks⟩) ρ s st (pX st<|mkV S fu D vs kv st.H):=by
 unfold mkV;rcases hi:Le D with _|f
 .exact λG r oE e=>nn e
 .have hm:=aX.mp (rg C.w.params) (D,f) (by
   unfold Le at hi;by_cases a:D=77
   .subst a;obtain rfl:=aA hi;exact .head _
   by_cases b:D=174
   .subst b;obtain rfl:=aA hi;exact .tail _<|.head _
   by_cases c:D=866
   .subst c;obtain rfl:=aA hi;exact .tail _<|.tail _<|.head _
   rw[aL a,aL b,aL c]at hi;exact nn hi)
  simp only[aQ,a5]at hm;obtain⟨⟨h1,h2⟩,h3⟩:=hm;show Cd C _ ρ s st<|pX st<|Km _ _;rw[va];exact DW (B.le<|dM _) h1 h2 h3 λoO s' x hp hx=>s7 (oF.under B) L.under OK (.cons hx<|hv.mono hp)<|KR.mono hp hk
theorem oD.under{D:Addr}(G:oD C ρ st s):oD (C.under D vs kw) ρ st s:=⟨G.sim,G.fr,G.tk⟩
theorem oD.Nr{D:Addr}(G:oD (C.under D vs kw) ρ st s):oD C ρ st s:=⟨G.sim,G.fr,G.tk⟩
set_option tactic.hygienic true in
theorem NJ{S:Bool->oY}{ρ:List Addr}{s:Shared}{st:St}(B:oF (k+2) C)(L:pP C)(OK:qF k S){v:V}{x:Value}(hv:VC ρ v x):Cd C (.call (.ref 731) ⟨[x],[]⟩) ρ s st<|pX st<|mkS S fu v st.H:=by
 exists k,fu,C,S,ρ,s,st,v,x,[B,L,OK,hv];intro G;exists r,oE;intro e;have B1:oF (k+1)<|C.under 731 [x] []:=oF.under (k:=k+1) B;obtain⟨fd,q9⟩:=Ih (w:=C.w) (a:=224) (by decide);have hb:=gh C.w.params (.ref 731) [x];rw[show xU (qE C.w.params) 224=some fd from q9.1]at hb;have key:=Wj (fu:=fu) (C:=C.under 731 [x] []) (st:=st) (s:={s with toks:=s.toks+1}) (ρ:=ρ) (S:=S) B1 L.under OK q9.2.1 (by rw[q9.2.2];decide+kernel) (xs:=.ref 731::[x]) (ks:=[])
  (ob:=(wU (.tuple [v]) st).then λt st=>(wU (.dict []) st).then λd st=>some (.ok [("cls",.top 731),("args",t),("kwargs",d)],st))
  (by rw[(aA hb:bindArgs fd ⟨.ref 731::[x],[]⟩=_)];refine Sd.bind (y5 (.cons hv .nil) (by show 1<1000;decide)) λoO s' oE b t hp hbt=>?_;refine Sd.bind (Rel:=λρ v a=>VC ρ v<|.ref a) (Sd.of λG Q E kk=>m8<|kk _ _ _ ⟨_,rfl⟩ (q7 G) (G.push rfl ⟨#[],0,rfl,.nil,by simp⟩)<|pZ.oV ..) λDv Co xY d a uM hd=>?_;refine Sd.pure ⟨.cons ⟨rfl,rfl⟩<|.cons ⟨rfl,hbt.mono uM⟩<|.cons ⟨rfl,hd⟩ .nil,λz hz=>?_⟩;have:=aX.mp (fq (.ref 731) t<|.ref a) z hz;exact q9.2.2▸(a5.mp this))
  (λc oE q=>by cases q)
 replace key:=q9.2.2▸key;have dg:((((wU (.tuple [v]) st).then λt st=>(wU (.dict []) st).then λd st=>some (r8.ok ([("cls",.top 731),("args",t),("kwargs",d)]:Loc),st)):oM Loc).then λloc st=>pX st<|pN<|rA S fu false (pC 224) (oW 224) ⟨st.H,loc.reverse⟩)=
  pX (⟨st.H++[.tuple [v]]++[.dict []],st.loc⟩:St) (sH S fu 224 [("cls",.top 731),("args",.ref st.H.length),("kwargs",.ref<|st.H.length+1)]<|st.H++[.tuple [v]]++[.dict []]):=by
  unfold sH wU;simp only[oM.then,aG,bA,fW]
 simp only[dg]at key;have G1:oD (C.under 731 [x] []) ρ st {s with toks:=s.toks+1}:=(G.tok 1).under;obtain⟨⟨r0,H0⟩,e0,er⟩:=a9.mp<|show(mkS S fu v st.H).map (λq=>(q.1,⟨q.2,st.loc⟩))=some (r,oE)from e;obtain⟨rfl,rfl⟩:=bQ er;clear e;obtain⟨⟨q,H1⟩,h1,e⟩:=aB.mp e0;refine BO (B.K G) ?_;rw[h1]at key;refine dP (key G1 q ⟨H1,st.loc⟩ rfl) λr' s' P=>?_;rcases r' with z|f
 .obtain⟨c,oO,e',uM,X',G',n'⟩:=P;subst e';obtain⟨rfl,rfl⟩:=bQ<|aA e;exact⟨c,oO,rfl,uM,⟨X'.ex⟩,G'.Nr,⟨n'.os,n'.dr,f9 n'.tk,n'.gn⟩⟩
 induction f with
 |ret y=>
  obtain⟨b,oO,e',uM,N0,G',n'⟩:=P;subst e';induction b<;>first|exact nn e|skip
  rename_i i;obtain⟨o,hi,e2⟩:=aB.mp e;clear e;obtain⟨q,hq,e⟩:=aB.mp e2;clear e2;induction o<;>first|exact nn hq|skip
  rename_i D d vs;obtain rfl:=aA hq;by_cases hD:D=731/\vs=[];rotate_left
  .exact nn ((aL hD).symm.trans e)
  replace e:=(aH hD).symm.trans e;obtain⟨rfl,rfl⟩:=hD;obtain⟨a,ha,rfl⟩:=N0;obtain⟨o,ho,dx,vs,hdx,rfl,Ey⟩:=G'.sim.obj i a _ ha hi;obtain rfl:=cC.mp Ey.length.symm;refine⟨a,dx,rfl,ho,B1.K G',?_⟩;obtain⟨⟨q2,H2⟩,h2,e⟩:=aB.mp e;obtain⟨u,h3,e⟩:=aB.mp e;obtain⟨rfl,rfl⟩:=bQ<|aA e;have init:=s7 (fu:=fu) (s:=s') (st:=⟨H1,st.loc⟩) B1 L.under OK (a:=501) (vs:=[.ref i,v]) (.cons ⟨a,ha,rfl⟩<|.cons (hv.mono uM) .nil) .nil;rw[h2]at init;refine dP (init G' q2 ⟨H2,st.loc⟩ rfl) λr2 s2 P2=>?_;rcases r2 with z|f2
  .obtain⟨c,ρ2,e',JY,X2,G2,n2⟩:=P2;subst e';obtain rfl:=aA h3;have n3:=n'.trans n2;exact⟨c,ρ2,rfl,uM.trans JY,⟨X2.ex⟩,G2.Nr,⟨n3.os,n3.dr,f9 n3.tk,n3.gn⟩⟩
  induction f2 with
  |ret y2=> obtain⟨b2,ρ2,e',JY,aeC,G2,n2⟩:=P2;subst e';obtain⟨rfl,rfl⟩:=Om h3;subst aeC;have n3:=n'.trans n2;exact⟨rfl,.ref i,ρ2,rfl,uM.trans JY,⟨a,pT JY ha,rfl⟩,G2.Nr,⟨n3.os,n3.dr,f9 n3.tk,n3.gn⟩⟩
  |_=>exact P2
 |_=>exact P
open Builtin.Str in
theorem FW{x y z:Str}{t u v:Tok}{Q:Value->Shared->Prop}{E:Value->Shared->Prop}(hu:u≠0)(hv:v≠0)(huv:u≠v)(hyz:(y==z)=false)(hb:x.length+(x.length+1)*z.length<=16777216)
 (kk:∀w n,VC ρ (.str<|Txt.replace x y z) w->Q w {s with toks:=s.toks+n}):wpAny (model PG C.w) C.A (call (.builtin "str.replace") [.str x t,.str y u,.str z v]) Q E s:=by
 have hl:tooLong (x.length+(occurrences x y 0 x.length<|x.length+1).length*z.length)=false:=by have h2:(occurrences x y 0 x.length<|x.length+1).length*z.length<=(x.length+1)*z.length:=lQ _<|lA x y 0 x.length<|x.length+1;delta tooLong sizeLine;exact cQ<|by omega
 refine call_gives jT (fT _ _ _) F.entry_str_replace (F.args_str_replace_3 _ _ _)
  (gives_str_replace x y z t u v λU=>⟨by simp[hu,hv],by simp[huv],hyz,hl⟩) ?_
 unfold Txt.replace at kk;rcases hc:((occurrences x y 0 x.length<|x.length+1).isEmpty||(y.length==0&&z.length==0))with _|_
 .rw[hc]at kk;exact⟨fits_replaced y hb,kk _ 1 ⟨_,rfl⟩⟩
 .rw[hc]at kk;have:=kk (.str x t) 0 ⟨t,rfl⟩;exact this
def uU:List V->Option (List Str)
 |[]=>some []
 |.str x::r=>(uU r).map (x:: ·)
 |_=>none
set_option tactic.hygienic true in
theorem Cv(h:oN (VC ρ) xs ys)(e:uU xs=some ts):∃l:List<|Str×Tok,ys=strValues l/\l.map (·.1)=ts:=by
 induction h generalizing ts with
 |nil=>obtain rfl:=aA e;exact⟨[],rfl,rfl⟩
 |@cons v y xs ys h t ih=>
  induction v<;>first|exact nn e|skip
  rename_i z;obtain⟨u,rfl⟩:=h;obtain⟨ts',e',rfl⟩:=a9.mp e;obtain⟨l,rfl,rfl⟩:=ih e';exact⟨(z,u)::l,rfl,rfl⟩
theorem Uv:∀l,((Txt.join sep<|l.map (·.1)).length<=sizeLine/\∀t' n,Q (.str (Txt.join sep<|l.map (·.1)) t') {s with toks:=s.toks+n})->(joinMade sep l).post Q s
 |[],h=>⟨h.1,h.2 _ 1⟩
 |[p],h=>h.2 p.2 0
 |_::_::_,h=>⟨h.1,h.2 _ 1⟩
theorem BX(hi:st.H[i]?=some (.list xs))(ht:uU xs=some ts)(xt:JoinOk x ts=true)(hv:VC ρ (.ref i) y):
 Sd C (call (.builtin "str.join") [.str x t,y]) VC ρ s st (some (.ok<|.str<|Txt.join x ts,st)):=by
 refine Sd.plain λG Q E kk=>?_;exists _;obtain⟨a,ws,n,rfl,q8⟩:=G.list hi hv;obtain⟨l,hl,rfl⟩:=Cv q8.2.2 ht;have e:ws=(strValues l).toArray:=by rw[<-hl]
 subst e;unfold JoinOk at xt;simp only[dA]at xt;exact k9<|iC kX (fT _ _ _) F.entry_str_join (F.args_str_join_2 _ _) (meets_str_join_list x t a l xt) ⟨⟨_,q8.2.1,rfl,n,rfl⟩,Uv l ⟨joinFit_length xt,λt' m=>kk _ m ⟨t',rfl⟩⟩⟩
def two{α:Type}:List α->Option (α×α)
 |[]=>none
 |a::r=>(Lu r).map λb=>(a,b)
theorem qo{α:Type}{l:List α}{q}(h:two l=some q):l=[q.1,q.2]:=by
 rcases l with _|⟨a,r⟩
 .rcases h with _|_
 .obtain⟨b,hb,rfl⟩:=a9.mp h;exact(tD hb)▸rfl
def ju(Q:oY)(sc:Scope)(e:Expr)(st:St):oM V:=(Dt e).bind λc=>(y9 c.1).bind λq=>(two c.2.1).bind λab=>(ac ab.1).bind λa=>(ac ab.2).bind λb=>if c.2.2.1.isEmpty&&(w8 q.1&&((q.2.1== "replace")&&(q.2.2.endLine==c.2.2.2.line)))then
 (pW Q sc q.1 st).then λv st=>pX st (vS (λz H=>gv ((a.1==b.1)=false/\z.length+(z.length+1)*b.1.length<=16777216) (.str<|Txt.replace z a.1 b.1) H) v st.H)else none
theorem bw(h:Q ⟨[.str a s.toks,.str b<|s.toks+1],[]⟩ {s with toks:=s.toks+1+1}):
 wpAny (model PG w) A (evalArgs f true (backTo p<|starEach [.Constant (.str a) k1 p1,.Constant (.str b) k2 p2] env) []) Q E s:=λΓ q U=>h
theorem D8{id:String}(xO:args.any (·.1)=false)
 (h:wpAny (model PG w) A (evalArgs (.builtin id) true args []) (λa oK=>wpAny (model PG w) A (call (.builtin id) (first++a.pos) a.kw) Q E oK) E s):wpAny (model PG w) A (callWith pos (.builtin id) first args []) Q E s:=by refine aD<|cL<|bL h (λa oK vN=>aD<|dK ?_) λU U x=>x;rw[xO,List.any_nil,Bool.or_false];exact aD<|aM<|aD<|bL vN (λr pS hr=>aD<|cL<|wpAny_point<|aM hr) λU U x=>x
theorem Zp(o)(ap p)(env)(ov)(a b)(k1 k2)(p1 p2)(hl:(ap.endLine==p.line)=true):
 methodCall o "replace" ap p env ov 2 (backTo p<|starEach [.Constant (.str a) k1 p1,.Constant (.str b) k2 p2] env) (backToKw p<|keywordEach [] env)=
  (holding [ov] (getMethod ov "replace"<|do return (<-importBound o env).getD true)>>=λf=>callWith p f.1 f.2 (backTo p<|starEach [.Constant (.str a) k1 p1,.Constant (.str b) k2 p2] env) []):=by
 dsimp only[methodCall,methodCallPos];rw[(by rfl:methodCallForm 2 (backTo p<|starEach [.Constant (.str a) k1 p1,.Constant (.str b) k2 p2] env) (backToKw p<|keywordEach [] env)=true),hl];rfl
theorem FC(hl:(ap.endLine==p.line)=true)(A9:s.toks≠0)(Jb:(a==b)=false)(hz:z.length+(z.length+1)*b.length<=16777216)
 (kk:∀y n,VC [] (.str<|Txt.replace z a b) y->Q y {s with toks:=s.toks+1+1+n}):
  wpAny (model PG w) A (methodCall o "replace" ap p env (.str z t) 2 (backTo p<|starEach [.Constant (.str a) k1 p1,.Constant (.str b) k2 p2] env)<|backToKw p<|keywordEach [] env) Q E s:=by
  rw[Zp _ _ _ _ _ _ _ _ _ _ _ hl];exact aD<|cL<|iN (fT s z t) kC jT mD (λa e=>by injection e)<|D8 rfl<|bw<|FW (C:=⟨w,A,env,{},[]⟩) A9 (m4 _) (bI<|dX _) Jb hz kk
theorem Wa(B:oF k C)(O:o4 C Q)(e):Sd C (eval e C.env) VC ρ s st<|ju Q C.env.scope e st:=by
 refine Sd.qD λc h0=>yK h0▸?_;clear h0;obtain⟨f,as,ks,p⟩:=c;dsimp only;refine Sd.qD λq h1=>Sd.qD λab h2=>Sd.qD λa h3=>Sd.qD λb h4=>Sd.iff λhc=>?_;obtain rfl:=vV h1;obtain rfl:=qo h2;rw[wN h3,wN h4];obtain⟨o,x,ap⟩:=q;simp only[aQ,a5,cI]at hc;obtain⟨rfl,ho,rfl,hl⟩:=hc;show Sd C (do
  let ov<-attributeBase o "replace" C.env (eval o C.env)
  standAt ap.atName
  methodCall o "replace" ap p C.env ov 2 (backTo p<|starEach [.Constant (.str a.1) a.2.1 a.2.2,.Constant (.str b.1) b.2.1 b.2.2] C.env) (backToKw p<|keywordEach [] C.env)) _ _ _ _ _
 rw[qA ho];refine Sd.bind (pG O o _ ρ s) λpH oK pU v ov tH hv=>Sd.standAt ?_;refine y4 (T:=λov=>methodCall o "replace" ap p C.env ov 2 (backTo p<|starEach [.Constant (.str a.1) a.2.1 a.2.2,.Constant (.str b.1) b.2.1 b.2.2] C.env)<|backToKw p<|keywordEach [] C.env) hv λz t=>Qo λhz=>Sd.plain λG Q' E kk=>?_;refine FC (hl▸(bM _)) G.tk hz.1 hz.2 λy n hy=>?_;have:=kk y (2+n) hy;rw[show oK.toks+(2+n)=oK.toks+1+1+n from(cM (by simp+arith only)<|by simp+arith only)]at this;exact this
theorem Wh(P):(qE P).lookup 92=some (excClassObj "CycleError" "CycleError" 92 91 [.type "ValueError"] [.type "ValueError",.type "Exception",.type "BaseException",.type "object"] true [] [] false none none (some<|.ref 83) none (some<|.str "CycleError" 400) (some<|.str "CycleError" 408) (some<|.bool true) "ValueError.__new__"):=by rfl'
theorem PI(P):(nsOkIn (qE P) 91&&nsIn (qE P) 91 "__init__" ==some none)=true:=by rfl'
def sr(Q:oY)(sc:Scope)(e:Expr)(st:St):oM Unit:=((rY e).bind λx=>if x.1= "StopIteration" /\sc.names.lookup x.1=some .globalImplicit then some (.exc<|.ty "StopIteration",st)else none).or
 ((Dt e).bind λc=>(rY c.1).bind λx=>if sc.names.lookup x.1=some .globalImplicit/\sI c.2.1 c.2.2.1=true/\c.2.2.1=[]then
  (if x.1= "CycleError" then(y6 (pW Q sc) c.2.1 st).then λvs st=>if vs.length<big then some (.exc<|.top 92,st)else none
  else if x.1= "ValueError" then(Lu c.2.1).bind λa=>(ac a).bind λU=>some (.exc<|.ty "ValueError",st)else none)else none)
def adY:List<|V×Str:=[(.ty "ValueError","ValueError"),(.ty "StopIteration","StopIteration"),(.top 92,"CycleError")]
def BV(c:V)(T:Str):Bool:=adY.any λp=>p.1==c&&p.2==T
theorem oD.Nq(G:oD C ρ st s){h':Heap}{e D:Addr}{args:List Value}(m:Heap.MadeExcOf s.heap h' e (.ref D) args):oD C ρ st {s with heap:=h'}/\rN C ρ (.top D) (.ref e) {s with heap:=h'}:=by
 have G':oD C ρ st {s with heap:=h'}:=by have:=G.ext m.keeps 0;exact this
 exists t,(q8:m.there);refine⟨G',⟨e,_,_,.ref t,rfl,q8.1,rfl,rfl,rfl,λhm=>?_,?_,λq=>?_,.inl rfl⟩⟩
 .exists o,(ho:G.live hm);replace ho:=m.new▸ho;exact nn ho
 .rcases q:C.ajU.get? e with _|o
  .rfl
  .obtain⟨o',e',_⟩:=G.sim.keep.1 e o q;replace e':=m.new▸e';injection e'
 .exists o,xc,HE,(q_:G.rR);obtain⟨ho,_⟩:=q_;simp only[<-q,m.new]at ho;injection ho
theorem fe{st:St}{Q:oY}(B:oF k C)(L:pP C)(O:o4 C Q){as:List Expr}{np cp p:Pos}(hx:C.env.scope.names.lookup ("CycleError" :Str)=some .globalImplicit)(wz:sI as []=true):
 Sd C (exec (.Raise (some<|.Call (.Name "CycleError" np) as [] cp) none p) C.env) (λU(U:Unit)U=>False) ρ s st ((y6 (pW Q C.env.scope) as st).then λvs st=>if vs.length<big then some (.exc<|.top 92,st)else none):=by
 exists k,C,ρ,s,st,Q,as,np,cp,p,[B,L,O,hx,wz];refine Sd.qe ?_;intro G;exists r,oE;intro ef;exists Q',E;intro kQ kE;have o5:=vX wz cp C.env;have w:=yS (f:=.ref 92) wz (wK (λe ρ s st=>pG O e st ρ s) cp as) (λρ s st=>Sd.pure .nil) (ρ:=ρ) (s:=s) (st:=st);have WA:=PI C.w.params;simp only[aQ,a5]at WA;refine wpAny_Raise_call_sub PySem.F.excBase_ValueError (N:=91) (nm:= "CycleError") (q:= "CycleError") (bs:=[.type "ValueError"]) (hdct:=true) (sn:=[]) (sub:=[]) (ab:=false) (col:=none) (dd:=none) (k0:=some<|.ref 83) (k1:=none) (k2:=some<|.str "CycleError" 400) (k3:=some<|.str "CycleError" 408) (k5:=some<|.bool true) L.hh o5.1 (nsMap_none_of_in (B.K G) WA.1 WA.2)<|u3 B hx (rfl) (v:=.top 92) (by decide+kernel) G λy hy=>⟨hy,?_⟩;obtain⟨c,h1,rfl⟩|⟨vs,sK,h1,ef⟩:=qJ ef
 .exact w.ex G (by rw[h1];rfl) λx pS oO p X g n=>kE _ _ ⟨c,oO,rfl,p,X,g,n⟩
 exists vs,sK,[h1,ef];by_cases hz:vs.length<big;rotate_left
 .rcases(aL hz).symm.trans ef with _|_
 rcases(aH hz).symm.trans ef with _|_;refine w.ok G (by rw[h1];rfl) ?_;exists a,pS,oO;intro hp hr G' n;refine⟨by have h2:=hr.2;revert h2;generalize a.kw=kw;intro h2;cases h2;rfl,bC (bS<|hr.1.length▸hz) rG,(B.K G') _ _<|Wh _,?_,λh' ea mm=>?_⟩
 .obtain⟨o,ho⟩:∃o,(KF C.w).lookup 91=some o:=by
   rcases q:(KF C.w).lookup 91 with _|o
   .have:=WA.1;unfold nsOkIn at this;replace this:=q▸this;injection this
   .exact⟨o,rfl⟩
  obtain⟨o',es,ep,q9⟩:s.heap.Ns 91 λy=>s.heap.nsMap 91 y:=.of_isNs<|isNs_of_in (B.K G) WA.1;cases((B.K G) _ _ ho).symm.trans q9.1;exact⟨_,es,ep,(B.K G') _ _ ho,q9.2⟩
 .have q8:=G'.Nq mm;exact kE _ _ ⟨_,oO,rfl,hp,q8.2,q8.1,⟨n.os,n.dr,n.tk,n.gn⟩⟩
theorem km(B:oF k C)(L:pP C)(O:o4 C Q)(e)(p):Sd C (exec (.Raise (some e) none p) C.env) (λU U U=>False) ρ s st<|sr Q C.env.scope e st:=by
 exists k,C,ρ,st,s,Q,e,p,[B,L,O];refine Sd.orR (Sd.qD λx h1=>Sd.iff λhx=>?_)<|Sd.qD λc h0=>Sd.qD λx h1=>Sd.iff λhx=>?_
 .obtain rfl:=qZ h1;obtain⟨x,np⟩:=x;obtain⟨rfl,hx⟩:=hx;exact Ta B L hx
 .exists c,x,[h0,h1,hx];obtain⟨f,as,ks,cp⟩:=c;exists f,as,ks,cp,[h0,h1,hx];obtain rfl:=yK h0;dsimp only at hx⊢;obtain rfl:=qZ h1;obtain⟨x,np⟩:=x;exists x,np,[hx,h1,h0];obtain⟨hx,wz,rfl⟩:=hx;by_cases h2:x= "CycleError"
  .subst h2;exact(aH rfl)▸(fe B L O hx wz)
  .rw[aL h2];refine Sd.iff λh3=>Sd.qD λa h4=>Sd.qD ?_;exists m;intro h5;obtain rfl:=tD h4;refine(wN h5)▸?_;subst h3;exact O5 B L hx
theorem pj(B:oF k C)(G:oD C ρ st s)(x:rN C ρ c e s)(hc:BV c T=true)(hx:C.env.scope.names.lookup T=some .globalImplicit)(E):
 wpAny (model PG C.w) (C.A.mark<|some e) (eval (.Name T p) C.env) (λcv oK=>oK=s/\wpAny (model PG C.w) (C.A.mark<|some e) (excMatches e cv) (λb pS=>b=true/\pS=s) E s) E s:=by
 exists k,C,ρ,s,st,c,T,e,p,E,[B,G,x,hc,hx];exists q,(q_:iW.mp hc);obtain⟨hq,hc⟩:=q_;simp only[aQ,a5]at hc;obtain⟨rfl,rfl⟩:=hc;rcases aK.mp hq with rfl|hq
 .exact Hu B Dr (by decide+kernel) (rfl) G x hx E
 rcases aK.mp hq with rfl|hq
 .exact Hu B zX (by decide+kernel) (rfl) G x hx E
 obtain rfl:=aE.mp hq;refine u3 B hx (rfl) (v:=.top 92) (by decide+kernel) G λy hy=>⟨rfl,?_⟩;subst hy;obtain⟨a,o,vs,a0,rfl,ho,cs,h0,Ii,x7⟩:=x.ex;exact wpAny_excMatches_sub_self ((B.K G) _ _<|Wh _) ho Ii rfl ⟨rfl,rfl⟩
theorem Tf(P):(findIn (qE P) (.ref 866) "punctuation_chars" ==some (some<|.ref 798)&&specialIn (qE P) (.ref 798) "__get__" ==some (some<|.builtin "property.__get__")&&takesIn (qE P) (.ref 798)==some true&&
 plainGet (qE P) 866 "punctuation_chars" &&(clsIn (qE P) 866).isSome&&((recIn (qE P) 798 "property").bind List.head?)==some (.ref 797))=true:=by rfl'
def okO(o:pO):Option<|V×Hp:=o.bind λq=>match q.1 with
 |.ok v=>some (v,q.2)
 |.exc _=>none
theorem qm{q}(h:okO o=some q):o=some (.ok q.1,q.2):=by
 obtain⟨⟨u,H⟩,h1,h⟩:=aB.mp h;induction u with
 |ok v=>obtain rfl:=aA h;exact h1
 |exc _=>exact nn h
def th(S:Bool->oY)(fu:Nat)(v:V)(x:Str):Hp->pO:=vR (λi H=>(iE H i).bind λq=>if x= "punctuation_chars" /\q.1=866 then(okO<|oG S fu 797 [.ref i] [] H).bind λr=>if B9 r.1=true then some (.ok r.1,r.2)else none else none) v
theorem oF.Rf(B:oF (k+1) C):oF k C.in1:=⟨B.top,B.hi,B.live,by have:=B.dp;exact bS ‹_›,by have:=B.un;show C.A.units+1+20*k<9000;lia,B.fn,B.gl⟩
theorem pP.in1(L:pP C):pP C.in1:=⟨L.hh,L.mg,L.cd,L.lo,L.fr⟩
theorem uv{S:Bool->oY}{ρ:List Addr}{s:Shared}{st:St}(B:oF (k+2) C)(L:pP C)(OK:qF k S){v:V}{x:Str}{ov:Value}(hv:VC ρ v ov):Sd C (getAttr ov x true) VC ρ s st<|pX st<|th S fu v x st.H:=by
 exists k,fu,C,S,ρ,s,st,v,x,ov,[B,L,OK,hv];refine gR (T:=(getAttr · x true)) rfl hv λi a ha hr=>gB rfl λq hq=>As rfl λhx=>gB rfl λq' hc=>As rfl λhb=>?_;exists i,a,q,q',[ha,hr,hq,hx,hc,hb];obtain⟨D,d,xs,es⟩:=q;exists D,d,xs,es,_;obtain⟨v',H'⟩:=q';exists v',H',_;obtain⟨rfl,hx⟩:=hx;obtain rfl:D=866:=hx;obtain⟨hi,wH⟩:=Cm hq;replace hc:=qm hc;refine Sd.of ?_;intro G;exists Q,E;intro kk;exists x7,dx,ws,ds,n,(q_:G.inst hi wH hr);obtain⟨e,q8⟩:=q_;injection e with e;subst e;have hf:=Tf C.w.params;simp only[aQ,a5]at hf;obtain⟨⟨⟨⟨⟨f1,f2⟩,f3⟩,f4⟩,f5⟩,f6⟩:=hf;rcases Vc:recIn (qE C.w.params) 798 "property" with _|l
 .replace f6:=Vc▸f6;exact nn f6
 .exists _;have f6:=Vc▸f6;rcases l with _|⟨g,rest⟩
  .exact nn f6
  .have e:=aA f6;subst e;have G1:=G.tok 1;refine k9<|get_bind (B.K G) q8.2.2.2.2.2.2 (lP f4).1 (findObj_data f5 f1 f2 f3) (lP f4).2<|eJ<|prop_get (B.K G1) Vc ?_;refine dP (s7 B.Rf L.in1 OK (vs:=[.ref i]) (.cons ⟨a,q8.1,rfl⟩ .nil) .nil G1.in1 (.ok v') ⟨H',st.loc⟩ (by refine a6 (aV _ hc) ?_;rfl)) ?_;exists r',s';intro P;rcases r' with z|f
   .obtain⟨Rt,xc,e',HE⟩:=P;injection e'
   .induction f with
    |ret y=> obtain⟨b,oO,e',uM,N0,G',n'⟩:=P;obtain rfl:=r8.ok.inj e';exact nZ (xH hb N0)<|kk _ _ oO uM N0 G'.Je ⟨n'.os,n'.dr,f9 n'.tk,n'.gn⟩
    |_=>exact P
theorem Ol(P):findIn (qE P) (.ref 866) "__next__" =some (some<|.ref 863):=by rfl'
theorem Z3(P):typeIn (qE P) (.ref 863)=some (.type "function"):=by rfl'
theorem jx(P):findIn (qE P) (.ref 866) "__iter__" =some (some<|.ref 856):=by rfl'
theorem Y2(P):findIn (qE P) (.ref 866) "__len__" =some none:=by rfl'
theorem Tm(P):findIn (qE P) (.ref 866) "__length_hint__" =some none:=by rfl'
theorem I6:isSubtype (.type "ValueError") (.type "StopIteration")=pure false:=by rw[dH];rfl'
theorem oq(X:(KF w).In s.heap)(ho:s.heap.get? a=some ⟨.ref 866,some d,.plain,sl⟩)
 (h:codeAny (model PG w) A (.call (.ref 863) ⟨[.ref a],[]⟩) (λr s'=>match r with
  |.ok (.ret v)=>Q (some v) s'
  |.ok _=>False
  |.error e=>(s'.TypeIs e "StopIteration" /\Q none s')\/(s'.TypeIs e "ValueError" /\E e s')) s):wpAny (model PG w) A (pyNext<|.ref a) Q E s:=by
  refine aD<|wpAny_attempt ?_;refine aD<|aD<|((lN ho).andThen .now:Looks (model PG w) s.heap (typeOf<|.ref a)<|.ref 866).here<|(jL X<|Ol w.params).here ?_;refine cL<|aD<|(bind_fn X (.ref a)<|Z3 _).here ?_;refine aD<|bL (eJ (E:=λe s'=>(s'.TypeIs e "StopIteration" /\Q none s')\/(s'.TypeIs e "ValueError" /\E e s'))<|dP h λr s' P=>?_) (λv s' q=>aM<|aM q) λe s' P=>?_
  .rcases r with e|(v|_|_|_)<;>exact P
  .rcases P with⟨hT,q⟩|⟨hT,q⟩
   .exact aD (iQ hT isSubtype_stop<|aM q)
   .exact aD (iQ hT I6<|wpAny_throw q)
theorem Zt(P):isFn (qE P) (.ref 856)=true:=by rfl'
def Fu(H:Hp)(i:Nat):Bool:=match H[i]? with
 |some o=>(match o with
  |.inst A d _=>A==866&&(dE H d).isSome
  |_=>false)
 |none=>false
def jt(o:pO)(item:V->Hp->pO)(stop:Hp->pO):pO:=o.bind λp=>match p.1 with
 |.ok v=>item v p.2
 |.exc c=>if c=.ty "StopIteration" then stop p.2 else if c=.ty "ValueError" then some (.exc c,p.2)else none
def sB(S:Bool->oY)(fu:Nat)(i n:Nat):Nat->Hp->pO
 |0,_=>none
 |m+1,H=>if Fu H i then jt (oG S fu 863 [.ref i] [] H) (λv H'=>(Du n v H').bind<|sB S fu i n m) (λH'=>some (.ok<|.ref n,H'))else none
def okV(o:pO):Option<|V×Hp:=o.bind λp=>match p.1 with
 |.ok v=>some (v,p.2)
 |.exc _=>none
theorem nz(h:okV o=some p):o=some (.ok p.1,p.2):=by
 obtain⟨⟨q,H⟩,h1,h2⟩:=aB.mp h;induction q<;>first|exact nn h2|(obtain rfl:=aA h2)
 exact h1
def IK(S:Bool->oY)(fu:Nat)(i:Nat)(H:Hp):pO:=if Fu (H++[.list []]) i then(okV<|oG S fu 856 [.ref i] []<|H++[.list []]).bind λp=>
 if p.1=.ref i/\Fu p.2 i=true/\lE p.2 H.length=some []then sB S fu i H.length fu p.2 else none else none
def Cx.in2(C:Cx):Cx:=C.in1.in1
inductive YR(o:pO)(item:V->Hp->pO)(stop:Hp->pO)(r:r8 V)(H':Hp):Prop
 |item (v:V) (H:Hp) (h:o=some (.ok v,H)) (e:item v H=some (r,H'))
 |stop (H:Hp) (h:o=some (.exc<|.ty "StopIteration",H)) (e:stop H=some (r,H'))
 |exc (h:o=some (.exc<|.ty "ValueError",H')) (e:r=.exc (.ty "ValueError"))
theorem Tb(h:jt o item stop=some (r,H')):YR o item stop r H':=by
 exists o,item,stop,r,H',_;obtain⟨⟨q,H⟩,h1,h2⟩:=aB.mp h;exists q,H,_;rcases q with v|c
 .exact .item v H h1 h2
 .by_cases e1:c=.ty "StopIteration"
  .subst e1;exact .stop H h1 h2
  .replace h2:=(aL e1).symm.trans h2;obtain⟨e2,h2⟩:=Iu h2;subst e2;obtain⟨rfl,rfl⟩:=bQ<|aA h2;exact .exc h1 rfl
set_option tactic.hygienic true in
theorem oD.lex{st:St}(G:oD C ρ st s){i:Nat}{a:Addr}(h:Fu st.H i=true)(hi:ρ[i]?=some a):∃dx sl ds n,s.heap.get? a=some ⟨.ref 866,some dx,.plain,sl⟩/\InstAt s.heap a ⟨.ref 866,some dx,.plain,sl⟩ 866 (some<|dictOf ds n):=by
 exists C,ρ,s,st,i,a,[G,h,hi];unfold Fu at h;rcases hx:st.H[i]? with _|o
 .have h:=hx▸h;injection h
 .replace h:=hx▸h;induction o<;>first|(injection h;done)|skip
  rename_i A d xs;rw[aQ,a5]at h;obtain⟨rfl,h⟩:=h;obtain⟨es,h⟩:=fH.mp h;obtain⟨a',dx,vs,ds,n,e,q8⟩:=G.inst hx (tQ h) ⟨_,hi,rfl⟩;obtain rfl:=fY e;exact⟨dx,_,ds,n,q8.2.2.2.2.2.2.at_,q8.2.2.2.2.2.2⟩
theorem rN.typeIs(x:rN C ρ (.ty X) e s):s.TypeIs e X:=by obtain⟨a,o,vs,a0,rfl,ho,x7,Rt,hc,xc⟩:=x.ex;exact⟨o,ho,hc⟩
def Wd(C:Cx)(ρ:List Addr)(s:Shared)(n:Nat)(r:r8 V)(oE:St)(q:Result)(s':Shared):Prop:=match q with
 |.ok (.ret v)=>v=.none/\∃oO,r=.ok (.ref n)/\ρ<+:oO/\oD C oO oE s'/\pZ C.F s s'
 |.ok _=>False
 |.error x=>PE C ρ s r oE x s'
theorem K2(G:oD C ρ st s)(hn:ρ[n]?=some l)(ho:s.heap.get? l=some ⟨.type "list",none,.seq ws c,#[]⟩)(h:oN (VC ρ) zs (f ws).toList)(h1:ws.size<=sizeLine)(h2:(f ws).size<=sizeLine+1)
 (k:oD C ρ ⟨st.H.set n<|.list zs,st.loc⟩ {s with heap:=s.heap.update l (Obj.mapSeq f)}->Q () {s with heap:=s.heap.update l (Obj.mapSeq f)}):wpAny (model PG w) A (updateSeq l f) Q E s:=
  jD ho rfl (k<|Bu G hn ho h) h1 h2
theorem AC{S:Bool->oY}(B:oF (k+3) C)(L:pP C)(OK:qF k S){i n:Nat}{a l:Addr}(m):∀ρ s st r H',ρ[i]?=some a->ρ[n]?=some l->oD C ρ st s->sB S fu i n m st.H=some (r,H')->
 codeAny (model PG C.w) C.A.in1 (.builtin "list.extend.loop" ⟨[.ref l,.ref a,.none],[]⟩) (Wd C ρ s n r ⟨H',st.loc⟩) s:=by
 exists k,fu,C,S,i,n,a,l,m,[B,L,OK];induction m with
 |zero=>exists ρ,s,st,r,H';intro hi hn G e;exact nn e
 |succ m ih=>
  exists m,[ih];exists ρ,s,st,r,H';intro hi hn G e;obtain⟨hx,e⟩:=Iu e;have e:=Tb e;exists dx,sl,ds,nn,(o5:G.lex hx hi);refine eP F.entry_extend_loop ?_;rw[eB jG _];have key:=s7 (fu:=fu) (s:=s) (st:=st) (oF.Rf<|oF.Rf B) (pP.in1<|pP.in1 L) OK (a:=863) (vs:=[.ref i]) (.cons ⟨a,hi,rfl⟩ .nil) .nil;refine aD<|oq (B.K G) o5.1 ?_;obtain⟨v,H1,h1,e⟩|⟨H1,h1,e⟩|⟨h1,rfl⟩:=e
  .exists v,H1,[h1,e];refine key.ok G.in1.in1 (by rw[h1];rfl) ?_;exists y,s',oO;intro uM N0 G' n';exists H2,(q_:aB.mp e);obtain⟨h2,e⟩:=q_;exists ys,(q9:aB.mp h2);obtain⟨hz,e_⟩:=Iu q9.2;obtain rfl:=aA e_;have Ex:=pT uM hn;have G1:=G'.Je.Je;exists ol,(q_:G1.sim.obj n l _ Ex<|q0 q9.1);obtain⟨Ve,ws,nn2,rfl,A6⟩:=q_;have KJ:=bC (bS<|tN A6▸hz) rG;refine aD<|K2 G1 Ex Ve (by rw[mS];exact A6.append<|.cons N0 .nil) KJ (by rw[kZ];exact gQ KJ) λG2=>aM ⟨gW jG _,?_⟩;refine dP (ih oO _ _ r H' (pT uM hi) Ex G2 e) ?_;exists q,s3;intro P3;have n2:pZ C.F s {s' with heap:=s'.heap.update l (Obj.mapSeq (·.push y))}:=pZ.trans ⟨n'.os,n'.dr,n'.tk,n'.gn⟩<|pZ.oV ..;rcases q with x|(z|_|_|_)<;>first|exact P3|skip
   .obtain⟨b,WB,e,p,q,g,m⟩:=P3;exact⟨b,WB,e,uM.trans p,q,g,n2.trans m⟩
   .obtain⟨rfl,WB,q8⟩:=P3;exact⟨rfl,WB,q8.1,uM.trans q8.2.1,q8.2.2.1,n2.trans q8.2.2.2⟩
  .cases aA e;exact key.ex G.in1.in1 (by rw[h1];rfl) λx s' oO uM X' G' n'=>.inl ⟨X'.typeIs,aM ⟨rfl,oO,rfl,uM,G'.Je.Je,⟨n'.os,n'.dr,n'.tk,n'.gn⟩⟩⟩
  .exact key.ex G.in1.in1 (by rw[h1];rfl) λx s' oO uM X' G' n'=>.inr ⟨X'.typeIs,_,oO,rfl,uM,⟨X'.ex⟩,G'.Je.Je,⟨n'.os,n'.dr,n'.tk,n'.gn⟩⟩
theorem oD.frX(B:oF k C)(G:oD C ρ st s):∃m,s.heap.Ns C.env.locals m/\(KF C.w).lookup C.env.locals=none:=by
 obtain⟨m,q8⟩:=G.fr.ns;refine⟨m,q8.1,?_⟩;rcases q:(KF C.w).lookup C.env.locals with _|o
 .rfl
 .have:=B.top.K _ _ q;replace this:=G.fr.none▸this;rcases this with _|_
theorem ui{S:Bool->oY}{ρ:List Addr}{s:Shared}{st:St}(B:oF (k+3) C)(L:pP C)(OK:qF k S)(G:oD C ρ st s){i n:Nat}{a l:Addr}(hi:ρ[i]?=some a)(hn:ρ[n]?=some l)(hx:Fu st.H i=true)(hl:lE st.H n=some []){r:r8 V}{H':Hp}(e:sB S fu i n fu st.H=some (r,H')){R:Fin->Shared->Prop}{E:Value->Shared->Prop}{X:Bool}
 (kk:∀s',pZ C.F s s'->codeAny (model PG C.w) C.A.in1 (.builtin "list.extend.loop" ⟨[.ref l,.ref a,.none],[]⟩) (Wd C ρ s' n r ⟨H',st.loc⟩) s'->R (.again<|.builtin "list.extend.loop" ⟨[.ref l,.ref a,.none],[]⟩) s'):
 wpAny (model PG C.w) C.in2.A (Builtin.List.listLengthHint<|.ref a) (λb s'=>wpAny (model PG C.w) C.in2.A (if(b||X)=true then(rule "list.extend.makes-room" >>=λU=>Builtin.List.listTouch (.ref l)>>=λU=>again<|.builtin "list.extend.loop" ⟨[.ref l,.ref a,.none],[]⟩)else again<|.builtin "list.extend.loop" ⟨[.ref l,.ref a,.none],[]⟩) R E s') E s:=by
 exists k,fu,C,S,ρ,s,st,i,n,a,l,r,H',R,E,X,[B,L,OK,G,hi,hn,hx,hl,e,kk];exists dx,sl,ds,nn,(q9:G.lex hx hi);have t2:Looks (model PG C.w) s.heap (typeOf<|.ref a)<|.ref 866:=(lN q9.1).andThen .now;refine aD<|aD<|t2.here<|(jL (B.K G)<|Y2 C.w.params).here ?_;refine aD<|aD<|t2.here<|(jL (B.K G)<|Tm C.w.params).here ?_;refine aM ?_;refine aD<|iR<|aD ?_;obtain⟨ol,Ve,ws,nn2,rfl,A6⟩:=G.sim.obj _ _ _ hn<|q0 hl;obtain rfl:ws= #[]:=fO (tN A6).symm;refine aD<|K2 G (zs:=[.none]) hn Ve (.cons rfl .nil) (cV _) (gQ<|cV _) λG3=>?_;refine K2 G3 hn (cT (Obj.mapSeq (·.push Value.none)) Ve rfl) .nil (c6 _) (cV _) λG4=>aM ?_;have e4:(st.H.set n<|.list [.none]).set n (.list [])=st.H:=by rw[jM];simp[<-(aU.mp<|q0 hl).2]
 simp only[e4]at G4;exact kk _ ((pZ.oV ..).trans<|pZ.oV ..)<|AC B L OK fu ρ _ st r H' hi hn G4 e
theorem jg{S:Bool->oY}{ρ:List Addr}{s:Shared}{st:St}(B:oF (k+3) C)(L:pP C)(OK:qF k S){i:Nat}{x:Value}(hv:VC ρ (.ref i) x):Sd C (call (.type "list") [x]) VC ρ s st<|pX st<|IK S fu i st.H:=by
 exists k,fu,C,S,ρ,s,st,i,x,[B,L,OK,hv];refine Sd.qe ?_;intro G;exists r,oE;intro e;exists Q,E;intro kQ kE;obtain⟨⟨r,H'⟩,e1,e0⟩:=a9.mp e;exists r,H',_;clear e;obtain⟨rfl,rfl⟩:=bQ e0;obtain⟨hx,e1⟩:=Iu e1;obtain⟨⟨v,H1⟩,hc,e⟩:=aB.mp e1;exists v,H1,_;by_cases hq:v=.ref i/\Fu H1 i=true/\lE H1 st.H.length=some [];rotate_left
 .injection(aL hq).symm.trans e
 replace e:=(aH hq).symm.trans e;obtain⟨rfl,Em⟩:=hq;replace hc:=nz hc;exists a,(q_:hv);obtain⟨hi,rfl⟩:=q_;have G1:=G.push (ao:=.list []) rfl ⟨#[],0,rfl,.nil⟩;have aeD:=q7 G;have hS:{s with heap:=s.heap.push {cls:=.type "list",data:=.seq #[]}}.heap.get? s.heap.objs.size=some {cls:=.type "list",data:=.seq #[]}:=bT _ rfl;have sJ:s.heap.objs.size≠a:=λh=>by exists o,(ho:G.sim.lt hi);rw[<-h]at ho;exact dJ _<|b9 ho
 have pre:ρ<+:ρ++[s.heap.objs.size]:=⟨_,rfl⟩;have hia:=pT pre hi;refine callType_codes (Q₁:=λobj oK=>obj=.ref s.heap.objs.size/\oK={s with heap:=s.heap.push {cls:=.type "list",data:=.seq #[]}}) F.called_list (F.typeCall_list_1 _) F.entry_list_init
  (code_list_new _ ⟨rfl,rfl⟩) ?_;exists obj,oK;intro vN
 obtain⟨rfl,rfl⟩:=vN;refine⟨⟨_,hS,rfl⟩,F.args_list_init_2 _ _,?_⟩;have hN0:pZ C.F s {s with heap:=s.heap.push {cls:=.type "list",data:=.seq #[]}}:=pZ.oV ..;generalize{s with heap:=s.heap.push {cls:=.type "list",data:=.seq #[]}}=s1 at*;generalize s.heap.objs.size=l at*;exists x7,(C4:aeD);obtain rfl:=fY C4.2;refine aD ?_;refine aD<|gG hS rfl<|aM ?_;refine aD<|K2 G1 C4.1 hS .nil (cV _) (cV _) λG2=>aD<|i7 ?_;have e2:(st.H++[AO.list []]).set st.H.length (.list [])=st.H++[.list []]:=by refine a6 (dO _ _<|aI _) ?_;rw[cD];rfl
 have G2:=e2▸G2;have hN:=hN0.trans<|pZ.oV s1<|s1.heap.update l<|Obj.mapSeq λU=> #[];generalize{s1 with heap:=s1.heap.update l (Obj.mapSeq λU=> #[])}=s2 at*;exists dx,sl,ds,nn,(vH:G2.lex hx hia);refine aD<|((lN vH.1).andThen .now:Looks (model PG C.w) s2.heap (typeOf<|.ref a)<|.ref 866).here ?_;rw[aL (by rw[show Builtin.List.listSameRef (.ref l) (.ref a)=false by simp[Builtin.List.listSameRef,sJ]];decide)];exists m,(qV:G2.frX B);refine aD<|owit_iter (vF qV.1) (zS (B.K G2) (λa o e=>bJ (uC e).1 G2.fr.lo) qV.2) vH.2 (jx C.w.params) (Zt C.w.params)<|eJ ?_;refine(s7 (fu:=fu) (oF.Rf<|oF.Rf B) (pP.in1<|pP.in1 L) OK (vs:=[.ref i]) (.cons ⟨a,hia,rfl⟩ .nil) .nil).ok G2.in1.in1 (by simp[hc];rfl) ?_;exists y,s',oO;intro uM N0 G'' n';have G':=G''.Je.Je;exists a2,(q_:N0);obtain⟨hj2,rfl⟩:=q_;have wx:=pT uM hia;cases hj2.symm.trans wx;have Ex:=pT uM C4.1;exists dx',sl',ds',nn',(o5:G'.lex Em.1 wx);exists m',(q9:G'.frX B);refine owit_it (vF q9.1) (zS (B.K G') (λa o e=>bJ (uC e).1 G'.fr.lo) q9.2) o5.2 (Ol C.w.params) ?_;refine aD<|cL ?_;refine ui B L OK G' wx Ex Em.1 Em.2 e λs3 n3 h3=>⟨gW jG _,dP h3 ?_⟩;exists s3,[n3,h3];exists q,s4;intro P3;have nn:=(hN.trans ⟨n'.os,n'.dr,n'.tk,n'.gn⟩).trans n3;have pp:=pre.trans uM;rcases q with x|(z|_|_|_)<;>first|exact P3.elim|skip
 .obtain⟨b,WB,e,p,q,g,m⟩:=P3;exact kE _ _ ⟨b,WB,e,pp.trans p,q,g,nn.trans m⟩
 .obtain⟨rfl,WB,q8⟩:=P3;exact⟨rfl,kQ _ _ ⟨_,WB,q8.1,pp.trans q8.2.1,⟨_,pT q8.2.1 Ex,rfl⟩,q8.2.2.1,nn.trans q8.2.2.2⟩⟩
theorem oD.adopt(G:oD C ρ st s){D:Addr}{o:Obj}{ao:AO}(hD:s.heap.get? D=some o)(h1:D∉ρ)(h2:D≠C.env.locals)(h3:C.ajU.get? D=none)(h4:2<=D)(h5:∀u,o.data≠.cell u)(c:OC C.w (ρ++[D]) ao o):
 oD C (ρ++[D]) {st with H:=st.H++[ao]} s:=by
 exists C,ρ,st,s,D,o,ao,[G,hD,h1,h2,h3,h4,h5,c];have pre:ρ<+:ρ++[D]:=⟨_,rfl⟩;refine⟨⟨by simp[G.sim.len],?_,λi a x e1 e2=>?_,λa ha=>?_,G.sim.keep⟩,G.fr.mono pre (λhm=>?_) λx a hx hm=>?_,G.tk⟩
 .rw[cH];refine⟨G.sim.nd,by simp,?_⟩;intro a ha b hb;rw[aE]at hb;replace hb:=hb.symm;subst hb;rintro rfl;exact h1 ha
 .by_cases hi:i<ρ.length
  .rw[bO hi]at e1;rw[bO<|G.sim.len▸hi]at e2;exists o',(q9:G.sim.obj i a x e1 e2);exact⟨o',q9.1,q9.2.mono pre⟩
  .have wx:i=ρ.length:=by have:=(aU.mp e1).1;simp at this;exact jK this hi
   subst wx;rw[aS<|aI _,cD]at e1;rw[aS<|G.sim.len▸aI _,G.sim.len,cD]at e2;obtain rfl:=aA e1;obtain rfl:=aA e2;exact⟨o,hD,c⟩
 .rcases aO.mp ha with h|h
  .exact G.sim.new a h
  .rw[aE]at h;obtain rfl:=h.symm;exact⟨h3,h4⟩
 .rcases aO.mp hm with h|h
  .exact G.fr.out h
  .rw[aE]at h;exact h2 h.symm
 .obtain⟨q1,_,u,q8⟩:=G.fr.cell x a hx;rcases aO.mp hm with h|h
  .exact q1 h
  .rw[aE]at h;replace h:=h.symm;subst h;obtain⟨o',uI,tI⟩:=q8.1;replace uI:=hD▸uI;obtain rfl:=aA uI;exact h5 _ tI
theorem FU(v):(Array.map (λx=>x.snd)<|arrOf<|SortSt.mk' general' ([v].toArray.zip [v].toArray) #[] 7 none)= #[v]:=by show Array.map (λx=>x.snd) ([v].toArray.zip [v].toArray)= #[v];simp
theorem um{s:Shared}{a:Addr}{v:Value}{n:Nat}{P:PySem.Fin->Shared->Prop}(ho:s.heap.get? a=some (seqObj "list" [v].toArray n))
 (h:P (.done<|.ret .none) {s with heap:=sortedHeap s.heap a [v] #[v]}):wpAny (model PG w) A (Builtin.«list.sort» ⟨[.ref a],[]⟩) P E s:=by
 exists w,A,E,s,a,v,n,P,_;rw[list_sort_plain];have ha:=b9 ho;refine aD<|listItems_at ho rfl ?_;refine aD<|listUpdate_at ho rfl ?_;obtain⟨e1,ho1⟩:∃e1,(s.heap.update a<|Obj.mapSeq λU=> #[]).get? a=some (seqObj "list" #[] e1):=⟨_,get?_update_seq ho λU=> #[]⟩;exists e1,_;refine aD<|seqEpoch_at ho1 rfl ?_;refine aD<|lK ?_;refine aD<|j7 ?_;refine cL ?_;have ho6:(((s.heap.update a<|Obj.mapSeq λU=> #[]).push<|seqObj "tuple" [v].toArray 0).push<|seqObj "list" #[] 0).get? a=some (seqObj "list" #[] e1):=by rw[mU _ _ _ (by rw[size_push',kF];exact bI<|gC ha),mU _ _ _ (by rw[kF];exact bI ha)];exact ho1
 dsimp only;have h2:[v].toArray.size<2:=dX 1;rw[aH h2,aH h2];refine aD<|aM ?_;rw[StateT.run_pure];refine aD<|aM ?_;dsimp only;refine aD<|seqEpoch_at ho6 rfl ?_;refine aD<|listUpdate_at ho6 rfl ?_ (hsz2:=by rw[Array.size_map];show(pairsOf [v]).size<=_;rw[pairsOf_size];exact cR 1 16777216);rw[bne_self_eq_false];rw[<-(FU v)]at h;exact aM h
theorem Uo{s:Shared}{l:Addr}{v:Value}{Q:Value->Shared->Prop}(hl:s.heap.IsList l [v].toArray)
 (h:Q (.ref<|s.heap.objs.size+1) {s with heap:=sortedAll s.heap [v] #[v]}):wpAny (model PG w) A (call (.builtin "sorted") [.ref l]) Q E s:=by
 exists w,A,E,s,l,v,Q,_;refine Calls.call_function_entry kind_sorted plain_sorted entry_sorted (args_sorted1 _) ?_;refine aD<|aM ?_;refine aD<|collect_list hl ?_;refine aD<|j7 ?_;have Nm:((s.heap.push<|seqObj "list" #[] 0).update s.heap.objs.size<|Obj.mapSeq (· ++[v].toArray)).objs.size=s.heap.objs.size+1:=by rw[kF,size_push']
 have hoL:(((s.heap.push<|seqObj "list" #[] 0).update s.heap.objs.size<|Obj.mapSeq (· ++[v].toArray)).push<|seqObj "list" [v].toArray 0).get? (s.heap.objs.size+1)=some (seqObj "list" [v].toArray 0):=by exact Nm▸(bT _ rfl)
 rw[Nm];refine aD<|cL<|gP slot_list_sort ⟨_,hoL,rfl⟩ entry_list_sort (um hoL ⟨_,rfl,?_⟩)<|args_list_sort _;exact aM ⟨_,rfl,h⟩
def Kg(H:Hp)(v:V)(q:(Int×Int)×Int):Prop:=∃j p n,v=.ref j/\H[j]?=some (.tuple [.ref p,.int q.2,.str n])/\H[p]?=some (.tuple [.int q.1.1,.int q.1.2])
def Er(H:Hp)(v:V):(Int×Int)×Int:=Classical.epsilon<|Kg H v
theorem Xn{q}(h:Kg H v q):Er H v=q:=by exists H,v,q,_;exists j,p,n,(q_:h);obtain⟨h1,h2,h3⟩:=q_;obtain⟨j',p',n',g1,g2,g3⟩:Kg H v<|Er H v:=dD ⟨q,j,p,n,h1,h2,h3⟩;obtain rfl:=V.ref.inj<|h1.symm.trans g1;have e:=b0<|tuI<|aA<|g2.symm.trans h2;have e2:=b0 e.2;obtain rfl:=V.ref.inj e.1;have e3:=b0<|tuI<|aA<|g3.symm.trans h3;exact fM (fM (V.int.inj e3.1)<|V.int.inj (b0 e3.2).1)<|V.int.inj e2.1
def yJ(ks:List<|(Int×Int)×Int)(xs:List V):List V:=if xs.length<2 then xs else(s9 (λi j=>t4 (ks.getD i default)<|ks.getD j default)<|kas_sort xs.length).toList.map λi=>xs.getD i .none
def xB(i:Nat)(H:Hp):Option<|r8 V×Hp:=(lE H i).bind λxs=>open Classical in if(1<=xs.length/\xs.length<64)/\(∀v∈xs,∃q,Kg H v q)/\(xs.map<|Er H).Nodup then some (.ok<|.ref H.length,H++[.list<|yJ (xs.map<|Er H) xs])else none
theorem adN{a b:Value}(h:vs.toList=[a,b]):vs= #[a,b]:=by induction vs;subst h;rfl
theorem ac9{a b c:Value}(h:vs.toList=[a,b,c]):vs= #[a,b,c]:=by induction vs;subst h;rfl
theorem oD.pair(G:oD C ρ st s){p:Nat}(h:st.H[p]?=some (.tuple [.int x,.int y]))(ha:ρ[p]?=some a):q6 s.heap a x y:=by obtain⟨o,ho,vs,n,rfl,hv⟩:=G.sim.obj p a _ ha h;obtain⟨b,b',hl,⟨t,rfl⟩,u,rfl⟩:=Vd hv;exact⟨t,u,n,adN hl▸ho⟩
theorem oD.aeG(G:oD C ρ st s)(h:Kg st.H v q)(hv:VC ρ v y):∃a,y=.ref a/\Ap s.heap a q:=by exists C,ρ,st,s,v,y,q,_;exists j,p,nm,(q_:h);obtain⟨rfl,q8,q9⟩:=q_;exists a,(q_:hv);obtain⟨ha,rfl⟩:=q_;obtain⟨o,ho,vs,n,rfl,hv⟩:=G.sim.obj j a _ ha q8;obtain⟨b,r,hl,⟨pa,hpa,rfl⟩,hv⟩:=wZ hv;obtain⟨b,b',rfl,⟨t,rfl⟩,u,rfl⟩:=Vd hv;exact⟨a,rfl,pa,t,nm,u,n,ac9 hl▸ho,G.pair q9 hpa⟩
def MG(h:Heap)(y:Value)(q:(Int×Int)×Int):Prop:=∃a,y=.ref a/\Ap h a q
theorem q6.kept(hs:∃m,h.Ns L m)(kp:∀b o,b≠L->h.get? b=some o->h'.get? b=some o)(q:q6 h a x y):q6 h' a x y:=by
 exists h,h',a,L,x,y,_;exists t,u,n,(ho:q);refine⟨t,u,n,kp _ _ ?_ ho⟩;rintro rfl
 obtain⟨m,o,es,ep,uI,hd,_⟩:=hs;rw[ho]at uI;obtain rfl:=aA uI;injection hd
theorem Ap.kept(hs:∃m,h.Ns L m)(kp:∀b o,b≠L->h.get? b=some o->h'.get? b=some o)(c:Ap h a q):Ap h' a q:=by
 exists h,h',a,L,q,_;exists p,t,nm,u,n,(q8:c);refine⟨p,t,nm,u,n,kp _ _ ?_ q8.1,q8.2.kept hs kp⟩;rintro rfl
 obtain⟨m,o,es,ep,uI,hd,_⟩:=hs;replace uI:=q8.1▸uI;obtain rfl:=aA uI;injection hd
theorem adF:∀{vs:List Value},(∀y∈vs,∃q,MG h y q)->∃fs,KatTups h vs fs/\fs.length=vs.length/\∀v∈fs,∃a x y,v=.ref a/\q6 h a x y:=by
 revert h;exists h;intro vs;induction vs with
 |nil=>exact λU=>⟨[],.nil,rfl,λU h=>absurd h<|bG⟩
 |cons v vs ih=> intro hq;obtain⟨fs,q9⟩:=ih λy hy=>hq y<|.tail _ hy;obtain⟨q,a,rfl,p,t,nm,u,n,q8⟩:=hq _<|.head _;exact⟨.ref p::fs,.cons q8.1 rfl rfl rfl q9.1,aV Nat.succ q9.2.1,d9.mpr ⟨⟨p,_,_,rfl,q8.2⟩,q9.2.2⟩⟩
theorem Us{α:Type}{l:List α}{d:α}(h:l.Nodup){i j:Nat}(hi:i<l.length)(hj:j<l.length)(sJ:i≠j):l.getD i d≠l.getD j d:=by
 simp[aP hi,aP hj];intro e;rcases l8 sJ with q|q
 .exact dC.mp h i j _ _ q e
 .exact dC.mp h j i _ _ q e.symm
theorem oN.abE(h:oN (VC ρ) xs ys)(l:List Nat):oN (VC ρ) (l.map λi=>xs.getD i .none)<|l.map λi=>ys.getD i Value.none:=by
 induction l with
 |nil=>exact .nil
 |cons i l ih=>
  refine .cons ?_ ih;simp[c9];rcases e:xs[i]? with _|v
  .have:ys[i]?=none:=by rw[bZ]at e⊢;exact h.length▸e
   exact this▸rfl
  .obtain⟨b,q8⟩:=h.get e;exact q8.1▸q8.2
set_option tactic.hygienic true in
theorem Z2(B:oF (k+2) C){i:Nat}{y:Value}(hv:VC ρ (.ref i) y):Sd C (call (.builtin "sorted") [y]) VC ρ s st<|pX st<|xB i st.H:=by
 exists k,C,ρ,st,s,i,y,[B,hv];unfold xB;cases hi:lE st.H i with
 |none=>exact Sd.nil
 |some xs=>
 exists xs,_;replace hi:=q0 hi;rw[bY];split;rotate_left
 .exact Sd.nil
 rename_i hc;have hu:C.A.in1.in1.units<cLine:=by have:=(oF.Rf<|oF.Rf B).un;have e:cLine=9900:=rfl;show C.in1.in1.A.units<cLine;exact lk<|aC (aN e.symm) this
 intro G;exists r,oE;intro e;injection e with q_;injection q_ with q_ p_;subst q_ p_;exists l,vs,n,(q_:G.list hi hv);obtain⟨rfl,hl,Ve,Ey⟩:=q_;have hL:∃m,s.heap.Ns C.env.locals m:=let⟨m,hn,_⟩:=G.fr.ns;⟨m,hn⟩;have T:∀{j v y},xs[j]?=some v->vs.toList[j]?=some y->MG s.heap y (Er st.H v):=λ{j v y}h1 h2=>by exists q,(hq:hc.2.1 v<|aR h1);exists y',(q_:Ey.get h1);obtain⟨h3,h4⟩:=q_;obtain rfl:=aA<|h2.symm.trans h3;rw[Xn hq];exact G.aeG hq h4
 have zb:xs.length=vs.toList.length:=Ey.length;have WC:s.heap.IsList l vs.toList.toArray:=⟨_,Ve,rfl,n,rfl⟩;have abF:=(G.sim.new l<|aR hl).2;have hlL:l≠C.env.locals:=G.A4<|aR hl;have fin:∀D out c h',(∀b o,b≠C.env.locals->s.heap.get? b=some o->h'.get? b=some o)->(∃m,s.heap.Ns C.env.locals m/\h'.Ns C.env.locals m)->s.heap.get? D=none->D≠C.env.locals->2<=D->h'.get? D=some ⟨.type "list",none,.seq out.toArray c,#[]⟩->oN (VC ρ) (yJ (xs.map<|Er st.H) xs) out->
  PQ C VC ρ s (.ok<|.ref st.H.length) ⟨st.H++[.list<|yJ (xs.map<|Er st.H) xs],st.loc⟩ (.ref D) {s with heap:=h'}:=λD out c h' kp ns hD hDL aeH hDo ho=>by
  exists m,(C4:ns);have G1:=G.change (ao:=.list xs) hl (λb ob h1 U e=>kp b ob h1 e) (kp _ _ hlL Ve) C4.1 C4.2 ⟨vs,n,rfl,Ey⟩<|aI _;have e1:st.H.set i (.list xs)=st.H:=by simp[<-(aU.mp hi).2]
  rw[e1]at G1;have hDr:D∉ρ:=λhm=>by exists o,(ho:G.live hm);replace ho:=hD▸ho;injection ho
  have hD0:C.ajU.get? D=none:=by
   rcases q:C.ajU.get? D with _|o
   .rfl
   .exists o',(q_:G.sim.keep.1 D o q);obtain⟨e',x7⟩:=q_;rw[hD]at e';injection e'
  refine⟨_,ρ++[D],rfl,⟨_,rfl⟩,⟨D,?_,rfl⟩,G1.adopt hDo hDr hDL hD0 aeH (λu e=>by injection e) ⟨out.toArray,c,rfl,oN.mono ⟨_,rfl⟩ ho⟩,pZ.oV ..⟩;rw[<-G.len,aS<|aI _,cD];rfl
 by_cases h2:xs.length<2
 .have hs:yJ (xs.map<|Er st.H) xs=xs:=by unfold yJ;rw[aH h2]
  obtain⟨v,hv1⟩:∃v,vs.toList=[v]:=List.length_eq_one_iff.mp (cM (lk<|aC h2<|aN zb.symm)<|lk<|aC (aN zb) hc.1.1);rw[hv1]at WC;refine Uo WC ?_;exists c,(hc:sortedAll_at s.heap [v] #[v]);refine fin _ [v] c _ (λb o U e=>sortedAll_old e) (hL.imp λm hn=>⟨hn,hn.keeps λb o e=>sortedAll_old e⟩) (cB<|dM _) ?_ ?_ hc (by simp[hs,<-hv1];exact Ey)
  .exists m,(hn:hL);exact cX<|gC hn.lt
  .exact bC abF (eE<|bS<|b9 Ve)
 .exists m,(qV:id G.fr.ns);have kp1:∀h' D o',Fr (under s.heap C.env.locals l) C.env.locals h' m->News (under s.heap C.env.locals l) C.env.locals h' ((D,o')::(l,⟨.type "list",none,.seq vs n,#[]⟩)::rest s.heap C.env.locals l)->∀b o,b≠C.env.locals->s.heap.get? b=some o->h'.get? b=some o:=λh' D o' F' N' b o hb eb=>by
   obtain⟨u1,u2⟩:=Ar F' λp hp=>N' p<|.tail _ hp;by_cases hbl:b=l
   .obtain rfl:=hbl.symm;replace eb:=Ve▸eb;obtain rfl:=aA eb;exact u2
   .exact u1 b o hb hbl eb
  refine kat_sorted (vF qV.1) (Av Ve hlL) WC (lk<|aC (dU h2)<|aN zb) (lk<|aC (aN zb.symm) hc.1.2) ?_;exists D,e1,h';intro F' N' hD;have T':∀a,a<vs.toList.length->MG h' (vs.toList.getD a .none) ((xs.map<|Er st.H).getD a default):=λa ha=>by have Qz:=zb▸ha;simp[aP ha,aP Qz];exists b,(q_:T (aP Qz)<|aP ha);obtain⟨e,c⟩:=q_;exact⟨b,e,c.kept hL<|kp1 h' D _ F' N'⟩
  obtain⟨fs,o5⟩:=adF λy hy=>by exists j,(hj:List.mem_iff_getElem?.mp hy);have:=T' j (aU.mp hj).1;rw[c9,hj]at this;exact⟨_,this⟩
  exists fs,_;refine kat_kind (T:=.type "tuple") o5.1 (lk<|aC (aN o5.2.1.symm)<|aC (aN zb) hc.1.1) (λv hv=>?_) rfl ?_
  .exists v,[hv];exists a,x,z,(q_:o5.2.2 v hv);obtain⟨rfl,hp⟩:=q_;exists t,u,nn,(ho:hp);exact(lN ho).andThen .now
  .refine Zl (o:=λi j=>t4 ((xs.map<|Er st.H).getD i default)<|(xs.map<|Er st.H).getD j default) (λa b Cc ha hb Jb hq=>?_) _ (Z6 (lk<|aC (dU h2)<|aN zb)) ?_
   .exists x,(q9:T' a ha);exists z,(q8:T' b hb);unfold kas_ask;exact q9.1▸q8.1▸(BH hu q9.2 q8.2 (Us hc.2.2 (by rw[aF];exact zb▸ha) (by rw[aF];exact zb▸hb) Jb) hq)
   .refine KasFin.intro F' N' (.head λp hp=>bI<|hD p hp) ?_;exists Yk,c;intro F'' N'';have nD:=N'' _<|.head _;have hDl:=hD _<|.head _;refine fin D _ c Yk (kp1 Yk D _ F'' N'') ⟨m,qV.1,F''.ns⟩ ?_ nD.2.1 (bC abF<|bS hDl) nD.1 ?_
    .rcases q:s.heap.get? D with _|o
     .rfl
     .by_cases hb:D<C.env.locals
      .have:(under s.heap C.env.locals l).get? D=some o:=dL _ (a6 (Fi hb) q) (by simp;exact cX hDl);replace this:=nD.2.2▸this;injection this
      .have WD:=gY (dU hb)<|dQ nD.2.1;exact absurd (hD (D,o)<|.tail _<|zG.mpr ⟨by simp[WD,cX hDl],q⟩)<|dJ _
    .unfold yJ;rw[aL h2,zb];exact Ey.abE _
def KP(H:Hp)(v:V)(q:Int×Int):Prop:=∃j,v=.ref j/\H[j]?=some (.tuple [.int q.1,.int q.2])
def pk(H:Hp)(v:V):Int×Int:=Classical.epsilon<|KP H v
theorem Wp{q}(h:KP H v q):pk H v=q:=by exists H,v,q,_;exists i,(q_:h);obtain⟨h1,h2⟩:=q_;obtain⟨j,h3,h4⟩:KP H v<|pk H v:=dD ⟨q,i,h1,h2⟩;obtain rfl:=V.ref.inj<|h1.symm.trans h3;have e:=tuI<|aA<|h4.symm.trans h2;have e2:=b0 e;exact fM (V.int.inj e2.1)<|V.int.inj (b0 e2.2).1
def NW(H:Hp)(b:V)(vs:List V):V:=vs.foldl (λb v=>if rK (pk H v) (pk H b)=true then v else b) b
def EM(i:Nat)(H:Hp):pO:=(lE H i).bind λxs=>open Classical in if xs≠[]/\∀v∈xs,∃q,KP H v q then some (.ok<|NW H (xs.headD .none) xs.tail,H)else none
theorem oD.abG(G:oD C ρ st s)(h:KP st.H v q)(hv:VC ρ v y):∃a,y=.ref a/\q6 s.heap a q.1 q.2:=by obtain⟨j,rfl,hj⟩:=h;obtain⟨a,q8⟩:=hv;exact⟨a,q8.2,G.pair hj q8.1⟩
theorem ph(B:oF (k+2) C)(hh:C.A.handled=none)(G:oD C ρ st s)(hl:s.heap.IsList l items){I S:Addr}(hI:s.heap.get? I=none)(hS:s.heap.get? S=none)(KK:I≠S){R:Result->Shared->Prop}:
 ∀vs ys j h b yb c,items.toList.drop j=ys->oN (VC ρ) vs ys->VC ρ b yb->(∃q,KP st.H b q)->(∀v∈vs,∃q,KP st.H v q)->(∀a o,s.heap.get? a=some o->h.get? a=some o)->h.IsListIter I l j->h.get? S=some {cls:=.type "list",dict:=none,data:=.seq #[yb,yb] c,slots:= #[]}->
  (∀y h',VC ρ (NW st.H b vs) y->(∀a o,s.heap.get? a=some o->h'.get? a=some o)->R (.ok<|.ret y) {s with heap:=h'})->codeAny (model PG C.w) C.A (.builtin "max.loop" ⟨[.ref I,.none,.ref S],[]⟩) R {s with heap:=h}:=by
 exists k,C,ρ,st,s,l,items,I,S,R,[B,hh,G,hl,hI,hS,KK];exists vs;have up:∀{h h':Heap}{X:Addr}{o':Obj},s.heap.get? X=none->(∀a o,s.heap.get? a=some o->h.get? a=some o)->(∀a,a≠X->h'.get? a=h.get? a)->∀a o,s.heap.get? a=some o->h'.get? a=some o:=λhX kp q a o ea=>(q a (by rintro rfl;injection hX.symm.trans ea)).trans<|kp a o ea;induction vs with
 |nil=>
  exists ys,j,h,b,yb,c;intro hd Ey hb hkb hkv kp hit hSo hR;obtain rfl:=cC.mp Ey.length.symm;have hx:items[j]?=none:=bU▸bZ.mpr (fG.mp hd);refine eP kG ?_;rw[eB eW _];refine aD<|gG hSo rfl ?_;refine aD<|jV<|lB hh hit (hl.at λo e=>kp _ _ e) hx ?_;exists h';intro he;refine aD ?_;refine jD (he S _ (dQ KK) hSo) rfl<|aD<|i7<|aM ?_;refine hR yb _ hb λa o ea=>(dW _ _ ?_).trans<|he a o ?_<|kp a o ea
  .rintro rfl;injection hS.symm.trans ea
  .rintro rfl;injection hI.symm.trans ea
 |cons v vs ih=>
  exists v,vs,[ih];exists ys',j,h,b,yb,c;intro hd Ey hb hkb hkv kp hit hSo hR;exists y,ys,(q_:wZ Ey);obtain⟨rfl,hv,hw⟩:=q_;have Rg:(toString "max" ++toString ".loop" :String)= "max.loop" :=rfl;exists q,(hq:hkv v<|.head _);exists kb,(WE:hkb);have hx:items[j]?=some y:=by have:=aV (λl=>l[0]?) hd;simpa using this
  have tI:items.toList.drop (j+1)=ys:=by have:=aV (λl=>l.drop 1) hd;simpa[iH]using this
  refine eP kG ?_;rw[eB eW _];refine aD<|gG hSo rfl ?_;refine aD<|jV<|iK hit (hl.at λo e=>kp _ _ e) hx ?_;exists h';intro zY Iw;have KI:=(Iw.2 S<|dQ KK).trans hSo;have kp':=up (o':=default) hI kp Iw.2;have G':=G.ext kp' 0;exists a,(q_:G'.abG hq hv);obtain⟨rfl,pa⟩:=q_;exists a',(q_:G'.abG WE hb);obtain⟨rfl,pb⟩:=q_;have hu:C.A.in1.units<cLine:=cK (bW (aT _ _) (oF.Rf B).un) (by decide);show wpAny _ C.A.in1 (tryCatch (holding [.ref a,.ref a]<|richCompare .Gt (.ref a) (.ref a')>>=_) _>>=_) _ _ _;refine aD<|jV<|cL<|aD<|BC hu pa pb ?_;refine aD<|cL<|mL ?_;refine aD<|i7<|aM ?_;have em:NW st.H b (v::vs)=NW st.H (if rK q kb=true then v else b) vs:=by rw[<-Wp hq,<-Wp WE];rfl
  rw[em]at hR;rcases hg:rK q kb with _|_
  .rw[aL (by rw[hg];exact bV)]at hR;refine aD<|i7 ?_;rw[Rg];exact aM ⟨gW eW _,ih ys (j+1) h' b (.ref a') c tI hw hb ⟨kb,WE⟩ (λu hu=>hkv u<|.tail _ hu) kp' zY KI hR⟩
  .rw[aH hg]at hR;refine aD ?_;refine jD KI rfl<|aD<|i7 ?_;rw[Rg];refine aM ⟨gW eW _,ih ys (j+1) _ v (.ref a) _ tI hw hv ⟨q,hq⟩ (λu hu=>hkv u<|.tail _ hu) (up (o':=default) hS kp' λa h=>dW _ _<|dQ h) ?_ (cT _ KI rfl) hR⟩;exact zY.at λo eo=>(dW _ _<|dQ KK).trans eo
open Classical in theorem max_sd(B:oF (k+2) C)(hh:C.A.handled=none){i:Nat}{y:Value}(hv:VC ρ (.ref i) y):Sd C (call (.builtin "max") [y]) VC ρ s st<|pX st<|EM i st.H:=by
 have Rg:(toString "max" ++toString ".loop" :String)= "max.loop" :=rfl;refine gB (lift:=pX st) rfl λxs hi=>As (lift:=pX st) rfl λhk=>?_;intro G r oE e;injection e with q_;injection q_ with q_ p_;subst q_ p_;obtain⟨l,items,n,rfl,hl,Ve,Ey⟩:=G.list (q0 hi) hv;have WC:s.heap.IsList l items:=⟨_,Ve,rfl,n,rfl⟩;obtain⟨v,vs,rfl⟩:=gH hk.1;obtain⟨y0,ys,hit,hv0,Ey⟩:=wZ Ey;refine call_function_tree F.kind_max F.plain_max F.entry_max (F.args_max1 _) ?_;refine aD<|lR (show Builtin.Builtins.bindParams "max" ["key","default"] 0 ⟨[],[]⟩=pure [none,none]from rfl) ?_;refine aD<|aM ?_;refine aD<|iL WC ?_;refine aD<|eD ?_;refine Rg▸?_;have sz:({s with heap:=s.heap.push {cls:=.type "list_iterator",data:=.fields #[.ref l,.int 0 0]}}:Shared).heap.objs.size=s.heap.objs.size+1:=by rw[dI]
 rw[sz];have hI0:s.heap.get? s.heap.objs.size=none:=cB<|aI _;have hS0:s.heap.get? (s.heap.objs.size+1)=none:=cB<|dM _;have KK:s.heap.objs.size≠s.heap.objs.size+1:=bI<|dX _;refine aM ⟨gW eW _,eP kG ?_⟩;refine(eB eW _)▸?_;generalize hh1:((s.heap.push {cls:=.type "list_iterator",data:=.fields #[.ref l,.int 0 0]}).push {cls:=.type "list",data:=.seq ([]:List Value).toArray})=h1;have kp:∀a o,s.heap.get? a=some o->h1.get? a=some o:=λa o ea=>by exact hh1▸(aZ _<|aZ _ ea)
 have hS1:h1.get? (s.heap.objs.size+1)=some {cls:=.type "list",dict:=none,data:=.seq #[],slots:= #[]}:=by refine hh1▸?_;have:=bT (s.heap.push {cls:=.type "list_iterator",data:=.fields #[.ref l,.int 0 0]}) (o:={cls:=.type "list",data:=.seq ([]:List Value).toArray}) rfl;rw[dI]at this;exact this
 have hI1:h1.IsListIter s.heap.objs.size l 0:=by exact hh1▸(⟨_,aZ _<|bT _ rfl,rfl,rfl⟩)
 refine aD<|gG hS1 rfl ?_;refine aD<|jV<|iK hI1 (WC.at λo e=>kp _ _ e) (by refine a6 bU.symm ?_;rw[hit];rfl) λh' zY Iw=>?_;have KI:=(Iw.2 _<|dQ KK).trans hS1;show wpAny _ C.A.in1 (updateSeq (s.heap.objs.size+1) (λU=> #[y0,y0])>>=_) _ _ _;refine aD ?_;refine jD KI rfl ?_;refine Rg▸?_;refine aM ⟨gW eW _,ph B hh G WC hI0 hS0 KK vs ys 1 _ v y0 _ (by rw[hit];rfl) Ey hv0 (hk.2 v<|.head _) (λu hu=>hk.2 u<|.tail _ hu) (λa o ea=>?_) ?_ (cT _ KI rfl) λy h2 hy kp2=>?_⟩
 .exact(dW _ _ (by rintro rfl;replace ea:=hS0▸ea;injection ea)).trans ((λa o ea=>(Iw.2 a (by rintro rfl;replace ea:=hI0▸ea;injection ea)).trans<|kp a o ea) a o ea)
 .exact zY.at λo eo=>(dW _ _<|dQ KK).trans eo
 .exact⟨_,ρ,rfl,a8 _,hy,G.ext kp2 0,pZ.oV ..⟩
def xS(scope sc:Scope):Scope:={scope with names:=scope.names.map λ(n,k)=>if(k==.free&&sc.kind==.function&&sc.names.lookup n==some .cell)then(n,.cell)else(n,k)}
def Ac{β:Type}(loc:Loc)(o:oM β):Option<|β×Hp:=o.bind λp=>match p.1 with
 |.ok b=>if p.2.loc=loc then some (b,p.2.H)else none
 |.exc _=>none
def Qp:List Str->List V->Loc->Option Loc
 |[],vs,l=>if vs.isEmpty then some l else none
 |x::xs,vs,l=>match vs with
  |[]=>none
  |v::vs=>Qp xs vs<|put x v l
def LG(rs:Scope)(x:Str):Bool:=rs.names.lookup x==some .local
def Lf(rs:Scope)(t:Expr)(v:V)(st:St):Option Loc:=match rY t with
 |some x=>if LG rs x.1 then some (put x.1 v st.loc)else none
 |none=>(im t).bind λq=>(E8 q.1).bind λxs=>if xs.all (LG rs)then(t9 v xs.length st.H).bind λvs=>Qp xs vs st.loc else none
noncomputable abbrev uJ:=St->Option St
def sU(it:Hp->Option (List Nat×List V))(xs:List Nat×List V)(asg:V->St->Option Loc)(turn:uJ):List V->uJ
 |[],st=>if it st.H=some xs then some st else none
 |v::r,st=>if it st.H=some xs then(asg v st).bind λl=>(turn ⟨st.H,l⟩).bind λst=>sU it xs asg turn r st else none
set_option genInjectivity false in
inductive GK where
 |plain
 |cond (c:Expr)
 |inner (t ix:Expr)
theorem yGk:Nonempty GK:=⟨.plain⟩
def J9(Q:oY)(rs:Scope)(elt:Expr)(j:Nat):uJ:=λst=>(Ac st.loc<|pW Q rs elt st).bind λp=>(Du j p.1 p.2).bind λH=>some ⟨H,st.loc⟩
def ry(Q:oY)(rs:Scope)(elt:Expr)(j:Nat)(g:GK):uJ:=λst=>match g with
 |.plain=>J9 Q rs elt j st
 |.cond c=>(Ac st.loc<|u7 Q rs c st).bind λp=>bif p.1 then J9 Q rs elt j ⟨p.2,st.loc⟩else some ⟨p.2,st.loc⟩
 |.inner t ix=>(Ac st.loc<|pW Q rs ix st).bind λp=>(o9 p.1 p.2).bind λxs=>sU (o9 p.1) xs (Lf rs t) (J9 Q rs elt j) xs.2 ⟨p.2,st.loc⟩
def Nt(rs:Scope)(l:Loc):Loc:=l.filter λp=>rs.names.lookup p.1==some .cell
def Lr(scope sc:Scope):Bool:=scope.kind==.function&&sc.kind==.function&&scope.names.all (λx=>x.2 !=.cell)&&
 scope.names.all (λx=>x.2 !=.free||sc.names.lookup x.1==some .cell)&&scope.names.all (λx=>scope.names.lookup x.1==some x.2)
def LX(gens:List Comprehension):Option<|Expr×Expr×GK:=match gens with
 |[]=>none
 |g::gs=>if g.is_async==0 then(match gs with
  |[]=>(match g.ifs with
   |[]=>some (g.target,g.iter,.plain)
   |c::r=>if r.isEmpty then some (g.target,g.iter,.cond c)else none)
  |h::r=>if r.isEmpty&&(h.is_async==0)&&g.ifs.isEmpty&&h.ifs.isEmpty&&!yZ h.iter then some (g.target,g.iter,.inner h.target h.iter)else none)else none
def P1(Q:oY)(sc:Scope)(e:Expr)(st:St):oM V:=(ai e).bind λq=>(LX q.2.1).bind λg=>if Lr q.2.2.1 sc&&!yZ g.2.1 then(Ac st.loc<|pW Q sc g.2.1 st).bind λa=>(o9 a.1 a.2).bind λxs=>
 (sU (o9 a.1) xs (Lf (xS q.2.2.1 sc) g.1) (ry Q (xS q.2.2.1 sc) q.1 a.2.length g.2.2) xs.2 ⟨a.2++[.list []],Nt (xS q.2.2.1 sc) st.loc⟩).bind λoE=>some (.ok<|.ref a.2.length,⟨oE.H,st.loc⟩)else none
theorem Fs{oE:St}(h:P1 Q sc e st=some (r,oE)):(∃q:Expr×List Comprehension×Scope×Pos,e=.ListComp q.1 q.2.1 q.2.2.1 q.2.2.2)/\∃b,r=.ok b:=by exists st,Q,sc,e,r,oE,[h];exists q,(q_:aB.mp h);obtain⟨hq,h⟩:=q_;exists x7,(q_:aB.mp h);obtain⟨Rt,h⟩:=q_;exists xc,(q_:aB.mp (Iu h).2);obtain⟨HE,h⟩:=q_;exists XW,(q_:aB.mp h);obtain⟨z6_,h⟩:=q_;exists z7_,(q_:aB.mp h);obtain⟨z8_,h⟩:=q_;exact⟨⟨q,Kr hq⟩,_,(bQ<|aA h).1.symm⟩
theorem xL{β:Type}{loc:Loc}{o:oM β}{p:β×Hp}(h:Ac loc o=some p):o=some (.ok p.1,⟨p.2,loc⟩):=by
 obtain⟨⟨q,H,l⟩,h1,h2⟩:=aB.mp h;rcases q with b|c
 .obtain⟨e,h3⟩:=Iu h2;obtain rfl:l=loc:=e;obtain rfl:=aA h3;exact h1
 .exact nn h2
theorem jj(hk:rs.kind=.function):∀{vs:List V}{l l':Loc}{H:Hp},xs.all (LG rs)=true->Qp xs vs l=some l'->sD rs xs vs ⟨H,l⟩=some (.ok (),⟨H,l'⟩):=by
 induction xs with
 |nil=>
  intro vs l l' H _ h;rcases vs with _|_<;>cases h
  rfl
 |cons x xs ih=>
  intro vs l l' H hx h;simp only[iZ,aQ]at hx;rcases vs with _|⟨v,vs⟩
  .exact nn h
  .have:p0 rs x v ⟨H,l⟩=some (.ok (),⟨H,put x v l⟩):=aH (by rw[hk,show(rs.names.lookup x==some .local)=true from hx.1];rfl);show(p0 rs x v ⟨H,l⟩).then _=_
   exact this▸(ih hx.2 h)
def up(o:Option St):oM Unit:=o.map λst=>(.ok (),st)
theorem Lb(h:up o=some (r,oE)):o=some oE/\r=.ok ():=by obtain⟨st,h1,h2⟩:=a9.mp h;obtain⟨rfl,rfl⟩:=bQ h2;exact⟨h1,rfl⟩
theorem Aw{st oE:St}(h:sU it xs asg turn l st=some oE):it st.H=some xs:=by
 by_cases c:it st.H=some xs
 .exact c
 .rcases l with _|_<;>exact absurd ((aL c).symm.trans h) λh=>nn h
def yN(rs:Scope)(l l':Loc):Prop:=∀x,rs.names.lookup x=some .cell->l'.lookup x=l.lookup x
theorem F8(h:LG rs x=true):yN rs l<|put x v l:=λz hz=>by
 rw[At,aL];rintro rfl
 replace hz:=(a5.mp h)▸hz;injection aA hz
theorem Qj{xs:List Str}:∀{vs:List V}{l l':Loc},xs.all (LG rs)=true->Qp xs vs l=some l'->yN rs l l':=by
 induction xs with
 |nil=> intro vs l l' _ h;cases vs<;>cases h;exact λU U=>rfl
 |cons x xs ih=>
  intro vs l l' hx h;simp only[iZ,aQ]at hx;rcases vs with _|⟨v,vs⟩
  .exact nn h
  .exact λz hz=>(ih hx.2 h z hz).trans<|F8 hx.1 z hz
theorem am{st:St}(h:Lf rs t v st=some l):yN rs st.loc l:=by
 exists rs,t,v,st,l,_;unfold Lf at h;rcases ha:rY t with _|x
 .exists _;have h:=ha▸h;exists q,(o5:aB.mp h);exists xs,(q9:aB.mp o5.2);obtain⟨c,e_⟩:=Iu q9.2;exists vs,(q8:aB.mp e_);exact k9<|Qj c q8.2
 .exists x,_;replace h:=ha▸h;obtain⟨c,h⟩:=Iu h;rcases h with _|_;exact F8 c
theorem z6(ht:∀st oE,turn st=some oE->yN rs st.loc oE.loc)(l):∀st oE,sU it xs (Lf rs t) turn l st=some oE->yN rs st.loc oE.loc:=by
 induction l with
 |nil=>intro st oE h;rcases(aH<|Aw h).symm.trans h with _|_;exact λU U=>rfl
 |cons v l ih=> intro st oE h;obtain⟨l1,q9⟩:=aB.mp<|(aH<|Aw h).symm.trans h;obtain⟨st2,q8⟩:=aB.mp q9.2;exact λz hz=>((ih _ _ q8.2 z hz).trans<|ht _ _ q8.1 z hz).trans<|am q9.1 z hz
theorem Ai(h:J9 Q rs elt j st=some oE):yN rs st.loc oE.loc:=by obtain⟨p,_,h⟩:=aB.mp h;obtain⟨H,_,h⟩:=aB.mp h;obtain rfl:=aA h;exact λU U=>rfl
theorem Ue(st oE)(h:ry Q rs elt j g st=some oE):yN rs st.loc oE.loc:=by
 rcases g with _|c|⟨t,ix⟩
 .exact Ai h
 .obtain⟨⟨b,H⟩,_,h⟩:=aB.mp h;rcases b with _|_
  .obtain rfl:=aA h;exact λU U=>rfl
  .exact Ai (st:=⟨H,st.loc⟩) h
 .obtain⟨p,_,h⟩:=aB.mp h;obtain⟨xs,_,h⟩:=aB.mp h;exact z6 (λst oE h=>Ai h) _ ⟨p.2,st.loc⟩ _ h
theorem Eb{n:String}(ho:s.heap.get? i=some o)(hc:o.cls=.type n)(hd:o.data=.fields vs)(hn:zM n=false)(q:Q () s):
 wpAny (model PG w) A (letOwnedTupleGo t (.ref i) v) Q E s:=by
 rcases t with _|_<;>first|exact aM q|skip
 all_goals
  rcases v with _|_<;>first|exact aM q|skip
  refine aD<|jR ho ?_;refine hc▸hd▸?_;dsimp only;exact(show(["enumerate","zip","dict_itemiterator","dict_reverseitemiterator","odict_iterator","itertools.zip_longest","itertools.pairwise"].contains n)=false from hn)▸(aM q)
theorem NQ(hh:C.A.handled=none)(hE:C.env.scope=rs)(hk:rs.kind=.function)(t){v:V}{y:Value}(hv:VC ρ v y){l:Loc}(e:Lf rs t v st=some l):Sd C (assign t C.env y) UR ρ s st<|some (.ok (),⟨st.H,l⟩):=by
 exists C,ρ,st,s,rs,t,v,y,l,[hh,hE,hk,hv,e];subst hE;unfold Lf at e;rcases ha:rY t with _|x
 .replace e:=ha▸e;exists q,(qV:aB.mp e);obtain rfl:=Hm qV.1;exists xs,(o5:aB.mp qV.2);by_cases c:xs.all (LG C.env.scope)=true
  .exists vs,(q8:aB.mp<|(aH c).symm.trans o5.2);obtain⟨h1,q9⟩:=B7 q.1 xs o5.1;simp[show some (r8.ok (),⟨st.H,l⟩)=(sO st<|t9 v xs.length st.H).then λvs st=>sD C.env.scope xs vs st by exact q8.1▸((jj hk c q8.2).symm)];exact h1▸q9.1▸(Sd.standAt<|Sd.bind (Sd.holding<|Jp hh hv) λoO s' oE vs ys hp Ey=>q9.2 vs ys oO s' oE Ey.1)
  .exact nomatch (aL c).symm.trans o5.2
 .exists x,_;rw[ha]at e;obtain rfl:=qZ ha;by_cases c:LG C.env.scope x.1=true
  .obtain rfl:=aA<|(aH c).symm.trans e;rw[show some (r8.ok (),⟨st.H,put x.1 v st.loc⟩)=p0 C.env.scope x.1 v st from(aH (by rw[hk,show(C.env.scope.names.lookup x.1==some .local)=true from c];rfl)).symm];exact Sd.standAt<|vD hv
  .exact nomatch (aL c).symm.trans e
set_option tactic.hygienic true in
def IR(w:World)(A:Around)(t:Expr)(env:Env)(it:Value)(T:Sem Unit)(c:Code)(Q:Fin->Shared->Prop)(E:Value->Shared->Prop):Shared->Prop:=
 wpAny (model PG w) A (pyNext it) (λr oK=>match r with
  |none=>Q (.done .next) oK
  |some v=>wpAny (model PG w) A (letOwnedTupleGo t it v) (λU pS=>wpAny (model PG w) A (assign t env v) (λU pQ=>wpAny (model PG w) A T (λU Cq=>Q (.again c) Cq) E pQ) E pS) E oK) E
theorem W5(e:m=(standAt p>>=λU=>pyNext it>>=λr=>match r with
 |none=>pure<|.done .next
 |some v=>letOwnedTupleGo t it v>>=λU=>assign t env v>>=λU=>T>>=λU=>again c))(s)(Q)(E)(h:IR w A t env it T c Q E s):wpAny (model PG w) A m Q E s:=by
 rw[e];refine aD<|dK<|aD<|bL h (λr oK vN=>?_) λU U h'=>h';rcases r with _|v
 .exact aM vN
 .exact aD (bL vN (λU pS Hz=>aD<|bL Hz (λU pQ rZ=>aD<|bL rZ (λU Cq xZ=>aM xZ) λU U x=>x) λU U x=>x) λU U x=>x)
inductive adE(C:Cx)(it:Hp->Option (List Nat×List V))(xs:List Nat×List V)(asg:V->St->Option Loc)(turn:uJ)(i:Addr)(P:Nat->Obj->Prop)(ρ:List Addr)(s:Shared)(oE:St)(m:Nat)(pQ:Shared):Prop
 |mk (qO:List Addr) (qH:St) (j:Nat) (o:Obj) (e1:m=xs.2.length-j) (e2:j<=xs.2.length) (p:ρ<+:qO) (g:oD C qO qH pQ) (n:pZ C.F s pQ) (ho:pQ.heap.get? i=some o) (hp:P j o) (hi:i∉qO) (e:sU it xs asg turn (xs.2.drop j) qH=some oE)
theorem Ei{i:Addr}{P:Nat->Obj->Prop}{pH:List Addr}{uY:Cx}(hw:uY.w=C.w)(hA:uY.A=C.A)(B:oF k C)(hh:C.A.handled=none)(K:D5 uY (o9 a) pH xs i P)
 (hc:∀k o,P k o->∃n vs,o.cls=.type n/\o.data=.fields vs/\zM n=false){elt:Expr}{gens:List Comprehension}{scope:Scope}{pos:Pos}{depth:Nat}{acc:Value}{eh:Expr}{T:Sem Unit}{turn:uJ}{rs:Scope}(hE:C.env.scope=rs)
  (KL:∀s Q E,IR C.w C.A eh C.env (.ref i) T (.compLoop (.ListComp elt gens scope pos) depth (.ref i) acc C.env) Q E s->wpAny (model PG C.w) C.A (compTurn (.ListComp elt gens scope pos) depth (.ref i) acc C.env) Q E s)
  (hT:∀h',oF k (C.at h')->∀oO s st,ρ<+:oO->Sd (C.at h') T UR oO s st (up<|turn st))
  (G:oD C ρ st s){o:Obj}(Iv:s.heap.get? i=some o)(hP:P 0 o)(h1:i∉ρ)(h2:i≠C.env.locals)(h3:C.ajU.get? i=none)(hp:pH<+:ρ){oE:St}(ef:sU (o9 a) xs (Lf rs eh) turn xs.2 st=some oE):
  codeAny (model PG C.w) C.A (.compLoop (.ListComp elt gens scope pos) depth (.ref i) acc C.env) (λr s'=>(∃f,r=.ok f)/\∃oO,ρ<+:oO/\oD C oO oE s'/\pZ C.F s s') s:=by
  exists k,C,ρ,st,s,a,xs,i,P,pH,uY,elt,gens,scope,pos,depth,acc,eh,T,turn,rs,o,oE,[hw,hA,B,hh,K,hc,hE,KL,hT,G,Iv,hP,h1,h2,h3,hp,ef];have hiF:i∉C.F:=λhm=>by obtain⟨o',_,_,h0,_⟩:=B.live i hm;replace h0:=h3▸h0;rcases h0 with _|_
  refine codeAny_loop rfl (adE C (o9 a) xs (Lf rs eh) turn i P ρ s oE) (λm pQ hI=>?_) xs.2.length ⟨ρ,st,0,o,rfl,cV _,a8 _,G,.refl _,Iv,hP,h1,ef⟩;obtain⟨qO,qH,j,cx,hm,hj,rW,rL,wF,Ic,hPj,Cs,tB⟩:=hI;exists nm,vs,(qV:hc j cx hPj);have hit:=Aw tB;have step:=K C.env C.ajU C.F qO qH pQ j cx (hp.trans rW) (hw▸hA▸rL) hit Ic hPj Cs;rw[hw,hA]at step;refine wpAny_noted<|KL _ _ _ ?_;exists _;by_cases vO:j<xs.2.length
  .rw[dZ vO]at tB;obtain⟨aeL,hq,tB⟩:=aB.mp<|(aH hit).symm.trans tB;obtain⟨Yl,h6,tB⟩:=aB.mp tB;refine k9<|step.1 _ (aP vO) _ _ λh' y o' n VS uI hP' hy=>?_;exists _;obtain⟨XM,vs',XO,o5⟩:=hc (j+1) o' hP';have hk:∀u,o'.data≠.cell u:=λu q=>by have q:=o5.1▸q;injection q
   refine k9<|Eb uI XO o5.1 o5.2 ?_;refine Sd.Nj B (λYk B'=>NQ (C:=C.at Yk) hh hE (hE▸B.fn) eh hy hq) (rL.extBut VS.extBut Ic qV.2.1 Cs h2 h3) rfl λU A0 El Q7 U E0 U9 Nn=>?_;have q9:=Nn i o' XM uI Cs h2 hiF XO hk;refine Sd.Nj B (λYk B'=>hT Yk B' El A0 ⟨qH.H,aeL⟩<|rW.trans Q7) E0 (by rw[h6];rfl) λU Jc zC Kw U Id E1 Ct=>?_;have q8:=Ct i o' XM q9.1 q9.2 h2 hiF XO hk;exact⟨rfl,xs.2.length-(j+1),by grind,zC,Yl,j+1,o',rfl,vO,(rW.trans Q7).trans Kw,Id,((wF.trans<|pZ.heap pQ h' n).trans U9).trans E1,q8.1,hP',q8.2,tB⟩
  .have GY:=dU vO;rw[iJ GY]at tB;cases(aH hit).symm.trans tB;exact k9<|step.2 GY _ _ λh' n VS=>⟨⟨_,rfl⟩,qO,rW,rL.extBut VS Ic qV.2.1 Cs h2 h3,wF.trans<|pZ.heap pQ h' n⟩
def Pe(elt:Expr)(env:Env)(acc:Value):Sem Unit:=eval elt env>>=λx=>call (.builtin "list.append") [acc,x]>>=λU=>pure ()
def Qs(e elt:Expr)(env:Env)(acc:Value):GK->Sem Unit
 |.plain=>Pe elt env acc
 |.cond c=>isTrue c env (eval c env)>>=λok=>if ok=true then Pe elt env acc else pure ()
 |.inner t ix=>do
  let x<-eval ix env
  standAt ix.pos
  let x<-foldedSetIterable ix env x
  let XX<-holding [x] (pyIter x)
  let _<-runOwn (.compStart e 1 XX acc env) env
  pure ()
theorem Mj(O:o4 C Q)(hE:C.env.scope=rs)(Nu:VC ρ (.ref j) acc):Sd C (Pe elt C.env acc) UR ρ s st<|up<|J9 Q rs elt j st:=by subst hE;refine Sd.qe λG r oE e Q' E kQ kE=>?_;obtain⟨e1,rfl⟩:=Lb e;obtain⟨p,q9⟩:=aB.mp e1;obtain⟨H,q8⟩:=aB.mp q9.2;obtain rfl:=aA q8.2;exact aD<|(pG O elt st ρ s).ok G (xL q9.1) λx oK pH p1 hv o8 ajV=>aD<|(uw (Nu.mono p1) hv q8.1).ok o8 rfl λU pS pF p2 U qC rM=>aM<|kQ _ _ ⟨(),pF,rfl,p1.trans p2,trivial,qC,ajV.trans rM⟩
theorem mz:compTurn (.ListComp elt [⟨t,ix,[],0⟩,⟨t',E2,[],0⟩] scope pos) 1 it acc env=(standAt E2.pos>>=λU=>pyNext it>>=λr=>match r with
 |none=>pure<|.done .next
 |some v=>letOwnedTupleGo t' it v>>=λU=>assign t' env v>>=λU=>Pe elt env acc>>=λU=>again<|.compLoop (.ListComp elt [⟨t,ix,[],0⟩,⟨t',E2,[],0⟩] scope pos) 1 it acc env):=by rfl
theorem Ug
 (h0:codeAny (model PG w) A (.compLoop (.ListComp elt [⟨t,ix,[],0⟩,⟨t',E2,[],0⟩] scope pos) 1 it acc env) R s)
  (h:wpAny (model PG w) A (pyIter it) (λXX s'=>codeAny (model PG w) A (.compLoop (.ListComp elt [⟨t,ix,[],0⟩,⟨t',E2,[],0⟩] scope pos) 1 XX acc env) R s') (notedBy (model PG w) A env λx s'=>R (.error x) s') s):
  codeAny (model PG w) A (.compStart (.ListComp elt [⟨t,ix,[],0⟩,⟨t',E2,[],0⟩] scope pos) 1 it acc env) R s:=by
  refine jB ?_;refine wpAny_notedAt ?_;refine aD<|wpAny_askSetting<|wpAny_ite ?_;split
  .first
    |exact aD<|aM<|aM<|And.intro rfl h0
    |exact aM<|And.intro rfl h0
  .exact aD (iR<|aD<|dK<|aD<|bL h (λXX s' h'=>aM<|And.intro rfl h') λU U x=>x)
inductive IZ:List Comprehension->Expr->Expr->GK->Prop
 |plain (t ix:Expr):IZ [⟨t,ix,[],0⟩] t ix .plain
 |cond (t ix c:Expr):IZ [⟨t,ix,[c],0⟩] t ix<|.cond c
 |inner (t ix t' E2:Expr) (h:yZ E2=false):IZ [⟨t,ix,[],0⟩,⟨t',E2,[],0⟩] t ix<|.inner t' E2
theorem EX(h:LX gens=some g):IZ gens g.1 g.2.1 g.2.2:=by
 exists gens,g,_;cases gens with
 |nil=>exact nn h
 |cons a gs=>
 exists a,gs,_;obtain⟨t,ix,ifs,b⟩:=a;exists t,ix,ifs,b,_;by_cases hb:(b==0)=true;rotate_left
 .injection(aL hb).symm.trans h
 obtain rfl:=a5.mp hb;rcases gs with _|⟨a,gs⟩
 .rcases ifs with _|⟨c,r⟩
  .obtain rfl:=aA h;exact .plain t ix
  .exists c,r,_;obtain⟨hr,h⟩:=Iu h;cases h;obtain rfl:=cI.mp hr;exact .cond t ix c
 .exists a,gs,_;obtain⟨t',E2,aeM,b'⟩:=a;exists t',E2,aeM,b',_;obtain⟨hc,h⟩:=Iu h;cases h;simp only[aQ,cI,a5,dA]at hc;obtain⟨⟨⟨⟨rfl,rfl⟩,rfl⟩,rfl⟩,hs⟩:=hc;exact .inner t ix t' E2 hs
theorem ay{g:GK}(h:IZ gens t ix g){scope:Scope}{pos:Pos}{it acc:Value}{env:Env}:compTurn (.ListComp elt gens scope pos) 0 it acc env=(standAt ix.pos>>=λU=>pyNext it>>=λr=>match r with
 |none=>pure<|.done .next
 |some v=>letOwnedTupleGo t it v>>=λU=>assign t env v>>=λU=>Qs (.ListComp elt gens scope pos) elt env acc g>>=λU=>again<|.compLoop (.ListComp elt gens scope pos) 0 it acc env):=by
 exists gens,t,ix,elt,g,scope,pos,it,acc,env,[h];rcases h with⟨_,_⟩|⟨_,_,c⟩|⟨_,_,t',E2,hs⟩
 .rfl
 .exists c,[];rw[compTurn_list];refine aV (standAt ix.pos>>= ·)<|funext λU=>aV (pyNext it>>= ·)<|funext ?_;exists r;induction r with
  |none=>rfl
  |some v=>
  refine aV (letOwnedTupleGo t it v>>= ·)<|funext λU=>aV (assign t env v>>= ·)<|funext ?_;exists z_;simp only[fU,List.forIn_nil,if_true,pure_bind,Qs,bind_assoc,Pe];refine aV (isTrue c env (eval c env)>>= ·)<|funext ?_;exists ok;induction ok<;>simp
 .have e:∀K:Sem Fin,(Qs (.ListComp elt [⟨t,ix,[],0⟩,⟨t',E2,[],0⟩] scope pos) elt env acc (.inner t' E2)>>=λU=>K)=(eval E2 env>>=λx=>standAt E2.pos>>=λU=>foldedSetIterable E2 env x>>=λx=>holding [x] (pyIter x)>>=λXX=>runOwn (.compStart (.ListComp elt [⟨t,ix,[],0⟩,⟨t',E2,[],0⟩] scope pos) 1 XX acc env) env>>=λU=>K):=λK=>by simp only[Qs,bind_assoc,pure_bind]
  rw[e];rfl
theorem FY{Q:oY}(B:oF k C)(hh:C.A.handled=none)(O:∀C',oF k C'->o4 C' Q){rs:Scope}(hE:C.env.scope=rs){gens:List Comprehension}{t ix elt:Expr}{g:GK}(h:IZ gens t ix g){scope:Scope}{pos:Pos}{j:Nat}{acc:Value}(Nu:VC ρ (.ref j) acc):
 Sd C (Qs (.ListComp elt gens scope pos) elt C.env acc g) UR ρ s st (up<|ry Q rs elt j g st):=by
 exists k,C,ρ,st,s,Q,rs,gens,t,ix,elt,g,scope,pos,j,acc,[B,hh,O,hE,h,Nu];rcases h with⟨_,_⟩|⟨_,_,c⟩|⟨_,_,t',E2,hs⟩
 .exact Mj (O C B) hE Nu
 .exists c,[];refine Sd.qe ?_;intro G;exists r,oE;intro e;exists Q',E;intro kQ kE;exists _;exists g9,_;obtain⟨e1,rfl⟩:=Lb e;obtain⟨⟨b,H⟩,h1,e⟩:=aB.mp e1;exists b,H,[h1,e];have ht:=wQ (O C B) c st ρ s;rw[hE]at ht;refine k9<|aD<|ht.ok G (xL h1) ?_;exists x,oK,pH;intro p1 hb o8 ajV;subst hb;rcases b with _|_
  .obtain rfl:=aA e;exact aM<|kQ _ _ ⟨(),pH,rfl,p1,trivial,o8,ajV⟩
  .exact(Mj (O C B) hE<|Nu.mono p1).ok o8 (by rw[show J9 Q rs elt j ⟨H,st.loc⟩=some oE from e];rfl) λU pS pF p2 U qC rM=>kQ _ _ ⟨(),pF,rfl,p1.trans p2,trivial,qC,ajV.trans rM⟩
 .exists t',E2,_;refine Sd.qe ?_;intro G;exists r,oE;intro e;exists Q',E;intro kQ kE;obtain⟨e1,rfl⟩:=Lb e;exists p,(q_:aB.mp e1);obtain⟨h1,e⟩:=q_;exists xs,(q_:aB.mp e);obtain⟨hx,e⟩:=q_;have ht:=pG (O C B) E2 st ρ s;replace ht:=hE▸ht;refine aD<|ht.ok G (xL h1) ?_;exists x,oK,pH;intro p1 ha o8 ajV;rw[show foldedSetIterable E2 C.env x=pure x by rcases E2 with _|_<;>first|rfl|cases hs]
  refine aD<|dK<|aD<|aM<|aD<|cL ?_;have q9:=o8.fresh;refine L7 hh o8 ha hx _ _ ?_;exists P,o;intro hf VR hc hK hS;have Iv:(oK.heap.push o).get? oK.heap.objs.size=some o:=bT _ hf;have loop:=Ei rfl rfl B hh hK hc (gens:=[⟨t,ix,[],0⟩,⟨t',E2,[],0⟩]) (scope:=scope) (pos:=pos) hE (λs Q E h=>W5 mz s Q E h)
   (λh' B' oO s st hp=>Mj (O _ B') hE<|(Nu.mono p1).mono hp) (o8.zU o) Iv VR q9.1 q9.2.1 q9.2.2 (a8 _) e
  have KM:=dP (R':=λr s'=>match r with|.ok f=>wpAny (model PG C.w) C.A (pure ()) Q' E s'|.error e=>cameBackBy (model PG C.w) C.A C.env E e s') loop λr s' P=>by obtain⟨⟨f,rfl⟩,oO,q8⟩:=P;exact aM<|kQ _ _ ⟨(),oO,rfl,p1.trans q8.1,trivial,q8.2.1,(ajV.trans<|pZ.oV oK<|oK.heap.push o).trans q8.2.2⟩
  exact aD<|wpAny_runOwn<|Ug KM<|hS _ 0 o Iv VR _ _ _ KM
def tZ(env:Env):List (Str×NameKind)->List (Str×Addr)->List (Str×Addr)
 |[],acc=>acc
 |(n,kd)::r,acc=>tZ env r (if kd==.free then(n,(env.cells.lookup n).getD 0)::acc else acc)
theorem I7{env:Env}(h:∀x∈scope.names,x.2=.free->env.cells.lookup x.1≠none):closureFor scope env=pure (tZ env scope.names []):=by
 exists scope,env,_;dsimp only[closureFor];have key:∀l acc,(∀x∈l,x.2=.free->env.cells.lookup x.1≠none)->
  (forIn l acc λx r=>(match x with
  |(name,kind)=>if(kind==NameKind.free)=true then do let a<-cellOf env name;pure (ForInStep.yield ((name,a)::r))else pure (ForInStep.yield r):Sem<|ForInStep<|List<|Str×Addr))=pure (tZ env l acc):=by
  intro l;induction l with
  |nil=>intro acc _;rfl
  |cons x r ih=>
   intro acc hx;obtain⟨n,kd⟩:=x;rw[fU];dsimp only[tZ];by_cases hk:(kd==NameKind.free)=true
   .have hn:=hx (n,kd) (.head _)<|a5.mp hk;rcases hc:env.cells.lookup n with _|a
    .exact absurd hc hn
    .simp only[hk,(by unfold cellOf;rw[hc]:cellOf env n=pure a)];exact ih _ λx hm=>hx x<|.tail _ hm
   .simp only[hk];exact ih _ λx hm=>hx x<|.tail _ hm
 have:=key scope.names [] h;simp only[bind_pure]at this⊢;exact this
set_option tactic.hygienic true in
theorem qi:∀{l:List (Str×NameKind)}{acc:List (Str×Addr)}{p:Str×Addr},p∈tZ env l acc->p∈acc\/((p.1,NameKind.free)∈l/\p.2=(env.cells.lookup p.1).getD 0):=by
 revert env;exists env;intro zr;induction zr with
 |nil=> intro acc p h;exact .inl h
 |cons zh r pD=>
  obtain⟨n,kd⟩:=zh;intro acc p h;rcases pD h with h'|h'
  .split at h'
   .rename_i hk;rcases aK.mp h' with rfl|h'
    .refine .inr ⟨?_,rfl⟩;exact(a5.mp hk)▸(.head _)
    .exact .inl h'
   .exact .inl h'
  .exact .inr ⟨.tail _ h'.1,h'.2⟩
theorem xv:∀{l:List (Str×NameKind)}{acc:List (Str×Addr)}{x:Str},((x,NameKind.free)∈l\/∃a,(x,a)∈acc)->∃a,(x,a)∈tZ env l acc:=by
 revert env;exists env;intro zr;induction zr with
 |nil=>
  intro acc x h;rcases h with h|h
  .cases h
  .exact h
 |cons zh r pD=>
  obtain⟨n,kd⟩:=zh;intro acc x h;rcases h with h|⟨a,h⟩
  .rcases aK.mp h with e|h
   .obtain⟨rfl,rfl⟩:=bQ e;exact pD<|.inr ⟨_,by rw[aH<|by rfl];exact .head _⟩
   .exact pD (.inl h)
  .refine pD (.inr ⟨a,?_⟩);refine iteInduction (λU=>?_) λU=>?_
   .exact .tail _ h
   .exact h
theorem Ba{l:List (Str×Addr)}(h:(x,a)∈l):∃b,l.lookup x=some b/\(x,b)∈l:=by
 induction l with
 |nil=>cases h
 |cons q l ih=>
  rw[cP];rcases hb:x==q.1 with _|_
  .rcases aK.mp h with e|h
   .exact absurd (a5.mpr<|aV Prod.fst e) (by rw[hb];exact bV)
   .exact(ih h).imp λb q8=>⟨q8.1,.tail _ q8.2⟩
  .exact⟨q.2,rfl,a5.mp hb▸.head _⟩
theorem zA(rs)(x):∀l,(Nt rs l).lookup x=if rs.names.lookup x==some .cell then l.lookup x else none:=by
 revert rs x;exists rs,x;intro zr;induction zr with
 |nil=> simp[Nt]
 |cons zh r pD=>
  obtain⟨n,v⟩:=zh;have ih:=pD;unfold Nt at ih⊢;refine a6 (aV _ m5) ?_;by_cases hn:(rs.names.lookup n==some NameKind.cell)=true
  .rw[aH hn,cP,cP,ih];rcases hb:x==n with _|_
   .rfl
   .have e:=a5.mp hb;subst e;show some v=if _ then some v else none
    rw[aH hn]
  .rw[aL hn,ih,cP];rcases hb:x==n with _|_
   .rfl
   .have e:=a5.mp hb;subst e;refine a6 (aL hn) ?_;rw[aL hn]
theorem Be(scope sc)(x):(xS scope sc).names.lookup x=(scope.names.lookup x).map λk=>if(k==.free&&sc.kind==.function&&sc.names.lookup x==some .cell)then .cell else k:=by
 exists scope,sc,x,[];unfold xS;dsimp only;induction scope.names with
 |nil=>rfl
 |cons p r ih=>
  exists p,r,_;obtain⟨n,kd⟩:=p;exists n,kd,[];rw[cW];by_cases hc:(kd==NameKind.free&&sc.kind==.function&&sc.names.lookup n==some .cell)=true
  .rw[aH hc,cP,cP];cases hb:x==n with
   |true=> have e:=a5.mp hb;subst e;show some NameKind.cell=some (if _ then _ else _);rw[aH hc]
   |false=>exact ih
  .rw[aL hc,cP,cP];cases hb:x==n with
   |true=> have e:=a5.mp hb;subst e;show some kd=some (if _ then _ else _);rw[aL hc]
   |false=>exact ih
theorem r9{α β:Type}[BEq α][LawfulBEq α]{l:List (α×β)}{a:α}{b:β}(h:l.lookup a=some b):(a,b)∈l:=Qw h
structure wA(scope sc:Scope):Prop where
 kind:scope.kind=.function
 outer:sc.kind=.function
 xw:∀x∈scope.names,x.2≠.cell
 free:∀x,(x,NameKind.free)∈scope.names->sc.names.lookup x=some .cell
 cons:∀x kd,(x,kd)∈scope.names->scope.names.lookup x=some kd
theorem Zq(h:Lr scope sc=true):wA scope sc:=by
 unfold Lr at h;simp only[aQ,aX,d8,hV,a5]at h;obtain⟨⟨⟨⟨h1,h2⟩,h3⟩,h5⟩,h6⟩:=h;refine⟨h1,h2,h3,λx hx=>?_,λx kd hx=>h6 (x,kd) hx⟩;rcases h5 (x,.free) hx with h|h
 .exact absurd rfl h
 .exact h
set_option tactic.hygienic true in
theorem wA.Cw(S:wA scope sc):(xS scope sc).names.lookup x=some .cell<->(x,NameKind.free)∈scope.names:=by
 exists scope,sc,x,_;rw[Be];constructor
 .intro h;exists kd,(q_:a9.mp h);obtain⟨h1,h2⟩:=q_;have hm:=r9 h1;split at h2
  .rename_i hc;simp only[aQ,a5]at hc;rw[hc.1.1]at hm;exact hm
  .subst h2;exact absurd rfl<|S.xw _ hm
 .intro h;refine a6 (aV _<|S.cons x _ h) ?_;show some (if _ then _ else _)=_;rw[aH<|by simp[S.outer,S.free x h]]
set_option tactic.hygienic true in
theorem wA.dh(S:wA scope sc):(xS scope sc).names.lookup x≠some .free:=by
 exists scope,sc,x,_;rw[Be];intro h;exists kd,(q_:a9.mp h);obtain⟨h1,h2⟩:=q_;split at h2
 .injection h2
 .rename_i hc;subst h2;apply hc;simp[S.outer,S.free x<|r9 h1]
def Cx.comp(C:Cx)(h:Heap)(yx:List Addr)(env:Env):Cx:={w:=C.w,A:=C.A,env:=env,ajU:=hideAll h yx,F:=C.F}
theorem oD.other(G:oD C ρ st s)(x:Heap.SameBut i s.heap h')(ho:s.heap.get? i=some o)(hd:∀u,o.data≠.cell u)(h1:i∉ρ)(h2:i≠C.env.locals)(h3:C.ajU.get? i=none):oD C ρ st {s with heap:=h'}:=by
 refine⟨G.sim.same x h3 h1,⟨?_,G.fr.none,G.fr.out,λy a hy=>?_,G.fr.own,G.fr.has,G.fr.kind,G.fr.lo⟩,G.tk⟩
 .obtain⟨m,q9⟩:=G.fr.ns;exact⟨m,q9.1.sameBut x<|dQ h2,q9.2⟩
 .obtain⟨g1,g2,u,q8⟩:=G.fr.cell y a hy;refine⟨g1,g2,u,q8.1.sameBut x ?_,q8.2⟩;rintro rfl
  obtain⟨oc,e1,e2⟩:=q8.1;replace e1:=ho▸e1;obtain rfl:=aA e1;exact hd _ e2
theorem tM(S:wA scope C.env.scope)(G:oD C ρ st s)(h:(x,a)∈tZ C.env scope.names []):(x,NameKind.free)∈scope.names/\C.env.cells.lookup x=some a/\C.env.kindOf x=some .cell:=by
 rcases qi h with h'|⟨h1,h2⟩
 .cases h'
 .have hk:=S.free x h1;refine⟨h1,?_,hk⟩;rcases hc:C.env.cells.lookup x with _|b
  .exact absurd hc (G.fr.has x<|.inl hk)
  .dsimp only at h2;rw[hc]at h2;rw[h2];rfl
theorem Kx(S:wA scope C.env.scope)(G:oD C ρ st s)(h:(x,NameKind.free)∈scope.names):∃a,(tZ C.env scope.names []).lookup x=some a/\C.env.cells.lookup x=some a:=by exists a,(ha:xv (env:=C.env) (acc:=[])<|.inl h);exists b,(q8:Ba ha);exact⟨b,q8.1,(tM S G q8.2).2.1⟩
theorem oF.comp(S:wA scope C.env.scope)(B:oF k C)(G:oD C ρ st s)(Cl):oF k<|C.comp s.heap (ρ++(tZ C.env scope.names []).map (·.2))<|compEnvC scope (tZ C.env scope.names []) Cl C.env:=by
 exists k,C,ρ,st,s,scope,Cl,[S,B,G];have key:∀b o,C.ajU.get? b=some o->∃o',(hideAll s.heap<|ρ++(tZ C.env scope.names []).map (·.2)).get? b=some o'/\B3 C.F b o o':=λb o e=>by
  exists b,o,_;exists o',(o5:G.sim.keep.1 b o e);refine⟨o',dL _ o5.1 λhm=>?_,o5.2⟩;rcases aO.mp hm with hm|hm
  .exact(G.kept e).2.1 hm
  .exists p,(q_:cA.mp hm);obtain⟨hp,rfl⟩:=q_;obtain⟨x7,h2,h3⟩:=tM S G hp;replace e:=((G.fr.own _ _ h2 h3).1)▸e;exact nn e
 refine⟨B.top.keep ⟨key,G.sim.keep.2⟩ B.hi,B.hi,λf hf=>?_,B.dp,B.un,S.kind,B.gl⟩;exists f,_;exists o,es,n,(q9:B.live f hf);exists o',(q8:key f o q9.1);exact⟨o',es,n,q8.1,q8.2.dict q9.2⟩
theorem oD.WF(S:wA scope C.env.scope)(B:oF k C){H:Hp}{acc Cl:Addr}{vN:Heap}{t:Nat}(o8:oD C ρ st oK)(rL:oD C (ρ++[acc]) ⟨H,st.loc⟩ pQ)(k1:∀b o,oK.heap.get? b=some o->pQ.heap.get? b=some o)(ha:oK.heap.get? acc=none)
 (k2:∀b o,pQ.heap.get? b=some o->vN.get? b=some o)(HI:pQ.heap.get? Cl=none)(hn:vN.Ns Cl λx=>([]:List<|Str×Value).reverse.lookup x)(Af:935<=Cl)(ht:pQ.toks<=t):
  oD (C.comp oK.heap (ρ++(tZ C.env scope.names []).map (·.2))<|compEnvC scope (tZ C.env scope.names []) Cl C.env) (ρ++[acc]) ⟨H,Nt (xS scope C.env.scope) st.loc⟩ {pQ with heap:=vN,toks:=t}:=by
  exists k,C,ρ,st,scope,oK,pQ,H,acc,Cl,vN,t,[S,B,o8,rL,k1,ha,k2,HI,hn,Af,ht];have fresh:∀b,oK.heap.get? b=none->(hideAll oK.heap<|ρ++(tZ C.env scope.names []).map (·.2)).get? b=none:=λb hb=>by
   rcases q:(hideAll oK.heap<|ρ++(tZ C.env scope.names []).map (·.2)).get? b with _|o
   .rfl
   .replace hb:=(dS _ q)▸hb;injection hb
  have abI:oK.heap.get? Cl=none:=by
   rcases q:oK.heap.get? Cl with _|o
   .rfl
   .replace HI:=(k1 _ _ q)▸HI;injection HI
  refine⟨⟨rL.sim.len,rL.sim.nd,λi a ao e1 e2=>?_,λa hm=>⟨?_,(rL.sim.new a hm).2⟩,⟨λb o e=>⟨o,k2 _ _<|k1 _ _<|dS _ e,.refl _ _⟩,λf hf o e=>B.cls o8 f hf o<|dS _ e⟩⟩,⟨⟨_,hn,λx hx=>?_⟩,fresh _ abI,λhm=>?_,λx a hx=>?_,λx a hx hk=>?_,λx hx=>?_,λx a hx=>?_,Af⟩,?_⟩
  .exists o,(vH:rL.sim.obj i a ao e1 e2);exact⟨o,k2 _ _ vH.1,vH.2⟩
  .rcases aO.mp hm with hm|hm
   .exact eM _ (b6 _ hm)
   .rw[aE]at hm;obtain rfl:=hm.symm;exact fresh _ ha
  .have ei:(xS scope C.env.scope).names.lookup x=some .local:=hx;rw[zA,ei];exact trivial
  .exists o,(ho:rL.live hm);exact absurd (HI.symm.trans ho)<|nn
  .exists x,a,_;have qV:=tM S o8<|r9 hx;obtain⟨g1,g2,u,o5⟩:=o8.fr.cell x a qV.2.1;exists u,_;exists oc,(q_:o5.1);obtain⟨e1,e2⟩:=q_;refine⟨λhm=>?_,?_,u,⟨oc,k2 _ _<|k1 _ _ e1,e2⟩,?_⟩
   .rcases aO.mp hm with hm|hm
    .exact g1 hm
    .rw[aE]at hm;subst hm;replace e1:=ha▸e1;injection e1
   .intro q;have e1':oK.heap.get? Cl=some oc:=by exact(show a=Cl from q)▸e1
    replace e1':=abI▸e1';exact nn e1'
   .rw[zA,S.Cw.mpr qV.1];exact o5.2.mono ⟨_,rfl⟩
  .have q9:=tM S o8<|r9 hx;refine⟨eM _<|aW _<|cA.mpr ⟨(x,a),r9 hx,rfl⟩,?_⟩;exists y;intro hy;exact(o8.fr.own x a q9.2.1 q9.2.2).2 y (tM S o8<|r9 hy).2.1
  .exists x,_;rcases hx with hx|hx
   .exists a,(q_:Kx S o8<|S.Cw.mp hx);obtain⟨ha,x7⟩:=q_;intro q;replace ha:=q▸ha;exact nn ha
   .exact absurd hx S.dh
  .obtain⟨h1,q8⟩:=tM S o8<|r9 hx;intro q;have q':(xS scope C.env.scope).names.lookup x=some .local:=q;replace q':=(S.Cw.mpr h1)▸q';injection aA q'
  .have:=rL.tk;lia
theorem oD.WG(S:wA scope C.env.scope){oK s':Shared}{oO:List Addr}{Cl:Addr}{H:Hp}{l:Loc}(o8:oD C ρ st oK)(hp:ρ<+:oO)
 (G':oD (C.comp oK.heap (ρ++(tZ C.env scope.names []).map (·.2))<|compEnvC scope (tZ C.env scope.names []) Cl C.env) oO ⟨H,l⟩ s')(hl:yN (xS scope C.env.scope) (Nt (xS scope C.env.scope) st.loc) l)(HI:oK.heap.get? Cl=none):oD C oO ⟨H,st.loc⟩ s':=by
  exists C,ρ,st,scope,oK,s',oO,Cl,H,l,[S,o8,hp,G',hl,HI];have key:∀b o,C.ajU.get? b=some o->∃o',(C.comp oK.heap (ρ++(tZ C.env scope.names []).map (·.2))<|compEnvC scope (tZ C.env scope.names []) Cl C.env).ajU.get? b=some o'/\B3 C.F b o o':=λb o e=>by
   exists b,o,_;exists o',(q20:o8.sim.keep.1 b o e);refine⟨o',dL _ q20.1 λhm=>?_,q20.2⟩;rcases aO.mp hm with hm|hm
   .exact(o8.kept e).2.1 hm
   .exists p,(q_:cA.mp hm);obtain⟨hp,rfl⟩:=q_;obtain⟨x7,q19⟩:=tM S o8 hp;replace e:=((o8.fr.own _ _ q19.1 q19.2).1)▸e;exact nn e
  have Ie:∀b o,(C.comp oK.heap (ρ++(tZ C.env scope.names []).map (·.2))<|compEnvC scope (tZ C.env scope.names []) Cl C.env).ajU.get? b=some o->b∉oO:=λb o e hm=>by replace e:=((G'.sim.new b hm).1)▸e;injection e
  have locals:∃o es n,(C.comp oK.heap (ρ++(tZ C.env scope.names []).map (·.2))<|compEnvC scope (tZ C.env scope.names []) Cl C.env).ajU.get? C.env.locals=some o/\oK.heap.get? C.env.locals=some o/\o.data=.dict es n:=by
   exists o,es,n,(XY:o8.rR);refine⟨o,es,n,dL _ XY.1 λhm=>?_,XY.1,XY.2⟩;rcases aO.mp hm with hm|hm
   .exact o8.fr.out hm
   .exists p,(q18:cA.mp hm);exact(o8.fr.cell _ _ (tM S o8 q18.1).2.1).2.1 q18.2
  refine⟨⟨G'.sim.len,G'.sim.nd,G'.sim.obj,λa hm=>⟨?_,(G'.sim.new a hm).2⟩,⟨λb o e=>?_,o8.sim.keep.2⟩⟩,⟨?_,o8.fr.none,?_,λx a hx=>?_,o8.fr.own,o8.fr.has,o8.fr.kind,o8.fr.lo⟩,G'.tk⟩
  .rcases e:C.ajU.get? a with _|o
   .rfl
   .exists o',(q_:key a o e);obtain⟨e',Rt⟩:=q_;exact absurd hm<|Ie a o' e'
  .exists o',(ej:key b o e);exists U6,(Rh:G'.sim.keep.1 b o' ej.1);exact⟨U6,Rh.1,ej.2.trans Rh.2 λhb=>o8.sim.keep.2 b hb o e⟩
  .exists _;exists m,(Em:o8.fr.ns);exists o,es,n,(q_:locals);obtain⟨ho,C4⟩:=q_;have Ex:(C.comp oK.heap (ρ++(tZ C.env scope.names []).map (·.2))<|compEnvC scope (tZ C.env scope.names []) Cl C.env).ajU.Ns C.env.locals m:=by exists o',es',ep',(q_:Em.1);obtain⟨h1,r⟩:=q_;replace h1:=C4.1▸h1;obtain rfl:=aA h1;exact⟨_,es',ep',ho,r⟩
   exact k9 ⟨m,G'.sim.keep.ns Ex,λx hx=>(Em.2 x hx).mono hp⟩
  .exists o,es,n,(vH:locals);exact Ie _ _ vH.1
  .exists x,a,_;obtain⟨g1,g2,u,qV⟩:=o8.fr.cell x a hx;by_cases hm:a∈(tZ C.env scope.names []).map (·.2)
   .exists p,(q_:cA.mp hm);obtain⟨hpm,rfl⟩:=q_;have o5:=tM S o8 hpm;have ex:=(o8.fr.own p.1 p.2 o5.2.1 o5.2.2).2 x hx;subst ex;exists b,(q9:Kx S o8 o5.1);have eb:=aA<|q9.2.symm.trans o5.2.1;subst eb;obtain⟨f1,f2,u',f3,f4⟩:=G'.fr.cell p.1 p.2 q9.1;refine⟨f1,g2,u',f3,?_⟩;rw[hl p.1<|S.Cw.mpr o5.1,zA,S.Cw.mpr o5.1]at f4;exact f4
   .exists oc,(q8:qV.1);have h0:=dL _ q8.1 λXT=>by
     rcases aO.mp XT with h|h
     .exact g1 h
     .exact hm h
    exact⟨Ie _ _ h0,g2,u,G'.sim.keep.cell ⟨oc,h0,q8.2⟩,qV.2.mono hp⟩
theorem IZ.head(h:IZ gens t ix g):∃ifs gs,gens=⟨t,ix,ifs,0⟩::gs:=by induction h<;>exact⟨_,_,rfl⟩
inductive aa6(C:Cx)(ρ:List Addr)(b:V)(oE:St)(s s':Shared)(acc:Value)(Cl:Addr):Prop
 |mk (oO:List Addr) (o:Obj) (m:Str->Option Value) (p1:ρ<+:oO) (p2:VC oO b acc) (p3:oD C oO oE s') (p4:pZ C.F s s') (p5:s'.heap.Ns Cl m) (p6:s'.heap.get? Cl=some o) (p7:∀u,o.data≠.cell u) (p8:∀vs,o.data≠.fields vs) (p9:Cl∉oO) (p10:Cl≠C.env.locals) (p11:C.ajU.get? Cl=none) (p12:Cl∉C.F)
theorem Ko{Q:oY}(B:oF k C)(hh:C.A.handled=none)(O:∀C',oF k C'->o4 C' Q){elt:Expr}{gens:List Comprehension}{scope:Scope}{pos:Pos}{use:Option (Value->Sem Unit)}{Qf:Value->Shared->Prop}{E:Value->Shared->Prop}(G:oD C ρ st s){r:r8 V}{oE:St}
 (e:P1 Q C.env.scope (.ListComp elt gens scope pos) st=some (r,oE))
 (WH:∀b acc Cl s',r=.ok b->aa6 C ρ b oE s s' acc Cl->compPost (model PG C.w) C.A E use Qf acc Cl (.ok .next) s'):
 wpAny (model PG C.w) C.A (comprehension (.ListComp elt gens scope pos) scope C.env (firstIterPos gens pos) (newList []) (firstAsync gens) (firstIter gens C.env) use) Qf E s:=by
 exists k,C,ρ,st,s,Q,elt,gens,scope,pos,use,Qf,E,r,oE,[B,hh,O,G,e,WH];obtain⟨⟨t,ix,g⟩,hg,e⟩:=aB.mp<|show(LX gens).bind _=_ from e;dsimp only at e;exists t,ix,g,[hg,e];by_cases hc:(Lr scope C.env.scope&&!yZ ix)=true;rotate_left
 .injection(aL hc).symm.trans e
 obtain⟨⟨a,WJ⟩,h1,e⟩:=aB.mp<|(aH hc).symm.trans e;exists a,WJ,[h1,e];exists xs,(q_:aB.mp e);obtain⟨hx,e⟩:=q_;exists sK,(q_:aB.mp e);obtain⟨ef,e⟩:=q_;injection e with q_;injection q_ with q_ p_;subst q_ p_;rw[aQ,dA]at hc;have S:=Zq hc.1;have K:=EX hg;clear hg;dsimp only at K h1 hx ef WH⊢;exists ifs,gs,(q_:K.head);obtain rfl:=q_;refine wpAny_comprehension_free (g:=⟨t,ix,ifs,0⟩) (gs:=gs) rfl (by exists y;have:=hc.2;rcases ix with _|_<;>first|rfl|injection this) (I7 (scope:=scope) (env:=C.env) λx hm hk=>G.fr.has x.1<|.inl<|S.free x.1 (by refine hk▸?_;exact hm)) S.kind (λx hm hl=>hl▸S.cons x.1 x.2 hm) ?_
 refine(pG (O C B) ix st ρ s).ok G (xL h1) ?_;exists x,oK,pH;intro tH ha o8 ajV;refine L7 hh o8 ha hx _ _ ?_;exists P,o;intro yz VR hc hK hS;have qC:=o8.zU o;refine j7 ?_ (by simp);have rL:=qC.push (o:={cls:=.type "list",data:=.seq ([]:List Value).toArray}) (ao:=.list []) rfl ⟨#[],0,rfl,.nil⟩;have Nu:VC (pH++[(oK.heap.push o).objs.size]) (.ref WJ.length)<|.ref (oK.heap.push o).objs.size:=q7 qC;have Nm:(oK.heap.push o).objs.size=oK.heap.objs.size+1:=dI ..;have k1:∀b ob,oK.heap.get? b=some ob->((oK.heap.push o).push {cls:=.type "list",data:=.seq ([]:List Value).toArray}).get? b=some ob:=λb ob eb=>aZ _<|aZ _ eb;have XV:((oK.heap.push o).push {cls:=.type "list",data:=.seq ([]:List Value).toArray}).get? oK.heap.objs.size=some o:=aZ _<|bT _ yz;have hsz2:((oK.heap.push o).push {cls:=.type "list",data:=.seq [].toArray}).objs.size=oK.heap.objs.size+2:=by simp only[dI]
 refine fF (λy hy=>S.xw y hy) (by exists y;intro hy;cases hy) (λvN hn hs=>?_) S.kind;exists vN,_;have xy:∀b,oK.heap.objs.size<=b->oK.heap.get? b=none:=λb hb=>cB hb;generalize((oK.heap.push o).push {cls:=.type "list",data:=.seq [].toArray})=rZ at*;generalize(oK.heap.push o).objs.size=acc at*;have k2:∀b ob,rZ.get? b=some ob->vN.get? b=some ob:=λb ob eb=>(hs.2 b<|bI<|b9 eb).trans<|aZ _ eb;have HI:rZ.get? rZ.objs.size=none:=cB<|aI _;generalize rZ.objs.size=Cl at*;subst Nm hsz2;have WK:oK.heap.get? (oK.heap.objs.size+2)=none:=xy _<|aT _ _;have loop:=Ei rfl rfl (oF.comp S B o8<|oK.heap.objs.size+2) hh hK hc (scope:=scope) (pos:=pos)
  rfl (λs Q E h=>W5 (ay K) s Q E h) (λh' B' oO s st hp=>FY B' hh O rfl K<|Nu.mono hp) (oD.WF S B o8 rL k1 (xy _<|dM _) k2 HI hn (dG<|v5<|B.K o8)<|aI _) (k2 _ _ XV) VR (λhm=>by
   rcases aO.mp hm with hm|hm
   .exact(o8.fresh).1 hm
   .exact absurd (aE.mp hm) (bI<|dX _)) (bI<|Nat.lt_add_of_pos_right<|dM _) (by
    rcases q:(hideAll oK.heap<|pH++(tZ C.env scope.names []).map (·.2)).get? oK.heap.objs.size with _|o
    .exact q
    .have:=dS _ q;replace this:=(xy _<|aI _)▸this;injection this) ⟨_,rfl⟩ ef
 have fin:=dP (R':=compPost (model PG C.w) C.A E use Qf (.ref<|oK.heap.objs.size+1)<|oK.heap.objs.size+2) loop λr s' P=>by
  exists r,s',[P];obtain⟨⟨f,rfl⟩,oO,Em⟩:=P;exists f,oO,_;exists m,(C4:Em.2.1.fr.ns);exists oC,esC,epC,(q_:id C4.1);obtain⟨hoC,q9⟩:=q_;have hpp:=List.IsPrefix.trans ⟨_,rfl⟩ Em.1;have no0:∀Ia,C.ajU.get? (oK.heap.objs.size+2)≠some Ia:=λIa q=>by exists aiu,(q_:o8.sim.keep.1 _ Ia q);obtain⟨abM,x7⟩:=q_;rw[WK]at abM;injection abM
  have o5:oK.heap.objs.size+2≠C.env.locals:=λq=>by exists Ia,Rt,xc,(q_:o8.rR);obtain⟨KN,HE⟩:=q_;simp only[<-q,WK]at KN;injection KN
  have qV:C.ajU.get? (oK.heap.objs.size+2)=none:=by
   rcases q:C.ajU.get? (oK.heap.objs.size+2)with _|Ia
   .rfl
   .exact absurd q (no0 Ia)
  have vH:oK.heap.objs.size+2∉C.F:=λhm=>by exists Ia,XW,z6_,(q8:B.live _ hm);exact no0 _ q8.1
  have:=WH _ (.ref<|oK.heap.objs.size+1) (oK.heap.objs.size+2) s' rfl ⟨oO,oC,m,tH.trans hpp,Nu.mono Em.1,oD.WG (st:=⟨WJ,st.loc⟩) S o8 hpp Em.2.1 (z6 (Ue) _ _ _ ef) WK,ajV.trans ⟨Em.2.2.os,Em.2.2.dr,Em.2.2.tk,Em.2.2.gn⟩,C4.1,hoC,(λu q=>by rw[q9.1]at q;injection q),(λu q=>by rw[q9.1]at q;injection q),Em.2.1.fr.out,o5,qV,vH⟩;induction use<;>exact this
 exact codeAny_compStart_list fin<|hS _ 0 o (k2 _ _ XV) VR _ _ _ fin
theorem DD(B:oF k C)(hh:C.A.handled=none)(O:∀C',oF k C'->o4 C' Q)(e):Sd C (eval e C.env) VC ρ s st<|P1 Q C.env.scope e st:=by intro G r oE he;obtain⟨⟨q,rfl⟩,_⟩:=Fs he;rw[eval_ListComp];refine Ko B hh O G he λb acc Cl s' hr P=>?_;obtain⟨oO,o,m,p1,p2,p3,p4,p5,p6,p7,p8,p9,p10,p11,p12⟩:=P;exact⟨m,p5,λh' hs=>⟨b,oO,hr,p1,p2,p3.other hs p6 p7 p9 p10 p11,⟨p4.os,p4.dr,p4.tk,p4.gn⟩⟩⟩
theorem vc(B:oF k C)(hh:C.A.handled=none)(O:∀C',oF k C'->o4 C' Q)(e)
 (hu:∀h' oO s' oE b v,ρ<+:oO->VC oO b v->Sd {C with ajU:=h'} (use v) (λU(U:Unit)U=>True) oO s' oE (g b oE)):
  Sd C (evalThenUse e C.env use) (λU U U=>True) ρ s st ((P1 Q C.env.scope e st).then g):=by
  refine Sd.qe λG r xY he Qq E kQ kE=>?_;obtain⟨c,h1,rfl⟩|⟨b,oE,h1,he'⟩:=qJ he
  .obtain⟨_,b,hb⟩:=Fs h1;injection hb
  obtain⟨⟨⟨elt,gens,scope,pos⟩,rfl⟩,_⟩:=Fs h1;refine aD<|bL (Ko B hh O G h1 λb' acc Cl s' hr P=>?_) (λU s' q=>aM q) λU U x=>x;obtain⟨oO,o,m,p1,p2,p3,p4,p5,p6,p7,p8,p9,p10,p11,p12⟩:=P;obtain rfl:=r8.ok.inj hr;have hc0:=zI p6 p10 p9<|p3.Nh p6 p7;refine bL (hu (C.wY s'.heap oO).ajU oO s' oE b acc p1 p2 (p3.wY<|B.cls p3) r xY he') (λU pS P=>?_) λx pS P=>?_
  .exists _;obtain⟨c,pF,er,qT,_,qC,rM⟩:=P;have abO:pS.heap.get? Cl=some o:=by
    obtain⟨o',q8⟩:=qC.sim.keep.1 Cl o hc0;rcases q8.2 with rfl|⟨hm,_⟩|⟨_,_,_,vs,more,hd,_⟩
    .exact q8.1
    .exact absurd hm p12
    .exact absurd hd.1 (p8 vs)
   have aeQ:Cl∉pF:=λhm=>by have:=(qC.sim.new Cl hm).1;replace this:=hc0▸this;injection this
   obtain⟨Ia,abP,abQ,e1,r1⟩:=p5;replace e1:=p6▸e1;injection e1 with q_;subst q_
   exact k9 ⟨m,⟨_,abP,abQ,abO,r1⟩,λh' hs=>kQ _ _ ⟨c,pF,er,p1.trans qT,trivial,(p3.zB qC).other hs abO p7 aeQ p10 p11,⟨(p4.trans rM).os,(p4.trans rM).dr,(p4.trans rM).tk,(p4.trans rM).gn⟩⟩⟩
  .obtain⟨c,pF,er,qT,X,qC,rM⟩:=P;exact kE _ _ ⟨c,pF,er,p1.trans qT,X.zB p3,p3.zB qC,p4.trans rM⟩
theorem OC.some(c:OC w ρ ao o):o.cls≠.none:=by
 exists w,ρ,ao,o,_;induction ao with
 |set xs=> obtain⟨es,ep,t,q8⟩:=c;have:=q8.1.1;rw[this];intro h;injection h
 |list=>obtain⟨_,_,rfl,_⟩:=c;intro h;injection h
 |tuple=>obtain⟨_,_,rfl,_⟩:=c;intro h;injection h
 |dict=>obtain⟨_,_,rfl,_⟩:=c;intro h;injection h
 |o0=>obtain⟨_,rfl,_⟩:=c;intro h;injection h
 |inst=>obtain⟨_,_,_,rfl,_⟩:=c;intro h;injection h
 |cell=>obtain⟨_,rfl,_⟩:=c;intro h;injection h
 |bound=>obtain⟨_,rfl,_⟩:=c;intro h;injection h
 |qG=>obtain⟨_,_,rfl⟩:=c;intro h;injection h
 |mw=>obtain⟨_,_,rfl⟩:=c;intro h;injection h
 |lend=>obtain⟨_,rfl,_⟩:=c;intro h;injection h
 |vals=>obtain⟨_,_,_,rfl⟩:=c;intro h;injection h
 |range=>obtain⟨_,_,_,rfl⟩:=c;intro h;injection h
 |dq=>subst c;intro h;injection h
 |other n=>obtain⟨_,rfl⟩:=c;intro h;injection h
 |r5 zs ob=>obtain⟨rfl,_,_,rfl,_⟩:=c;intro h;injection h
theorem oD.frame(B:oF k C)(G:oD C ρ st s){h':Heap}{t:Nat}(kp:uD C.F (hideAll s.heap X) h')(h1:∀a∈X,a∉ρ/\a≠C.env.locals/\C.ajU.get? a=none/\∀x,C.env.cells.lookup x≠some a)(ht:t≠0):oD C ρ st {s with heap:=h',toks:=t}:=by
 exists k,C,ρ,st,s,X,h',t,[B,G,kp,h1,ht];have there:=λb o e hb=>kp.1 b o<|dL _ e hb;have nX:∀b o,C.ajU.get? b=some o->b∉X:=λb o e hb=>by replace e:=((h1 b hb).2.2.1)▸e;rcases e with _|_
 refine⟨⟨G.sim.len,G.sim.nd,λi a ao e1 e2=>?_,G.sim.new,⟨λb o e=>?_,G.sim.keep.2⟩⟩,⟨?_,G.fr.none,G.fr.out,λx a hx=>?_,G.fr.own,G.fr.has,G.fr.kind,G.fr.lo⟩,ht⟩
 .exists i,a,ao,_;exists o,(q_:G.sim.obj i a ao e1 e2);obtain⟨ho,c⟩:=q_;exists o',(q_:there a o ho λhm=>(h1 a hm).1<|aR e1);obtain⟨e',l⟩:=q_;rcases l with rfl|⟨hm,_⟩|⟨hc,_⟩
  .exact⟨_,e',c⟩
  .exact absurd hm (G.Cr B<|aR e1)
  .exact absurd hc c.some
 .exists o',(qV:G.sim.keep.1 b o e);exists U6,(o5:there b o' qV.1<|nX b o e);exact⟨U6,o5.1,qV.2.trans o5.2 λhb=>G.sim.keep.2 b hb o e⟩
 .exists m,(q8:G.fr.ns);have Ex:(hideAll s.heap X).Ns C.env.locals m:=by exists o,es,ep,(q9:q8.1);exact⟨o,es,ep,dL _ q9.1 λhm=>(h1 _ hm).2.1 rfl,q9.2⟩
  exact⟨m,kp.ns Ex,q8.2⟩
 .exists x,a,_;obtain⟨q1,q2,u,⟨o,ho,hd⟩,q4⟩:=G.fr.cell x a hx;exact⟨q1,q2,u,kp.cell ⟨o,dL _ ho λhm=>(h1 _ hm).2.2.2 x hx,hd⟩,q4⟩
theorem oD.Rj(B:oF k C)(G:oD C ρ st s)(G':oD (C.into s.heap [] env) oO oE s'):oD C (ρ++oO) ⟨st.H++oE.H.map (AO.sh ρ.length),st.loc⟩ s':=by
 exists k,C,ρ,oO,st,oE,s,s',env,_;have h0:∀b o,s.heap.get? b=some o->(C.into s.heap [] env).ajU.get? b=some o:=λb o e=>sX e (by simp);have Nv:∀b o,s.heap.get? b=some o->b∉oO:=λb o e hm=>by have:=h0 b o e;replace this:=((G'.sim.new b hm).1)▸this;injection this
 have U8:=λa ha o e hc=>
  G'.sim.keep.exact (h0 a o e) (λhm=>by
   rcases aK.mp hm with rfl|hm
   .exact G.fr.out ha
   .exact G.Cr B ha hm) (.inl hc)
 have pre:ρ<+:ρ++oO:=⟨_,rfl⟩;refine⟨⟨?_,?_,λi a ao e1 e2=>?_,λa ha=>?_,⟨λb o e=>?_,G.sim.keep.2⟩⟩,⟨?_,G.fr.none,λhm=>?_,λx a hx=>?_,G.fr.own,G.fr.has,G.fr.kind,G.fr.lo⟩,G'.tk⟩
 .simp only[aG,aF,G.sim.len,G'.sim.len]
 .rw[cH];refine⟨G.sim.nd,G'.sim.nd,?_⟩;rintro a ha b hb rfl
  exists o,(ho:G.live ha);exact Nv a o ho hb
 .by_cases hi:i<ρ.length
  .rw[bO hi]at e1;obtain⟨o,Em⟩:=G.sim.obj i a ao e1 (by rw[<-e2];exact(bO<|G.sim.len▸hi).symm);exact⟨o,U8 a (aR e1) o Em.1 Em.2.some,Em.2.mono pre⟩
  .obtain⟨j,rfl⟩:∃j,i=ρ.length+j:=⟨i-ρ.length,by grind⟩;rw[aS<|aT _ _,b5]at e1;have zc:(oE.H.map<|AO.sh ρ.length)[j]?=some ao:=by simp only[<-e2];rw[G.sim.len,aS<|aT _ _,b5]
   replace zc:=bD▸zc;rcases hq:oE.H[j]? with _|ao'
   .replace zc:=hq▸zc;exact nn zc
   .replace zc:=hq▸zc;obtain rfl:=aA zc;exists o,(C4:G'.sim.obj j a ao' e1 hq);exact⟨o,C4.1,C4.2.sh⟩
 .rcases aO.mp ha with h|h
  .exact G.sim.new a h
  .refine⟨?_,(G'.sim.new a h).2⟩;rcases e:C.ajU.get? a with _|o
   .rfl
   .exists o',(vH:G.sim.keep.1 a o e);exact absurd h<|Nv a o' vH.1
 .exists b,o,_;exists o',(q_:G.sim.keep.1 b o e);obtain⟨e',l⟩:=q_;exists U6,(q_:G'.sim.keep.1 b o'<|h0 b o' e');obtain⟨e'',l'⟩:=q_;refine⟨U6,e'',?_⟩;have l2:B3 C.F b o' U6:=by
   rcases l' with rfl|⟨hm,hb0,sl,rfl⟩|r
   .exact .inl rfl
   .rcases aK.mp hm with rfl|hm
    .exact absurd rfl (G.kept e).1
    .exact .inr (.inl ⟨hm,hb0,sl,rfl⟩)
   .exact .inr (.inr ⟨r.1,r.2.1,Mn G.fr.lo r.2.2.1,r.2.2.2⟩)
  exact l.trans l2 λhb=>G.sim.keep.2 b hb o e
 .exists m,(qV:G.fr.ns);have Ex:(C.into s.heap [] env).ajU.Ns C.env.locals m:=by exists o,es,ep,(q_:qV.1);obtain⟨ho,r⟩:=q_;exact⟨o,es,ep,h0 _ _ ho,r⟩
  exact⟨m,G'.sim.keep.ns Ex,λx hx=>(qV.2 x hx).mono pre⟩
 .rcases aO.mp hm with h|h
  .exact G.fr.out h
  .exists o,x7,Rt,(o5:G.rR);exact Nv _ _ o5.1 h
 .exists x,a,_;obtain⟨h1,h2,u,q8⟩:=G.fr.cell x a hx;exists o,(q9:q8.1);refine⟨λhm=>?_,h2,u,G'.sim.keep.cell ⟨o,h0 _ _ q9.1,q9.2⟩,q8.2.mono pre⟩;rcases aO.mp hm with h|h
  .exact h1 h
  .exact Nv _ _ q9.1 h
theorem Uw(G:oD C ρ st s):uD C.F C.ajU (C.into s.heap [] env).ajU:=by refine⟨λb o e=>?_,G.sim.keep.2⟩;obtain⟨o',q8⟩:=G.sim.keep.1 b o e;exact⟨o',sX q8.1<|by simp,q8.2⟩
theorem oF.abR(B:oF (k+1) C)(G:oD C ρ st s)(hf:env.scope.kind=.function)(Ru:env.globals=mainGlobals/\env.builtins=builtinsNs):oF k<|C.into s.heap [] env:=by
 have T:=B.top.keep (Uw (env:=env) G) B.hi;refine⟨T,λf hm=>?_,λf hm=>?_,?_,?_,hf,Ru⟩
 .rcases aK.mp hm with rfl|hm
  .show(KF C.w).lookup C.env.locals=none;rcases q:(KF C.w).lookup C.env.locals with _|o
   .rfl
   .have:=B.top.K _ _ q;rw[G.fr.none]at this;exact nn this
  .exact B.hi f hm
 .rcases aK.mp hm with rfl|hm
  .exists o,es,n,(q9:G.rR);exact⟨o,es,n,sX q9.1<|by simp,q9.2⟩
  .exists o,es,n,(q8:B.dict G hm);exact⟨o,es,n,sX q8.1<|by simp,q8.2⟩
 .have:=B.dp;show C.A.depth+1+k<1000;lia
 .have:=B.un;show C.A.units+3+20*k<9000;lia
theorem oD.WL(B:oF k C)(G:oD C ρ st s){h':Heap}{t:Nat}{loc:Loc}(keep:∀b o,s.heap.get? b=some o->h'.get? b=some o)(hL:s.heap.get? env.locals=none)
 (hn:∃m,h'.Ns env.locals m/\∀x,env.kindOf x=some .local->LR [] (loc.lookup x) (m x))(ht:s.toks<=t)
 (hc:∀x a,env.cells.lookup x=some a->s.heap.get? a=none/\a≠env.locals/\(∃u,h'.IsCell a u/\LR [] (loc.lookup x) u)/\(∀y,env.cells.lookup y=some a->y=x)/\env.kindOf x≠some .local)
 (hh:∀x,(env.kindOf x=some .cell\/env.kindOf x=some .free)->env.cells.lookup x≠none)(Af:935<=env.locals):oD (C.into s.heap [] env) [] ⟨[],loc⟩ {s with heap:=h',toks:=t}:=by
 refine⟨⟨rfl,.nil,λi a ao e1 e2=>by exact nn e1,(λa ha=>by cases ha),⟨λb o e=>⟨o,keep _ _<|yL e,.refl _ _⟩,λf hf o e=>?_⟩⟩,⟨hn,w7 hL,(λhm=>by cases hm),λx a hx=>?_,λx a hx hk=>?_,hh,λx a hx=>(hc x a hx).2.2.2.2,Af⟩,?_⟩
 .have e':=yL e;rcases aK.mp hf with rfl|hf
  .obtain⟨o',es,n,ho,hd⟩:=G.rR;rw[ho]at e';obtain rfl:=aA e';exact⟨es,n,hd⟩
  .exact B.cls G f hf o e'
 .obtain⟨h1,h2,⟨u,h3,h4⟩,_⟩:=hc x a hx;exact⟨(λhm=>by cases hm),h2,u,h3,h4⟩
 .exact⟨w7 (hc x a hx).1,(hc x a hx).2.2.2.1⟩
 .have:=G.tk;lia
def Bz(n:Nat):r8 V->r8 V
 |.ok v=>.ok<|V.sh n v
 |.exc c=>.exc c
theorem rN.Rj(G:oD C ρ st s){oO:List Addr}{s':Shared}(x:rN (C.into s.heap [] env) oO c e s'):rN C (ρ++oO) c e s':=by
 have key:∀a,(C.into s.heap [] env).ajU.get? a=none->C.ajU.get? a=none/\a≠C.env.locals/\a∉ρ:=λa h=>by
  have h0:s.heap.get? a=none:=by
   rcases q:s.heap.get? a with _|o
   .rfl
   .rw[sX q<|by simp]at h;injection h
  refine⟨?_,?_,λhm=>?_⟩
  .rcases q:C.ajU.get? a with _|o
   .rfl
   .obtain⟨o',e',_⟩:=G.sim.keep.1 a o q;rw[h0]at e';exact nn e'
  .rintro rfl
   obtain⟨o,_,_,ho,_⟩:=G.rR;replace ho:=h0▸ho;rcases ho with _|_
  .obtain⟨o,ho⟩:=G.live hm;replace ho:=h0▸ho;exact nn ho
 obtain⟨a,o,vs,a0,rfl,ho,hd,hv,hc,h1,h2,h3,h4⟩:=x.ex;have q9:=key a h2;refine⟨a,o,vs,a0,rfl,ho,hd,hv,hc,λhm=>?_,q9.1,q9.2.1,?_⟩
 .rcases aO.mp hm with h|h
  .exact q9.2.2 h
  .exact h1 h
 .rcases h4 with h4|⟨t,ot,vt,fl,g1,g2,g3,g4,g5,g6,g7,g8⟩
  .exact .inl h4
  .have q8:=key t g6;refine .inr ⟨t,ot,vt,fl,g1,g2,g3,g4,λhm=>?_,q8.1,q8.2.1,g8⟩;rcases aO.mp hm with h|h
   .exact q8.2.2 h
   .exact g5 h
set_option backward.match.sparseCases true in
theorem qx{S:Bool->oY}{ρ:List Addr}{s:Shared}{st:St}(B:oF (k+1) C)(L:pP C)(OK:qF k S){fd:FuncData}{body:List Stmt}{env:Env}(zD:env.scope=fd.scope)(hk:fd.scope.kind=.function)(yz:env.frame=some env.locals)(Ru:env.globals=mainGlobals/\env.builtins=builtinsNs)(cy:An env)(G:oD C ρ st s){oK:Shared}{loc:Loc}(ajV:pZ C.F s oK)
 (o8:oD (C.into s.heap [] env) [] ⟨[],loc⟩ oK){r:r8 V}{H':Hp}(e:pN (rA S fu false fd.scope body ⟨[],loc⟩)=some (r,H')):
 codeAny (model PG C.w) C.A (.func body env) (λr' s'=>match r' with|.ok (.ret v)=>PQ C VC ρ s (Bz ρ.length r) ⟨st.H++H'.map (AO.sh ρ.length),st.loc⟩ v s'|.ok _=>False|.error x=>PE C ρ s (Bz ρ.length r) ⟨st.H++H'.map (AO.sh ρ.length),st.loc⟩ x s') oK:=by
 exists k,fu,C,S,ρ,s,st,fd,body,env,oK,loc,r,H',[B,L,OK,zD,hk,yz,Ru,cy,G,ajV,o8,e];have hke:env.scope.kind=.function:=by exact zD▸hk
 have B':=B.abR G hke Ru;have L':=pP.into (ρ:=[]) (h:=s.heap) B L yz hke cy o8.fr.lo;have B0:=oF.le B<|dM k;have pre:∀pF:List Addr,ρ<+:ρ++pF:=λpF=>⟨_,rfl⟩;rcases h1:rA S fu false fd.scope body ⟨[],loc⟩with _|p
 .replace e:=h1▸e;exact nn e
 .obtain⟨q,sK⟩:=p;replace e:=h1▸e;refine kM ?_;refine bL (yG OK body false (C.into s.heap [] env) B' (λU=>L') [] oK ⟨[],loc⟩ o8 q sK (by simp[<-h1];show rA S fu false env.scope body _=_;rw[zD])) (λf pS P=>?_) λx pS P=>?_
  .obtain⟨fl,pF,e2,qT,hr,qC,rM⟩:=P;subst e2;rcases fl with _|_|_|v
   .subst hr;obtain⟨rfl,rfl⟩:=bQ<|aA e;exact⟨.none,ρ++pF,rfl,pre pF,rfl,G.Rj B0 qC,ajV.trans<|rM.out G.fr.lo⟩
   .exact nn e
   .exact nn e
   .obtain⟨y,rfl,hv⟩:=hr;obtain⟨rfl,rfl⟩:=bQ<|aA e;exact⟨_,ρ++pF,rfl,pre pF,hv.sh,G.Rj B0 qC,ajV.trans<|rM.out G.fr.lo⟩
  .obtain⟨c,pF,e2,qT,X,qC,rM⟩:=P;subst e2;obtain⟨rfl,rfl⟩:=bQ<|aA e;exact aD<|Wi B' L' qC X λpQ rL Va Q9 wF=>Ho B' rL Va Q9 λCq Np VV U xd=>⟨c,ρ++pF,rfl,pre pF,VV.Rj G,G.Rj B0 Np,ajV.trans<|((rM.trans wF).trans xd).out G.fr.lo⟩
def NV(st:St)(o:Option<|r8 V×Hp):oM V:=match o with
 |some (r,H')=>some (Bz st.H.length r,⟨st.H++H'.map (AO.sh st.H.length),st.loc⟩)
 |none=>none
theorem di(h:NV st o=some (r,oE)):∃cw H',o=some (cw,H')/\r=Bz st.H.length cw/\oE=⟨st.H++H'.map (AO.sh st.H.length),st.loc⟩:=by
 exists st,oE,o,r,_;rcases o with _|p
 .rcases h with _|_
 .obtain⟨cw,H'⟩:=p;exists cw,H',_;obtain⟨rfl,rfl⟩:=bQ<|aA h;exact⟨_,_,rfl,rfl,rfl⟩
theorem Gi{S:Bool->oY}{ρ:List Addr}{s:Shared}{st:St}(B:oF (k+1) C)(L:pP C)(OK:qF k S){a:Addr}{fd:FuncData}{body:List Stmt}(F:CX C.w a fd body)(Cu:fd.scope.names.all (λx=>x.2 !=.free&&fd.scope.names.lookup x.1==some x.2)=true)
 {xs:List Value}{ks:List (Str×Value)}{loc:Loc}{bs:List (Str×Value)}(hb:peek (KF C.w) ⟨PG,C.w.params⟩ (bindArgs fd ⟨xs,ks⟩)=some bs)(hl:oN (KR []) loc bs)(xP:∀x∈bs,fd.scope.names.lookup x.1=some .local):
 Cd C (.call (.ref a) ⟨xs,ks⟩) ρ s st (NV st<|pN<|rA S fu false fd.scope body ⟨[],loc.reverse⟩):=by
 exists k,fu,C,S,ρ,s,st,a,fd,body,xs,ks,loc,bs,[B,L,OK,F,Cu,hb,hl,xP];intro G;exists r,oE;intro e;exists r,H',(q_:di e);obtain⟨e1,rfl,rfl⟩:=q_;refine G.len▸?_;exists o,(q8:F.obj);have T:=B.top.keep G.sim.keep B.hi;have X:=T.K;refine e9 (by have:=B.dp;show C.A.depth<1000;lia) (X _ _ q8.1) q8.2 F.co F.gen F.body (tU X F.code) ?_;refine(cZ X hb).here ?_;refine F.clo▸?_;refine fC (aI s.toks) ?_;refine jU F.kind (λx hx=>.inl<|xP x hx) ?_;exists env;intro he;exists s';intro x;subst he;intro A9;refine⟨T.lim.keeps x.toInCall.keep,?_⟩;exists h',tk,(es:x.toInCall.same);subst es;simp only[aX,aQ,hV,ne_eq,a5]at Cu;have mem:∀y b,(cellsFrom (s.heap.objs.size+1) fd.scope.names []).lookup y=some b->(y,b)∈cellsFrom (s.heap.objs.size+1) fd.scope.names []:=λy b q=>cF q;have kind:∀y b,(y,b)∈cellsFrom (s.heap.objs.size+1) fd.scope.names []->fd.scope.names.lookup y=some .cell:=λy b q=>by
  rcases yR _ _ _ _ _ q with h|h
  .exact(Cu (y,.cell) h).2
  .cases h
 have qC:=G.WL B x.toInCall.keep (cB<|aI _)
  ⟨_,x.toInCall.ns,λy hy=>by rw[Bm _ _ _ xP];have:=s6 (tC hl) y;induction hq:bs.reverse.lookup y<;>simp only[hq]at this<;>exact this⟩ A9
  (λy b hy=>by
   have hm:=mem y b hy;have Jb:=x.above y b hm;refine⟨cB<|bS Jb,cX Jb,⟨none,?_,?_⟩,λz hz=>(name_of_addr x.apart hm<|mem z b hz).symm,λq=>?_⟩
   .have:=x.cell y b hy;rw[Gp _ _ _ xP]at this;exact this
   .have:=s6 (tC hl) y;rcases hq:loc.reverse.lookup y with _|u
    .exact trivial
    .rw[hq]at this;rcases hq2:bs.reverse.lookup y with _|z
     .simp only[hq2]at this;exact this.elim
     .have:=xP (y,z)<|m3.mp<|cF hq2;replace this:=(kind y b hm)▸this;injection aA this
   .have q':fd.scope.names.lookup y=some .local:=q;replace q':=(kind y b hm)▸q';cases q')
  (λy hy q=>by
   rcases hy with hy|hy
   .have:=z4 fd.scope.names (s.heap.objs.size+1) [] y<|.inl<|cF hy;replace this:=q▸this;injection this
   .exact(Cu (y,.free)<|cF hy).1 rfl) (v5 T.K)
 exact qx B L OK rfl F.kind rfl F.gl F.cd G (pZ.to A9) qC e1
theorem N9{S:Bool->oY}{ρ:List Addr}{s:Shared}{st:St}(B:oF (k+1) C)(L:pP C)(OK:qF k S){a:Addr}{vs:List V}{kv:List (Str×V)}{xs:List Value}{ks:List (Str×Value)}(hv:oN (VC []) vs xs)(hk:oN (KR []) kv ks):
 Cd C (.call (.ref a) ⟨xs,ks⟩) ρ s st (NV st<|oG S fu a vs kv []):=by
 unfold oG;rcases hr:Xg a vs kv with _|loc
 .exact λG r oE e=>nn e
 .obtain⟨hc,bs,h1,h2,h3⟩:=zK (w:=C.w) hr hv hk;obtain⟨fd,Ym,F,hs⟩:=Ih (w:=C.w) hc;have zD:=aX.mp Jo a (by simpa using hc);simp only[Ym]at h1;dsimp only[sH];rw[<-hs]at h3 zD⊢;exact Gi B L OK F zD (aA h1) h2 h3
theorem Bw:∀l,oN (VC ρ) ((l.map (·.1)).map V.str) (strValues l)
 |[]=>.nil
 |(x,t)::r=>.cons ⟨t,rfl⟩<|Bw r
open Builtin.Str in
theorem gm(hy:(y.length==0)=false)(hx:x.length<big)(hn:(partsBetween x (occurrences x y 0 x.length<|x.length+1) y.length).length<big):
 Sd C (call (.builtin "str.split") [.str x t,.str y u]) VC ρ s st (some (.ok<|.ref st.H.length,{st with H:=st.H++[.list<|(Txt.split x y).map V.str]})):=by
 exists C,ρ,st,s,x,y,t,u,_;refine Sd.of λG Q E kk=>?_;have bl:=rG;have one:∀(e:Txt.split x y=[x]),Q (.ref s.heap.objs.size) {s with heap:=s.heap.push {cls:=.type "list",data:=.seq [Value.str x t].toArray}}:=λe=>
  kk _ _ _ ⟨_,rfl⟩ (q7 G) (G.push rfl ⟨_,0,rfl,by exact e▸(.cons ⟨t,rfl⟩ .nil)⟩) (pZ.oV ..)
 induction h1:(decide (x.length<y.length)||decide (strKind x<strKind y))
 .induction hf:(occurrences x y 0 x.length<|x.length+1).isEmpty
  .refine iC iV (fT _ _ _) j3 (jW _ _) (meets_str_split_sep x y t u h1 hy hf (bC (bS hx) bl)<|bC (bS hn) bl) ?_;rw[strsFrom_eq];have e:Txt.split x y=(numbered s.toks<|partsBetween x (occurrences x y 0 x.length<|x.length+1) y.length).map (·.1):=
    ((numbered_texts _ _).trans ((aL<|ne_true_of_eq_false h1).trans<|aL<|ne_true_of_eq_false hf).symm).symm
   exact kk _ _ _ ⟨_,rfl⟩ (q7 G) ((G.push (ao:=.list<|(Txt.split x y).map V.str) rfl ⟨_,0,rfl,by exact e▸(Bw _)⟩).tok (partsBetween x (occurrences x y 0 x.length<|x.length+1) y.length).length)<|pZ.heap s _ _
  .exact iC iV (fT _ _ _) j3 (jW _ _) (meets_str_split_not_found x y t u h1 hy hf) (one<|(aL<|ne_true_of_eq_false h1).trans<|aH hf)
 .exact iC iV (fT _ _ _) j3 (jW _ _) (meets_str_split_cannot_occur x y t u h1) (one<|aH h1)
def By(x:Str)(es:List<|Str×V):List<|Str×V:=es.filter λe=>e.1≠x
def yD(a b:V)(H:Hp):Option Hp:=vR (λi=>vS (λx H=>(dE H i).bind λes=>if(es.lookup x).isSome=true/\es.length<big then some (H.set i<|.dict<|By x es)else none) b) a H
theorem N4(x)(h:oN (KR ρ) es rQ):oN (KR ρ) (By x es)<|without rQ x:=by
 induction h with
 |nil=>exact .nil
 |@cons e kv es rQ h t ih=>
  unfold By without at ih⊢;simp only[m5];have h1:=h.1;by_cases hx:e.1=x
  .rw[aL<|by simpa using hx,aL<|by simpa using h1▸hx];exact ih
  .rw[aH<|by simpa using hx,aH<|by simpa using h1▸hx];exact .cons h ih
theorem U3(B:oF k C){a i:V}{x j:Value}(ha:VC ρ a x)(hi:VC ρ i j):Sd C (delItem x j) UR ρ s st<|uL st<|(yD a i st.H).map λh=>((),h):=by
 refine gR (lift:=lU st) (T:=(delItem · j)) rfl ha λp a' Qz hr=>gS rfl hi λz t=>gB rfl λes hp=>As rfl λhz=>Sd.of λG Q E kk=>?_;obtain⟨_,rQ,e,hr,q9⟩:=G.dict (tQ hp) hr;injection e with e;subst e;have hv:(valueAt rQ z).isSome=true:=by
  have:=vU q9.2 z;rcases h1:es.lookup z with _|u
  .rw[h1]at hz;injection hz.1
  .rw[h1]at this;rcases h2:valueAt rQ z with _|w
   .rw[h2]at this;exact this.elim
   .rfl
 refine wpAny_delItem_slot q9.1.typeIs (rfl) lW<|kO lW q9.1.typeIs F.entry_dict_delitem (F.args_dict_delitem_2 _ _) (meets_dict_delitem_pairs (strKind PG C.w) a'<|hZ PG C.w z t) ⟨rQ,q9.1,?_,hv,λh' tI hs=>?_⟩
 .exact q9.2.length▸(bC (bS hz.2) rG)
 .obtain⟨o,q8⟩:=Fy tI<|N4 z q9.2;exact kk () _ ρ (a8 _) trivial (G.uX hr hs q8.1 q8.2<|aT _ _)<|pZ.to<|aT _ _
theorem TQ{i:Nat}{es:List (Str×V)}{x:Str}(h:H[i]?=some (.dict es))(hx:(es.lookup x).isSome=true)(hz:es.length<big):yD (.ref i) (.str x) H=some (H.set i<|.dict<|By x es):=by show(dE H i).bind _=_;rw[O7 h];exact aH ⟨hx,hz⟩
theorem Es(l)(items)(aeR:(items.size:Int)<2^63):
 Meets (Builtin.«bool.__new__» ⟨[.type "bool",.ref l],[]⟩) (λU R s=>s.heap.IsList l items/\R (.ok<|.ret<|.bool (!items.isEmpty)) {s with toks:=s.toks+1+1}):=
 m9 λprog w A R s hs=>by
  have q8:=hs;have f1:=F.conv_sub_bool;repeat(any_goals(first|assumption|(with_reducible refine mM q8.1 aeR ?_)|wp_step))
  all_goals first|exact⟨_,rfl,q8.2⟩|exact q8.2|skip
theorem Ld(hi:st.H[i]?=some (.list xs))(hz:xs.length<big)(hv:VC ρ (.ref i) y):
 Sd C (call (.type "bool") [y]) VC ρ s st (some (.ok<|.bool (!xs.isEmpty),st)):=by
 refine Sd.plain λG Q E kk=>?_;obtain⟨a,vs,n,rfl,hr,ho,Vb⟩:=G.list hi hv;have hl:xs.length=vs.size:=Vb.length;unfold big at hz;refine call_bool_1 (Es a vs<|by omega) ⟨⟨_,ho,rfl,n,rfl⟩,⟨rfl,kk _ 2 ?_⟩⟩;rcases xs with _|⟨b,l⟩
 .have:=fO hl.symm;subst this;rfl
 .have:vs.isEmpty=false:=by rw[jQ];rintro rfl;simp at hl
  exact this▸rfl
section
theorem pf:mroOf (.type "collections.deque")=pure [.type "collections.deque",.type "object"]:=by rw[mroOf_type];rfl'
theorem Iz:typeLookup (.type "collections.deque") "__new__" =pure (some<|.builtin "collections.deque.__new__"):=by rw[d7,cS];rfl'
theorem Nc:Slot "collections.deque" "__init__" "collections.deque.__init__" :=
 .of (owner:= "collections.deque") (n:= "__init__") (by rw[d7,cS];rfl') (by decide+kernel) (by decide+kernel) (by decide+kernel)
  (by first|exact .inl (by decide+kernel)|exact .inr<|by decide+kernel) (by rw[dH];rfl')
theorem af:TypeCalled "collections.deque" "collections.deque.__new__" "collections.deque.__init__" :=
 ⟨by decide+kernel,by decide+kernel,⟨_,_,pf⟩,madeBy_type pf Iz<|by decide+kernel,by decide+kernel,by rw[dH];rfl',Nc⟩
theorem O3:checkTypeCall "collections.deque" ⟨[],[]⟩=pure ():=by rfl'
theorem Sn:checkBuiltinCall "collections.deque.__new__" ⟨[.type "collections.deque"],[]⟩=pure ():=by rfl'
theorem Lz:entryFor table "collections.deque.__new__" =some Builtin.«collections.deque.__new__»:=fN<|by rfl'
theorem I8:entryFor table "collections.deque.__init__" =some Builtin.«collections.deque.__init__»:=fN<|by rfl'
theorem Mx(a):argsOk "collections.deque.__init__" ⟨[a],[]⟩:=by rfl'
def Dz(n:Int):Obj:={cls:=.type "collections.deque",data:=.fields #[.none,rawInt n]}
theorem Pr:Builtin.«collections.deque.__new__» ⟨[.type "collections.deque"],[]⟩=(newObj (.type "collections.deque") (.fields #[.none,rawInt 0]) none>>=λv=>ret v):=by rfl'
theorem Mc(a):Builtin.«collections.deque.__init__» ⟨[.ref a],[]⟩=(setField (.ref a) 0 .none>>=λU=>Builtin.Deque.clear (.ref a)>>=λU=>ret .none):=by rfl'
theorem Na:Meets (Builtin.«collections.deque.__new__» ⟨[.type "collections.deque"],[]⟩) λU R s=>R (.ok<|.ret<|.ref s.heap.objs.size) {s with heap:=s.heap.push (Dz 0)}:=
 m9 λprog w A R s hs=>by exact Pr▸(aD<|eD<|aM ⟨_,rfl,hs⟩)
theorem Ja(a):Meets (Builtin.«collections.deque.__init__» ⟨[.ref a],[]⟩) λU R s=>s.heap.get? a=some (Dz 0)/\R (.ok<|.ret .none) {s with heap:=s.heap.update a (Obj.mapFields (·.setIfInBounds 0 .none))}:=
 m9 λprog w A R s hs=>by have q8:=hs;rw[Mc];refine aD<|iI q8.1 rfl (dM _) ?_;refine aD ?_;refine aD<|aD<|jX (cT _ q8.1 rfl) rfl<|aM ?_;exact aM<|aM ⟨_,rfl,q8.2⟩
theorem ux{st:St}(B:oF k C):Sd C (call (.type "collections.deque") []) VC ρ s st<|wU (.dq) st:=by
 exists k,C,ρ,s,st,_;refine Sd.of λG Q E kk=>?_;have ho:(s.heap.push<|Dz 0).get? s.heap.objs.size=some (Dz 0):=bT _ rfl;refine callType_meets (Q₁:=λobj oK=>obj=.ref s.heap.objs.size/\oK={s with heap:=s.heap.push (Dz 0)}) af O3 Sn Lz I8 Na ⟨rfl,rfl⟩ λobj oK hq=>?_;obtain⟨rfl,rfl⟩:=hq;refine⟨⟨_,ho,rfl⟩,Mx _,_,Ja _,ho,rfl,?_⟩;have hi:(ρ++[s.heap.objs.size])[st.H.length]?=some s.heap.objs.size:=by rw[<-G.len,aS<|aI _,cD];rfl
 have G2:=(G.push (ao:=.dq) rfl rfl).uX (ao:=.dq) (h':=(s.heap.push<|Dz 0).update s.heap.objs.size<|Obj.mapFields (·.setIfInBounds 0 Value.none)) hi (fK ..) (cT _ ho rfl) rfl<|aI _;have e:(st.H++[AO.dq]).set st.H.length (.dq)=st.H++[.dq]:=by refine a6 (dO _ _<|aI _) ?_;rw[cD];rfl
 simp only[show{{st with H:=st.H++[AO.dq]}with H:=(st.H++[AO.dq]).set st.H.length (.dq)}={st with H:=st.H++[.dq]}from by rw[e]]at G2;exact kk _ _ _ ⟨_,rfl⟩ (q7 G) G2<|pZ.oV ..
theorem v6:Slot "collections.deque" "__len__" "collections.deque.__len__" :=
 .of (owner:= "collections.deque") (n:= "__len__") (by rw[d7,cS];rfl') (by decide+kernel) (by decide+kernel) (by decide+kernel)
  (by first|exact .inl (by decide+kernel)|exact .inr<|by decide+kernel) (by rw[dH];rfl')
theorem Lj:entryFor table "collections.deque.__len__" =some Builtin.«collections.deque.__len__»:=fN<|by rfl'
theorem P5(a):argsOk "collections.deque.__len__" ⟨[a],[]⟩:=by unfold argsOk;rfl'
theorem J5:typeLookup (.type "collections.deque") "__bool__" =pure none:=by rw[d7,cS];rfl'
theorem N8(a):Builtin.«collections.deque.__len__» ⟨[.ref a],[]⟩=(Builtin.Deque.size (.ref a)>>=λn=>retInt n):=by rfl'
theorem Qa{l:Addr}{Q:Value->Shared->Prop}(ho:s.heap.get? l=some (Dz 0))(h:Q (.int 0<|s.toks+1) {s with toks:=s.toks+1+1}):
 wpAny (model PG w) A (Builtin.«len» ⟨[.ref l],[]⟩) (λfin s'=>∃r,fin=.done (.ret r)/\Q r s') E s:=by
 exists s,w,A,E,l,Q,_;have hT:s.TypeIs (.ref l) "collections.deque" :=⟨_,ho,rfl⟩;refine aD<|aM ?_;refine aD (wpAny_callSpecial?_slot hT v6
  (gP v6 hT Lj ?_<|P5 _))
 rw[N8];exact aD<|aD<|jX ho rfl<|aM<|aD<|wpAny_mkInt<|aM ⟨_,rfl,aD<|cL<|aM<|aD<|i7<|aD<|wpAny_mkInt<|aM ⟨_,rfl,h⟩⟩
theorem Yy{l:Addr}{Q:Bool->Shared->Prop}(ho:s.heap.get? l=some (Dz 0))(h:Q false {s with toks:=s.toks+1+1}):wpAny (model PG w) A (truthy<|.ref l) Q E s:=by
 exists s,w,A,E,l,Q,_;have hT:s.TypeIs (.ref l) "collections.deque" :=⟨_,ho,rfl⟩;have key:wpAny (model PG w) A (runValue<|.builtin "len" ⟨[.ref l],[]⟩) (λr s'=>r=.int 0 (s.toks+1)/\Q false s') E s:=by refine wpAny_runValue<|eP entry_len ?_;exact(eB plain_len _)▸(bL (Qa (Q:=λr s'=>r=.int 0 (s.toks+1)/\Q false s') ho ⟨rfl,h⟩) (λfin s' h'=>by obtain⟨r,rfl,hq⟩:=h';exact hq) λU U e=>e)
 first
  |refine aD<|kH hT J5 ?_
  |refine aD<|aM<|aD<|kH hT J5 ?_
 first
  |refine aD<|jC hT v6.lookup ?_
  |refine aD<|aM<|aD<|jC hT v6.lookup ?_
 first
  |exact aD<|bL key (λr s' h'=>by obtain⟨rfl,hq⟩:=h';exact aM hq) λU U e=>e
  |exact aD<|aM<|aD<|bL key (λr s' h'=>by obtain⟨rfl,hq⟩:=h';exact aM hq) λU U e=>e
def dqO:AO->Option Unit
 |.dq=>some ()
 |_=>none
def NX(a:V):Hp->Option Bool:=vR (λi H=>(H[i]?).bind λo=>(dqO o).bind λU=>some false) a
theorem zn(ha:VC ρ a x):Sd C (truthy x) (λU b c=>b=c) ρ s st<|sO st<|NX a st.H:=
 gR rfl ha λi l hl hr=>gB rfl λo hi=>gB rfl λU ho=>Sd.plain λG Q E kk=>by
  induction o<;>first|exact nn ho|skip
  obtain⟨o,ho,rfl⟩:=G.sim.obj _ _ _ hl hi;exact Yy ho<|kk _ 2 rfl
end
def pA{α:Type}:List α->List α
 |[]=>[]
 |[a]=>[a]
 |a::_::r=>a::pA r
theorem V7:pA ([]:List α)=[]:=rfl
theorem Mh:pA [a]=[a]:=rfl
theorem acr:pA (a::b::r)=a::pA r:=rfl
theorem Jz{α β:Type}(f:α->β)(l):pA (l.map f)=(pA l).map f:=by
 induction l using L9 with
 |h0=>rfl
 |h1 a=>rfl
 |h2 a b r ih=>exact aV (f a:: ·) ih
theorem Ec{α:Type}(xs:List α):((List.range<|(xs.length+1)/2).map λk=>2*k).filterMap (xs[·]?)=pA xs:=by
 induction xs using L9 with
 |h0=>simp[V7]
 |h1 a=>simp[Mh]
 |h2 a b r ih=>
  simp only[show((a::b::r).length+1)/2=(r.length+1)/2+1 from j4 (r.length+1)<|c6 1,List.range_succ_eq_map];show a::_=a::pA r;simp only[<-ih];congr 1
  simp[List.filterMap_map];rfl
theorem aaV(xs:List V)(a b:Nat)(hb:b<=xs.length):(sliceRange a b 1).filterMap (xs[·]?)=(xs.drop a).take (b-a):=by
 rw[sliceRange_one];by_cases h:a<=b
 .rw[StrLaws.picks xs (b-a) a (lk<|aC (aN<|aY ((lk h):a<=b)) hb)]
 .have:b-a=0:=by lia
  exact this▸rfl
theorem JO(k n:Nat):max (0:Int) (min (k:Int) (n:Int))=((min k n:Nat):Int):=
 (Int.max_eq_right<|Int.le_min.mpr ⟨eK k,eK n⟩).trans (Lean.Omega.Int.ofNat_min k n).symm
theorem W7(k n:Nat):(if(1:Int)>0 then max 0 (min (if(k:Int)<0 then(k:Int)+n else k) (n:Int))else max (-1)<|min (if(k:Int)<0 then(k:Int)+n else k)<|(n:Int)-1)=((min k n:Nat):Int):=by rw[aL<|oA.mpr<|eK k];exact JO k n
theorem Sc{lo hi:Option Int}{a b:Nat}(h:sliceBounds lo hi none xs.length=((a:Int),(b:Int),(1:Int)))(hb:b<=xs.length):pick xs lo hi none=(xs.drop a).take (b-a):=by unfold pick;rw[h];exact aaV xs a b hb
theorem ar(xs)(k:Nat):pick xs none (some (k:Int)) none=xs.take k:=
 (Sc (hi:=some k) (fM rfl<|fM (W7 k xs.length) rfl)<|m6 _ _).trans lC.symm
theorem Zz(xs)(k:Nat):pick xs (some (k:Int)) none none=xs.drop k:=
 (Sc (lo:=some k) (fM (W7 k xs.length) rfl)<|aI _).trans ((eV (by rw[eX];exact aI _)).trans lD.symm)
theorem oj(xs)(k:Nat):pick xs (some (k:Int)) (some<|(k:Int)+3) none=(xs.drop k).take 3:=by
 refine(Sc (lo:=some k) (hi:=some<|k+3) (fM (W7 k xs.length)<|fM (W7 (k+3) xs.length) rfl)<|m6 _ _).trans ?_;rw[<-lD];rcases Nat.le_total k xs.length with h|h
 .rw[jE h,<-Nat.sub_min_sub_right,b5,<-eX];exact lC.symm
 .rw[kP h,nU,nU]
theorem rh(n:Nat):sliceRange 0 n 2=(List.range<|(n+1)/2).map λk=>2*k:=by
 revert n;exists n;unfold sliceRange;have e:(if(2:Int)>0 then(if(0:Int)<n then((n:Int)-0+2-1)/2 else 0)else(if(0:Int)>n then(0-n-2-1)/(-2)else 0)).toNat=(n+1)/2:=by
  simp only[show(2:Int)>0 from by decide,if_true];split
  .lia
  .simp_all
 dsimp only;rw[e];apply dN;intro k _;lia
theorem zj(xs):pick xs none none (some 2)=pA xs:=by dsimp only[pick,sliceBounds];simp[Option.getD_some];simp only[rh,Ec]
theorem YO(n:Nat):max (0:Int) (min (-1+(n:Int)) (n:Int))=((n-1:Nat):Int):=by
 rcases n with _|n
 .rfl
 .rw[Int.natCast_succ,Int.add_comm,Int.add_neg_cancel_right];exact(JO n<|n+1).trans<|aV _<|jE<|dM n
theorem ke(xs):pick xs none (some (-1)) (some 2)=pA xs.dropLast:=by
 revert xs;exists xs;unfold pick;rw[show sliceBounds none (some (-1)) (some 2) xs.length=(0,((xs.length-1:Nat):Int),2)from fM rfl<|fM (YO xs.length) rfl];simp only[rh,<-Ec xs.dropLast,List.length_dropLast];have key:∀l:List Nat,(∀k∈l,k<xs.length-1)->l.filterMap (xs[·]?)=l.filterMap (xs.dropLast[·]?):=by
  intro l;induction l with
  |nil=>intro _;rfl
  |cons k l ih=> intro h;refine a6 gU ?_;rw[gU,(by rw[List.getElem?_dropLast,aH<|h k cN]:xs.dropLast[k]?=xs[k]?),ih λj hj=>h j<|cO _ hj]
 refine key _ λk hk=>?_;obtain⟨j,hj,rfl⟩:=cA.mp hk;have:=cJ.mp hj;lia
set_option tactic.hygienic true in
theorem Mz(l){a b:Nat}(Jb:a<=b)(hb:b<=l.length):uP (oP l) (some (a:Int)) (some (b:Int))=oP ((l.drop a).take<|b-a):=by
 exists l,a,b,_;unfold uP;refine(StrLaws.strSliceIndices_plain (len:=(oP l).length) Jb (by rw[rF];exact hb))▸?_;split
 .rename_i e;simp only[a5,aF,cG,rF]at e;have ha:a=0:=by grind
  subst ha;simp at e;simp[e]
 .have e:((List.range<|b-a).map λk=>a+k).filterMap ((oP l).cps[·]?)=(l.drop a).take (b-a):=by rw[<-StrLaws.picks l (b-a) a (lk<|aC (aN<|aY ((lk Jb):a<=b)) hb)];simp[oP]
  rw[e]
theorem tf(l){a:Nat}(ha:a<=l.length):uP (oP l) (some (a:Int)) none=oP (l.drop a):=by
 exists l,a,_;have e:uP (oP l) (some a) none=uP (oP l) (some a) (some l.length):=by dsimp only[uP,Builtin.Str.strSliceIndices];rw[rF];have h1:¬((l.length:Int)<0):=(by simp);simp[aL h1]
 refine a6 e ?_;refine a6 (Mz l ha<|aI _) ?_;rw[eV<|by simp]
section
open PySem PySem.W PyProof.Rows PySem.Calls
def GU(H:Hp)(i:Nat):Option<|Nat×Nat:=(H[i]?).bind λo=>match o with
 |.qG l k=>some (l,k)
 |_=>none
def FB(H:Hp)(i:Nat):Option Nat:=(H[i]?).bind λo=>match o with
 |.mw i=>some i
 |_=>none
theorem Rk{i:Nat}{q}(h:GU H i=some q):H[i]?=some (.qG q.1 q.2):=by obtain⟨o,h1,h⟩:=aB.mp h;refine a6 h1 ?_;induction o<;>first|exact nn h|exact aV (λx=>some<|AO.qG x.1 x.2)<|aA h
theorem Rl{i:Nat}{q}(h:FB H i=some q):H[i]?=some (.mw q):=by obtain⟨o,h1,h⟩:=aB.mp h;refine a6 h1 ?_;induction o<;>first|exact nn h|exact aV (λx=>some<|AO.mw x)<|aA h
def attrL(v:V)(x:Str):Hp->pO:=vR (λi H=>(GU H i).bind λU=>if x= "__next__" then some (.ok<|.ref H.length,H++[.mw i])else none) v
def Gc(f:V)(vs:List V)(H:Hp):pO:=if f=.bi "iter" then a1 (vR λj H=>(lE H j).bind λU=>some (.ok<|.ref H.length,H++[.qG j 0])) vs H else none
def XI(l k i:Nat)(H:Hp)(xs:List V):pO:=(xs[k]?).elim (some (.exc<|.ty "StopIteration",H.set i .lend)) λv=>some (.ok v,H.set i<|.qG l<|k+1)
def O1(f:V)(vs:List V)(H:Hp):pO:=if vs=[]then vR (λm H=>(FB H m).bind λi=>(GU H i).bind λq=>(lE H q.1).bind λxs=>XI q.1 q.2 i H xs) f H else none
def IY(f:V)(H:Hp):Bool:=(vR (λm H=>FB H m) f H).isSome
theorem iu(a):checkBoundCall "list_iterator.__next__" ⟨[.ref a],[]⟩=pure ():=by rfl'
theorem Ob(hv:VC ρ v ov):Sd C (getAttr ov x true) VC ρ s st<|pX st<|attrL v x st.H:=
 gR (T:=(getAttr · x true)) rfl hv λi a ha hr=>gB rfl λq hq=>As rfl λhx=>by subst hx;refine Sd.of λG Q E kq=>?_;obtain⟨o,ho,la,hla,rfl⟩:=G.sim.obj _ a _ ha<|Rk hq;refine aD<|wpAny_mkText ?_;obtain⟨hp,g,d,tk,os⟩:=s;exact ZU ho<|kq _ _ _ ⟨_,rfl⟩ (q7 G) ((G.tok 1).push rfl ⟨a,pT ⟨_,rfl⟩ ha,rfl⟩)<|pZ.heap ⟨hp,g,d,tk,os⟩ _ 1
theorem iy(hf:VC ρ f fv)(hv:oN (VC ρ) vs xs):Sd C (call fv xs) VC ρ s st<|pX st<|Gc f vs st.H:=by
 refine As rfl λh=>?_;subst h;obtain rfl:=hf.symm;refine vp (q:=λxs=>call (.builtin "iter") xs) hv λv y hv=>gR (T:=λy=>call (.builtin "iter") [y]) rfl hv λj a ha hr=>gB rfl λys hj=>Sd.of λG Q E kq=>?_;obtain⟨_,ws,n,e,q8⟩:=G.list (q0 hj) hr;injection e with e;subst e;refine call_function_entry (by decide+kernel) (by decide+kernel) kdk_entry_iter (kdk_args_iter _) ?_;refine aD<|lR (by first|rfl|kernel_rfl!) ?_
 exact aD<|iL ⟨_,q8.2.1,rfl,n,rfl⟩<|aM ⟨_,rfl,kq _ _ _ ⟨_,rfl⟩ (q7 G) (G.push rfl ⟨a,pT ⟨_,rfl⟩ q8.1,rfl⟩)<|pZ.oV ..⟩
theorem TX(G:oD C ρ st s)(hf:VC ρ f fv)(h:IY f st.H=true):∃kp,∀Q E,Q kp s->wpAny (model PG C.w) C.A (keeperOf fv) Q E s:=by
 obtain⟨i,h⟩:=fH.mp h;induction f<;>first|exact nn h|skip
 obtain⟨a,ha,rfl⟩:=hf;obtain⟨o,ho,it,hit,rfl⟩:=G.sim.obj _ a _ ha<|Rl h;exact⟨.machine,λQ E q=>aD<|jR ho<|aM q⟩
theorem gq(ho:s.heap.get? it=some ⟨.type "list_iterator",none,.fields #[.ref l,.int i 0],#[]⟩)(hl:s.heap.get? l=some ⟨.type "list",none,.seq ws n,#[]⟩)(hx:ws[i]?=some x)
 (hQ:Q (.done<|.ret x) {s with heap:=s.heap.update it (Obj.mapFields (·.setIfInBounds 1 (rawInt<|(i:Int)+1)))}):wpAny (model PG w) A (Builtin.«list_iterator.__next__» ⟨[.ref it],[]⟩) Q E s:=by refine(aD (fR ho rfl (x:=.ref l) rfl ?_):wpAny _ _ (field (.ref it) 0>>=_) _ _ s);rw[aL<|show ¬((Value.ref l==Value.none)=true)from bV];refine aD<|fR ho rfl rfl ?_;refine aD<|gG hl rfl ?_;simp[hx];exact aD<|iI ho rfl (aI _)<|aM hQ
theorem GV(hh:A.handled=none)(ho:s.heap.get? it=some ⟨.type "list_iterator",none,.fields #[.ref l,.int i 0],#[]⟩)(hl:s.heap.get? l=some ⟨.type "list",none,.seq ws n,#[]⟩)(hx:ws[i]?=none)
 (hE:∀h' e,Heap.MadeExc (s.heap.update it<|Obj.mapFields (·.setIfInBounds 0 .none)) h' e "StopIteration" []->E (.ref e) {s with heap:=h'}):wpAny (model PG w) A (Builtin.«list_iterator.__next__» ⟨[.ref it],[]⟩) Q E s:=by
  refine(aD (fR ho rfl (x:=.ref l) rfl ?_):wpAny _ _ (field (.ref it) 0>>=_) _ _ s);rw[aL<|show ¬((Value.ref l==Value.none)=true)from bV];refine aD<|fR ho rfl rfl ?_;refine aD<|gG hl rfl ?_;simp[hx];refine aD<|iR<|aD<|iI ho rfl (dM _) ?_;refine aD ?_;refine aD<|eD ?_ (by size_fits);refine aD<|lR (a:=Value.none) (by first|rfl|(rw[firstArgMember];rfl)) ?_
  refine eD ?_ (by size_fits);dsimp only[raiseNew];refine aD<|wpAny_handled ?_;first|simp only[show A.in1.handled=none from hh]|refine hh▸?_
  refine aD<|aM<|wpAny_throw ?_;refine hE _ _ ⟨λb o e=>aZ _<|aZ _ e,cB (by rw[dI];exact dM _),⟨_,bT _ rfl,cB<|aI _,?_⟩⟩;exact aZ _<|bT _ rfl
theorem Wx{m it:Addr}{Q:Value->Shared->Prop}(hm:s.heap.get? m=some ⟨.type "method-wrapper",none,.fields #[.builtin "list_iterator.__next__",.ref it],#[]⟩)
 (h:wpAny (model PG w) A.in1 (Builtin.«list_iterator.__next__» ⟨[.ref it],[]⟩) (λfin s'=>∃r,fin=.done (.ret r)/\Q r s') E s):wpAny (model PG w) A (call (.ref m) []) Q E s:=by exists s,w,A,E,m,it,Q,_;refine eJ<|jB ?_;refine aD<|jR hm ?_;show wpAny _ _ (if(Value.type "method-wrapper" !=Value.type "method")=true then(checkBoundCall "list_iterator.__next__" ⟨[.ref it],[]⟩>>=λU=>again<|.builtin "list_iterator.__next__" ⟨[.ref it],[]⟩)else _) _ _ s;rw[aH (by rfl)];refine aD<|lR (iu it) ?_;refine aM ?_;refine⟨iA _<|by decide+kernel,eP entry_listiter_next ?_⟩;rw[eB (by decide+kernel) _];refine bL h (λfin s' P=>?_) λU U x=>x;obtain⟨r,rfl,q⟩:=P;exact q
theorem kl{st:St}(hh:C.A.handled=none){f:V}{fv:Value}{vs:List V}{xs:List Value}(hf:VC ρ f fv)(hv:oN (VC ρ) vs xs):Sd C (call fv xs) VC ρ s st<|pX st<|O1 f vs st.H:=by
 exists C,ρ,s,st,f,fv,vs,xs,[hh,hf,hv];refine As rfl λh=>?_;subst h;obtain rfl:=cC.mp hv.length.symm;refine gR (T:=λf=>call f []) rfl hf λm ma hma hr=>gB rfl λi hm=>gB rfl λq hi=>gB rfl λys hl=>Sd.good λG=>?_;exists m,ma,i,q,ys,[hma,hr,hm,hi,hl];exists om,(q_:G.sim.obj _ ma _ hma<|Rl hm);obtain⟨hom,it,hit,rfl⟩:=q_;exists it,_;exists oi,(q_:G.sim.obj _ it _ hit<|Rk hi);obtain⟨hoi,la,hla,rfl⟩:=q_;exists la,_;exists ol,(q_:G.sim.obj _ la _ hla<|q0 hl);obtain⟨Ve,ws,n,rfl,A6⟩:=q_;unfold XI;rcases hv:ys[q.2]? with _|v
 .intro G;exists r,oE;intro e;injection e with e;injection e with e1 e2;subst e1 e2;refine Wx hom<|GV hh hoi Ve (by refine a6 bU.symm ?_;rw[bZ,<-A6.length,<-bZ];exact hv) ?_;exists h',ea;intro mm;have G1:oD C ρ {st with H:=st.H.set i .lend} {s with heap:=s.heap.update it (Obj.mapFields (·.setIfInBounds 0 .none))}:=G.uX hit (fK ..) (cT _ hoi rfl) ⟨_,rfl,rfl⟩<|aI _;have q8:=G1.made mm;exact⟨_,ρ,rfl,a8 _,q8.2,q8.1,pZ.oV ..⟩
 .exists v,[hv];refine Sd.of ?_;intro G;exists Q,E;intro kq;exists y,(q9:A6.get hv);refine Wx hom<|gq hoi Ve (bU▸q9.1) ⟨_,rfl,?_⟩;exact kq _ _ ρ (a8 _) q9.2 (G.uX hit (fK ..) (cT _ hoi rfl) ⟨la,hla,rfl⟩<|aI _)<|pZ.oV ..
end
section
variable{α β:Type}
theorem Sd.orP{a b:Option β}(h1:Sd C t Rel ρ s st<|sO st a)(h2:Sd C t Rel ρ s st<|sO st b):Sd C t Rel ρ s st<|sO st<|a.or b:=by
 rcases a with _|p
 .exact h2
 .exact h1
end
def UB:oY where
 glob _:=none
 call _ _ _ _:=none
 kp _ _:=false
 attr _ _ _:=none
 qB _ _ _:=none
 setattr _ _ _ _:=none
 cmp _ _ _ _:=none
 bin _ _ _ _:=none
 Ew _ _ _ _:=none
 JZ _ _ _:=none
 Kt _ _:=none
 item _ _ _:=none
 slice _ _ _ _ _:=none
 v8 _ _ _ _:=none
 uW _ _ _:=none
 unpack _ _ _:=none
 idx _ _:=false
 comp _ _ _:=none
 iter _ _:=none
 Qy _ _:=false
 raise _ _ _:=none
 star _ _ _:=none
 stmt _ _ _:=none
theorem gf(B:oF k C):o4 C UB where
 un:=B.units
 comp:=Sd.nil
 Yi:=λU=>Sd.nil
 raise:=Sd.nil
 stmt:=Sd.nil
 setattr:=λU U=>Sd.nil
 v8:=λU U U=>Sd.nil
 uW:=λU U=>Sd.nil
 Ew:=λU U=>Sd.nil
 unpack:=λU=>Sd.nil
 Ng:=λU U h=>by injection h
 iter:=λU U h=>nn h
 glob:=λh=>nn h
 call:=λU U U=>Sd.nil
 kp:=λU U h=>by injection h
 star:=Sd.nil
 attr:=λU=>Sd.nil
 qB:=λU=>Sd.nil
 cmp:=λU U=>Sd.nil
 bin:=λU U=>Sd.nil
 JZ:=λU=>Sd.nil
 Kt:=λU=>Sd.nil
 idx:=λU U h=>by injection h
 item:=λU U U=>Sd.nil
 slice:=λU U U U U U U U U=>Sd.nil
def KO:Prim:=a2 λx l=>vS (λx=>vL (λU xs H=>(uU xs).bind λts=>gv (JoinOk x ts=true) (.str<|Txt.join x ts) H) l) x
def xz:Prim:=a2 λx y=>vS (λx=>vS (λy H=>if(y.length==0)=false/\x.length<big/\(Builtin.Str.partsBetween x (Builtin.Str.occurrences x y 0 x.length<|x.length+1) y.length).length<big then nw (.list<|(Txt.split x y).map V.str) H else none) y) x
def KQ:Prim:=a1<|vL λU xs H=>some (.ok<|.bool (!xs.isEmpty),H)
def Yr:Prim:=a1<|vR xB
def ya:Prim:=a0<|nw .dq
def biP:List<|String×Prim:=[("list.append",Yn),("len",abw),("list.pop",abv),("list.clear",xj),("list.extend",Yo),("set.add",Yp),("isinstance",xo),("dict.get",abB),("dict.values",Yq),("list.index",xq),("str.join",KO),("str.split",xz),("sorted",Yr)]
def tyP:List<|String×Prim:=[("set",abx),("tuple",xm),("range",xn),("int",aby),("type",KH),("bool",KQ),("collections.deque",ya)]
def qL(f:V)(vs:List V)(kv:List<|Str×V)(H:Hp):pO:=match kv with
 |[]=>(match f with
  |.bi x=>(biP.lookup x).bind λp=>p vs H
  |.ty x=>(tyP.lookup x).bind λp=>p vs H
  |_=>none)
 |_=>none
def Ps:oY where
 glob:=Cf
 call:=qL
 kp:=Y6
 attr v x H:=(Ca v x H).or<|attrL v x H
 qB v x H:=(Ab v x H).or<|(qr v x H).or<|nb v x
 setattr:=tK
 cmp op a b H:=(Bk op a b H).or<|MX op a b
 bin:=Uh
 Ew:=Jl
 JZ:=DA
 Kt a H:=(Qt a H).or<|NX a H
 item:=xQ
 slice:=rJ
 v8:=uB
 uW:=yD
 unpack _ _ _:=none
 idx:=Gm
 comp _ _ _:=none
 iter _ _:=none
 Qy _ _:=false
 raise _ _ _:=none
 star _ _ _:=none
 stmt _ _ _:=none
def t5:oY:={Ps with star:=ju Ps}
theorem lq{T:Value->Sem Value}(hv:VC ρ v y)(h:∀i xs a,st.H[i]?=some (.list xs)->xs.length<big->VC ρ (.ref i) (.ref a)->Sd C (T<|.ref a) VC ρ s st (pX st<|f i xs st.H)):Sd C (T y) VC ρ s st<|pX st<|vL f v st.H:=z3 hv λi a ha hv=>Sd.vJ λxs hi=>Sd.cz λhz=>h i xs a (q0 hi) hz hv
theorem EJ:PS C (.builtin "str.join") KO:=D9 λρ s st U U U z h1 h2=>y4 (T:=λy=>call (.builtin "str.join") [y,z]) h1 λx t=>lq (T:=λz=>call (.builtin "str.join") [.str x t,z]) h2 λi xs a hi hz hv=>Sd.vJ λts ht=>Qo λxt=>BX hi ht xt hv
theorem kn:PS C (.builtin "str.split") xz:=D9 λρ s st U U U z h1 h2=>y4 (T:=λy=>call (.builtin "str.split") [y,z]) h1 λx t=>y4 (T:=λz=>call (.builtin "str.split") [.str x t,z]) h2 λy u=>Sd.cz λh=>gm h.1 h.2.1 h.2.2
theorem GG:PS C (.type "bool") KQ:=u5 λρ s st U U h1=>lq (T:=λy=>call (.type "bool") [y]) h1 λi xs a hi hz hv=>Ld hi hz hv
theorem Y1(B:oF (k+2) C):PS C (.builtin "sorted") Yr:=u5 λρ s st U U h1=>z3 (T:=λy=>call (.builtin "sorted") [y]) h1 λi a U hv=>Z2 B hv
theorem gc(B:oF (k+2) C):PS C (.type "collections.deque") ya:=JC λρ s st=>ux<|B.le<|cV _
theorem RO(B:oF (k+2) C):∀p∈biP,PS C (.builtin p.1) p.2:=by
 repeat' first|exact bH _|refine d9.mpr ⟨?_,?_⟩
 .exact Z7
 .exact QG
 .exact PZ
 .exact pz
 .exact bc
 .exact Zb
 .exact sd
 .exact PA
 .exact AA
 .exact vr
 .exact EJ
 .exact kn
 .exact Y1 B
theorem OZ(B:oF (k+2) C):∀p∈tyP,PS C (.type p.1) p.2:=by
 repeat' first|exact bH _|refine d9.mpr ⟨?_,?_⟩
 .exact UE
 .exact pe
 .exact fb
 .exact LV
 .exact AD
 .exact GG
 .exact gc B
theorem Hy{β:Type}{l:List (String×β)}{b:β}(h:l.lookup x=some b):(x,b)∈l:=by
 induction l with
 |nil=>exact nn h
 |cons p l ih=>
  rw[cP]at h;rcases e:x==p.1 with _|_
  .have h:=e▸h;exact .tail _<|ih h
  .replace h:=e▸h;obtain rfl:=aA h;obtain rfl:=a5.mp e;exact .head _
theorem Hd(B:oF (k+2) C)(hf:VC ρ f fv)(hv:oN (VC ρ) vs xs)(hk:oN (KR ρ) kv ks):Sd C (call fv xs ks) VC ρ s st<|pX st<|qL f vs kv st.H:=by
 induction hk with
 |cons=>exact Sd.nil
 |nil=>
  induction f<;>first|exact Sd.nil|skip
  .subst hf;exact Sd.vJ λp hp=>OZ B _ (Hy hp) ρ s st vs xs hv
  .subst hf;exact Sd.vJ λp hp=>RO B _ (Hy hp) ρ s st vs xs hv
theorem E6(B:oF (k+2) C):o4 C Ps where
 un:=B.units
 comp:=Sd.nil
 Yi:=λU=>Sd.nil
 raise:=Sd.nil
 stmt:=Sd.nil
 setattr:=λh1 h2=>Pc B h1 h2
 v8:=λh1 h2 h3=>Sw B h1 h2 h3
 uW:=λh1 h2=>U3 B h1 h2
 Ew:=λh1 h2=>CN B h1 h2
 unpack:=λU=>Sd.nil
 Ng:=λU U h=>by injection h
 iter:=λU U h=>nn h
 glob:=λh=>CO B h
 call:=λh1 h2 h3=>Hd B h1 h2 h3
 kp:=λG h1 h2=>IU B G h1 h2
 star:=Sd.nil
 attr:=λh=>Sd.de (Pp B h)<|Ob h
 qB:=λh=>Sd.orP (uf B h)<|Sd.orP (tt B h)<|iw B h
 cmp:=λh1 h2=>Sd.orP (NU B h1 h2)<|BM B h1 h2
 bin:=λh1 h2=>MH B h1 h2
 JZ:=λh=>RR B h
 Kt:=λh=>Sd.orP (wp B h)<|zn h
 idx:=λG h1 h2=>PV G h1 h2
 item:=λh1 h2 U=>CU B h1 h2
 slice:=λh1 h2 h3 h4 U h6 U U U=>au B h1 h2 h3 h4 h6
theorem sS(B:oF (k+2) C):o4 C t5:=
 {E6 B with star:=Wa B (E6 B) _}
def pM:List Nat:=[97,98,39,34,32]
def E7:List Str:=(pM.map λa=>⟨#[a]⟩)++pM.flatMap λa=>pM.map λb=>⟨#[a,b]⟩
def sW:List Str:=⟨#[]⟩::E7
def Hv(x:Str):Bool:=x.cps.all λc=>c==97||c==98
def tR(x:Str):Str:=if x.length==0 then "''" else if Hv x then x else("'" :Str)++Txt.replace x "'" "'\"'\"'" ++("'" :Str)
def Kb:Expr:=match(adD[0]?).getD (.Pass ⟨0,0,0,0⟩)with
 |.Return (some e) _=>e
 |_=>.Name "x" ⟨0,0,0,0⟩
def PP:Expr->Bool
 |.GeneratorExp ..=>true
 |_=>false
def vm(e:Expr):Bool:=(Dt e).any λc=>c.2.1.any PP
open Classical in
def Jg(sc:Scope)(e:Expr)(st:St):oM V:=bif !vm e then none else if e=Kb/\sc=mf then(st.loc.lookup ("split_command" :Str)).bind λv=>(IT st.H v).bind λl=>(uU l.2).bind λts=>
 if(ts.all λx=>sW.contains x)=true/\JoinOk " " (ts.map tR)=true/\ts.length<1000 then some (.ok<|.str<|Txt.join " "<|ts.map tR,st)else none else none
def vC:Stmt:=(b58[4]?).getD<|.Pass ⟨0,0,0,0⟩
def qK:List Stmt:=match vC with
 |.For _ _ b _ _=>b
 |_=>[]
def items(x:Str):List<|Int×Nat:=(List.range x.cps.size).map λ(i:Nat)=>((i:Int),x.cps.getD i 0)
def vK:Bool->oY:=λq=>match q with|true=>t5|false=>UB
def tW(ob:St->oM Fl):List (Int×Nat)->St->oM Unit
 |[],st=>some (.ok (),st)
 |p::r,st=>(p0 Ee "pos" (.int p.1) st).then λU st=>(p0 Ee "ch" (.str ⟨#[p.2]⟩) st).then λU st=>(F9<|ob st).then λf st=>match f with
  |.next=>tW ob r st
  |_=>none
def w9(x:Str):Bool:=x.cps.all λc=>decide (c<128)&&c !=92
def aat:Stmt->Option Expr
 |.For _ e ..=>some e
 |_=>none
def Li(t:Stmt):Bool:=((aat t).bind Dt).any λc=>(rY c.1).isSome
open Classical in
def Jh(sc:Scope)(t:Stmt)(st:St):oM Unit:=bif !Li t then none else if t=vC/\sc=Ee then(st.loc.lookup ("addr" :Str)).bind λv=>(Ua v).bind λx=>
 if w9 x=true/\x.length<big then tW (λst=>rA vK 0 true Ee qK st) (items x) st else none else none
def sw:List Addr:=[58,910,915,922,878]
def w3:V->Bool
 |.ref _=>false
 |_=>true
def Jr(i:Nat)(H:Hp):Option<|Nat×List (Str×V):=(iE H i).bind λq=>if q.1=174 then(q.2.2.2.lookup ("_node2info" :Str)).bind λv=>vR (λn H=>(dE H n).map λds=>(n,ds)) v H else none
open Classical in
def Zy(S:Bool->oY)(fu i:Nat)(H:Hp):Option<|r8 V×Hp:=match Jr i H with
 |some (n,ds)=>if h:∃r:r8 V×Hp,n<r.2.length/\∀ep,oG S fu 129 [.ref i] [] (H.set n<|.o0 ds ep)=some (r.1,r.2.set n<|.o0 ds ep)then some (h.choose.1,h.choose.2.set n<|.dict ds)else none
 |none=>none
theorem SJ{S:Bool->oY}(h0:Jr i H=some (n,ds))(hn:n<H'.length)(h:∀ep,oG S fu 129 [.ref i] [] (H.set n<|.o0 ds ep)=some (r,H'.set n<|.o0 ds ep)):
 Zy S fu i H=some (r,H'.set n<|.dict ds):=by
 unfold Zy;rw[h0];have ex:∃r:r8 V×Hp,n<r.2.length/\∀ep,oG S fu 129 [.ref i] [] (H.set n<|.o0 ds ep)=some (r.1,r.2.set n<|.o0 ds ep):=⟨(r,H'),hn,h⟩;refine a6 (dif_pos ex) ?_;have e:=(ex.choose_spec.2 0).symm.trans<|h 0;simp only[Option.some.injEq,nV]at e;have e2:=aV (λl=>List.set l n<|AO.dict ds) e.2;simp only[jM]at e2;simp[e.1,e2]
def yV(S:Bool->oY)(fu:Nat)(f:V)(vs:List V)(kv:List<|Str×V)(H:Hp):pO:=match f with
 |.top a=>
  if sw.contains a=true then(if vs.all w3=true/\kv.isEmpty=true then(oG S fu a vs [] []).map λp=>(Bz H.length p.1,H++p.2.map (AO.sh H.length))else none)
  else if a=129 then(if kv.isEmpty=true then a1 (vR<|Zy S fu) vs H else none)
  else if a=731 then(if kv.isEmpty=true then a1 (mkS S fu) vs H else none)
  else if(Le a).isSome=true then mkV S fu a vs kv H
  else oG S fu a vs kv H
 |_=>none
def IG(S:Bool->oY)(fu:Nat)(f:V)(vs:List V)(H:Hp):pO:=if f=.ty "list" then a1 (vR<|IK S fu) vs H else if f=.bi "max" then a1 (vR EM) vs H else none
def oZ(S:Bool->oY)(fu:Nat)(f:V)(vs:List V)(kv:List<|Str×V)(H:Hp):pO:=
 (qL f vs kv H).or ((yV S fu f vs kv H).or<|if kv.isEmpty=true then(IG S fu f vs H).or ((O1 f vs H).or<|(Gc f vs H).or<|Kf f vs H)else none)
def jm(S:Bool->oY)(fu:Nat):oY:={Ps with
 call:=oZ S fu
 kp:=λf H=>Y6 f H||IY f H
 attr:=λv x H=>((Ca v x H).or<|attrL v x H).or<|th S fu v x H
 unpack:=t9
 comp:=P1 t5
 iter:=o9
 Qy:=BV
 raise:=sr t5
 star:=λsc e st=>(ju Ps sc e st).or<|(JR t5 S fu sc e st).or<|Jg sc e st
 stmt:=Jh}
def oL(fu:Nat):Nat->Bool->oY
 |0=>λq=>match q with|true=>t5|false=>UB
 |n+1=>λq=>match q with|true=>t5|false=>jm (oL fu n) fu
def Dq(k:Nat):Prop:=∀C,oF k C->pP C->∀t ρ s st,Sd C (exec t C.env) (λU(U:Unit)f=>f=Flow.next) ρ s st<|Jh C.env.scope t st
def L8(k:Nat):Prop:=∀C,oF k C->pP C->∀e ρ s st,Sd C (eval e C.env) VC ρ s st<|Jg C.env.scope e st
theorem oD.yc(G:oD C ρ st s)(ha:ρ[i]?=some a)(h:∀o,s.heap.get? a=some o->OC C.w ρ ao o):oD C ρ {st with H:=st.H.set i ao} s:=by
 refine⟨⟨by simp[G.sim.len],G.sim.nd,λj b x e1 e2=>?_,G.sim.new,G.sim.keep⟩,G.fr,G.tk⟩;by_cases hj:j=i
 .subst hj;rw[ha]at e1;obtain rfl:=aA e1;have hl:j<st.H.length:=by exact G.sim.len▸(aU.mp ha).1
  replace e2:=(eU hl)▸e2;obtain rfl:=aA e2;exists o,(ho:G.sim.lt ha);exact⟨o,ho,h o ho⟩
 .rw[dB<|dQ hj]at e2;exact G.sim.obj j b x e1 e2
theorem oD.freeze(G:oD C ρ st s)(hn:st.H[n]?=some (.dict ds)):∃ep,oD C ρ {st with H:=st.H.set n (.o0 ds ep)} s:=by
 have hl:n<ρ.length:=by rw[G.len];exact(aU.mp hn).1
 obtain⟨o,ho,dv,ep,q8⟩:=G.sim.obj n _ _ (aP hl) hn;refine⟨ep,G.yc (aP hl) λo' uI=>?_⟩;replace uI:=ho▸uI;obtain rfl:=aA uI;exact⟨dv,q8.1,q8.2.1,q8.2.2⟩
theorem oD.aeT(G:oD C ρ st s)(hn:st.H[n]?=some (.o0 ds ep)):oD C ρ {st with H:=st.H.set n (.dict ds)} s:=by
 have hl:n<ρ.length:=by rw[G.len];exact(aU.mp hn).1
 obtain⟨o,ho,dv,q8⟩:=G.sim.obj n _ _ (aP hl) hn;refine G.yc (aP hl) λo' uI=>?_;replace uI:=ho▸uI;obtain rfl:=aA uI;exact⟨dv,ep,q8.1,q8.2.1,q8.2.2⟩
theorem Ow(h:vs.all w3=true)(hv:oN (VC ρ) vs xs):oN (VC []) vs xs:=by
 induction hv with
 |nil=>exact .nil
 |@cons v _ _ _ c t ih=> simp only[iZ,aQ]at h;refine .cons ?_<|ih h.2;induction v<;>first|exact c|rcases h.1 with _|_
theorem Vf(h:Jr i H=some (n,ds)):H[n]?=some (.dict ds):=by obtain⟨q,_,h⟩:=aB.mp h;obtain⟨v,_,h⟩:=aB.mp (Iu h).2;obtain⟨m,_,h⟩:=E9 h;obtain⟨es,h1,h2⟩:=a9.mp h;obtain⟨rfl,rfl⟩:=bQ h2;exact tQ h1
theorem UJ{S:Bool->oY}{ρ:List Addr}{st:St}{s:Shared}(B:oF (k+1) C)(L:pP C)(OK:qF k S){i:Nat}{x:Value}(hv:VC ρ (.ref i) x):Sd C (call (.ref 129) [x]) VC ρ s st<|pX st<|Zy S fu i st.H:=by
 exists k,fu,C,S,ρ,st,s,i,x,[B,L,OK,hv];refine Sd.qe ?_;intro G;exists r,oE;intro e;exists Q,E;intro kQ kE;unfold Zy at e;cases hf:Jr i st.H with
 |none=>replace e:=hf▸e;exact nn e
 |some p=>
 obtain⟨n,ds⟩:=p;exists n,ds,_;replace e:=hf▸e;dsimp only at e;by_cases h:∃r:r8 V×Hp,n<r.2.length/\∀ep,oG S fu 129 [.ref i] [] (st.H.set n<|.o0 ds ep)=some (r.1,r.2.set n<|.o0 ds ep);rotate_left
 .replace e:=(dif_neg h)▸e;exact nn e
 replace e:=(dif_pos h)▸e;obtain⟨rfl,rfl⟩:=bQ<|aA e;have q8:=h.choose_spec;generalize h.choose=q at*;exists ep,(G':G.freeze<|Vf hf);have back:∀{oO s'},oD C oO ⟨q.2.set n<|.o0 ds ep,st.loc⟩ s'->oD C oO ⟨q.2.set n<|.dict ds,st.loc⟩ s':=λ{oO s'}g=>by have:=g.aeT (by rw[eU q8.1]);rw[jM]at this;exact this
 refine bL ((s7 B L OK (.cons hv .nil) .nil).call G' q.1 ⟨q.2.set n<|.o0 ds ep,st.loc⟩ (by refine a6 (aV _<|q8.2 ep) ?_;rfl)) (λy s' P=>?_) λy s' P=>?_
 .obtain⟨b,oO,e1,p,q,g,nx⟩:=P;exact kQ _ _ ⟨b,oO,e1,p,q,back g,nx⟩
 .obtain⟨c,oO,e1,p,X,g,nx⟩:=P;exact kE _ _ ⟨c,oO,e1,p,X,back g,nx⟩
theorem Sd.yd[Decidable c](h1:c->Sd C t VC ρ s st (pX st a))(h2:¬c->Sd C t VC ρ s st (pX st b)):Sd C t VC ρ s st<|pX st<|if c then a else b:=by
 by_cases q:c
 .rw[aH q];exact h1 q
 .rw[aL q];exact h2 q
theorem cr{S:Bool->oY}(B:oF (k+1) C)(L:pP C)(OK:qF k S)(h:vs.all w3=true)(hv:oN (VC ρ) vs xs):Sd C (call (.ref a) xs) VC ρ s st<|pX st<|(oG S fu a vs [] []).map λp=>(Bz st.H.length p.1,st.H++p.2.map (AO.sh st.H.length)):=by refine((N9 (fu:=fu) B L OK (Ow h hv) .nil).call).congr rfl ?_;rcases oG S fu a vs [] []with _|_<;>rfl
set_option tactic.hygienic true in
theorem Ql{S:Bool->oY}(B:oF (k+4) C)(L:pP C)(OK:qF k S){fv:Value}{vs:List V}{xs:List Value}{kv:List (Str×V)}{ks:List (Str×Value)}(hf:VC ρ f fv)(hv:oN (VC ρ) vs xs)(hk:oN (KR ρ) kv ks):Sd C (call fv xs ks) VC ρ s st<|pX st<|yV S fu f vs kv st.H:=by
 induction f<;>first|exact Sd.nil|skip
 rename_i a;subst hf;have nk:kv.isEmpty=true->ks=[]:=λh=>by induction hk with|nil=>rfl|cons=>injection h
 have B1:oF (k+1) C:=B.le (by simp);have B2:oF (k+2) C:=B.le (by simp);refine Sd.yd (λU=>Sd.cz λh=>by obtain rfl:=nk h.2;exact cr B1 L OK h.1 hv) λU=>?_;refine Sd.yd (λha=>Sd.cz λh=>by obtain rfl:=nk h;subst ha;exact u5 (λρ s st U U h1=>z3 (T:=λy=>call (.ref 129) [y]) h1 λi a U hv=>UJ B1 L OK hv) ρ s st vs xs hv) λU=>?_
 refine Sd.yd (λha=>Sd.cz λh=>by obtain rfl:=nk h;subst ha;exact u5 (λρ s st U U h1=>(NJ B2 L OK h1).call) ρ s st vs xs hv) λU=>?_
 exact Sd.yd (λU=>(SZ B2 L OK hv hk).call) λU=>(s7 B1 L OK hv hk).call
theorem sk{S:Bool->oY}(B:oF (k+4) C)(L:pP C)(OK:qF k S){fv:Value}{vs:List V}{xs:List Value}(hf:VC ρ f fv)(hv:oN (VC ρ) vs xs):Sd C (call fv xs) VC ρ s st<|pX st<|IG S fu f vs st.H:=by
 refine Sd.yd (λe=>?_) λU=>Sd.cz λe=>?_
 .subst e;subst hf;exact u5 (λρ s st U U h1=>z3 (T:=λy=>call (.type "list") [y]) h1 λi a U hv=>jg (B.le<|dM _) L OK hv) ρ s st vs xs hv
 .subst e;subst hf;exact u5 (λρ s st U U h1=>z3 (T:=λy=>call (.builtin "max") [y]) h1 λi a U hv=>max_sd (B.le (by simp):oF (k+2) C) L.hh hv) ρ s st vs xs hv
theorem Qe{S:Bool->oY}(B:oF (k+4) C)(L:pP C)(OK:qF k S){fv:Value}{vs:List V}{xs:List Value}{kv:List (Str×V)}{ks:List (Str×Value)}(hf:VC ρ f fv)(hv:oN (VC ρ) vs xs)(hk:oN (KR ρ) kv ks):Sd C (call fv xs ks) VC ρ s st<|pX st<|oZ S fu f vs kv st.H:=by
 refine Sd.de (Hd (B.le (by simp):oF (k+2) C) hf hv hk)<|Sd.de (Ql B L OK hf hv hk)<|Sd.cz λh=>?_;induction hk with
 |cons=>injection h
 |nil=>exact Sd.de (sk B L OK hf hv)<|Sd.de (kl L.hh hf hv)<|Sd.de (iy hf hv)<|jc B hf hv
theorem CV{S:Bool->oY}(hG:Dq<|k+4)(hJ:L8<|k+4)(B:oF (k+4) C)(L:pP C)(OK:qF k S):o4 C<|jm S fu:=
 {E6 (B.le (by lia):oF (k+2) C)with
  comp:=DD B L.hh (λC' B'=>sS (B'.le (by lia):oF (k+2) C')) _
  Yi:=λh=>vc B L.hh (λC' B'=>sS (B'.le (by lia):oF (k+2) C')) _ h
  raise:=km B L (sS (B.le (by lia):oF (k+2) C)) _ _
  stmt:=hG C B L _ _ _ _
  unpack:=λh=>Jp L.hh h
  Ng:=λG x h1 h2 h3=>pj B G x h1 h3
  iter:=λG h1 h2=>FZ L.hh G h1 h2
  call:=λh1 h2 h3=>Qe B L OK h1 h2 h3
  kp:=λG h1 h2=>by
   change (Y6 _ _||IY _ _)=true at h2;simp only[d8]at h2;refine h2.elim (λh2=>?_) λh2=>?_
   .exact IU B G h1 h2
   .exact TX G h1 h2
  star:=Sd.orR (Wa B (E6 (B.le (by lia):oF (k+2) C)) _)<|Sd.orR (GW (B.le (by simp)) L OK (sS (B.le (by lia):oF (k+2) C)) _)<|hJ C B L _ _ _ _
  attr:=λh=>Sd.de (Sd.de (Pp B h)<|Ob h) (uv (B.le<|by lia) L OK h)}
theorem SQ(hG:Dq 6)(hJ:L8 6):∀n,qF (2+4*n)<|oL fu n:=by
 intro zr;induction zr with
 |zero=> exact λC B=>⟨sS B,λU=>gf B⟩
 |succ n pD=> exact λC B=>⟨sS<|B.le<|aT _ _,λL=>CV (k:=2+4*n) (λC B=>hG C<|B.le<|by omega) (λC B=>hJ C<|B.le<|by omega) B L<|pD⟩
def whB:Stmt->List Stmt
 |.While _ b _ _=>b
 |_=>[]
def sN(l:List Stmt)(i:Nat):Stmt:=(l[i]?).getD<|.Pass ⟨0,0,0,0⟩
def ifT:Stmt->Expr
 |.If t _ _ _=>t
 |_=>.Name "" ⟨0,0,0,0⟩
def ur:Stmt->List Stmt
 |.If _ b _ _=>b
 |_=>[]
def UF:Stmt->List Stmt
 |.If _ _ o _=>o
 |_=>[]
def orE(i:Nat):Expr->Expr
 |.BoolOp _ es _=>(es[i]?).getD<|.Name "" ⟨0,0,0,0⟩
 |_=>.Name "" ⟨0,0,0,0⟩
def eif:Nat->Stmt->Stmt
 |0,s=>s
 |n+1,s=>eif n<|sN (UF s) 0
def wl:List Stmt:=whB<|sN (oW 834) 2
def wdS:Stmt:=sN (ur<|eif 1<|sN (ur<|eif 4<|sN wl 3) 0) 2
def wcs:Str:=("abcdfeghijklmnopqrstuvwxyzABCDEFGHIJKLMNOPQRSTUVWXYZ0123456789_" :Str)++("ßàáâãäåæçèéêëìíîïðñòóôõöøùúûüýþÿÀÁÂÃÄÅÆÇÈÉÊËÌÍÎÏÐÑÒÓÔÕÖØÙÚÛÜÝÞ" :Str)
def adQ(ws:Bool)(cm:Str)(s t:V):List<|Str×V:=[("instream",.ref 5),("infile",.none),("posix",.bool true),("eof",.none),("commenters",.str cm),("wordchars",.str wcs),("whitespace",.str " \t\r\n"),("whitespace_split",.bool ws),("quotes",.str "'\""),("escape",.str "\\"),("escapedquotes",.str "\""),("state",s),("pushback",.ref 6),("lineno",.int 1),("debug",.int 0),("token",t),("filestack",.ref 7),("source",.none),("_punctuation_chars",.str "")]
def adZ(x:Str)(p:Int):List<|Str×V:=[("_StringIO__newline",.str "\n"),("_StringIO__buf",.str x),("_StringIO__pos",.int p)]
def oS(x:Str)(p:Int)(s t:V)(R:Hp):Hp:=.dict (adQ true "" s t)::.inst 866 0 []::.tuple [.str x]::.dict []::.dict (adZ x p)::.inst 731 4 []::.dq::.dq::R
def uN(qd:Bool)(c:List Nat):Loc:=[("self",.ref 1),("quoted",.bool qd),("escapedstate",.str " "),("nextchar",.str<|oP c)]
def F5(st:St)(a b:V):oM Fl:=(uL st<|Jl .Add a b st.H).then λc st=>(uL st<|(tK (.ref 1) "token" c st.H).map λh=>((),h)).then D1
section
variable(fu n:Nat)(x:Str)(p:Int)(tk:List Nat)(t:V)(qd:Bool)(R:Hp)
def Ir(st:St):oM Fl:=pY (oL fu<|n+2) fu 39 false (pC 834) (wl.drop 1) st
theorem aa2:Ir fu n ⟨oS x p (.str " ") t R,uN qd [97]⟩=some (.ok .next,⟨oS x p (.str "a") (.str<|oP [97]) R,uN qd [97]⟩):=by rfl'
theorem aaa:Ir fu n ⟨oS x p (.str " ") t R,uN qd [98]⟩=some (.ok .next,⟨oS x p (.str "a") (.str<|oP [98]) R,uN qd [98]⟩):=by rfl'
theorem aaG:Ir fu n ⟨oS x p (.str " ") t R,uN qd [39]⟩=some (.ok .next,⟨oS x p (.str<|oP [39]) t R,uN qd [39]⟩):=by rfl'
theorem aah:Ir fu n ⟨oS x p (.str " ") t R,uN qd [34]⟩=some (.ok .next,⟨oS x p (.str<|oP [34]) t R,uN qd [34]⟩):=by rfl'
theorem YI:Ir fu n ⟨oS x p (.str " ") (.str<|oP []) R,uN false [32]⟩=some (.ok .cont,⟨oS x p (.str " ") (.str<|oP []) R,uN false [32]⟩):=by rfl'
theorem aed:Ir fu n ⟨oS x p (.str " ") t R,uN qd []⟩=some (.ok .brk,⟨oS x p .none t R,uN qd []⟩):=by rfl'
theorem YZ:Ir fu n ⟨oS x p (.str "a") (.str<|oP tk) R,uN qd [97]⟩=F5 ⟨oS x p (.str "a") (.str<|oP tk) R,uN qd [97]⟩ (.str<|oP tk) (.str<|oP [97]):=by rfl'
theorem ZB:Ir fu n ⟨oS x p (.str "a") (.str<|oP tk) R,uN qd [98]⟩=F5 ⟨oS x p (.str "a") (.str<|oP tk) R,uN qd [98]⟩ (.str<|oP tk) (.str<|oP [98]):=by rfl'
theorem ZP:Ir fu n ⟨oS x p (.str "a") t R,uN qd [39]⟩=some (.ok .next,⟨oS x p (.str<|oP [39]) t R,uN qd [39]⟩):=by rfl'
theorem aan:Ir fu n ⟨oS x p (.str "a") t R,uN qd [34]⟩=some (.ok .next,⟨oS x p (.str<|oP [34]) t R,uN qd [34]⟩):=by rfl'
theorem NG(c)(r)(h:r.length+1<big):Ir fu n ⟨oS x p (.str "a") (.str<|oP (c::r)) R,uN qd [32]⟩=some (.ok .brk,⟨oS x p (.str " ") (.str<|oP (c::r)) R,uN qd [32]⟩):=by simp only[(by rfl':Ir fu n ⟨oS x p (.str "a") (.str<|oP (c::r)) R,uN qd [32]⟩=((sO ⟨oS x p (.str " ") (.str<|oP (c::r)) R,uN qd [32]⟩<|(Qt (.str<|oP (c::r)) []).or none).then λb st=>bif yw .Or b then some (.ok b,st)else Hh (EV (oL fu (n+2) false) (pC 834) 23).2 .Or [orE 1<|ifT wdS] st).then λc st=>bif c then pY (oL fu<|n+2) fu 1 false (pC 834) (ur wdS) st else pY (oL fu<|n+2) fu 1 false (pC 834) (UF wdS) st),show Qt (.str<|oP (c::r)) []=some true from aH h];rfl'
theorem QZ:Ir fu n ⟨oS x p (.str "a") (.str<|oP []) R,uN true [32]⟩=some (.ok .brk,⟨oS x p (.str " ") (.str<|oP []) R,uN true [32]⟩):=by rfl'
theorem adi:Ir fu n ⟨oS x p (.str "a") t R,uN qd []⟩=some (.ok .brk,⟨oS x p .none t R,uN qd []⟩):=by rfl'
theorem aal(q c)(hq:q=39\/q=34)(hc:c=97\/c=98\/c=32\/(c=39/\q=34)\/(c=34/\q=39)):Ir fu n ⟨oS x p (.str<|oP [q]) (.str<|oP tk) R,uN qd [c]⟩=F5 ⟨oS x p (.str<|oP [q]) (.str<|oP tk) R,uN true [c]⟩ (.str<|oP tk) (.str<|oP [c]):=by exists fu,n,x,p,tk,qd,R,q,c,_;rcases hq with rfl|rfl<;>rcases hc with rfl|rfl|rfl|⟨rfl,h⟩|⟨rfl,h⟩<;>first|exact absurd h (by decide)|rfl'
theorem adb(q)(hq:q=39\/q=34):Ir fu n ⟨oS x p (.str<|oP [q]) t R,uN qd [q]⟩=some (.ok .next,⟨oS x p (.str "a") t R,uN true [q]⟩):=by rcases hq with rfl|rfl<;>rfl'
theorem adu(q)(hq:q=39\/q=34):Ir fu n ⟨oS x p (.str<|oP [q]) t R,uN qd []⟩=some (.exc<|.ty "ValueError",⟨oS x p (.str<|oP [q]) t R,uN true []⟩):=by rcases hq with rfl|rfl<;>rfl'
end
def asE:Stmt->Expr
 |.Assign _ e _=>e
 |_=>.Name "" ⟨0,0,0,0⟩
def lr0:Loc:=[("size",.int 1),("self",.ref 5)]
def Qm(fu n:Nat)(i:Nat)(st:St):oM Fl:=pY (oL fu<|n+2) fu 40 false (pC 677) ((oW 677).drop i) st
section
variable(fu n:Nat)(l:List Nat)(k:Int)(s t:V)(R:Hp)
def XJ:Loc:=[("size",.int 1),("self",.ref 5),("start",.int k)]
theorem aaf:Qm fu n 0 ⟨oS (oP l) k s t R,lr0⟩=Qm fu n 4 ⟨oS (oP l) k s t R,XJ k⟩:=by rfl'
def JE:Loc:=[("size",.int 1),("self",.ref 5),("start",.int k),("stop",.int l.length)]
theorem YW(h:l.length<big):Qm fu n 4 ⟨oS (oP l) k s t R,XJ k⟩=Qm fu n 5 ⟨oS (oP l) k s t R,JE l k⟩:=by rw[(by rfl':Qm fu n 4 ⟨oS (oP l) k s t R,XJ k⟩=((pW (oL fu (n+2) false) (pC 677) (asE<|sN (oW 677) 4) ⟨oS (oP l) k s t R,XJ k⟩).then λv st=>(p0 (pC 677) "stop" v st).then D1).then (fh<|Aa (D0 (oL fu<|n+2) fu (pY (oL fu<|n+2) fu 39) false<|pC 677)<|(oW 677).drop 5)),(by rfl':pW (oL fu (n+2) false) (pC 677) (asE<|sN (oW 677) 4) ⟨oS (oP l) k s t R,XJ k⟩=pX ⟨oS (oP l) k s t R,XJ k⟩ ((gv (l.length<big) (.int l.length)<|oS (oP l) k s t R).or none)),show gv (l.length<big) (.int l.length) (oS (oP l) k s t R)=_ from aH h];rfl'
def fl7(i:Nat):Fl->St->oM Fl:=fh<|Aa (D0 (oL fu<|n+2) fu (pY (oL fu<|n+2) fu 39) false<|pC 677)<|(oW 677).drop i
theorem aaI(st)(hs:st=⟨oS (oP l) k s t R,JE l k⟩):Qm fu n 5 st=oM.then (bif decide (k >=(l.length:Int))then some (.ok<|.ret<|.str "",st)else some (.ok .next,st)) (fl7 fu n 6):=by subst hs;rfl'
def eu(e:Int):Loc:=[("size",.int 1),("self",.ref 5),("start",.int k),("stop",.int e)]
def aaX:List Stmt->St->oM Fl:=pY (oL fu<|n+2) fu 39 false<|pC 677
theorem aaz(st)(hs:st=⟨oS (oP l) k s t R,JE l k⟩):Qm fu n 6 st=oM.then (oM.then (bif yw .And (decide<|k+1<(l.length:Int))then some (.ok<|decide<|k+1<(l.length:Int),st)else some (.ok true,st)) λc st=>bif c then aaX fu n (ur<|sN (oW 677) 6) st else aaX fu n (UF<|sN (oW 677) 6) st) (fl7 fu n 7):=by subst hs;rfl'
theorem aav(h:k+1<(l.length:Int)):Qm fu n 6 ⟨oS (oP l) k s t R,JE l k⟩=Qm fu n 7 ⟨oS (oP l) k s t R,eu k<|k+1⟩:=by rw[aaz fu n l k s t R _ rfl,b7 h];rfl'
theorem YU(h:¬k+1<(l.length:Int)):Qm fu n 6 ⟨oS (oP l) k s t R,JE l k⟩=Qm fu n 7 ⟨oS (oP l) k s t R,JE l k⟩:=by rw[aaz fu n l k s t R _ rfl,cQ h];rfl'
theorem adh(e):Qm fu n 7 ⟨oS (oP l) k s t R,eu k e⟩=(uL ⟨oS (oP l) e s t R,eu k e⟩<|rJ (.str<|oP l) (.int k) (.int e) .none<|oS (oP l) e s t R).then λv st=>some (.ok<|.ret v,st):=by rfl'
end
theorem jy{s:V}(hz:l.length<big)(h:l.length<=k):Qm fu n 0 ⟨oS (oP l) k s t R,lr0⟩=some (.ok<|.ret<|.str "",⟨oS (oP l) k s t R,JE l k⟩):=by rw[aaf,YW fu n l k s t R hz,aaI fu n l k s t R _ rfl,b7<|Int.ofNat_le.mpr h];rfl
theorem DE{n:Nat}{l:List Nat}{s t:V}{R:Hp}{k:Nat}{c:Nat}(hz:l.length<big)(h:l[k]?=some c):Qm fu n 0 ⟨oS (oP l) k s t R,lr0⟩=some (.ok<|.ret<|.str<|oP [c],⟨oS (oP l) ((k+1:Nat):Int) s t R,eu k ((k+1:Nat):Int)⟩):=by
 have vO:=(aU.mp h).1;have e7:∀e:Int,e=(k+1:Nat)->Qm fu n 7 ⟨oS (oP l) k s t R,eu k e⟩=some (.ok<|.ret<|.str<|oP [c],⟨oS (oP l) (k+1) s t R,eu k<|k+1⟩):=by
  rintro _ rfl
  have ec:uP (oP l) (some k) (some (k+1:Nat))=oP [c]:=by rw[Mz l (aT _ _)<|by assumption,b5,dZ vO];simp[(aU.mp h).2]
  have es:∀H,rJ (.str<|oP l) (.int k) (.int (k+1:Nat)) .none H=some (.str<|oP [c],H):=λH=>by rw[iz rfl rfl (by rw[ec];show 1<big;decide),ec]
  simp only[adh,es];rfl
 rw[aaf,YW fu n l k s t R hz,aaI fu n l k s t R _ rfl,cQ<|by simp_all];show Qm fu n 6 _=_;by_cases h1:(k:Int)+1<l.length
 .exact a6 (aav fu n l k s t R h1) (e7 _<|rfl)
 .rw[YU fu n l k s t R h1,show JE l k=eu k l.length from rfl];exact e7 _<|by lia
section
variable(fu n:Nat)(l:List Nat)(k:Int)(s t:V)(R:Hp)(qd:Bool)
def IJ(st:St):oM Fl:=pY (oL fu<|n+2) fu 39 false (pC 834) wl st
def rdE:Expr:=asE<|sN (UF<|sN wl 0) 0
def HJ(lc:Loc):Loc:=("self",.ref 1)::("quoted",.bool qd)::("escapedstate",.str " ")::lc
theorem JK(st)(lc)(hs:st=⟨oS (oP l) k s t R,HJ qd lc⟩):IJ fu n st=oM.then (oM.then (pW (oL fu (n+2) false) (pC 834) rdE st) λv st=>(p0 (pC 834) "nextchar" v st).then D1) (fh<|Ir fu n):=by subst hs;rfl'
theorem JH(st)(lc)(hs:st=⟨oS (oP l) k s t R,HJ qd lc⟩):pW (oL fu (n+3) false) (pC 834) rdE st=pX st ((pN<|Qm fu n 0 ⟨oS (oP l) k s t R,lr0⟩).or none):=by subst hs;rfl'
theorem QW{k c:Nat}(hz:l.length<big)(h:l[k]?=some c)(Rw:lc=[]\/∃v,lc=([("nextchar",v)]:Loc)):IJ fu (n+1) ⟨oS (oP l) k s t R,HJ qd lc⟩=Ir fu (n+1) ⟨oS (oP l) ((k+1:Nat):Int) s t R,uN qd [c]⟩:=by rw[JK fu (n+1) l k s t R qd _ lc rfl,JH fu n l k s t R qd _ lc rfl,DE hz h];rcases Rw with rfl|⟨v,rfl⟩<;>rfl'
theorem qt{k:Nat}(hz:l.length<big)(h:l.length<=k)(Rw:lc=[]\/∃v,lc=([("nextchar",v)]:Loc)):IJ fu (n+1) ⟨oS (oP l) k s t R,HJ qd lc⟩=Ir fu (n+1) ⟨oS (oP l) k s t R,uN qd []⟩:=by rw[JK fu (n+1) l k s t R qd _ lc rfl,JH fu n l k s t R qd _ lc rfl,jy hz h];rcases Rw with rfl|⟨v,rfl⟩<;>rfl'
end
set_option genInjectivity false in
inductive LM where
 |bl|wd|qu (q:Nat)
theorem yLm:Nonempty LM:=⟨.bl⟩
def LM.v:LM->V
 |.bl=>.str " "
 |.wd=>.str "a"
 |.qu q=>.str<|oP [q]
def yv(c:Nat):Bool:=c==39||c==34
def u9:LM->List Nat->Bool->Nat->Option (LM×List Nat×Bool)
 |.bl,tk,qd,c=>if c=32 then some (.bl,[],false)else if yv c=true then some (.qu c,[],false)else some (.wd,[c],false)
 |.wd,tk,qd,c=>if c=32 then none else if yv c=true then some (.qu c,tk,qd)else some (.wd,tk++[c],qd)
 |.qu q,tk,qd,c=>if c=q then some (.wd,tk,true)else some (.qu q,tk++[c],true)
def U2(m:LM)(tk:List Nat)(qd:Bool):Prop:=match m with
 |.bl=>tk=[]/\qd=false
 |.wd=>tk≠[]\/qd=true
 |.qu q=>q=39\/q=34
section
variable(fu n:Nat)(x:Str)(p:Int)(R:Hp)
theorem C6{s:V}(h:tk.length+1<big):F5 ⟨oS x p s (.str<|oP tk) R,lc⟩ (.str<|oP tk) (.str<|oP [c])=some (.ok .next,⟨oS x p s (.str<|oP<|tk++[c]) R,lc⟩):=by
 have e:∀H,Jl .Add (.str<|oP tk) (.str<|oP [c]) H=some (.str<|oP<|tk++[c],H):=λH=>by refine(aH h).trans ?_;rw[<-Bj];rcases tk with _|_<;>rfl
 unfold F5;rw[e];rfl'
def tn2(m:LM)(tk:List Nat)(qd:Bool)(c:Nat):oM Fl:=Ir fu n ⟨oS x p m.v (.str<|oP tk) R,uN qd [c]⟩
inductive Step(m:LM)(tk:List Nat)(qd:Bool)(c:Nat):Option (LM×List Nat×Bool)->Prop
 |go {m':LM} {Ky:List Nat} {Rx:Bool} (f:Fl) (hi:U2 m' Ky Rx) (hf:f=.next\/f=.cont) (he:tn2 fu n x p R m tk qd c=some (.ok f,⟨oS x p m'.v (.str<|oP Ky) R,uN Rx [c]⟩)):Step m tk qd c<|some (m',Ky,Rx)
 |stop (he:tn2 fu n x p R m tk qd c=some (.ok .brk,⟨oS x p (.str " ") (.str<|oP tk) R,uN qd [c]⟩)):Step m tk qd c none
set_option tactic.hygienic true in
theorem zu{c:Nat}(hc:c∈pM)(hI:U2 m tk qd)(hz:tk.length+1<big):Step fu n x p R m tk qd c<|u9 m tk qd c:=by
 exists fu,n,x,p,R,m,tk,qd,c,_;simp only[pM,aK,bG,or_false]at hc;rcases m with _|_|q
 .obtain⟨rfl,rfl⟩:=hI;rcases hc with rfl|rfl|rfl|rfl|rfl
  .exact .go .next (.inl<|eL _ _) (.inl rfl) (aa2 fu n x p _ _ R)
  .exact .go .next (.inl<|eL _ _) (.inl rfl) (aaa fu n x p _ _ R)
  .exact .go .next (.inl rfl) (.inl rfl) (aaG fu n x p _ _ R)
  .exact .go .next (.inr rfl) (.inl rfl) (aah fu n x p _ _ R)
  .exact .go .cont ⟨rfl,rfl⟩ (.inr rfl) (YI fu n x p R)
 .rcases hc with rfl|rfl|rfl|rfl|rfl
  .exact .go .next (.inl<|by simp) (.inl rfl) ((YZ fu n x p tk qd R).trans<|C6 x p R hz)
  .exact .go .next (.inl<|by simp) (.inl rfl) ((ZB fu n x p tk qd R).trans<|C6 x p R hz)
  .exact .go .next (.inl rfl) (.inl rfl) (ZP fu n x p _ qd R)
  .exact .go .next (.inr rfl) (.inl rfl) (aan fu n x p _ qd R)
  .rcases tk with _|⟨c,r⟩
   .rcases hI with h|rfl
    .exact absurd rfl h
    .exact .stop (QZ fu n x p R)
   .exact .stop (NG fu n x p qd R c r (by simp at hz;exact bS ‹_›))
 .by_cases h:c=q
  .subst h;have:=adb fu n x p (.str<|oP tk) qd R c hI;simp[show u9 (.qu c) tk qd c=some (.wd,tk,true)from aH rfl];exact .go .next (.inr rfl) (.inl rfl) this
  .simp[show u9 (.qu q) tk qd c=some (.qu q,tk++[c],true)from aL h];exact .go .next hI (.inl rfl)<|(aal fu n x p tk qd R q c hI (by rcases hI with rfl|rfl<;>rcases hc with rfl|rfl|rfl|rfl|rfl<;>simp_all)).trans<|C6 x p R hz
end
set_option genInjectivity false in
structure Ry where
 sv:V
 k:Nat
 tk:List Nat
 qd:Bool
 nc:List Nat
theorem yLx:Nonempty Ry:=⟨⟨.none,0,[],false,[]⟩⟩
def lx:LM->List Nat->Bool->Nat->List Nat->Option Ry
 |.bl,tk,qd,k,[]=>some ⟨.none,k,tk,qd,[]⟩
 |.wd,tk,qd,k,[]=>some ⟨.none,k,tk,qd,[]⟩
 |.qu _,_,_,_,[]=>none
 |m,tk,qd,k,c::r=>match u9 m tk qd c with
  |some (m',Ky,Rx)=>lx m' Ky Rx (k+1) r
  |none=>some ⟨.str " ",k+1,tk,qd,[c]⟩
def whT:Stmt->Expr
 |.While t _ _ _=>t
 |_=>.Name "" ⟨0,0,0,0⟩
section
variable(fu n:Nat)(l:List Nat)(R:Hp)
def wh(f:Nat):St->oM Fl:=tX (u7 (oL fu (n+3) false) (pC 834)<|whT<|sN (oW 834) 2) (IJ fu<|n+1) (pY (oL fu<|n+3) fu 39 false (pC 834) []) f
def lst(m:V)(k:Nat)(tk:List Nat)(qd:Bool)(lc:Loc):St:=⟨oS (oP l) k m (.str<|oP tk) R,HJ qd lc⟩
def whK(f:Nat)(g:Fl)(st:St):oM Fl:=match g with
 |.next|.cont=>wh fu n f st
 |.brk=>some (.ok .next,st)
 |.ret v=>some (.ok<|.ret v,st)
theorem LJ(f)(st):wh fu n (f+1) st=(IJ fu (n+1) st).then (whK fu n f):=by rfl'
theorem aaB(h:IJ fu (n+1) st=some (.ok g,oE))(hg:g=.next\/g=.cont):wh fu n (f+1) st=wh fu n f oE:=by rw[LJ,h];rcases hg with rfl|rfl<;>rfl
theorem Mt(h:IJ fu (n+1) st=some (.ok .brk,oE)):wh fu n (f+1) st=some (.ok .next,oE):=by rw[LJ,h];rfl
theorem QR(h:IJ fu (n+1) st=some (.exc c,oE)):wh fu n (f+1) st=some (.exc c,oE):=by rw[LJ,h];rfl
inductive LxR(o:oM Fl):Option Ry->Prop
 |bad {st:St} (h:o=some (.exc<|.ty "ValueError",st)):LxR o none
 |good {e:Ry} (h:o=some (.ok .next,⟨oS (oP l) e.k e.sv (.str<|oP e.tk) R,uN e.qd e.nc⟩)):LxR o<|some e
set_option tactic.hygienic true in
theorem AS(hl:∀c∈l,c∈pM)(hz:l.length<1000):∀rest k m tk qd lc f,l.drop k=rest->rest.length<f->U2 m tk qd->tk.length+rest.length<2000->(lc=[]\/∃v,lc=([("nextchar",v)]:Loc))->
 LxR l R (wh fu n f<|lst l R m.v k tk qd lc) (lx m tk qd k rest):=by
 exists fu,n,l,R,[hl,hz];have hb:l.length<big:=by unfold big;exact lk hz
 exists rest;induction rest with
 |nil=>
  intro k m tk qd lc f hd hf hI hs Rw;obtain⟨f,rfl⟩:∃g,f=g+1:=⟨f-1,(eZ hf).mp rfl⟩;have hT:=qt fu n l m.v (.str<|oP tk) R qd hb (fG.mp hd) Rw;rcases m with _|_|q
  .exact .good (Mt fu n<|hT.trans<|aed _ _ _ _ _ _ _)
  .exact .good (Mt fu n<|hT.trans<|adi _ _ _ _ _ _ _)
  .exact .bad (QR fu n<|hT.trans<|adu _ _ _ _ _ _ _ _ hI)
 |cons c rest ih=>
  exists c,rest,[ih];exists k,m,tk,qd,lc,f;intro hd hf hI hs Rw;obtain⟨f,rfl⟩:∃g,f=g+1:=⟨f-1,(cM (lk<|aN (aY ((lk hf):1<=f)).symm)<|lk<|aN<|aY ((lk hf):1<=f))⟩;simp only[bA]at hf hs;have hk:l[k]?=some c:=by have:=aV (λl:List Nat=>l[0]?) hd;simpa using this
  have tI:l.drop (k+1)=rest:=by have:=aV List.tail hd;simpa using this
  have hT:=QW fu n l m.v (.str<|oP tk) R qd hb hk Rw;have T:=zu fu (n+1) (oP l) (k+1:Nat) R (hl c<|aR hk) hI (show tk.length+1<big by unfold big;exact lk hs);have el:lx m tk qd k (c::rest)=match u9 m tk qd c with
   |some (m',Ky,Rx)=>lx m' Ky Rx (k+1) rest
   |none=>some ⟨.str " ",k+1,tk,qd,[c]⟩:=by induction m<;>rfl
  refine el▸?_;generalize hS:u9 m tk qd c=z at T;induction T with
  |stop he=>exact .good<|Mt fu n<|hT.trans he
  |go g hi hf' he=>
   rename_i m' Ky Rx;have hlen:Ky.length<=tk.length+1:=by
    unfold u9 at hS;split at hS<;>split at hS<;>try split at hS
    all_goals(rcases hS with _|_<;>simp)
   have:=ih (k+1) m' Ky Rx [("nextchar",.str<|oP [c])] f tI (iG ‹_›) hi (lk<|aC hlen hs)<|.inr ⟨_,rfl⟩;simp only[show wh fu n (f+1) (lst l R m.v k tk qd lc)=_ from aaB fu n (hT.trans he) hf'];exact this
end
section
variable(fu n:Nat)(x:Str)(p:Int)(s:V)(R:Hp)(nc:List Nat)(tk:List Nat)
def t8(i:Nat)(st:St):oM Fl:=pY (oL fu<|n+3) fu 40 false (pC 834) ((oW 834).drop i) st
def k8(i:Nat):Fl->St->oM Fl:=fh<|Aa (D0 (oL fu<|n+3) fu (pY (oL fu<|n+3) fu 39) false<|pC 834)<|(oW 834).drop i
theorem ad9:t8 fu n 0 ⟨oS x p s (.str "") R,[("self",.ref 1)]⟩=(wh fu n fu ⟨oS x p s (.str<|oP []) R,HJ false []⟩).then (k8 fu n 3):=by rfl'
theorem adn:t8 fu n 3 ⟨oS x p s (.str<|oP tk) R,uN true nc⟩=some (.ok<|.ret<|.str<|oP tk,⟨oS x p s (.str "") R,uN true nc++([("result",.str<|oP tk)]:Loc)⟩):=by rfl'
theorem aac:t8 fu n 3 ⟨oS x p s (.str<|oP []) R,uN false nc⟩=some (.ok<|.ret .none,⟨oS x p s (.str "") R,uN false nc++([("result",.none)]:Loc)⟩):=by rfl'
def x8:List Stmt->St->oM Fl:=pY (oL fu<|n+3) fu 39 false<|pC 834
theorem adt(st)(hs:st=⟨oS x p s (.str "") R,uN false nc++([("result",.str<|oP tk)]:Loc)⟩):t8 fu n 3 ⟨oS x p s (.str<|oP tk) R,uN false nc⟩=oM.then (oM.then (oM.then (oM.then (sO st<|(Bk .Eq (.str<|oP tk) (.str<|oP []) st.H).or none) λc st=>sO st<|(oL fu (n+3) false).Kt c st.H) λb st=>bif yw .And b then some (.ok b,st)else some (.ok true,st)) λc st=>bif c then x8 fu n (ur<|sN (oW 834) 5) st else x8 fu n (UF<|sN (oW 834) 5) st) (k8 fu n 6):=by subst hs;rfl'
theorem uH{l:List Nat}(h:∀c∈l,c<128):PyData.strOk (oP l)=true:=by unfold PyData.strOk;rw[<-iX,wT,aX];intro c hc;have:=h c hc;exact b7 (lk this)
theorem adA{c:Nat}{r:List Nat}:(oP (c::r)==oP [])=false:=by rw[a7,Ne,K5];exact eL _ _
theorem eq_nil{c:Nat}{r:List Nat}(h:∀d∈c::r,d<128)(H):Bk .Eq (.str<|oP (c::r)) (.str<|oP []) H=some (.bool false):=by show((if(PyData.canLay0 (.str<|oP (c::r))&&PyData.canLay0 (.str<|oP []))=true then some (PyData.eqv (.str<|oP (c::r))<|.str<|oP [])else none).bind _)=_;simp only[PyData.canLay0,uH h,(uH (by decide):PyData.strOk (oP [])=true)];rfl
theorem adK{c:Nat}{r:List Nat}(h:∀d∈c::r,d<128):t8 fu n 3 ⟨oS x p s (.str<|oP (c::r)) R,uN false nc⟩=some (.ok<|.ret<|.str<|oP (c::r),⟨oS x p s (.str "") R,uN false nc++([("result",.str<|oP (c::r))]:Loc)⟩):=by rw[adt fu n x p s R nc (c::r) _ rfl,eq_nil h];rfl'
def Ry.tok(e:Ry):Option<|List Nat:=if e.qd then some e.tk else if e.tk.isEmpty then none else some e.tk
def N2:Option (List Nat)->V
 |none=>.none
 |some t=>.str<|oP t
theorem Op{c:Nat}(h:c∈pM):c<128:=by simp only[pM,aK,bG,or_false]at h;lia
theorem K3{m:LM}{tk:List Nat}{qd:Bool}{k c:Nat}{r:List Nat}:lx m tk qd k (c::r)=match u9 m tk qd c with
 |some (m',Ky,Rx)=>lx m' Ky Rx (k+1) r
 |none=>some ⟨.str " ",k+1,tk,qd,[c]⟩:=by induction m<;>rfl
theorem ql{m m':LM}{tk Ky:List Nat}{qd Rx:Bool}{c:Nat}(h:u9 m tk qd c=some (m',Ky,Rx)):∀d∈Ky,d∈tk\/d=c:=by
 exists m,m',tk,Ky,qd,Rx,c,_;unfold u9 at h;split at h<;>split at h<;>try split at h
 all_goals(rcases h with _|_<;>simp_all)
theorem fw:∀rest m tk qd k e,(∀c∈rest,c∈pM)->(∀c∈tk,c∈pM)->lx m tk qd k rest=some e->∀c∈e.tk,c∈pM:=by
 exists rest;induction rest with
 |nil=>exists m,tk,qd,k,e;intro h1 h2 h;induction m<;>rcases h with _|_<;>exact h2
 |cons c r ih=>
  exists c,r,[ih];exists m,tk,qd,k,e;intro h1 h2 h;rw[K3]at h;rcases hS:u9 m tk qd c with _|z
  .replace h:=hS▸h;obtain rfl:=aA h;exact h2
  .obtain⟨m',q8⟩:=z;simp only[hS]at h;refine ih m' q8.1 q8.2 (k+1) e (λd hd=>h1 d<|.tail _ hd) (λd hd=>?_) h;rcases ql hS d hd with h|rfl
   .exact h2 d h
   .exact h1 d (.head _)
inductive Zx(x:Str)(R:Hp)(o:oM Fl):Option Ry->Prop
 |bad {st:St} (h:o=some (.exc<|.ty "ValueError",st)):Zx x R o none
 |good {e:Ry} {lc:Loc} (h:o=some (.ok<|.ret<|N2 e.tok,⟨oS x e.k e.sv (.str "") R,lc⟩)):Zx x R o<|some e
theorem SK{l:List Nat}{k:Nat}(hl:∀c∈l,c∈pM)(hz:l.length<1000)(hf:1000<=fu):Zx (oP l) R (t8 fu n 0 ⟨oS (oP l) k (.str " ") (.str "") R,[("self",.ref 1)]⟩)<|lx .bl [] false k<|l.drop k:=by
 exists fu,n,R,l,k,_;have T:=AS fu n l R hl hz (l.drop k) k .bl [] false [] fu rfl (by rw[eX];exact lk<|aC (kL (l.length)<|k)<|aC hf hz) ⟨rfl,rfl⟩ (by simp[eX];exact lk<|aC (kL (l.length)<|k) hz)<|.inl rfl;have e0:=ad9 fu n (oP l) k (.str " ") R;generalize hx:lx .bl [] false k (l.drop k)=z at T;induction T with
 |bad h=>exact .bad<|e0.trans (by rw[show wh fu n fu ⟨oS (oP l) k (.str " ") (.str<|oP []) R,HJ false []⟩=_ from h];rfl)
 |@good e h=>
  have e1:t8 fu n 0 ⟨oS (oP l) k (.str " ") (.str "") R,[("self",.ref 1)]⟩=t8 fu n 3 ⟨oS (oP l) e.k e.sv (.str<|oP e.tk) R,uN e.qd e.nc⟩:=e0.trans (by rw[show wh fu n fu ⟨oS (oP l) k (.str " ") (.str<|oP []) R,HJ false []⟩=_ from h];rfl);obtain⟨sv,k',tk,qd,nc⟩:=e;rcases qd with _|_
  .rcases tk with _|⟨c,r⟩
   .exact .good (e1.trans<|aac fu n _ _ _ R _)
   .exact .good (e1.trans<|adK fu n _ _ _ R _ λd hd=>Op<|fw _ _ _ _ _ _ (λd hd=>hl d<|gJ hd) (by decide) hx d hd)
  .exact .good (e1.trans<|adn fu n _ _ _ R _ _)
theorem ad8(qd)(t):Ir fu n ⟨oS x p .none t R,uN qd []⟩=some (.ok .brk,⟨oS x p .none (.str "") R,uN qd []⟩):=by rfl'
theorem aam:t8 fu n 0 ⟨oS x p .none (.str "") R,[("self",.ref 1)]⟩=(wh fu n fu ⟨oS x p .none (.str<|oP []) R,HJ false []⟩).then (k8 fu n 3):=by rfl'
theorem EG{l:List Nat}{k:Nat}(hz:l.length<big)(hk:l.length<=k)(hf:0<fu):t8 fu n 0 ⟨oS (oP l) k .none (.str "") R,[("self",.ref 1)]⟩=some (.ok<|.ret .none,⟨oS (oP l) k .none (.str "") R,uN false []++([("result",.none)]:Loc)⟩):=by obtain⟨f,rfl⟩:∃g,fu=g+1:=⟨fu-1,(eZ hf).mp rfl⟩;rw[aam,Mt (f+1) n<|(qt (f+1) n l .none (.str<|oP []) R false hz hk<|.inl rfl).trans<|ad8 ..];exact aac (f+1) n (oP l) k .none R []
end
def Nd{α:Type}:Nat->Sem α->Option α
 |n+1,.rule _ k=>Nd n<|k ()
 |_,.pure a=>some a
 |_,_=>none
theorem Ux{α:Type}{Q:α->Shared->Prop}{a:α}(n):∀t,Nd n t=some a->Q a s->wpAny M A t Q E s:=by
 induction n with
 |zero=> intro t e q;rcases t with _|_<;>first|exact nn e|(obtain rfl:=aA e;exact aM q)
 |succ n ih=> intro t e q;rcases t with _|_<;>first|exact nn e|(obtain rfl:=aA e;exact aM q)|exact λΓ p wy=>ih _ e q Γ p wy
open Builtin.Re in
def YQ(P:Params)(x:Str)(t:Tok):Option<|Bool×Nat:=
 (peek (qE P) ⟨PG,P⟩<|reTarget "re.Pattern.search" "search" ⟨[.ref 183,.str x t],[]⟩).bind λT=>
  (Nd 2000<|reRunToEnd<|Sre.forSearch T.code T.text T.groups T.pos T.lim false).map λm=>(m.isSome,T.groups)
theorem ax(P)(t):(E7.all λx=>YQ P x t==some (!Hv x,0))=true:=by rfl'
theorem EA(P):(qE P).lookup 886=some ⟨.type "builtin_function_or_method",none,.fields #[.builtin "re.Pattern.search",.ref 183],#[]⟩:=by rfl'
theorem Sg(P)(x)(t):peek (qE P) ⟨PG,P⟩ (checkBoundCall "re.Pattern.search" ⟨[.ref 183,.str x t],[]⟩)=some ():=by rfl'
theorem Uf:entryFor table "re.Pattern.search" =some Builtin.«re.Pattern.search»:=fN<|by rfl'
def KS:Prim:=a1<|vS λx H=>if E7.contains x=true then(bif Hv x then some (.ok .none,H)else nw (.other "re.Match") H)else none
open Builtin.Re in
theorem Xw{s:Shared}{x:Str}{t:Tok}{Q:Value->Shared->Prop}(X:(KF w).In s.heap)(hx:E7.contains x=true)(h1:Hv x=true->Q .none s)
 (h2:Hv x=false->∀o vs,Q (.ref<|s.heap.objs.size+1) {s with heap:=(s.heap.push o).push {cls:=.type "re.Match",data:=.fields vs}}):wpAny (model PG w) A (call (.ref 886) [.str x t]) Q E s:=by
  exists w,A,E,s,x,t,Q,_;obtain⟨T,hT,hm⟩:=aB.mp<|a5.mp<|aX.mp (ax w.params t) x<|bB.mp hx;obtain⟨m,hm,he⟩:=a9.mp hm;refine eJ<|jB ?_;refine aD<|jR (X _ _<|EA w.params) ?_;show wpAny _ _ (if(Value.type "builtin_function_or_method" !=Value.type "method")=true then(checkBoundCall "re.Pattern.search" ⟨[.ref 183,.str x t],[]⟩>>=λU=>again<|.builtin "re.Pattern.search" ⟨[.ref 183,.str x t],[]⟩)else _) _ _ s;rw[aH (by rfl)];refine aD<|(cZ X<|Sg w.params x t).here ?_;refine aM ⟨iA _<|by decide+kernel,eP Uf ?_⟩;rw[eB (by decide+kernel) _];refine aD<|(cZ X hT).here ?_;refine aD<|Ux 2000 _ hm ?_;obtain⟨he,hg⟩:=bQ he;rcases m with _|m
  .exact aM (h1<|(jP _).mp he.symm)
  .refine(hg)▸?_;refine aD ?_;refine(aD (eD (eD ?_<|by size_fits)<|by size_fits):wpAny _ A.in1 (newTuple [rawInt m.start,rawInt m.handed]>>=λtp=>newFields "re.Match" [T.string,T.pattern,rawInt T.pos,rawInt T.lim,rawInt m.lastindex,tp]) _ _ s);have:=h2 ((dA _).mp he.symm) {cls:=.type "tuple",data:=.seq [rawInt m.start,rawInt m.handed].toArray} [T.string,T.pattern,rawInt T.pos,rawInt T.lim,rawInt m.lastindex,.ref s.heap.objs.size].toArray;simp only[dI];exact aM this
theorem BJ(B:oF k C):PS C (.ref 886) KS:=u5 λρ s st U U h1=>y4 (T:=λy=>call (.ref 886) [y]) h1 λx t=>Sd.cz λhx=>by
 rcases hs:Hv x with _|_
 .refine Sd.of λG Q E kk=>Xw (B.K G) hx (λh=>by replace h:=hs▸h;injection h) λU o vs=>?_;have G1:=G.zU o;have r:=q7 G1;have G2:=G1.push (ao:=.other "re.Match") rfl ⟨vs,rfl⟩;rw[show({s with heap:=s.heap.push o}:Shared).heap.objs.size=s.heap.objs.size+1 from dI ..]at r G2;exact kk _ _ _ ⟨_,rfl⟩ r G2<|pZ.oV s _
 .exact Sd.rV λG Q E kk=>Xw (B.K G) hx (λU=>kk _ rfl) λh=>by replace h:=hs▸h;injection h
def aak(f:V)(vs:List V)(kv:List<|Str×V)(H:Hp):pO:=match f with
 |.top a=>if a=886/\kv.isEmpty=true then KS vs H else none
 |_=>qL f vs kv H
def Nw:oY:={t5 with call:=aak}
set_option tactic.hygienic true in
theorem Kj(B:oF (k+2) C):o4 C Nw:={sS B with
 call:=λ{f vs kv ρ s st fv xs ks}hf hv hk=>by
  induction f<;>first|exact Hd B hf hv hk|skip
  rename_i a;refine Sd.cz λh=>?_;obtain⟨rfl,h⟩:=h;subst hf;induction hk with
  |cons=>injection h
  |nil=>exact BJ B ρ s st vs xs hv}
theorem ik:qF 2 λU=>Nw:=λC B=>⟨Kj B,λU=>Kj B⟩
def okU{β:Type}:r8 β->Option β
 |.ok b=>some b
 |.exc _=>none
def ad4:Fl->Option V
 |.ret v=>some v
 |_=>none
def tj(o:oM Fl):Option Str:=o.bind λq=>(okU q.1).bind λf=>(ad4 f).bind λv=>vS (λx U=>some x) v []
set_option tactic.hygienic true in
theorem O9(h:tj o=some y):∃st,o=some (.ok<|.ret<|.str y,st):=by
 exists o,y,_;obtain⟨⟨u,st⟩,rfl,h0⟩:=aB.mp h;exists u,st,_;exists f,(q_:aB.mp h0);obtain⟨h1,h2⟩:=q_;exists v,(q_:aB.mp h2);obtain⟨h3,h4⟩:=q_;rcases u with g|_;rotate_left
 .exact nn h1
 obtain rfl:g=f:=aA h1;induction g<;>first|exact nn h3|skip
 rename_i u;obtain rfl:u=v:=aA h3;induction u<;>first|exact nn h4|skip
 exact⟨st,by rw[aA h4]⟩
theorem Zi:(sW.map λx=>tj<|rA (λU=>Nw) 0 true (pC 893) (oW 893) ⟨[],[("s",.str x)]⟩)=sW.map λx=>some<|tR x:=by rfl'
theorem dk(h:sW.contains x=true):∃st,rA (λU=>Nw) 0 true (pC 893) (oW 893) ⟨[],[("s",.str x)]⟩=some (.ok<|.ret<|.str<|tR x,st):=
 O9 (gA.mp Zi x<|bB.mp h)
theorem Qx:((pC 893).names.all λx=>x.2 !=.cell&&x.2 !=.free)=true:=by rfl'
theorem O6{s:Shared}{x:Str}{t:Tok}{Q:Value->Shared->Prop}(T:rC w s.heap)(hx:sW.contains x=true)(hd:A.depth+4<1000)(hu:A.units+60<9000)
 (hQ:∀y t' h',(∀b o,s.heap.get? b=some o->h'.get? b=some o)->s.toks<=t'->(∃u,y=.str (tR x) u)->Q y {s with heap:=h',toks:=t'}):wpAny (model PG w) A (call (.ref 893) [.str x t]) Q E s:=by
 exists w,A,E,s,x,t,Q,_;obtain⟨hc,bs,hb,hl,xP⟩:=zK (w:=w) (a:=893) (vs:=[.str x]) rfl (.cons ⟨t,rfl⟩ .nil) .nil;exists fd,(q_:Ih (w:=w) hc);obtain⟨Ym,F,hs⟩:=q_;simp only[Ym]at hb;exists o,(o5:F.obj);have X:=T.K;have nm:∀y∈fd.scope.names,y.2≠.cell/\y.2≠.free:=by have:=Qx;rw[<-hs]at this;simpa[aX]using this
 rw[<-hs]at xP;refine eJ<|e9 (bP hd) (X _ _ o5.1) o5.2 F.co F.gen F.body (tU X F.code) ?_;refine(cZ (M:=model PG w) X<|aA hb).here ?_;refine fF (λy hy=>(nm y hy).1) xP (λh' hn Iw=>?_) F.kind;have keep:∀b o,s.heap.get? b=some o->h'.get? b=some o:=λb o eb=>(Iw.2 b<|bI<|b9 eb).trans<|aZ _ eb;refine⟨T.lim.keeps keep,kM ?_⟩;generalize he:newEnv fd.scope s.heap.objs.size fd.globals fd.closure (fd.qualname++ ".<locals>.") (some 893) fd.code none fd.builtins=env;have Ii:∀y:Str,env.cells.lookup y=none:=λy=>by refine he▸?_;refine a6 (aV _ F.clo) ?_;rfl
 have Rw:env.locals=s.heap.objs.size:=by exact he▸rfl
 let uY:Cx:={w:=w,A:=A.deeper env,env:=env,ajU:=s.heap,F:=[]}
 exists sK,(dg:dk hx);have o8:oD uY [] ⟨[],[("s",.str x)]⟩ {s with heap:=h',toks:=s.toks+bs.length}:=by
  refine⟨⟨rfl,.nil,λi a ao e1 e2=>by exact nn e1,(λa ha=>by cases ha),⟨λb o e=>⟨o,keep _ _ e,.refl _ _⟩,λf hf=>by cases hf⟩⟩,⟨⟨_,by rw[show uY.env.locals=s.heap.objs.size from Rw];exact hn,λy hy=>?_⟩,by rw[show uY.env.locals=s.heap.objs.size from Rw];exact cB<|aI _,(λhm=>by cases hm),(λy a hy=>by rw[show uY.env.cells.lookup y=none from Ii y]at hy;exact nn hy),(λy a hy=>by rw[show uY.env.cells.lookup y=none from Ii y]at hy;exact nn hy),λy hy=>?_,(λy a hy=>by rw[show uY.env.cells.lookup y=none from Ii y]at hy;exact nn hy),by simp[show uY.env.locals=s.heap.objs.size from Rw];exact v5 T.K⟩,by have:1=bs.length:=hl.length;lia⟩
  .exact s6 (tC hl) y
  .have hk:∀kd,env.kindOf y=some kd->kd≠.cell/\kd≠.free:=λkd q=>by exact nm _ (cF (by simp[<-q,<-he];rfl))
   rcases hy with hy|hy
   .exact absurd rfl (hk _ hy).1
   .exact absurd rfl (hk _ hy).2
 refine bL (yG ik (oW 893) true uY (⟨T,bH _,nofun,by exact mV hd,by show A.units+3+20*2<9000;exact lk hu,(he▸F.kind:env.scope.kind=.function),by show env.globals=_/\env.builtins=_;exact he▸F.gl⟩) (λh=>by injection h) [] _ ⟨[],[("s",.str x)]⟩ o8 _ sK (by rw[<-dg];rw[(by rw[<-he];exact hs:env.scope=pC 893)])) (λf pS P=>?_) λU U P=>by induction P;contradiction
 obtain⟨fl,pF,e2,qT,hr,qC,rM⟩:=P;obtain rfl:=r8.ok.inj e2;obtain⟨y,rfl,u,rfl⟩:=hr;obtain⟨l,e,q9⟩:=rM.gn;have hg:pS.gens=s.gens:=by simp only[e,q9.2 λh=>by cases h];rfl
 have Im:=λb o eb=>by
  exists _;obtain⟨o',e',l⟩:=qC.sim.keep.1 b o eb;rcases l with rfl|⟨hm,_⟩|⟨_,_,hm,_⟩
  .exact k9 (e')
  .cases hm
  .cases hm
 have:=hQ (.str (tR x) u) pS.toks pS.heap Im (bC (aT _ _) rM.tk) ⟨u,rfl⟩;have XZ:=rM.os;have VX:=rM.dr;clear rM qC Im e;obtain⟨hp,q8⟩:=pS;dsimp only at XZ VX hg this⊢;subst XZ VX hg;exact this
def OT:Expr:=.Call (.Name "quote" ⟨884,21,884,26⟩) [.Name "arg" ⟨884,27,884,30⟩] [] ⟨884,21,884,31⟩
def MP:Scope:=⟨.function,[(".0",.local),("arg",.local),("quote",.globalImplicit)],true,false,[]⟩
def MW:Pos:=⟨884,20,884,57⟩
def Pk:Expr:=.GeneratorExp OT [⟨.Name "arg" ⟨884,36,884,39⟩,.Name "split_command" ⟨884,43,884,56⟩,[],0⟩] MP MW
theorem tv:Kb=.Call (.Attribute (.Constant (.str " ") 0 ⟨884,11,884,14⟩) "join" ⟨884,11,884,19⟩) [Pk] [] ⟨884,11,884,58⟩:=by rfl'
theorem BI:mf=⟨.function,[("split_command",.local)],false,false,[]⟩:=by rfl'
theorem Zr(o)(ap p)(env)(ov)(hl:(ap.endLine==p.line)=true):
 methodCall o "join" ap p env ov 1 (backTo p<|starEach [Pk] env) (backToKw p<|keywordEach [] env)=
  (holding [ov] (getMethod ov "join"<|do return (<-importBound o env).getD true)>>=λf=>callWith p f.1 f.2 [(false,eval Pk env)] []):=by
 dsimp only[methodCall,methodCallPos];rw[(by rfl:methodCallForm 1 (backTo p<|starEach [Pk] env) (backToKw p<|keywordEach [] env)=true),hl];rfl
theorem rC.low{h h':Heap}(T:rC w h)(k:∀b o,b<935->h.get? b=some o->h'.get? b=some o):rC w h':=by
 exists w,h,h',_;have WM:∀{a m},h.Ns a m->a<935->h'.Ns a m:=λq9 ha=>by obtain⟨o,es,ep,ho,r⟩:=q9;exact⟨o,es,ep,k _ _ ha ho,r⟩
 obtain⟨h1,⟨mg,h2⟩,⟨mb,h3,h3'⟩,⟨mc,h4,h4'⟩,⟨ob,h5,h5'⟩,⟨ps,h6,h6'⟩⟩:=T;exact⟨λa o e=>k _ _ (uC e).1<|h1 a o e,⟨mg,WM h2<|cR _ _⟩,⟨mb,WM h3<|c6 _,h3'⟩,⟨mc,WM h4<|cR _ _,h4'⟩,⟨ob,k _ _ (by simp) h5,h5'⟩,⟨ps,k _ _ (by simp) h6,h6'⟩⟩
theorem OX(P):nsIn (qE P) mainGlobals "__builtins__" =some (some<|.ref 4):=by rfl'
theorem SP(P):nsIn (qE P) mainGlobals "quote" =some (some<|.ref 893):=by rfl'
theorem Og(T:rC w s.heap)(h:Q builtinsNs s):wpAny (model PG w) A (builtinsFor mainGlobals r) Q E s:=by obtain⟨ob,q8⟩:=T.bm;refine aD<|(jS T.K<|OX w.params).here ?_;show wpAny _ A (if(4==builtinsNs)=true then _ else _) Q E s;rw[aL<|by decide];refine aD<|jR q8.1 ?_;simp[q8.2.2.2,q8.2.2.1,q8.2.1];exact aM h
theorem US(T:rC w s.heap)(zD:cenv.scope=MP)(Ru:cenv.globals=mainGlobals/\cenv.builtins=builtinsNs)(hx:sW.contains x=true)(hd:A.depth+4<1000)(hu:A.units+60<9000)
 (hn:s.heap.Ns cenv.locals m)(hm:m "arg" =some (.str x t))(hQ:∀y s',Keeps s s'->(∃u,y=.str (tR x) u)->Q y s'):wpAny (model PG w) A (eval OT cenv) Q E s:=by obtain⟨fd,q9⟩:=Ih (a:=893)<|rfl;obtain⟨o,q8⟩:=q9.2.1.obj;refine Call_Name rfl<|eC (by rw[zD];rfl) (by show cenv.scope.names.lookup _=_;rw[zD];rfl) ?_<|rfl;unfold loadGlobal;refine Ru.1▸Ru.2▸?_;refine aD<|(jS T.K<|SP w.params).here<|aM ?_;refine callWith_def q8.2<|iD<|iS (fD (by rw[zD];rfl) (by show cenv.scope.names.lookup _=_;rw[zD];rfl) hn hm<|iO ⟨T.K _ _ q8.1,?_⟩)<|rfl;exact O6 T hx hd hu λy t' h' k U hy=>hQ y _ ⟨h',t',rfl,k⟩ hy
theorem Yg(P):(qE P).lookup 884=some ⟨.type "code",none,.fields [S "join" 1444,S "join" 1445,S "/claim/cut.py" 1446,.int 883 0,.int 1 0,.int 0 0,.int 0 0,.int 3 0,.ref 879,.bool true,.int 318 0,.ref 880,.none,.ref 881,.ref 882,.ref 883,.int 1448 0,.int 883 0,S "/claim/cut.py" 1449].toArray,#[]⟩:=by rfl'
theorem aa4{s:Shared}{env:Env}{q:Str}{Q:Value->Shared->Prop}(T:rC w s.heap)(hc:env.code=.ref 884)
 (hQ:∀code h' tk vs more,s.heap.get? 880=some {cls:=.none,data:=.fields vs}->(TriplesOk vs.toList->TriplesOk (vs++more).toList)->Heap.ExtBut 880 s.heap h'->h'.get? 880=some {cls:=.none,data:=.fields (vs++more)}->s.toks<=tk->Q code {s with heap:=h',toks:=tk}):
 wpAny (model PG w) A (genexprCode env MW q MP) Q E s:=by
 exists w,A,E,s,env,q,Q,_;exists ps,(q9:T.tab);have ho:=T.K _ _<|Yg w.params;refine fC (aI s.toks) ?_;rcases xb:codeAmong MW ps.toList with _|cv
 .refine wpAny_genexprCodeX hc ⟨_,_,_,_,_,_,_,_,_,_,ho,rfl,rfl,rfl,rfl,rfl,rfl,q9.1,rfl,q9.2,by decide⟩ ⟨⟨_,_,ho,rfl,rfl,rfl⟩,q9.1⟩ xb ?_;exists c',h',tk;intro hx z_ z_ abU z_ aeX z_ A9;refine hQ _ h' tk ps _ q9.1 (λU=>?_) hx aeX.2 A9;obtain⟨_,_,_,_,_,_,_,_,_,_,q8⟩:=abU;exact q8.2.2.2.2.2.2.2.2.2.1
 .delta genexprCode codeAt;rw[hc,aL<|show ¬((Value.ref 884==Value.none)=true)from bV];exact aD<|jX ho rfl<|aD<|jX q9.1 rfl<|xb▸(aM λA9=>hQ cv s.heap s.toks ps #[] q9.1 (λh=>by simpa using h) (Heap.ExtBut.refl _ _) (by simpa using q9.1) A9)
theorem aaW(P):(qE P).lookup builtinsNs=none:=by rfl'
theorem uD.grow{F:List Addr}(T:rC w h)(hm:builtinsNs∈F)(hF:∀f∈F,∀o,h.get? f=some o->∃es n,o.data=.dict es n)(hp:h.get? 880=some {cls:=.none,data:=.fields vs})(ht:TriplesOk vs.toList->TriplesOk (vs++more).toList)(hx:Heap.ExtBut 880 h h')(Vg:h'.get? 880=some {cls:=.none,data:=.fields (vs++more)}):uD F h h':=
 ⟨λb o e=>by
  by_cases hb:b=880
  .subst hb;replace e:=hp▸e;obtain rfl:=aA e;exact⟨_,Vg,.inr<|.inr ⟨rfl,rfl,hm,vs,more,⟨rfl,ht⟩,rfl⟩⟩
  .exact⟨o,hx b o hb e,.refl _ _⟩,hF⟩
theorem Ef(n):passing (λU=>true) n 0=List.range n:=by unfold passing;rw[jY,jH.mpr λU U=>rfl]
def Lx(g:Nat)(q:Str)(k:Nat):Obj:={cls:=.type "generator",data:=.fields #[.int g 0,.str "<genexpr>"<|k+1,.str (q++ "<genexpr>")<|k+1+1]}
noncomputable abbrev Mf(a:Addr):Obj:={cls:=.type "list_iterator",data:=.fields #[.ref a,.int 0 0]}
inductive Made(w:World)(env:Env)(s:Shared)(a:Addr)(v:Value)(s':Shared):Prop
 |mk (code:Value) (rZ xZ:Heap) (T:rC w rZ) (tk:Nat) (ps more:Array Value) (hp:s.heap.get? 880=some {cls:=.none,data:=.fields ps}) (ht:TriplesOk ps.toList->TriplesOk (ps++more).toList) (hx:Heap.ExtBut 880 (s.heap.push<|Mf a) rZ) (Vg:rZ.get? 880=some {cls:=.none,data:=.fields (ps++more)}) (A9:s.toks<=tk)
  (hn:xZ.Ns rZ.objs.size λy=>if y= ".0" then some (.ref s.heap.objs.size)else none) (hs:Heap.SameBut rZ.objs.size (rZ.push {cls:=.type "frame",data:=.dict #[]}) xZ)
  (e:v=.ref xZ.objs.size) (es:s'={s with gens:=s.gens.push<|.fresh<|.compStart Pk 0 (.ref s.heap.objs.size) .none<|genEnv MP [] rZ.objs.size code builtinsNs env,toks:=tk+1+1+1,heap:=xZ.push (Lx s.gens.size env.qual tk)})
theorem PH(T:rC w s.heap)(hd:A.depth<1000)(zD:env.scope=⟨.function,[("split_command",.local)],false,false,[]⟩)(Ru:env.globals=mainGlobals)(cy:env.code=.ref 884)
 (hn:s.heap.Ns env.locals m)(em:m "split_command" =some (.ref a))(hL:s.heap.IsList a vs)(hQ:∀v s',Made w env s a v s'->Q v s'):wpAny (model PG w) A (eval Pk env) Q E s:=by
  refine wpAny_GeneratorExp_make rfl (closureFor_none<|by decide) (by decide) rfl rfl hd ?_ λx=>rfl;refine iS (fD (by rw[zD]) (by show env.scope.names.lookup _=_;rw[zD];rfl) hn em ?_)<|rfl;have ajZ:∀b o,s.heap.get? b=some o->(s.heap.push<|Mf a).get? b=some o:=λb o e=>aZ _ e;have Rm:=T.low λb o U e=>ajZ b o e;refine iL hL ?_;refine And.intro Rm.lim ?_;refine aa4 Rm cy λcode rZ abV ps more hp ht KT Vg A9=>?_;have hp0:s.heap.get? 880=some {cls:=.none,data:=.fields ps}:=by obtain⟨q,q8⟩:=T.tab;rw[show(s.heap.push<|Mf a).get? 880=_ from ajZ _ _ q8.1]at hp;exact a6 q8.1<|hp
  have Vh:=Rm.keep (uD.grow Rm (.head _) (λf hf o e=>by rw[aE]at hf;subst hf;obtain⟨mb,⟨o',es,ep,ho,hd,_⟩,_⟩:=Rm.bi;replace ho:=e▸ho;obtain rfl:=aA ho;exact⟨es,ep,hd⟩) hp ht KT Vg) (λf hf=>by rw[aE]at hf;subst hf;exact aaW w.params)
  simp[Ru];refine Og Vh ?_;intro h' Ex Iw;exact hQ _ _ ⟨code,rZ,h',Vh,abV,ps,more,hp0,ht,KT,Vg,A9,Ex,Iw,rfl,rfl⟩
theorem wB.only{F:List Addr}(h:GenOnlyQ g.size (g.push f) g')(hb:f.bare=true)(hm:builtinsNs∈F):wB F g g':=by
 rcases h with rfl|⟨⟨h1,h2⟩,h3⟩
 .exact⟨[f],rfl,(λx hx=>by rw[aE.mp hx];exact hb),λq=>absurd hm q⟩
 .simp only[kZ]at h1;have hl:g.size<g'.size:=(lk<|aN h1.symm);refine⟨[g'[g.size]],?_,(λx hx=>by rw[aE.mp hx];exact h3 _<|gT hl),λq=>absurd hm q⟩;refine Array.ext (by simp[h1]) λi hi wx=>?_;by_cases e:i=g.size
  .subst e;simp
  .have:=h2 i e;rw[gT hi,gT (by rw[kZ];exact mA hi h1)]at this;have vO:i<g.size:=by lia
   simp[aA this,Array.getElem_push_lt vO]
def YY(ts:List Str)(i:Nat)(y:Value):Prop:=∃x u,ts[i]?=some x/\y=.str (tR x) u
theorem TY{vs:Array Value}(e:vs.toList=strValues tl)(h:vs[i]?=some v):∃x u,(tl.map (·.1))[i]?=some x/\v=.str x u:=by
 have h':(strValues tl)[i]?=some v:=by rw[<-e];simpa using h
 replace h':=bD▸h';obtain⟨p,hp,rfl⟩:=a9.mp h';exact⟨p.1,p.2,by simp only[bD,hp];rfl,rfl⟩
theorem Uu(h:ItemsOf (λj y=>∃i,(passing (λU=>true) ts.length 0)[j]?=some i/\YY ts i y) (strValues l).toArray (passing (λU=>true) ts.length 0).length):l.map (·.1)=ts.map tR:=by exists ts,l,_;rw[Ef,cG]at h;refine List.ext_getElem (by simp[(by have:=h.1;simpa[strValues]using this)]) ?_;exists i;intro h1 h2;simp only[aF]at h1 h2;obtain⟨j,hj,x,u,hx,e⟩:=h.2 i _ (by simp[strValues,h1]:(strValues l).toArray[i]?=some (.str l[i].1 l[i].2));replace hj:=(eT h2)▸hj;obtain rfl:=aA hj;simp[List.getElem_map];replace hx:=(aP h2)▸hx;obtain rfl:=aA hx;exact(Value.str.inj e).1
theorem adf(h:m=n+1)(q:a<n\/a=n\/a=m):a<m+1:=by lia
theorem fm(B:oF 6 C)(L:pP C)(G:oD C ρ st s){v:Value}(hL:s.heap.IsList a vs)(etl:vs.toList=strValues tl)(ets:tl.map (·.1)=ts)
 (hw:(ts.all λx=>sW.contains x)=true)(xt:JoinOk " " (ts.map tR)=true)(hlen:ts.length<1000)(M:Made C.w C.env s a v s'){Q:Value->Shared->Prop}
  (kk:∀y Co,(∃u,y=.str (Txt.join " "<|ts.map tR) u)->oD C ρ st Co->pZ C.F s Co->Q y Co):wpAny (model PG C.w) C.A (call (.builtin "str.join") [.str " " t,v]) Q E s':=by
  exists C,ρ,st,s,s',a,vs,tl,ts,t,v,Q,E,[B,L,G,hL,etl,ets,hw,xt,hlen,M,kk];exists _;obtain⟨code,rZ,xZ,Vh,tk,ps,more,hp,ht,hx,Vg,A9,hn,hs,rfl,rfl⟩:=M;have T:=B.top.keep G.sim.keep B.hi;have Af:=v5 T.K;have hd:=B.dp;have hu:=B.un;have hI:=hx _ _ (cX<|b9 hp)<|bT _ rfl;have HK:=b9 hI;have h4s:xZ.objs.size=rZ.objs.size+1:=by simp only[hs.1,dI]
  have k3:∀b o,rZ.get? b=some o->(xZ.push<|Lx s.gens.size C.env.qual tk).get? b=some o:=λb o e=>aZ _<|hs.extBut b o (bI<|b9 e)<|aZ _ e;have k1:=λb o hb e=>hx b o hb<|aZ _ e;have abW:=Vh.low λb o U e=>k3 b o e;exists oa,(q_:id hL);obtain⟨HA,hca,hda⟩:=q_;have Nm:vs.size=ts.length:=by refine ets▸eS▸etl▸?_;simp[strValues]
  have hc3:cStatics<rZ.objs.size:=cK (by rw[show cStatics=2 from rfl];exact eH Af) HK;have ae2:∀A':Around,A'.handled=none->Walks PG C.w A' s.heap.objs.size (List.range rZ.objs.size) [s.heap.objs.size] vs.size (λi v=>vs[i]?=some v) (λi h=>h.IsListIter s.heap.objs.size a i/\h.IsList a vs):=λA' hA=>(Walks.list hA s.heap.objs.size a (bI<|b9 HA) vs).mono_fp λb hb=>by
   rcases aK.mp hb with rfl|hb
   .exact cJ.mpr HK
   .rw[aE]at hb;obtain rfl:=hb.symm;exact cJ.mpr<|cK (b9 HA) HK
  have hq:QuietGenD PG C.w (genEnv MP [] rZ.objs.size code builtinsNs C.env) "arg" [] OT (List.range rZ.objs.size) [s.heap.objs.size] (λi v=>vs[i]?=some v) (λU=>true) (YY ts) (xZ.push<|Lx s.gens.size C.env.qual tk) (C.A.in1.in1.depth+1)<|C.A.in1.in1.units+4:=by
   refine⟨λA' E' i v pS aj0 hA hD hU hP hn hm hk=>aM ⟨rfl,pS.heap,pS.toks,rfl,λU U e=>e⟩,λA' E' i v pS aj0 hA hD hU hP U hn hm hk=>?_⟩;obtain⟨x,u,ei,rfl⟩:=TY etl hP;replace ei:=ets▸ei;refine US (abW.low λb o hb e=>hk b (cJ.mpr<|bJ hb<|bC Af<|bS HK) (λhm=>bI (bJ hb Af)<|aE.mp hm) o e) rfl ⟨B.gl.1,rfl⟩ (aX.mp hw x<|aR ei) ?_ ?_ hn hm λy pQ ks hy=>?_
   .have:=hD;exact lk<|aC hD hd
   .have:=hU;exact lk<|aC this hu
   .obtain⟨u',rfl⟩:=hy;exact⟨⟨x,u',ei,rfl⟩,ks⟩
  have W:=WalksS.genexpQ (prog:=PG) (w:=C.w) (A:=C.A.in1.in1) L.hh xZ.objs.size s.gens.size rZ.objs.size (List.range rZ.objs.size) [s.heap.objs.size] (λU=>true) vs.size (YY ts) (h4s▸(kI _)) (λhm=>gF.mpr (bS (by rw[h4s];exact dX _))<|cJ.mp hm) (λb hb=>by rw[aE]at hb;subst hb;exact cJ.mpr HK) (bP hd) (cJ.mpr hc3) (bI hc3) λhm=>bI (bJ (by decide) Af)<|aE.mp hm
  have xO:GenAt PG C.w C.A.in1.in1 xZ.objs.size s.gens.size rZ.objs.size (List.range rZ.objs.size) [s.heap.objs.size] (λU=>true) vs.size (YY ts) 0 {s with gens:=s.gens.push<|.fresh<|.compStart Pk 0 (.ref s.heap.objs.size) .none<|genEnv MP [] rZ.objs.size code builtinsNs C.env,toks:=tk+1+1+1,heap:=xZ.push (Lx s.gens.size C.env.qual tk)}:=
   GenAt.freshD (A:=C.A.in1.in1) (cenv:=genEnv MP [] rZ.objs.size code builtinsNs C.env) L.hh ae2 (λU=>true) (YY ts) rfl rfl rfl (λhm=>dJ _<|cJ.mp hm) hq ⟨_,_,_,bT _ rfl,rfl,rfl,rfl⟩ (Array.getElem?_push_size ..) ⟨⟨_,k3 _ _ hI,rfl,rfl⟩,⟨oa,k3 _ _<|k1 _ _ (λq=>by rw[q,hp]at HA;obtain rfl:=aA HA;injection hca) HA,hca,hda⟩⟩ (hn.push _) abW.lim
  refine k9<|fC (aI<|tk+1+1+1) ?_;refine SC.joinGen W (λi s st=>st.1.typeIs) xO (λb hb=>?_) (.head _) (λi v hv=>?_) (λpS l hm hit=>?_) ?_
  .rw[dI];have q:b<rZ.objs.size\/b=rZ.objs.size\/b=xZ.objs.size:=by
    rcases aK.mp hb with e|hb
    .exact .inr (.inr e)
    .exact(aK.mp hb).elim (λe=>.inr<|.inl e) λm=>.inl<|cJ.mp m
   revert q;intro q;exact adf h4s q
  .obtain⟨j,hj,x,u,q8⟩:=hv;exact⟨_,u,q8.2⟩
  .have hit:=Nm▸hit;refine(Uu hit)▸?_;refine⟨xt,λt' k hk=>?_⟩;have kept:=λb o hb eb=>hm.heap b o (λq=>by
    have hl:=b9 eb;rcases aK.mp q with q|q
    .exact bI (cK hl HK) q
    .exact bI hl (aE.mp q))<|k3 _ _<|k1 b o hb eb
   have K:=uD.grow T L.mg (B.cls G) hp ht kept<|hm.heap 880 _ (λq=>by
    have hl:880<s.heap.objs.size:=bJ (by simp) Af;rcases aK.mp q with q|q
    .exact bI (cK hl HK) q
    .exact bI hl (aE.mp q))<|k3 _ _ Vg
   have G':=G.frame B ⟨λb o eb=>K.1 b o<|dS _ eb,λf hf o eb=>K.2 f hf o<|dS _ eb⟩ (λa ha=>absurd ha<|bG)<|cX<|bJ (c6 _) hk;exact kk _ _ ⟨t',rfl⟩ ⟨G'.sim,G'.fr,G'.tk⟩ ⟨hm.os,hm.drawn,bC A9<|bC (aT tk 3) hk,wB.only hm.gens rfl L.mg⟩
  .rw[Ef,cG,Nm];exact bC (bS hlen)<|by decide
open Classical in
theorem ez:L8 6:=by
 exists C;intro B L;exists e,ρ,s,st;unfold Jg;induction vm e with
 |false=>exact Sd.nil
 |true=>
 by_cases he:e=Kb/\C.env.scope=mf;rotate_left
 .rw[aL he];exact Sd.nil
 rw[aH he];obtain⟨rfl,zD⟩:=he;rw[tv];refine Sd.qD λv hv=>Sd.qD λl hl=>Sd.qD λts hts=>Sd.iff λhc=>Sd.of ?_;exists v,l,ts,[hv,hl,hts,hc];intro G;exists Q,E;intro kk;obtain⟨hw,xt,hlen⟩:=hc;obtain⟨rfl,hi⟩:=Px hl;simp only[BI]at zD;show wpAny _ _ (do
  let ov<-attributeBase (.Constant (.str " ") 0 ⟨884,11,884,14⟩) "join" C.env (eval (.Constant (.str " ") 0 ⟨884,11,884,14⟩) C.env)
  standAt (Pos.atName ⟨884,11,884,19⟩)
  methodCall (.Constant (.str " ") 0 ⟨884,11,884,14⟩) "join" ⟨884,11,884,19⟩ ⟨884,11,884,58⟩ C.env ov 1 (backTo ⟨884,11,884,58⟩<|starEach [Pk] C.env) (backToKw ⟨884,11,884,58⟩<|keywordEach [] C.env)) Q E s
 rw[qA rfl];refine aD<|(Br (c:=.str " ") (C:=C) rfl).ok G rfl λov oK pH tH KU o8 ajV=>aD<|dK ?_;exists ov,oK,pH,[tH,KU,o8,ajV];exists t,(q_:KU);obtain rfl:=q_;rw[Zr _ _ _ _ _<|rfl];refine aD<|cL<|iN (fT oK _ t) kC kX nC (λa e=>(by exists a,_;injection e)) ?_;refine D8 rfl<|Calls.evalArgs_plain<|iD ?_;exists m,(q_:o8.fr.ns);obtain⟨hn,hlr⟩:=q_;have hkx:C.env.kindOf "split_command" =some .local:=by show C.env.scope.names.lookup _=_;rw[zD];rfl
 have hx:=hlr "split_command" hkx;rw[hv]at hx;cases em:m "split_command" with
 |none=>simp only[em]at hx;exact hx.elim
 |some y=>
 exists y,_;exists _;exists g9,_;have hx:=em▸hx;exists a,vs,vn,(q_:o8.list hi hx);obtain⟨rfl,q8⟩:=q_;exists tl,(q9:Cv q8.2.2 hts);have hL:oK.heap.IsList a vs:=⟨_,q8.2.1,rfl,vn,rfl⟩;refine k9 ?_;refine PH (B.top.keep o8.sim.keep B.hi) (by have:=B.dp;exact bP this) zD B.gl.1 (L.cd (by rw[zD];decide)) hn em hL λv pS M=>iO ?_;exact fm B L o8 hL q9.1 q9.2 hw xt hlen M λy pQ hy rL wF=>kk y pQ pH tH hy rL<|ajV.trans wF
def wo:Scope:=fnS<|zW 4
def pw:List Stmt:=fnB<|zW 4
def atS(l:List Stmt)(i:Nat):Stmt:=(l[i]?).getD<|.Pass ⟨0,0,0,0⟩
def bdB:Stmt->List Stmt
 |.If _ b _ _|.For _ _ b _ _=>b
 |_=>[]
def elB:Stmt->List Stmt
 |.If _ _ o _=>o
 |_=>[]
def tsT:Stmt->Expr
 |.If t _ _ _=>t
 |.For _ i _ _ _=>i
 |_=>.Name "" ⟨0,0,0,0⟩
def aai:Stmt:=atS (bdB<|atS pw 2) 0
def DT:Stmt:=atS (elB aai) 0
def Dp:Expr:=.Tuple [.Name "pos" ⟨10,8,10,11⟩,.Name "ch" ⟨10,13,10,15⟩] 0 ⟨10,8,10,15⟩
def VF:Expr:=.Tuple [.Name "pos" ⟨17,19,17,22⟩,.Name "ch" ⟨17,24,17,26⟩] 0 ⟨17,18,17,27⟩
def Dd:List Stmt:=[.If (.Name "escape" ⟨11,11,11,17⟩) (bdB aai) [.If (tsT DT) (bdB DT) [.Expr (.Yield (some VF) ⟨17,12,17,27⟩) ⟨17,12,17,27⟩] ⟨14,8,17,27⟩] ⟨11,8,17,27⟩]
theorem Ti{n:Nat}{K:Flow->Sem PySem.Fin}{H:Value->Sem PySem.Fin}{gd:Bool->Bool}{t:Expr}{b o:List Stmt}(h:wpAny M (A.over c fs) (isTrue t env<|eval t env) (λx s'=>Seg M A R Y n o6 c ((execs (bif x then b else o) env).wrap K H gd lv) fs s') (λU U=>False) s):
 Seg M A R Y n o6 c ((exec (.If t b o pos) env).wrap K H gd lv) fs s:=by
 simp[arm_exec_If];refine n8 ?_;show Seg M A R Y n o6 c ((isTrue t env (eval t env)>>=λx=>if x=true then execs b env else execs o env).wrap K H gd lv) fs s;rw[eN,fX];refine j9<|bL h (λx s' hx=>?_) λU U z=>z.elim;induction x
 .exact hx
 .exact hx
theorem Oo{K:Flow->Sem PySem.Fin}{H:Value->Sem PySem.Fin}{st:Stmt}(h:wpAny M (A.over c fs) (exec st env) (λf s'=>f=.next/\Seg M A R Y n o6 c (K .next) fs s') (λU U=>False) s):Seg M A R Y n o6 c ((exec st env).wrap K H gd lv) fs s:=
 j9 (bL h (λf s' hx=>by obtain⟨rfl,hx⟩:=hx;exact hx) λU U z=>z.elim)
theorem ae:qF 2 vK:=λC B=>⟨sS B,λU=>gf B⟩
structure GE(env:Env):Prop where
 sc:env.scope=wo
 gl:env.globals=mainGlobals/\env.builtins=builtinsNs
 ce:∀y:Str,env.cells.lookup y=none
 lo:935<=env.locals
def Jw(env:Env)(L:Loc)(h:Heap):Prop:=∃m,h.Ns env.locals m/\∀y,env.kindOf y=some .local->LR [] (L.lookup y) (m y)
def Cg(w:World)(A:Around)(env:Env)(h:Heap)(X:List Addr):Cx:=⟨w,A,env,hideAll h (env.locals::X),[]⟩
theorem Kp:(wo.names.all λx=>x.2 !=.cell&&x.2 !=.free)=true:=by rfl'
theorem GE.kind(g:GE env):env.kindOf y≠some .cell/\env.kindOf y≠some .free:=by
 have key:∀kd,env.kindOf y=some kd->kd≠.cell/\kd≠.free:=λkd q=>by have:=aX.mp Kp _<|cF (by rw[<-g.sc];exact q);simpa using this
 exact⟨λq=>(key _ q).1 rfl,λq=>(key _ q).2 rfl⟩
theorem Cg.good(g:GE env)(hL:Jw env L s.heap)(ht:s.toks≠0):oD (Cg w A env s.heap X) [] ⟨[],L⟩ s:=
 ⟨⟨rfl,.nil,λi a ao e1 e2=>by exact nn e1,λa ha=>by simp at ha,⟨λb o e=>⟨o,dS _ e,.refl _ _⟩,λf hf=>by cases hf⟩⟩,
  ⟨hL,eM _<|.head _,(λhm=>by cases hm),(λy a hy=>by rw[show(Cg w A env s.heap X).env.cells.lookup y=none from g.ce y]at hy;exact nn hy),(λy a hy=>by rw[show(Cg w A env s.heap X).env.cells.lookup y=none from g.ce y]at hy;exact nn hy),λy hy=>(hy.elim g.kind.1 g.kind.2).elim,(λy a hy=>by rw[show(Cg w A env s.heap X).env.cells.lookup y=none from g.ce y]at hy;exact nn hy),g.lo⟩,ht⟩
theorem Cg.base(g:GE env)(T:rC w h)(hX:∀b∈X,935<=b)(hd:A.depth+2<1000)(hu:A.units+40<9000):oF 2<|Cg w A env h X:=by
 refine⟨T.low λb o hb e=>dL _ e λhm=>?_,(λf hf=>by cases hf),(λf hf=>by cases hf),hd,by show A.units+20*2<9000;omega,by show env.scope.kind=_;rw[g.sc];rfl,g.gl⟩;rcases aK.mp hm with rfl|hm
 .exact absurd hb (gF.mpr g.lo)
 .exact absurd hb (gF.mpr<|hX _ hm)
theorem Cg.since{env:Env}{X:List Addr}{s s':Shared}{ρ:List Addr}{st:St}(G:oD (Cg w A env s.heap X) ρ st s')(n:pZ [] s s'):GenSince env.locals X s s':=by
 exists w,A,env,X,s,s',ρ,st,_;exists l,(q_:n.gn);obtain⟨e,q9⟩:=q_;have hg:s'.gens=s.gens:=by rw[e,q9.2 λh=>by cases h];rfl
 refine⟨s'.heap,s'.toks,?_,λb o hb hw eb=>?_⟩
 .have XZ:=n.os;have VX:=n.dr;clear e n G;obtain⟨hp,q8⟩:=s';subst XZ VX hg;rfl
 .exists b,o,_;have eb':=dL _ eb λhm=>by
   rcases aK.mp hm with q|q
   .exact hb q
   .exact hw q
  exists o',(q_:G.sim.keep.1 b o eb');obtain⟨e',l⟩:=q_;rcases l with rfl|⟨hm,_⟩|⟨_,_,hm,_⟩
  .exact e'
  .cases hm
  .cases hm
theorem LR.plain(hv:∀x,v=some x->w3 x=true)(h:LR ρ v u):LR [] v u:=by
 rcases v with _|x
 .induction u<;>exact h
 .rcases u with _|y
  .exact h
  .have:=hv x rfl;induction x<;>first|exact h|rcases this with _|_
theorem wt(G:oD C ρ ⟨H,L⟩ s)(hL:∀y v,L.lookup y=some v->w3 v=true):Jw C.env L s.heap:=by obtain⟨m,q8⟩:=G.fr.ns;exact⟨m,q8.1,λy hy=>(q8.2 y hy).plain<|hL y⟩
def L0(x:Str)(p:Int):Loc:=[("addr",.str x),("pos",.int p),("escape",.bool false)]
def Rn(x:Str)(p:Int)(c:Nat):Loc:=[("addr",.str x),("pos",.int p),("escape",.bool false),("ch",.str ⟨#[c]⟩)]
theorem je(x)(p)(c):∀y v,(Rn x p c).lookup y=some v->w3 v=true:=λy v h=>by
 have:∀q∈Rn x p c,w3 q.2=true:=by intro q hq;simp only[Rn,aK,bG,or_false]at hq;rcases hq with rfl|rfl|rfl|rfl<;>rfl
 exact this _<|cF h
inductive LT(x:Str):Loc->Prop
 |a (p:Int):LT x<|L0 x p
 |b (p:Int) (c:Nat):LT x<|Rn x p c
theorem ZW(x)(i)(c)(h:LT x L):sD wo ["pos","ch"] [.int i,.str ⟨#[c]⟩] ⟨[],L⟩=some (.ok (),⟨[],Rn x i c⟩):=by induction h<;>rfl'
theorem aaE(x)(p)(c)(q)(H):u7 t5 wo (.Name "escape" q) ⟨H,Rn x p c⟩=some (.ok false,⟨H,Rn x p c⟩):=by rfl'
theorem VI(x)(q){L:Loc}(h:LT x L):u7 t5 wo (.Name "escape" q) ⟨[],L⟩=some (.ok false,⟨[],L⟩):=by induction h<;>rfl'
def ZA:List Nat:=(List.range 128).filter (· !=92)
theorem chT(x)(p):(ZA.map λc=>u7 t5 wo (tsT DT) ⟨[],Rn x p c⟩)=ZA.map λc=>some (.ok false,⟨[],Rn x p c⟩):=by rfl'
theorem chE(p)(h:w9 x=true)(hc:x.cps[i]?=some c):u7 t5 wo (tsT DT) ⟨[],Rn x p c⟩=some (.ok false,⟨[],Rn x p c⟩):=by refine gA.mp (chT x p) c<|dT.mpr ?_;have:=mW.mp h i (c8.mp hc).1;rw[(c8.mp hc).2,aQ,d6]at this;exact⟨cJ.mpr this.1,this.2⟩
theorem yE(x)(p)(c):pW t5 wo VF ⟨[],Rn x p c⟩=some (.ok<|.ref 0,⟨[.tuple [.int p,.str ⟨#[c]⟩]],Rn x p c⟩):=by rfl'
def gnR(C0 I E:Addr):GenEnd:=λn o6 r s=>r=.ok (.ret .none)/\(n=0/\GenSince C0 [I,E] o6 s)
def aa7(h:Heap)(b:Addr):Prop:=∃o,h.get? b=some o/\(∀u,o.data≠.cell u)/\((∃n,o.cls=.type n)\/∀vs,o.data≠.fields vs)
def gnY(w:World)(env:Env)(x:Str)(I E:Addr):Protocol:=λm o6 v s kap=>
 (∃T i c u t,v=.ref T/\x.cps[i]?=some c/\i+m+1=x.cps.size/\s.heap.IsTuple T #[.int (i:Nat) u,.str ⟨#[c]⟩ t])/\GenSince env.locals [I,E] o6 s/\(∀b∈[env.locals,I,E],aa7 s.heap b)/\
  ∀Co,(∀b∈[env.locals,I,E],∀o,s.heap.get? b=some o->Co.heap.get? b=some o)->rC w Co.heap->Co.toks≠0->kap (.send .none) Co
structure kj(w:World)(env:Env)(x:Str)(t:Tok)(I E:Addr)(i:Nat)(s:Shared):Prop where
 top:rC w s.heap
 tk:s.toks≠0
 loc:∃L,LT x L/\Jw env L s.heap
 en:∃old,IsEnum s.heap E I i old
 it:s.heap.IsStrIter I "str_ascii_iterator" x t i
theorem GenSince.trans{C:Addr}(x:GenSince C wr a b)(y:GenSince C wr b c):GenSince C wr a c:=by obtain⟨h,tk,rfl,k⟩:=y;exact x.step k
theorem GenSince.mono{C:Addr}(x:GenSince C wr a b)(h:∀d∈wr,d∈wr'):GenSince C wr' a b:=by obtain⟨h',tk,q8⟩:=x;exact⟨h',tk,q8.1,λb o h1 h2 e=>q8.2 b o h1 (λm=>h2<|h b m) e⟩
theorem X0(hh:A.handled=none)(ht:s.heap.IsTuple T #[a,b])(h:∀h',Heap.ExtBut s.heap.objs.size s.heap h'->Q [a,b] {s with heap:=h'}):wpAny (model PG w) A (unpackItems (.ref T) 2 none) Q E s:=by
 have key:∀n,n= #[a,b].size->wpAny (model PG w) A (unpackItems (.ref T) n none) Q E s:=λn e=>by subst e;exact kB hh ht λh' hs=>h h' hs
 exact key 2 rfl
theorem Zh{env:Env}{x:Str}{t:Tok}{I E:Addr}{fs:List Frame}(hx:w9 x=true)(g:GE env)(hI:935<=I)(hE:935<=E)(hIE:E≠I)(WN:env.locals≠I)(hCE:env.locals≠E)
 (hh:(A.over (.forLoop Dp (.ref E) Dd [] env) fs).handled=none)(hd:(A.over (.forLoop Dp (.ref E) Dd [] env) fs).depth+2<1000)(hu:(A.over (.forLoop Dp (.ref E) Dd [] env) fs).units+40<9000)
 (XQ:splitAtGen fs=none)(hfg:fs.any Frame.guarded=false)
 (abX:∀o6 s,rC w s.heap->s.toks≠0->(∃L,LT x L/\Jw env L s.heap)->GenSince env.locals [I,E] o6 s->Seg (model PG w) A (gnR env.locals I E) (gnY w env x I E) 0 o6 (.block [] env) ((model PG w).den<|.block [] env) fs s):
 ∀k i o6 s,x.cps.size-i=k->i<=x.cps.size->kj w env x t I E i s->GenSince env.locals [I,E] o6 s->
  Seg (model PG w) A (gnR env.locals I E) (gnY w env x I E) (x.cps.size-i) o6 (.forLoop Dp (.ref E) Dd [] env) ((model PG w).den<|.forLoop Dp (.ref E) Dd [] env) fs s:=by
 exists w,A,env,x,t,I,E,fs,[hx,g,hI,hE,hIE,WN,hCE,hh,hd,hu,XQ,hfg,abX];have W:=WalksT.enumerateD (prog:=PG) (w:=w) (A:=A.over (.forLoop Dp (.ref E) Dd [] env) fs) (Draws.strAscii (A:=(A.over (.forLoop Dp (.ref E) Dd [] env) fs).in1) hh I x t) E hIE (λhm=>hIE<|aE.mp hm)<|.head _;have low:∀{h h':Heap},rC w h->(∀b o,b∉[E,I]->h.get? b=some o->h'.get? b=some o)->rC w h':=λT k=>T.low λb o hb e=>k b o (λhm=>by
  exists b,o,_;rcases aK.mp hm with rfl|hm
  .exact absurd hb (gF.mpr hE)
  .rw[aE]at hm;replace hm:=hm.symm;subst hm;exact absurd hb<|gF.mpr hI) e
 have lok:∀{L:Loc}{h h':Heap},Jw env L h->(∀b o,b∉[E,I]->h.get? b=some o->h'.get? b=some o)->Jw env L h':=λq9 k=>by
  exists m,(q18:q9);refine⟨m,?_,q18.2⟩;exists o,es,ep,(XY:q18.1);exact⟨o,es,ep,k _ _ (λhm=>by
   rcases aK.mp hm with q|hm
   .exact hCE q
   .exact WN (aE.mp hm)) XY.1,XY.2⟩
 exists k;induction k with
 |zero=>
  exists i,o6,s;intro hk hi TK hs;have ew:i=x.cps.size:=by grind
  obtain rfl:=ew.symm;rw[cD];refine D2<|fC (aI s.toks)<|W.done s _ _ ⟨TK.en,TK.it⟩ ?_;exists h',tk;intro cu A9;exists L,(ej:TK.loc);exact abX _ _ (low TK.top cu) (by have:=TK.tk;have:s.toks<=tk:=A9;lia) ⟨L,ej.1,lok ej.2 cu⟩<|hs.step λb o U hw e=>cu b o (λhm=>hw (by
   exists b,o,_;rcases aK.mp hm with rfl|hm
   .exact .tail _ (.head _)
   .rw[aE]at hm;obtain rfl:=hm.symm;exact .head _)) e
 |succ k ih=>
  exists k,[ih];exists i,o6,s;intro hk hi TK hs;have vO:i<x.cps.size:=by grind
  obtain⟨m,hm⟩:∃m,x.cps.size-i=m+1:=⟨x.cps.size-i-1,by grind⟩;exists m,_;rw[hm];refine D2<|fC (aI s.toks)<|W.item i s _ _ vO ⟨TK.en,TK.it⟩ ?_;exists T,vals,h',tk;intro hP hT ae6 abY cu A9;exists u,v,(q_:hP);obtain⟨⟨c,u',hc,rfl⟩,rfl⟩:=q_;exists c,u',_;refine W.go _ _ _ i T _ _ _ abY ?_;exists Hz;intro WO Im;exists L,(Rh:TK.loc);exists oT,(Em:ae6);have C4:=B7 (C:=Cg w (A.over (.forLoop Dp (.ref E) Dd [] env) fs) env Hz []) [.Name "pos" ⟨10,8,10,11⟩,.Name "ch" ⟨10,13,10,15⟩] ["pos","ch"] rfl;have Oq:=sS (k:=0)<|Cg.base (A:=A.over (.forLoop Dp (.ref E) Dd [] env) fs) (X:=[]) g (low (low TK.top cu) Im) (λb hb=>by exists b,_;simp at hb) hd hu;show wpAny (model PG w) _ (do standAt ⟨10,8,10,15⟩;unpack (.ref T) (assignEach [.Name "pos" ⟨10,8,10,11⟩,.Name "ch" ⟨10,13,10,15⟩] (Cg w (A.over (.forLoop Dp (.ref E) Dd [] env) fs) env Hz []).env)) _ _ _;dsimp only[unpack];refine C4.1▸C4.2.1▸?_;refine aD<|dK ?_;refine aD<|cL<|X0 hh (⟨oT,Im _ _ (W.apart i T h' abY) Em.1,Em.2.1,Em.2.2⟩) ?_;exists rZ;intro abZ;refine(C4.2.2 [.int i,.str ⟨#[c]⟩] _ [] _ ⟨[],L⟩<|.cons ⟨u,rfl⟩<|.cons ⟨u',rfl⟩ .nil).ok ((Cg.good (w:=w) (A:=A.over (.forLoop Dp (.ref E) Dd [] env) fs) (X:=[]) (s:={s with heap:=Hz,toks:=tk}) g (lok (lok Rh.2 cu) Im) (by have:=TK.tk;have:s.toks<=tk:=A9;grind:tk≠0)).ext (h':=rZ) (λb o e=>abZ b o (bI<|b9 e) e) 0) (by exact g.sc▸(ZW x i c Rh.1)) ?_;exists z_,Cq,Q0;intro KD z_ Np xd;refine fP<|Ti ?_;refine(wQ Oq _ ⟨[],Rn x i c⟩ Q0 Cq).ok Np (by exact g.sc▸(aaE x i c _ _)) ?_;exists b,A0,El;intro Q7 hb E0 U9;subst hb;refine fP<|Ti ?_;refine(wQ Oq _ ⟨[],Rn x i c⟩ El A0).ok E0 (by exact g.sc▸(chE i hx hc)) ?_;exists b,Jc,zC;intro Kw hb Id E1;subst hb;refine fP<|seg_Expr_Yield XQ rfl hfg ?_ (by exact g.sc▸rfl) (by unfold interactive;exact g.sc▸rfl);refine(pG Oq VF ⟨[],Rn x i c⟩ zC Jc).ok Id (by exact g.sc▸(yE x i c)) ?_;exists v,VT,ye;intro KV hv No Ra;exists kap;intro Vi;exists T',vs,nT,(q_:No.tuple rfl hv);obtain⟨rfl,vH⟩:=q_;exists y1,y2,(q_:Vd vH.2.2);obtain⟨e12,⟨u1,rfl⟩,u2,rfl⟩:=q_;have nn:=(pZ.oV {s with heap:=Hz,toks:=tk} rZ).trans<|((xd.trans U9).trans E1).trans Ra;have sin:=Cg.since No nn;exists aiD,agx,(q_:id sin);obtain⟨es,ab0⟩:=q_;have KW:=wt No<|je x i c;subst es;obtain⟨⟨old,hen⟩,hit⟩:=WO;exists old,_;have yf:=ab0 E _ (dQ hCE) (λh=>nomatch h) hen;exists oI,(q_:hit);obtain⟨hoI,qV⟩:=q_;have KX:=ab0 I _ (dQ WN) (λh=>nomatch h) hoI;have zE:∀{b:Addr},b∉[I,E]->b∉[E,I]:=λhb hm=>hb (by
   rcases aK.mp hm with rfl|hm
   .exact .tail _ (.head _)
   .rw[aE]at hm;obtain rfl:=hm.symm;exact .head _)
  refine⟨⟨T',i,c,u1,u2,rfl,hc,(cM (lk<|aC (aN<|aY<|show i<=x.cps.size from(lk hi))<|aN hm.symm)<|lk<|aC (aN (aY<|show i<=x.cps.size from(lk hi)).symm)<|aN hm),⟨_,vH.2.1,rfl,nT,?_⟩⟩,GenSince.trans (hs.step λb o U hw e=>Im b o (zE hw)<|cu b o (zE hw) e) (GenSince.mono sin λd h=>nomatch h),?_,λCo WP T'' ae7=>Vi .none Co ?_⟩
  .rw[<-e12]
  .exists ab1,(q20:KW);exists oC,es,ep,(q_:q20.1);obtain⟨hoC,q19⟩:=q_;exists b;intro hb;rcases aK.mp hb with rfl|hb
   .exact⟨oC,hoC,(λu q=>by rw[q19.1]at q;injection q),.inr λvs q=>by have q:=q19.1▸q;cases q⟩
   .rcases aK.mp hb with rfl|hb
    .exact⟨oI,KX,(λu q=>by rw[qV.2]at q;injection q),.inl ⟨_,qV.1⟩⟩
    .rw[aE]at hb;obtain rfl:=hb.symm;exact⟨_,yf,λu q=>by injection q,.inl ⟨_,rfl⟩⟩
  .exists _;exists ab1,(o5:KW);exists oC,es,ep,(q8:o5.1);have next:=ih (i+1) Co Co (by omega) vO (⟨T'',ae7,⟨Rn x i c,.b _ _,ab1,⟨oC,es,ep,WP _ (.head _) _ q8.1,q8.2⟩,o5.2⟩,⟨old,WP _ (.tail _<|.tail _<|.head _) _ yf⟩,⟨oI,WP _ (.tail _<|.head _) _ KX,qV.1,qV.2⟩⟩)<|GenSince.refl _ _ _;rw[show x.cps.size-(i+1)=m by omega]at next;exact k9<|seg_again rfl next
def st0:Stmt:=.Assign [.Name "pos" ⟨8,4,8,7⟩] (.Constant (.int 0) 0 ⟨8,10,8,11⟩) ⟨8,4,8,11⟩
def sTx:Stmt:=.Assign [.Name "escape" ⟨9,4,9,10⟩] (.Constant (.bool false) 0 ⟨9,13,9,18⟩) ⟨9,4,9,18⟩
def ZQ:Expr:=.Call (.Name "enumerate" ⟨10,19,10,28⟩) [.Name "addr" ⟨10,29,10,33⟩] [] ⟨10,19,10,34⟩
theorem FL:pw=[st0,sTx,.For Dp ZQ Dd [] ⟨10,4,17,27⟩,.If (.Name "escape" ⟨18,7,18,13⟩) (bdB<|atS pw 3) [] ⟨18,4,19,25⟩]:=by rfl'
theorem aar(g:GE env)(hk:wo.names.lookup y=some .local)(hn:s.heap.Ns env.locals m)
 (hc:∀Q E,Q v {s with toks:=s.toks+n}->wpAny (model PG w) A (constValue env c) Q E s)(hsw:swapsWith (.Constant c k q) (some<|.Name y p) r.line env=pure false)
  (hQ:∀h' t,h'.Ns env.locals (λz=>if z=y then some v else m z)->Heap.SameBut env.locals s.heap h'->s.toks<=t->Q .next {s with heap:=h',toks:=t}):wpAny (model PG w) A (exec (.Assign [.Name y p] (.Constant c k q) r) env) Q E s:=by
  rw[exec_Assign_Name _ _ _ _ _ hsw];refine aD<|dK<|aD<|hc _ _ ?_;refine aD<|dK<|aD<|nM ?_;refine k7 (g.sc▸hk:env.scope.names.lookup y=_) hn (λh' Ex Iw=>aM<|hQ h' _ Ex Iw<|bC (aT s.toks n)<|aT _ 1)<|g.sc▸rfl
theorem Zu:Cf "enumerate" =some (.ty "enumerate"):=by rfl'
theorem AY{env:Env}{x:Str}{s:Shared}{I:Addr}(hx:w9 x=true)(g:GE env)(hI:935<=I)(WN:env.locals<I)
 (hh:A.handled=none)(hd:A.depth+4<1000)(hu:A.units+50<9000){m:Str->Option Value}(T:rC w s.heap)(A9:s.toks≠0)(hn:s.heap.Ns env.locals m)(hm:∀y,env.kindOf y=some .local->LR [] (([("addr",.str x)]:Loc).lookup y) (m y))(Nm:s.heap.objs.size=I):
 Seg (model PG w) A (gnR env.locals I<|I+1) (gnY w env x I<|I+1) x.cps.size s (.func pw env) ((model PG w).den<|.func pw env) [] s:=by
 exists w,A,env,x,s,I,m,[hx,g,hI,WN,hh,hd,hu,T,A9,hn,hm,Nm];refine seg_func ?_;rw[show execs pw env=execs [st0,sTx,.For Dp ZQ Dd [] ⟨10,4,17,27⟩,.If (.Name "escape" ⟨18,7,18,13⟩) (bdB<|atS pw 3) [] ⟨18,4,19,25⟩] env from aV (execs · env) FL];have kad:env.kindOf "addr" =some .local:=by show env.scope.names.lookup _=_;exact g.sc▸rfl
 obtain⟨t,ha⟩:∃t,m "addr" =some (.str x t):=by
  have:=hm "addr" kad;rcases e:m "addr" with _|v
  .simp only[e]at this;exact this.elim
  .simp only[e]at this;obtain⟨t,rfl⟩:=this;exact⟨t,rfl⟩
 refine fP<|Oo<|aar g rfl hn (λQ E h Γ p U=>h) rfl λvN aiI ab2 KY agz=>⟨rfl,?_⟩;refine fP<|Oo<|aar (n:=0) g rfl ab2 (λQ E h=>aM h) rfl λHz WQ KZ LA agB=>⟨rfl,?_⟩;have k2:∀b o,b≠env.locals->s.heap.get? b=some o->Hz.get? b=some o:=λb o hb e=>(LA.2 b hb).trans<|(KY.2 b hb).trans e;have Rm:=T.low λb o hb e=>k2 b o (bI<|bJ hb g.lo) e;have xO:strIterType x= "str_ascii_iterator" :=aH (by have ei:x.cps.all (λc=>decide (c<128)&&c !=92)=true:=hx;rw[mW]at ei⊢;intro i hi;have:=ei i hi;simp only[aQ]at this;exact this.1)
 refine fP<|AX (λU=>rfl) ?_;refine Call_Name rfl<|eC (g.sc▸rfl) (by show env.scope.names.lookup _=_;exact g.sc▸rfl) (Mp (ρ:=[]) (s:={s with heap:=Hz,toks:=WQ}) g.gl Rm Zu λy hy=>?_)<|rfl;subst hy;refine callWith_type1<|iD<|iS (fD (by rw[g.sc];rfl) kad KZ ha<|iO ?_)<|rfl;refine call_enumerate_str λrZ he hit agC yg=>?_;have eI:=(LA.1.trans KY.1).trans Nm;rw[eI]at he hit⊢;replace hit:=xO▸hit;refine wpAny_pyIter_enum he ?_;intro p;have TK:kj w env x t I (I+1) 0 {s with heap:=rZ,toks:=WQ}:=by
  refine⟨Rm.low λb o U e=>yg b o e,by lia,⟨L0 x 0,.a 0,?_⟩,⟨_,he⟩,hit⟩;obtain⟨o,es,ep,q9⟩:=KZ;refine⟨_,⟨o,es,ep,yg _ _ q9.1,q9.2⟩,λy hy=>?_⟩;by_cases e1:y= "escape"
  .subst e1;exact(aH rfl)▸rfl
  .rw[aL e1];by_cases e2:y= "pos"
   .subst e2;exact(aH rfl)▸(⟨_,rfl⟩)
   .rw[aL e2];have:=hm y hy;exact(show(L0 x 0).lookup y=([("addr",.str x)]:Loc).lookup y by simp[L0,List.lookup,a7.mpr e1,a7.mpr e2])▸this
 refine Zh hx g hI (eE hI) (kI I) (bI WN) (bI<|gC WN) ?_ ?_ ?_ ?_ ?_ (λo6 s' T' Ky hL Iw=>?_) x.cps.size 0 s _ (mN _) (cV _) TK ⟨rZ,WQ,rfl,λb o hb U e=>yg b o<|k2 b o hb e⟩
 .exact hh
 .change A.depth+1+0+2<1000;exact mV hd
 .change A.units+3+0+40<9000;exact lk hu
 .rfl
 .rfl
 .obtain⟨L,q8⟩:=hL;refine seg_leaf (.ok Flow.next) ?_;refine fP<|Ti ?_;refine(wQ (sS<|Cg.base (A:=A.over (.func pw env) []) (X:=[]) g T' (λb hb=>by simp at hb) (by change A.depth+0+1+2<1000;exact lk hd) (by change A.units+0+3+40<9000;exact lk hu)) _ ⟨[],L⟩ [] s').ok (Cg.good g q8.2 Ky) (g.sc▸(VI x _ q8.1)) λb A0 El U hb E0 U9=>?_;subst hb;exact seg_end (.ok<|Flow.ret .none) ⟨rfl,rfl,GenSince.trans Iw<|GenSince.mono (Cg.since E0 U9) λd h=>nomatch h⟩
def YN:Expr:=.Tuple [.Name "pos" ⟨26,8,26,11⟩,.Name "ch" ⟨26,13,26,15⟩] 0 ⟨26,8,26,15⟩
theorem ug:vC=.For YN (.Call (.Name "_iter_escaped_chars" ⟨26,19,26,38⟩) [.Name "addr" ⟨26,39,26,43⟩] [] ⟨26,19,26,44⟩) qK [] ⟨26,4,34,31⟩:=by rfl'
section
variable{β α:Type}
theorem Sd.LB{t:Sem α}{Rel:List Addr->β->α->Prop}{o:oM β}(B:oF k C)(h:∀h',oF k (C.at h')->Sd (C.at h') t Rel ρ s st o)(G:oD C ρ st s){b:β}{oE:St}(e:o=some (.ok b,oE)){Q:α->Shared->Prop}{E:Value->Shared->Prop}
 (kk:∀x s' oO,ρ<+:oO->Rel oO b x->oD C oO oE s'->pZ C.F s s'->(∀i ob,s.heap.get? i=some ob->i∉ρ->i≠C.env.locals->i∉C.F->(∀u,ob.data≠.cell u)->((∃n,ob.cls=.type n)\/∀vs,ob.data≠.fields vs)->s'.heap.get? i=some ob/\i∉oO)->Q x s'):wpAny (model PG C.w) C.A t Q E s:=by
 refine bL (h (C.wY s.heap ρ).ajU (B.wY G) (G.wY<|B.cls G) (.ok b) oE e) (λx s' P=>?_) λx s' P=>by induction P;contradiction
 obtain⟨b',oO,e1,hp,hr,G',n⟩:=P;obtain rfl:=r8.ok.inj e1;refine kk x s' oO hp hr (G.zB G') n λi ob ho hi hl hf hu hc=>?_;have h0:=zI ho hl hi<|G.Nh ho hu;refine⟨?_,λhm=>by replace h0:=((G'.sim.new i hm).1)▸h0;cases h0⟩;exists _;obtain⟨o',e',l⟩:=G'.sim.keep.1 i ob h0;rcases l with rfl|⟨hm,_⟩|⟨h1,_,_,vs,more,hd,_⟩
 .exact k9 (e')
 .exact k9 (absurd hm hf)
 .rcases hc with⟨n,hc⟩|hc
  .replace hc:=h1▸hc;injection hc
  .exact k9 (absurd hd.1<|hc vs)
end
structure vz(C:Cx)(ρ:List Addr)(b:Addr):Prop where
 r:b∉ρ
 l:b≠C.env.locals
 h:C.ajU.get? b=none
 c:∀x,C.env.cells.lookup x≠some b
theorem vz.of_none(G:oD C ρ st s){b:Addr}(hb:s.heap.get? b=none):vz C ρ b:=by
 refine⟨λhm=>?_,?_,?_,λx q=>?_⟩
 .obtain⟨o,ho⟩:=G.live hm;replace ho:=hb▸ho;exact nn ho
 .rintro rfl;obtain⟨o,_,_,ho,_⟩:=G.rR;replace ho:=hb▸ho;exact nn ho
 .rcases q:C.ajU.get? b with _|o
  .rfl
  .obtain⟨o',e',_⟩:=G.sim.keep.1 b o q;rw[hb]at e';injection e'
 .obtain⟨_,_,u,⟨o,ho,_⟩,_⟩:=G.fr.cell x b q;rw[hb]at ho;injection ho
theorem vz.ab3(W:vz C ρ b)(B:oF k C):b∉C.F:=λhm=>by obtain⟨o,_,_,h,_⟩:=B.live b hm;replace h:=W.h▸h;exact nn h
theorem Wo(g:Array GenState)(x y)(l):(g++(x::l).toArray).setIfInBounds g.size y=g++(y::l).toArray:=by apply Array.toList_inj.mp;simp
theorem zz(g:Array GenState)(x)(l):(g++(x::l).toArray)[g.size]?=some x:=by simp
structure GS(C:Cx)(s0:Shared)(x:Str)(env:Env)(ga I:Addr)(ρ:List Addr)(st:St)(j:Nat)(s:Shared):Prop where
 good:oD C ρ st s
 gens:∃gs l,s.gens=s0.gens++(gs::l).toArray/\(∀y∈l,y.bare=true)/\gs.Goes (model PG C.w) C.A.in1 (gnR env.locals I<|I+1) (gnY C.w env x I<|I+1) (x.cps.size-j) (.send .none) (s.setGen s0.gens.size .running)
 os:s.os=s0.os
 dr:s.drawn=s0.drawn
 tk:s0.toks<=s.toks
 gen:∃o vs,s.heap.get? ga=some o/\o.cls=.type "generator" /\o.data=.fields vs/\s.heap.IsGen ga s0.gens.size
 away:∀b∈[ga,env.locals,I,I+1],vz C ρ b
inductive GF(ob:St->oM Fl)(p:Int×Nat)(l:List<|Int×Nat)(st:St)(r:r8 Unit)(Jd:St):Prop
 |next (st1 st2:St) (e1:sD Ee ["pos","ch"] [.int p.1,.str ⟨#[p.2]⟩] st=some (.ok (),st1)) (e2:ob st1=some (.ok .next,st2)) (e3:tW ob l st2=some (r,Jd))
set_option tactic.hygienic true in
theorem Ov{st Jd:St}{r:r8 Unit}(e:tW ob (p::l) st=some (r,Jd)):GF ob p l st r Jd:=by
 exists ob,p,l,st,Jd,r,_;obtain⟨c,h1,_⟩|⟨_,sa,h1,e⟩:=qJ e
 .exact(Al h1).elim
 obtain⟨c,h2,_⟩|⟨_,sb,h2,e⟩:=qJ e
 .exact(Al h2).elim
 have hs:sD Ee ["pos","ch"] [.int p.1,.str ⟨#[p.2]⟩] st=some (.ok (),sb):=by
  show(p0 Ee "pos" (.int p.1) st).then (λU st=>sD Ee ["ch"] [.str ⟨#[p.2]⟩] st)=_
  rw[h1];refine a6 h2 ?_;rfl
 rcases ho:ob sb with _|q
 .replace e:=ho▸e;exact nn e
 .obtain⟨f,sc⟩:=q;rw[ho]at e;rcases f with f|c
  .induction f with
    |next=>exact .next sb sc hs ho e
    |_=>rcases e with _|_
  .exact nn e
theorem Su(hc:x.cps[j]?=some c):(items x).drop j=((j:Int),c)::(items x).drop (j+1):=by
 have q8:=c8.mp hc;simp only[dZ (by simp[items,q8.1]:j<(items x).length)];congr 1
 simp[items,q8.1,q8.2]
theorem ic:zM "generator" =false:=by decide
theorem GS.yh(S:GS C s0 x env ga I ρ st j s):∀a∈[env.locals,I,I+1],a∉ρ/\a≠C.env.locals/\C.ajU.get? a=none/\∀x,C.env.cells.lookup x≠some a:=λa ha=>
 have W:=S.away a<|.tail _ ha
 ⟨W.r,W.l,W.h,W.c⟩
theorem ua{env:Env}{ga I:Addr}{s0:Shared}{ρ pH:List Addr}{st:St}{s:Shared}(B:oF 6 C)(L:pP C)(zD:C.env.scope=Ee)(hI:935<=I)(Af:935<=env.locals)(VZ:ga∉[env.locals,I,I+1]){r:r8 Unit}{Jd:St}{Q:Flow->Shared->Prop}{E:Value->Shared->Prop}
 (kQ:∀f s',PQ C (λU U f=>f=Flow.next) ρ s0 r Jd f s'->Q f s')(kE:∀e s',PE C ρ s0 r Jd e s'->E e s')(hρ:ρ<+:pH)(S:GS C s0 x env ga I pH st 0 s)
 (ef:tW (λst=>rA vK 0 true Ee qK st) (items x) st=some (r,Jd)):
 codeAny (model PG C.w) C.A (.forLoop YN (.ref ga) qK [] C.env) (λr s'=>match r with|.ok f=>Q f s'|.error e=>cameBackBy (model PG C.w) C.A C.env E e s') s:=by
 exists C,x,env,ga,I,s0,ρ,pH,st,s,r,Jd,Q,E,[B,L,zD,hI,Af,VZ,kQ,kE,hρ,S,ef];refine codeAny_forLoop_any (λm pQ=>∃j qO qH,m=x.cps.size-j/\j<=x.cps.size/\ρ<+:qO/\GS C s0 x env ga I qO qH j pQ/\tW (λst=>rA vK 0 true Ee qK st) ((items x).drop j) qH=some (r,Jd)) (λm pQ HK=>?_) x.cps.size ⟨0,pH,st,rfl,cV _,hρ,S,ef⟩;exists _;obtain⟨j,qO,qH,hm,hj,rW,Dx,tB⟩:=HK;obtain⟨gs,l,ej⟩:=Dx.gens;obtain⟨og,vg,Rh⟩:=Dx.gen;have rL:=Dx.good;have Vh:=B.top.keep rL.sim.keep B.hi;refine k9<|fC (aI pQ.toks) ?_;refine wpAny_pyNext_gen (P:=λn o6 oK=>n=0/\GenSince env.locals [I,I+1] o6 oK) L.hh Vh.lim (by have:=B.dp;show C.A.depth<1000;exact bP this) Rh.2.2.2 (by exact ej.1▸(zz ..)) ej.2.2 (λv oK gs' hY=>?_) λoK hP h' hk=>?_
 .obtain⟨⟨T,i,c,u,t,rfl,hc,hi,hT⟩,ae8,ab4,Vi⟩:=hY;intro A9;obtain⟨vN,En,rfl,ajY⟩:=ae8;have kk:∀b o,b∉[env.locals,I,I+1]->pQ.heap.get? b=some o->vN.get? b=some o:=λb o hb e=>ajY b o (λq=>hb<|q▸.head _) (λq=>hb<|.tail _ q) e;have ab5:En≠0:=by have:=rL.tk;have:pQ.toks<=En:=A9;lia
  have HG:=Vh.low λb o hb e=>kk b o (λhm=>by
   rcases aK.mp hm with q|hm
   .exact bI (bJ hb Af) q
   .rcases aK.mp hm with q|hm
    .exact bI (bJ hb hI) q
    .exact bI (bJ hb<|eE hI) (aE.mp hm)) e
  cases XT:x.cps.size-j with
  |zero=> replace Vi:=XT▸Vi;exact(Vi (Shared.mk vN pQ.gens pQ.drawn En pQ.os) (λb U o e=>e) HG ab5).elim
  |succ m'=>
  rw[XT]at Vi hi;obtain rfl:i=j:=by grind
  rw[Su hc]at tB;obtain⟨st1,st2,e1,e2,e3⟩:=Ov tB;refine Eb (kk ga og VZ Rh.1) Rh.2.1 Rh.2.2.1 ic ?_;refine aD<|dK ?_;refine aD<|cL<|X0 L.hh hT λHF ab6=>?_;have k5:=λb o e=>ab6 b o (bI<|b9 e) e;have E0:=(rL.frame B ⟨λb o eb=>⟨o,kk b o (λhm=>by replace eb:=(eM _ hm)▸eb;rcases eb with _|_)<|dS _ eb,.refl _ _⟩,λf hf o eb=>(B.cls rL) f hf o<|dS _ eb⟩ Dx.yh ab5).ext k5 0;refine Sd.LB B (λh' B'=>(λg h'=>(B7 [.Name "pos" ⟨26,8,26,11⟩,.Name "ch" ⟨26,13,26,15⟩] ["pos","ch"] rfl).2.2 [.int i,.str ⟨#[c]⟩] [.int i u,.str ⟨#[c]⟩ t] qO (Shared.mk HF g pQ.drawn En pQ.os) qH<|.cons ⟨u,rfl⟩<|.cons ⟨t,rfl⟩ .nil) _ h') ((λg=>⟨E0.sim,E0.fr,E0.tk⟩:∀g:Array GenState,oD C qO qH<|Shared.mk HF g pQ.drawn En pQ.os)<|(pQ.gens.setIfInBounds s0.gens.size .running).setIfInBounds s0.gens.size gs') (show sD C.env.scope ["pos","ch"] [.int i,.str ⟨#[c]⟩] qH=some (.ok (),st1)from by exact zD▸e1) λU Jc zC Kw U Id E1 Ct=>?_;refine Sd.LB B (λh' B'=>yG ae qK true (C.at h') (oF.le B' (by simp)) (λq=>by injection q) zC Jc st1) Id (zD▸e2) λf VT ye KV hf No Ra HN=>?_;subst hf;have rV:=λb hb o e h1 h2=>by have W:=Dx.away b hb;have C4:=Ct b o (k5 b o e) W.r W.l (W.ab3 B) h1 h2;exact HN b o C4.1 C4.2 W.l (W.ab3 B) h1 h2
  have solid:∀b∈[env.locals,I,I+1],∀o,vN.get? b=some o->VT.heap.get? b=some o/\b∉ye:=λb hb o e=>by obtain⟨o',e',vH⟩:=ab4 b hb;replace e':=e▸e';obtain rfl:=aA e';exact rV b (.tail _ hb) o e vH.1 vH.2
  have qV:=rV ga (.head _) og (kk ga og VZ Rh.1) (λu q=>by replace q:=Rh.2.2.1▸q;injection q)<|.inl ⟨_,Rh.2.1⟩;obtain⟨l6,o5⟩:=E1.gn;obtain⟨l7,q9⟩:=Ra.gn;refine⟨x.cps.size-(i+1),by omega,i+1,ye,st2,rfl,(lk<|aN hi),rW.trans<|Kw.trans KV,⟨No,⟨gs',l++l6++l7,?_,λy hy=>?_,?_⟩,Ra.os.trans<|E1.os.trans Dx.os,Ra.dr.trans<|E1.dr.trans Dx.dr,bC Dx.tk<|bC A9<|bC E1.tk Ra.tk,⟨og,vg,qV.1,Rh.2.1,Rh.2.2.1,?_⟩,λb hb=>?_⟩,e3⟩
  .simp[q9.1,o5.1];simp only[ej.1,Wo];simp[fS]
  .rcases aO.mp hy with hy|hy
   .rcases aO.mp hy with hy|hy
    .exact ej.2.1 y hy
    .exact o5.2.1 y hy
   .exact q9.2.1 y hy
  .exact(show x.cps.size-(i+1)=m' by omega)▸(Vi _ (λb hb o e=>(solid b hb o e).1) (B.top.keep No.sim.keep B.hi) No.tk)
  .obtain⟨o',nm,qn,uI,r'⟩:=Rh.2.2.2;replace uI:=Rh.1▸uI;injection uI with q_;subst q_
   exact⟨og,nm,qn,qV.1,r'⟩
  .have W:=Dx.away b hb;refine⟨?_,W.l,W.h,W.c⟩;rcases aK.mp hb with rfl|hb
   .exact qV.2
   .obtain⟨o',q8⟩:=ab4 b hb;exact(solid b hb o' q8.1).2
 .obtain⟨hz,vN,En,rfl,ajY⟩:=hP;intro A9;exists _;have hje:j=x.cps.size:=by grind
  subst hje;rw[iJ<|by simp[items]]at tB;rcases tB with _|_;have G':=rL.frame (t:=En) B ⟨λb o eb=>⟨o,(λb o hb e=>hk b o (ajY b o (λq=>hb<|q▸.head _) (λq=>hb<|.tail _ q) e):∀b o,b∉[env.locals,I,I+1]->pQ.heap.get? b=some o->h'.get? b=some o) b o (λhm=>by replace eb:=(eM _ hm)▸eb;rcases eb with _|_)<|dS _ eb,.refl _ _⟩,λf hf o eb=>(B.cls rL) f hf o<|dS _ eb⟩ Dx.yh (by have:=rL.tk;have:pQ.toks<=En:=A9;lia);refine k9<|kU<|kQ _ _ ⟨(),qO,rfl,rW,rfl,⟨G'.sim,G'.fr,G'.tk⟩,⟨Dx.os,Dx.dr,bC Dx.tk A9,?_⟩⟩;refine⟨.finished::l,?_,λy hy=>?_,λq=>absurd L.mg q⟩
  .show((pQ.gens.setIfInBounds _ _).setIfInBounds _ _)=_;simp only[ej.1,Wo]
  .rcases aK.mp hy with rfl|hy
   .rfl
   .exact ej.2.1 y hy
theorem SH:Ee.names.lookup ("addr" :Str)=some .local/\Ee.names.lookup ("_iter_escaped_chars" :Str)=some .globalImplicit/\Ee.kind=.function:=by refine⟨by rfl',by rfl',by rfl'⟩
def YL(P:Params)(fd:FuncData):Bool:=fd.scope==wo&&!fd.scope.isCoroutine&&fd.scope.isGenerator&&fd.closure.isEmpty&&Gn (qE P) fd&&fd.globals==mainGlobals&&fd.builtins==builtinsNs
theorem ae9(P):(xU (qE P) 51).map (YL P)=some true:=by rfl'
theorem PU(P):(xU (qE P) 51).map (·.body)=some (.stmts pw):=by rfl'
theorem UC(P)(v):(xU (qE P) 51).map (λfd=>peek (qE P) ⟨PG,P⟩<|bindArgs fd ⟨[v],[]⟩)=some (some [(("addr" :Str),v)]):=by rfl'
theorem NS:Cf "_iter_escaped_chars" =some (.top 51):=by rfl'
inductive F51(w:World):Prop
 |mk (o:Obj) (fd:FuncData) (ho:(KF w).lookup 51=some o) (hd:o.data=.func fd) (sc:fd.scope=wo) (co:fd.scope.isCoroutine=false) (gn:fd.scope.isGenerator=true) (cl:fd.closure=[]) (cd:Gn (KF w) fd=true) (gl:fd.globals=mainGlobals/\fd.builtins=builtinsNs) (bd:fd.body=.stmts pw) (bn:∀v,peek (KF w) ⟨PG,w.params⟩ (bindArgs fd ⟨[v],[]⟩)=some [(("addr" :Str),v)])
set_option tactic.hygienic true in
theorem f51(w):F51 w:=by
 exists w,[];exists fd,(q_:a9.mp<|ae9 w.params);obtain⟨hf,hk⟩:=q_;have hb:=PU w.params;have hv:=λv=>UC w.params v;rw[hf]at hb;rw[hf]at hv;unfold YL at hk;simp only[aQ,a5,dA,cI]at hk;obtain⟨⟨⟨⟨⟨⟨h1,h2⟩,h3⟩,h4⟩,h5⟩,h6⟩,h7⟩:=hk;unfold xU at hf;split at hf
 .rename_i o ho;split at hf
  .rename_i fd' hd;cases hf;exact⟨o,_,ho,hd,h1,h2,h3,h4,h5,⟨h6,h7⟩,aA hb,λv=>aA<|hv v⟩
  .exact nn hf
 .exact nn hf
open Classical in
theorem So:Dq 6:=by
 exists C;intro B L;exists t,ρ,s,st;unfold Jh;induction Li t with
 |false=>exact Sd.nil
 |true=>
 by_cases he:t=vC/\C.env.scope=Ee;rotate_left
 .rw[aL he];exact Sd.nil
 rw[aH he];obtain⟨rfl,zD⟩:=he;refine Sd.qD λv hv=>Sd.qD λx hx=>Sd.iff λhc=>?_;exists v,x,[hv,hx,hc];have o5:=hc;obtain rfl:v=.str x:=by induction v<;>first|(obtain rfl:=aA hx;rfl)|rcases hx with _|_
 refine ug▸?_;refine Sd.qe ?_;intro G;exists r,Jd;intro ef;exists Q,E;intro kQ kE;refine wpAny_For ?_ λU=>rfl;have q9:=SH;have T:=B.top.keep G.sim.keep B.hi;have Af:=v5 T.K;have hd:=B.dp;have hu:=B.un;exists m,(q8:G.fr.ns);have hkx:C.env.kindOf "addr" =some .local:=by exact(zD▸q9.1:C.env.scope.names.lookup _=_)
 have hkf:C.env.scope.kind=.function:=by exact zD▸q9.2.2
 have YA:=q8.2 "addr" hkx;have YA:=hv▸YA;cases em:m "addr" with
 |none=>simp only[em]at YA;exact YA.elim
 |some y=>
 exists y,_;simp only[em]at YA;exists t,(q_:YA);obtain rfl:=q_;obtain⟨o,fd,ho,ab7,hs,hco,hgn,Ii,cy,Ru,hbd,hbn⟩:=f51 C.w;exists o,fd,_;refine Call_Name rfl<|eC hkf (zD▸q9.2.1:C.env.scope.names.lookup _=_) (Mp (ρ:=[]) B.gl T NS λy hy=>?_)<|rfl;subst hy;refine callWith_def ab7<|iD<|(λQ' E' q=>iS (fD hkf hkx q8.1 em q) (by decide):∀Q' E',Q' (.str x t) s->wpAny (model PG C.w) C.A (eval (.Name "addr" ⟨26,39,26,43⟩) C.env) Q' E' s) _ _<|iO ⟨T.K _ _ ho,?_⟩;refine eJ<|codeAny_call_generator (bP hd) (T.K _ _ ho) ab7 hco hgn hbd (tU T.K cy) ?_;refine(cZ T.K<|hbn _).here ?_;have nm:∀y∈fd.scope.names,y.2≠.cell/\y.2≠.free:=by rw[hs];have:=Kp;simpa[aX]using this
 refine fF (λy hy=>(nm y hy).1) (λy hy=>by rw[aE]at hy;subst hy;exact hs▸rfl) (λh' Ex Iw=>?_) (by rw[hs];rfl);exists h',_;have WR:h'.objs.size=s.heap.objs.size+1:=by simp only[Iw.1,dI]
 have kp:=λb o e=>Iw.extBut b o (bI<|b9 e)<|aZ _ e;refine⟨T.lim.keeps kp,?_⟩;refine wpAny_pyIter_gen (g:=s.gens.size) ⟨_,_,_,bT _ rfl,rfl,rfl,rfl⟩ ?_;generalize yi:newEnv fd.scope s.heap.objs.size fd.globals fd.closure (fd.qualname++ ".<locals>.") (some 51) fd.code Option.none fd.builtins=env;have g:GE env:=⟨by exact yi▸hs,by exact yi▸Ru,λy=>by rw[<-yi];refine a6 (aV _ Ii) ?_;rfl,by exact yi▸Af⟩;have hC0:env.locals=s.heap.objs.size:=by rw[<-yi];rfl
 have G5:=G.ext (h':=h'.push {cls:=.type "generator",data:=.fields #[.int s.gens.size 0,.str fd.name<|s.toks+1,.str fd.qualname<|s.toks+1+1]}) (λb o e=>aZ _<|kp b o e) 3;refine ua B L zD (eE<|eE Af) g.lo ?_ kQ kE (a8 _) ?_ ef
 .rw[hC0,WR];intro hm;rcases aK.mp hm with q|hm
  .exact kI _ q
  .rcases aK.mp hm with q|hm
   .exact bI (dX _) q
   .exact bI (gC<|dX _) (aE.mp hm)
 .refine⟨⟨G5.sim,G5.fr,G5.tk⟩,⟨.fresh<|.func pw env,[],rfl,λy hy=>absurd hy<|bG,rfl,?_⟩,rfl,rfl,?_,?_,?_⟩
  .refine AY o5.1 g (eE<|eE Af) (hC0▸(gC<|dX _)) L.hh (lk hd) (by lia) (T.low λb o U e=>aZ _<|kp b o e) (m4 _) (hC0▸(Ex.push _)) (λy U=>s6 (l:=[(("addr"),V.str x)]) (.cons ⟨rfl,t,rfl⟩ .nil) y) (by show(h'.push _).objs.size=_;rw[dI,WR])
  .exact aT s.toks 3
  .exact⟨_,_,bT _ rfl,rfl,rfl,⟨_,_,_,bT _ rfl,rfl,rfl,rfl⟩⟩
  .exists b;intro hb;replace hb:=hC0▸WR▸hb;refine(λi hi=>.of_none G<|cB hi) b ?_;rcases aK.mp hb with rfl|hb
   .exact dM _
   .rcases aK.mp hb with rfl|hb
    .exact aI _
    .rcases aK.mp hb with rfl|hb
     .exact aT _ 2
     .rw[aE]at hb;subst hb;exact aT _ 3
abbrev EF:=St->oM V
abbrev TF:=St->oM Bool
abbrev SF:=St->oM Fl
def noS:SF:=λU=>none
def nx:SF:=λst=>some (.ok .next,st)
def bk:SF:=λst=>some (.ok .brk,st)
def cn:SF:=λst=>some (.ok .cont,st)
def lo(x:Str)(st:St):oM V:=sO st<|st.loc.lookup x
def ct(v:V)(st:St):oM V:=some (.ok v,st)
def tP(x:Str)(v:V)(st:St):oM Unit:=some (.ok (),{st with loc:=put x v st.loc})
def zi(sc:Scope)(l:List Str)(k:Nat)(v:V)(st:St):oM Unit:=(sO st<|t9 v k st.H).then λvs st=>sD sc l vs st
def FV(v:V)(x:Str)(H:Hp):Option<|r8 V×Hp:=(Ca v x H).or<|attrL v x H
def P4(fu n:Nat)(v:V)(x:Str)(H:Hp):Option<|r8 V×Hp:=((Ca v x H).or<|attrL v x H).or<|th (oL fu n) fu v x H
def Iy(v:V)(x:Str)(H:Hp):Option<|V×List V:=(Ab v x H).or<|(qr v x H).or<|nb v x
def Z5(a:V)(H:Hp):Option Bool:=(Qt a H).or<|NX a H
def sZ(op:CmpOp)(a b:V)(H:Hp):Option V:=(Bk op a b H).or<|MX op a b
section
variable(fu n:Nat)(a b c k:EF)
def al(x:Str):EF:=λst=>(a st).then λv st=>pX st<|P4 fu n v x st.H
def ab(x:Str):EF:=λst=>(a st).then λv st=>pX st<|FV v x st.H
def bx(op:BoolOp):EF:=λst=>(a st).then λv st=>(sO st<|Z5 v st.H).then λt st=>bif yw op t then some (.ok v,st)else b st
def un(op:UnaryOp):EF:=λst=>(a st).then λv st=>sO st<|DA op v st.H
def bn(op:Operator):EF:=λst=>(a st).then λu st=>(b st).then λv st=>uL st<|Uh op u v st.H
def cm(op:CmpOp):EF:=λst=>(a st).then λu st=>(b st).then λv st=>sO st<|sZ op u v st.H
def ix(t:TF):EF:=λst=>(t st).then λc st=>bif c then a st else b st
def nm(x:Str):EF:=λst=>(a st).then λv st=>(tP x v st).then λU st=>some (.ok v,st)
def L2:List EF->St->oM (List V)
 |[],st=>some (.ok [],st)
 |e::r,st=>(e st).then λv st=>(L2 r st).then λvs st=>some (.ok (v::vs),st)
def ls(es:List EF):EF:=λst=>(L2 es st).then λvs st=>if vs.length<1000 then wU (.list vs) st else none
def tp(es:List EF):EF:=λst=>(L2 es st).then λvs st=>if vs.length<1000 then wU (.tuple vs) st else none
def sl:EF:=λst=>(a st).then λo st=>(b st).then λl st=>(c st).then λu st=>(k st).then λs st=>if Gm o st.H=true then uL st (rJ o l u s st.H)else none
def sb:EF:=λst=>(a st).then λo st=>(b st).then λi st=>if Gm o st.H=true then pX st (xQ o i st.H)else none
def ml(x:Str)(as:List EF):EF:=λst=>(a st).then λv st=>(sO st<|Iy v x st.H).then λf st=>((L2 as st).then λvs st=>oM.then (some (.ok ([]:List<|Str×V),st)) λkv st=>(some (.ok (vs,kv),st):oM<|List V×List (Str×V))).then λw st=>if(Y6 f.1 st.H||IY f.1 st.H)=true then pX st (oZ (oL fu n) fu f.1 (f.2++w.1) w.2 st.H)else none
def mq(x:Str)(as:List EF):EF:=λst=>(a st).then λv st=>(sO st<|Iy v x st.H).then λf st=>((L2 as st).then λvs st=>oM.then (some (.ok ([]:List<|Str×V),st)) λkv st=>(some (.ok (vs,kv),st):oM<|List V×List (Str×V))).then λw st=>if Y6 f.1 st.H=true then pX st (qL f.1 (f.2++w.1) w.2 st.H)else none
def cl(as:List EF):EF:=λst=>(a st).then λf st=>((L2 as st).then λvs st=>oM.then (some (.ok ([]:List<|Str×V),st)) λkv st=>(some (.ok (vs,kv),st):oM<|List V×List (Str×V))).then λw st=>if(Y6 f st.H||IY f st.H)=true then pX st (oZ (oL fu n) fu f w.1 w.2 st.H)else none
def cq(as:List EF):EF:=λst=>(a st).then λf st=>((L2 as st).then λvs st=>oM.then (some (.ok ([]:List<|Str×V),st)) λkv st=>(some (.ok (vs,kv),st):oM<|List V×List (Str×V))).then λw st=>if Y6 f st.H=true then pX st (qL f w.1 w.2 st.H)else none
def rp(x y:Str):EF:=λst=>(a st).then λv st=>pX st<|vS (λz H=>gv ((x==y)=false/\z.length+(z.length+1)*y.length<=16777216) (.str<|Txt.replace z x y) H) v st.H
def rpl(x y:Str):EF:=λst=>(rp a x y st).or none
def ko(x:Str):EF:=λst=>((a st).then λv st=>(Bd x st.H v).bind λi=>(Ht x).bind λf=>(wU (.bound f<|.ref i) st).then λb' st=>(b st).then λa st=>(IT st.H a).bind λl=>(ZX st.H b').bind λm=>if l.2.length<big/\(m.2.1=124\/m.2.1=157)then pX st (uT (oL fu n) fu m.2.1 (m.2.2::l.2) st.H)else none).or none
def te:TF:=λst=>(a st).then λv st=>sO st<|Z5 v st.H
def tk(op:BoolOp):TF:=λst=>some (.ok<|op==.And,st)
def tb(op:BoolOp)(t u:TF):TF:=λst=>(t st).then λb st=>bif yw op b then some (.ok b,st)else u st
def tc(op:CmpOp):TF:=λst=>(cm a b op st).then λc st=>sO st<|Z5 c st.H
def qN(j:Nat):uJ:=λst=>(Ac st.loc<|a st).bind λp=>(Du j p.1 p.2).bind λH=>some ⟨H,st.loc⟩
def uF(t:TF)(leaf:uJ):uJ:=λst=>(Ac st.loc<|t st).bind λp=>bif p.1 then leaf ⟨p.2,st.loc⟩else some ⟨p.2,st.loc⟩
def Bo(x:Str)(v:V)(st:St):Option Loc:=some<|put x v st.loc
def GH(xs:List Str)(k:Nat)(v:V)(st:St):Option Loc:=(t9 v k st.H).bind λvs=>Qp xs vs st.loc
def Hq(eh:V->St->Option Loc)(leaf:uJ):uJ:=λst=>(Ac st.loc<|a st).bind λp=>(o9 p.1 p.2).bind λxs=>sU (o9 p.1) xs eh leaf xs.2 ⟨p.2,st.loc⟩
def rP(rs:Scope)(eh:V->St->Option Loc)(turn:Nat->uJ):EF:=λst=>(Ac st.loc<|a st).bind λp=>(o9 p.1 p.2).bind λxs=>(sU (o9 p.1) xs eh (turn p.2.length) xs.2 ⟨p.2++[.list []],Nt rs st.loc⟩).bind λoE=>some (.ok<|.ref p.2.length,⟨oE.H,st.loc⟩)
def sa(x:Str)(v:V)(st:St):oM Unit:=(a st).then λo st=>uL st<|(tK o x v st.H).map λh=>((),h)
def ss(v:V)(st:St):oM Unit:=(a st).then λo st=>(b st).then λi st=>uL st<|(uB o i v st.H).map λh=>((),h)
def sq(s r:SF):SF:=λst=>(s st).then<|fh r
def xp:SF:=λst=>(a st).then λU st=>some (.ok .next,st)
def rt:SF:=λst=>(a st).then λv st=>some (.ok<|.ret v,st)
def sP(t:V->St->oM Unit):SF:=λst=>(a st).then λv st=>(t v st).then λU st=>some (.ok .next,st)
def as2(t u:V->St->oM Unit):SF:=λst=>(a st).then λv st=>(t v st).then λU st=>(u v st).then λU st=>some (.ok .next,st)
def agA(op:Operator)(x:Str)(b:EF):SF:=λst=>(a st).then λo st=>(pX st<|P4 fu n o x st.H).then λu st=>(b st).then λv st=>(uL st<|Jl op u v st.H).then λc st=>(uL st<|(tK o x c st.H).map λh=>((),h)).then λU st=>some (.ok .next,st)
def fi(t:TF)(s r:SF):SF:=λst=>(t st).then λc st=>bif c then s st else r st
def fr(x:Str)(s:SF):SF:=λst=>(a st).then λv st=>(o9 v st.H).bind λxs=>Ge (o9 v) xs (tP x) s xs.2 st
def us(s:St->oM Unit):SF:=λst=>(s st).then λU st=>some (.ok .next,st)
def Sq(s:SF)(T:Str)(h:SF):SF:=λst=>EQ (s st) λc st=>if BV c T=true then F9 (h st)else none
def rz(c:V):SF:=λst=>some (.exc c,st)
def rzc(as:List EF):SF:=λst=>oM.then ((L2 as st).then λvs st=>if vs.length<big then(some (.exc<|.top 92,st):oM Unit)else none) λU st=>none
def dl:SF:=λst=>(a st).then λo st=>(b st).then λi st=>(uL st<|(yD o i st.H).map λh=>((),h)).then λU st=>some (.ok .next,st)
end
section
variable(fu n:Nat)
def YM(fu n:Nat):SF:=rt<|lo "addr"
def JD:SF:=xp<|ml fu n (lo "result") "append" [sl (lo "addr") (lo "start") (ct .none)<|ct .none]
def IX:SF:=rt<|ml fu n (ct<|.str "") "join" [lo "result"]
def JA:SF:=sq (fi (tc (lo "start") (cl fu n (ct<|.bi "len") [lo "addr"]) .Lt) (JD fu n) nx)<|IX fu n
def YV:SF:=sq (us<|Jh Ee vC)<|JA fu n
def aaU:SF:=sq (sP (ls [])<|tP "result")<|YV fu n
def ZK:SF:=sq (sP (ct .none)<|tP "open_pos")<|aaU fu n
def YK:SF:=sq (sP (ct<|.int 0)<|tP "start")<|ZK fu n
def Ys:SF:=sq (fi (tc (ct<|.str "\"") (lo "addr") .NotIn) (YM fu n) nx)<|YK fu n
def aag(fu n:Nat):SF:=sP (ls [])<|sa (lo "self") "successors"
def ZS:SF:=sq (sP (ct<|.int 0)<|sa (lo "self") "npredecessors")<|aag fu n
def yj:SF:=sq (sP (lo "node")<|sa (lo "self") "node")<|ZS fu n
def NY(fu n:Nat):SF:=noS
def SW:SF:=fi (tc (lo "graph") (ct .none) .IsNot) (NY fu n) nx
def SM:SF:=sq (sP (ct<|.int 0)<|sa (lo "self") "_nfinished")<|SW fu n
def TH:SF:=sq (sP (ct<|.int 0)<|sa (lo "self") "_npassedout")<|SM fu n
def NK:SF:=sq (sP (ct .none)<|sa (lo "self") "_ready_nodes")<|TH fu n
def Vj:SF:=sq (sP (wU<|.dict [])<|sa (lo "self") "_node2info")<|NK fu n
def NB:SF:=as2 (cl fu n (ct<|.top 77) [lo "node"]) (ss (al fu n (lo "self") "_node2info")<|lo "node")<|tP "result"
def PR(fu n:Nat):SF:=rt<|lo "result"
def Nx:SF:=sq (fi (tc (nm (ml fu n (al fu n (lo "self") "_node2info") "get" [lo "node"]) "result") (ct .none) .Is) (NB fu n) nx)<|PR fu n
def UL(fu n:Nat):SF:=rz<|.ty "ValueError"
def MT:SF:=xp<|ml fu n (al fu n (lo "pred_info") "successors") "append" [lo "node"]
def Ln:SF:=sq (sP (ml fu n (lo "self") "_get_nodeinfo" [lo "pred"])<|tP "pred_info")<|MT fu n
def UV:SF:=fr (lo "predecessors") "pred"<|Ln fu n
def MR:SF:=sq (agA fu n (lo "nodeinfo") .Add "npredecessors"<|cl fu n (ct<|.bi "len") [lo "predecessors"])<|UV fu n
def ND:SF:=sq (sP (ml fu n (lo "self") "_get_nodeinfo" [lo "node"])<|tP "nodeinfo")<|MR fu n
def Vk:SF:=sq (fi (tc (al fu n (lo "self") "_ready_nodes") (ct .none) .IsNot) (UL fu n) nx)<|ND fu n
def Wn:Scope:=⟨.function,[(".0",.local),("i",.local)],false,false,[]⟩
def QN(fu n:Nat):SF:=rz<|.ty "ValueError"
def QE(fu n:Nat):SF:=rzc [ct<|.str "nodes are in a cycle",lo "cycle"]
def vq:SF:=fi (te<|lo "cycle") (QE fu n) nx
def UQ:SF:=sq (sP (ml fu n (lo "self") "_find_cycle" [])<|tP "cycle")<|vq fu n
def TN:SF:=sq (sP (rP (mq (ab (lo "self") "_node2info") "values" []) Wn (Bo "i") λj=>uF (tc (ab (lo "i") "npredecessors") (ct<|.int 0) .Eq)<|qN (ab (lo "i") "node") j)<|sa (lo "self") "_ready_nodes")<|UQ fu n
def Vl:SF:=sq (fi (tc (al fu n (lo "self") "_ready_nodes") (ct .none) .IsNot) (QN fu n) nx)<|TN fu n
def QY(fu n:Nat):SF:=rz<|.ty "ValueError"
def js(fu n:Nat):SF:=sP (ct<|.int (-1))<|sa (sb (lo "n2i")<|lo "node") "npredecessors"
def PK(fu n:Nat):SF:=rt<|lo "result"
def RW:SF:=sq (agA fu n (lo "self") .Add "_npassedout"<|cl fu n (ct<|.bi "len") [lo "result"])<|PK fu n
def PX:SF:=sq (xp<|ml fu n (al fu n (lo "self") "_ready_nodes") "clear" [])<|RW fu n
def VB:SF:=sq (fr (lo "result") "node"<|js fu n)<|PX fu n
def PN:SF:=sq (sP (al fu n (lo "self") "_node2info")<|tP "n2i")<|VB fu n
def OF:SF:=sq (sP (cl fu n (ct<|.ty "tuple") [al fu n (lo "self") "_ready_nodes"])<|tP "result")<|PN fu n
def Vm:SF:=sq (fi (tc (al fu n (lo "self") "_ready_nodes") (ct .none) .Is) (QY fu n) nx)<|OF fu n
def NI(fu n:Nat):SF:=rz<|.ty "ValueError"
def UW:SF:=rt<|bx (cm (al fu n (lo "self") "_nfinished") (al fu n (lo "self") "_npassedout") .Lt) (cl fu n (ct<|.ty "bool") [al fu n (lo "self") "_ready_nodes"]) .Or
def Vn:SF:=sq (fi (tc (al fu n (lo "self") "_ready_nodes") (ct .none) .Is) (NI fu n) nx)<|UW fu n
def OP(fu n:Nat):SF:=rz<|.ty "ValueError"
def UH(fu n:Nat):SF:=noS
def ML(fu n:Nat):SF:=noS
def DM(fu n:Nat):SF:=noS
def zv(fu n:Nat):SF:=noS
def FX:SF:=fi (tc (lo "stat") (ct<|.int (-2)) .Eq) (DM fu n)<|zv fu n
def NA:SF:=fi (tc (lo "stat") (ct<|.int 0) .GtE) (ML fu n)<|FX fu n
def AV:SF:=xp<|ml fu n (al fu n (lo "self") "_ready_nodes") "append" [lo "successor"]
def Ws:SF:=fi (tc (al fu n (lo "successor_info") "npredecessors") (ct<|.int 0) .Eq) (AV fu n) nx
def AR:SF:=sq (agA fu n (lo "successor_info") .Sub "npredecessors"<|ct<|.int 1)<|Ws fu n
def Fj:SF:=sq (sP (sb (lo "n2i")<|lo "successor")<|tP "successor_info")<|AR fu n
def DY:SF:=agA fu n (lo "self") .Add "_nfinished"<|ct<|.int 1
def BN:SF:=sq (fr (al fu n (lo "nodeinfo") "successors") "successor"<|Fj fu n)<|DY fu n
def BA:SF:=sq (sP (ct<|.int (-2))<|sa (lo "nodeinfo") "npredecessors")<|BN fu n
def PL:SF:=sq (fi (tc (lo "stat") (ct<|.int (-1)) .NotEq) (NA fu n) nx)<|BA fu n
def SI:SF:=sq (sP (al fu n (lo "nodeinfo") "npredecessors")<|tP "stat")<|PL fu n
def Kz:SF:=sq (fi (tc (nm (ml fu n (lo "n2i") "get" [lo "node"]) "nodeinfo") (ct .none) .Is) (UH fu n) nx)<|SI fu n
def SY:SF:=fr (lo "nodes") "node"<|Kz fu n
def OV:SF:=sq (sP (al fu n (lo "self") "_node2info")<|tP "n2i")<|SY fu n
def Vo:SF:=sq (fi (tc (al fu n (lo "self") "_ready_nodes") (ct .none) .Is) (OP fu n) nx)<|OV fu n
def UG(fu n:Nat):SF:=sq cn nx
def Nb(fu n:Nat):SF:=rt<|bn (sl (lo "stack") (sb (lo "node2stacki")<|lo "node") (ct .none)<|ct .none) (ls [lo "node"]) .Add
def Wk:SF:=fi (tc (lo "node") (lo "node2stacki") .In) (Nb fu n) nx
def BZ:SF:=xp<|ml fu n (lo "stack") "append" [lo "node"]
def FF:SF:=sq (sP (cl fu n (ct<|.bi "len") [lo "stack"])<|ss (lo "node2stacki")<|lo "node")<|BZ fu n
def FK:SF:=sq (xp<|ml fu n (lo "itstack") "append" [al fu n (cl fu n (ct<|.bi "iter") [al fu n (sb (lo "n2i")<|lo "node") "successors"]) "__next__"])<|FF fu n
def Mv:SF:=sq (xp<|ml fu n (lo "seen") "add" [lo "node"])<|FK fu n
def FQ(fu n:Nat):SF:=sq bk nx
def GR:SF:=sq (sP (cl fu n (sb (lo "itstack")<|un (ct<|.int 1) .USub) [])<|tP "node")<|FQ fu n
def DV(fu n:Nat):SF:=xp<|mq (lo "itstack") "pop" []
def DZ:SF:=sq (dl (lo "node2stacki")<|mq (lo "stack") "pop" [])<|DV fu n
def Lm:SF:=Sq (GR fu n) "StopIteration"<|DZ fu n
def AJ(fu n:Nat):SF:=sq bk nx
def Xi:SF:=tX (te<|lo "stack") (Lm fu n) (AJ fu n) fu
def td:SF:=sq (fi (tc (lo "node") (lo "seen") .In) (Wk fu n)<|Mv fu n)<|Xi fu n
def wj:SF:=tX (te<|ct<|.bool true) (td fu n) nx fu
def uc:SF:=sq (fi (tc (lo "node") (lo "seen") .In) (UG fu n) nx)<|wj fu n
def CG(fu n:Nat):SF:=rt<|ct .none
def qv:SF:=sq (fr (lo "n2i") "node"<|uc fu n)<|CG fu n
def QA:SF:=sq (sP (wU<|.dict [])<|tP "node2stacki")<|qv fu n
def OQ:SF:=sq (sP (cl fu n (ct<|.ty "set") [])<|tP "seen")<|QA fu n
def OG:SF:=sq (sP (ls [])<|tP "itstack")<|OQ fu n
def UX:SF:=sq (sP (ls [])<|tP "stack")<|OG fu n
def Vp:SF:=sq (sP (al fu n (lo "self") "_node2info")<|tP "n2i")<|UX fu n
def Vq(fu n:Nat):SF:=rt λst=>Jg mf Kb st
def V9:Scope:=⟨.function,[(".0",.local),("x",.local),("pieces",.cell)],false,false,[]⟩
def V6:Scope:=⟨.function,[(".0",.local),("k",.local),("words",.cell)],false,false,[]⟩
def TL(fu n:Nat):SF:=rt<|rP (cq (ct<|.ty "range") [ct<|.int 0,cq (ct<|.bi "len") [lo "words"],ct<|.int 3]) V6 (Bo "k") λj=>qN (sl (lo "words") (lo "k") (bn (lo "k") (ct<|.int 3) .Add)<|ct .none) j
def PY:SF:=sq (sP (rP (sl (lo "script") (ct .none) (ct<|.int 12)<|ct .none) V9 (Bo "x") λj=>qN (bn (sb (lo "pieces")<|bn (lo "x") (ct<|.int 6) .Mod) (sb (lo "pieces")<|bn (bn (lo "x") (ct<|.int 6) .FloorDiv) (ct<|.int 6) .Mod) .Add) j)<|tP "words")<|TL fu n
def Vr:SF:=sq (sP (ls [ct<|.str "a",ct<|.str "b",ct<|.str "'",ct<|.str "\"",ct<|.str " ",ct<|.str ""])<|tP "pieces")<|PY fu n
def Vw:Scope:=⟨.function,[(".0",.local),("sign",.local)],false,false,[]⟩
def Wu:Scope:=⟨.function,[(".0",.local),("sign",.local)],false,false,[]⟩
def LW:SF:=xp<|ml fu n (lo "written") "append" [lo "word"]
def OA:SF:=xp<|ml fu n (lo "written") "append" [bn (bn (ct<|.str "'") (ml fu n (ct<|.str "") "join" [lo "inner"]) .Add) (ct<|.str "'") .Add]
def ll:SF:=sq (sP (rP (lo "word") Vw (Bo "sign") λj=>qN (ix (ct<|.str "'\"'\"'") (lo "sign")<|tc (lo "sign") (ct<|.str "'") .Eq) j)<|tP "inner")<|OA fu n
def S5:SF:=fi (tb .And (tc (lo "word") (ct<|.str "") .NotEq)<|tb .And (tc (rP (lo "word") Wu (Bo "sign") λj=>uF (tc (lo "sign") (ct<|.str "ab") .NotIn)<|qN (lo "sign") j) (ls []) .Eq)<|tk .And) (LW fu n)<|ll fu n
def NO:SF:=rt<|ml fu n (ct<|.str " ") "join" [lo "written"]
def ST:SF:=sq (fr (lo "words") "word"<|S5 fu n)<|NO fu n
def Vs:SF:=sq (sP (ls [])<|tP "written")<|ST fu n
def Xj:Scope:=⟨.function,[(".0",.local),("part",.local)],false,false,[]⟩
def PO(fu n:Nat):SF:=rt<|ct .none
def OU(fu n:Nat):SF:=rt<|ct .none
def LY(fu n:Nat):SF:=sP (rpl (sb (lo "strands")<|lo "k") " " "\n")<|ss (lo "strands")<|lo "k"
def Mm:SF:=sq (fi (tc (ct<|.str "\"") (sb (lo "strands")<|lo "k") .In) (OU fu n) nx)<|LY fu n
def Tt(fu n:Nat):SF:=rt<|rP (mq (mq (ct<|.str "'") "join" [lo "strands"]) "split" [ct<|.str "\n"]) Xj (Bo "part") λj=>uF (tc (lo "part") (ct<|.str "") .NotEq)<|qN (rp (lo "part") "'" "") j
def MB:SF:=sq (fr (cl fu n (ct<|.ty "range") [ct<|.int 0,cl fu n (ct<|.bi "len") [lo "strands"],ct<|.int 2]) "k"<|Mm fu n)<|Tt fu n
def UY:SF:=sq (fi (tc (bn (cl fu n (ct<|.bi "len") [lo "strands"]) (ct<|.int 2) .Mod) (ct<|.int 0) .Eq) (PO fu n) nx)<|MB fu n
def Ny:SF:=sq (sP (ml fu n (lo "line") "split" [ct<|.str "'"])<|tP "strands")<|UY fu n
def Bn:Scope:=⟨.function,[(".0",.local),("row",.local),("need",.local)],false,false,[]⟩
def Xv:Scope:=⟨.function,[(".0",.local),("k",.local),("edges",.cell),("name",.cell)],false,false,[]⟩
def Mb:Scope:=⟨.function,[(".0",.local),("k",.local),("edges",.cell),("order",.cell)],false,false,[]⟩
def Ly:Scope:=⟨.function,[(".0",.local),("k",.local),("edges",.cell),("order",.cell)],false,false,[]⟩
def Ww:Scope:=⟨.function,[(".0",.local),("last",.local),("place",.local),("name",.local)],false,false,[]⟩
def MV:SF:=xp<|ml fu n (lo "names") "append" [lo "name"]
def vf:SF:=fi (tc (lo "name") (lo "names") .NotIn) (MV fu n) nx
def Tl:SF:=fr (lo "row") "name"<|vf fu n
def BU(fu n:Nat):SF:=sq cn nx
def CR:SF:=xp<|ml fu n (lo "ready") "append" [tp [lo "last",ml fu n (lo "names") "index" [lo "name"],lo "name"]]
def EK:SF:=sq (sP (cl fu n (ct<|.bi "max") [bn (ls [tp [un (ct<|.int 1) .USub,un (ct<|.int 1) .USub]]) (rP (lo "mine") Ly (Bo "k") λj=>qN (tp [mq (lo "order") "index" [sb (sb (lo "edges")<|lo "k")<|ct<|.int 1],lo "k"]) j) .Add])<|tP "last")<|CR fu n
def DN:SF:=sq (fi (tb .Or (tc (lo "name") (lo "order") .In)<|tb .Or (tc (rP (lo "mine") Mb (Bo "k") λj=>uF (tc (sb (sb (lo "edges")<|lo "k")<|ct<|.int 1) (lo "order") .NotIn)<|qN (lo "k") j) (ls []) .NotEq)<|tk .Or) (BU fu n) nx)<|EK fu n
def Ff:SF:=sq (sP (rP (cq (ct<|.ty "range") [cq (ct<|.bi "len") [lo "edges"]]) Xv (Bo "k") λj=>uF (tc (sb (sb (lo "edges")<|lo "k")<|ct<|.int 0) (lo "name") .Eq)<|qN (lo "k") j)<|tP "mine")<|DN fu n
def DO:SF:=rt<|tp [lo "rounds",cm (cl fu n (ct<|.bi "len") [lo "order"]) (cl fu n (ct<|.bi "len") [lo "names"]) .Lt]
def AF:SF:=xp<|ml fu n (lo "order") "extend" [sb (lo "rounds")<|un (ct<|.int 1) .USub]
def DS:SF:=sq (xp<|ml fu n (lo "rounds") "append" [rP (cq (ct<|.bi "sorted") [lo "ready"]) Ww (GH ["last","place","name"] 3) λj=>qN (lo "name") j])<|AF fu n
def BW:SF:=sq (fi (tc (lo "ready") (ls []) .Eq) (DO fu n) nx)<|DS fu n
def ER:SF:=sq (fr (lo "names") "name"<|Ff fu n)<|BW fu n
def K1:SF:=sq (sP (ls [])<|tP "ready")<|ER fu n
def QH:SF:=tX (te<|ct<|.bool true) (K1 fu n) nx fu
def LS:SF:=sq (sP (ls [])<|tP "rounds")<|QH fu n
def TI:SF:=sq (sP (ls [])<|tP "order")<|LS fu n
def RG:SF:=sq (sP (rP (lo "rows") Bn (Bo "row") λj=>Hq (sl (lo "row") (ct<|.int 1) (ct .none)<|ct .none) (Bo "need")<|qN (tp [sb (lo "row")<|ct<|.int 0,lo "need"]) j)<|tP "edges")<|TI fu n
def QT:SF:=sq (fr (lo "rows") "row"<|Tl fu n)<|RG fu n
def Vt:SF:=sq (sP (ls [])<|tP "names")<|QT fu n
def OJ(fu n:Nat):SF:=rt<|ct<|.bool false
def NR:SF:=xp<|ml fu n (lo "told") "append" [lo "row"]
def uq:SF:=fi (tc (lo "row") (ct .none) .IsNot) (NR fu n) nx
def RI:SF:=sq (fi (tb .Or (tc (lo "line") (cl fu n (ct<|.top 903) [lo "words"]) .NotEq)<|tb .Or (tc (lo "shorn") (cl fu n (ct<|.top 910) [lo "line"]) .NotEq)<|tb .Or (tc (lo "row") (cl fu n (ct<|.top 915) [lo "shorn"]) .NotEq)<|tk .Or) (OJ fu n) nx)<|uq fu n
def MA:SF:=sq (sP (cl fu n (ct<|.top 922) [lo "shorn"])<|tP "row")<|RI fu n
def PW:SF:=sq (sP (cl fu n (ct<|.top 58) [lo "line"])<|tP "shorn")<|MA fu n
def Mw:SF:=sq (sP (cl fu n (ct<|.top 885) [lo "words"])<|tP "line")<|PW fu n
def W9:SF:=xp<|ko fu n (lo "sorter") (lo "rule") "add"
def Yh:SF:=xp<|ml fu n (lo "sorter") "prepare" []
def Wc(fu n:Nat):SF:=sP (ct<|.bool true)<|tP "held"
def CD(fu n:Nat):SF:=rt<|ct<|.bool false
def CT(fu n:Nat):SF:=rt<|ct<|.bool false
def EL(fu n:Nat):SF:=rt<|ct<|.bool false
def BQ:SF:=xp<|ko fu n (lo "sorter") (lo "due") "done"
def EZ:SF:=sq (fi (tb .Or (tc (ml fu n (lo "sorter") "is_active" []) (ct<|.bool true) .IsNot)<|tb .Or (tc (ml fu n (lo "sorter") "get_ready" []) (tp []) .NotEq)<|tk .Or) (EL fu n) nx)<|BQ fu n
def Fh:SF:=sq (fi (tb .Or (tc (ml fu n (lo "sorter") "is_active" []) (ct<|.bool true) .IsNot)<|tb .Or (tc (ml fu n (lo "sorter") "get_ready" []) (cl fu n (ct<|.ty "tuple") [lo "due"]) .NotEq)<|tk .Or) (CT fu n) nx)<|EZ fu n
def AH:SF:=rt<|bx (cm (lo "last") (ct<|.bool false) .Is) (cm (ml fu n (lo "sorter") "get_ready" []) (tp []) .Eq) .And
def W2:SF:=sq (sP (ml fu n (lo "sorter") "is_active" [])<|tP "last")<|AH fu n
def GN:SF:=sq (fr (lo "rounds") "due"<|Fh fu n)<|W2 fu n
def GM:SF:=sq (fi (tc (lo "held") (lo "stuck") .NotEq) (CD fu n) nx)<|GN fu n
def GX:SF:=sq (Sq (Yh fu n) "CycleError"<|Wc fu n)<|GM fu n
def FJ:SF:=sq (sP (ct<|.bool false)<|tP "held")<|GX fu n
def FG:SF:=sq (fr (lo "told") "rule"<|W9 fu n)<|FJ fu n
def zg:SF:=sq (sP (cl fu n (ct<|.top 174) [])<|tP "sorter")<|FG fu n
def lf:SF:=sq (sP (cl fu n (ct<|.top 927) [lo "told"])<|zi QM ["rounds","stuck"] 2)<|zg fu n
def LF:SF:=sq (fr (cl fu n (ct<|.top 898) [lo "script"]) "words"<|Mw fu n)<|lf fu n
def yk:SF:=sq (sP (ls [])<|tP "told")<|LF fu n
end
abbrev Pi(a:Addr)(L:Nat->Nat->SF):Prop:=∀fu n st,rA (oL fu<|n+1) fu false (pC a) (oW a) st=L fu n st
theorem Au{a:Addr}{X:pO}{L:Nat->Nat->SF}(s:Pi a L)(h:X=pN (rA (oL fu<|n+1) fu false (pC a) (oW a) st)):X=pN (L fu n st):=h.trans<|aV pN<|s fu n st
theorem ZC:Pi 58 Ys:=λU U U=>by rfl'
theorem aa0:Pi 73 yj:=λU U U=>by rfl'
theorem UM:Pi 110 Vj:=λU U U=>by rfl'
theorem ON:Pi 117 Nx:=λU U U=>by rfl'
theorem RX:Pi 124 Vk:=λU U U=>by rfl'
theorem RC:Pi 129 Vl:=λU U U=>by rfl'
theorem UO:Pi 136 Vm:=λU U U=>by rfl'
theorem QF:Pi 143 Vn:=λU U U=>by rfl'
theorem NT:Pi 157 Vo:=λU U U=>by rfl'
theorem QD:Pi 164 Vp:=λU U U=>by rfl'
theorem PM:Pi 885 Vq:=λU U U=>by rfl'
theorem LH:Pi 898 Vr:=λU U U=>by rfl'
theorem UK:Pi 903 Vs:=λU U U=>by rfl'
theorem OR:Pi 915 Ny:=λU U U=>by rfl'
theorem SO:Pi 927 Vt:=λU U U=>by rfl'
theorem PF:Pi 934 yk:=λU U U=>by rfl'
theorem oM.at{β γ:Type}{x:oM β}{b:β}{f:β->St->oM γ}(h:x=some (.ok b,st)):x.then f=f b st:=by rw[h];rfl
theorem oM.ex{β γ:Type}{x:oM β}{st:St}{f:β->St->oM γ}(h:x=some (.exc c,st)):x.then f=some (.exc c,st):=by rw[h];rfl
theorem oB(h:st.loc.lookup x=some v):lo x st=some (.ok v,st):=by delta lo sO;refine a6 (aV _ h) ?_;rfl
theorem oH:ct v st=some (.ok v,st):=rfl
theorem sA(h:a st=some (.ok v,st1))(p:P4 fu n v x st1.H=some (e,H2)):al fu n a x st=some (e,⟨H2,st1.loc⟩):=by refine(oM.at h).trans ?_;rw[p];rfl
theorem ji(h:a st=some (.ok v,st1))(p:FV v x st1.H=some (e,H2)):ab a x st=some (e,⟨H2,st1.loc⟩):=by refine(oM.at h).trans ?_;rw[p];rfl
theorem N6{w:V}{op}(h:a st=some (.ok v,st1))(p:DA op v st1.H=some w):un a op st=some (.ok w,st1):=by refine(oM.at h).trans ?_;rw[p];rfl
theorem y8{w:V}{op}(h:a st=some (.ok v,st1))(g:b st1=some (.ok w,st2))(p:Uh op v w st2.H=some (o,H3)):bn a b op st=some (.ok o,⟨H3,st2.loc⟩):=by refine(oM.at h).trans<|(oM.at g).trans ?_;refine a6 (aV _ p) ?_;rfl
theorem Pu{w:V}{op}(h:a st=some (.ok v,st1))(g:b st1=some (.ok w,st2))(p:sZ op v w st2.H=some o):cm a b op st=some (.ok o,st2):=by refine(oM.at h).trans<|(oM.at g).trans ?_;rw[p];rfl
theorem pJ{w:V}{op}(h:a st=some (.ok v,st1))(g:b st1=some (.ok w,st2))(p:sZ op v w st2.H=some (.bool q)):tc a b op st=some (.ok q,st2):=
 (oM.at<|Pu h g p).trans rfl
theorem Kq(h:a st=some (.ok v,st1))(p:Z5 v st1.H=some q):te a st=some (.ok q,st1):=(oM.at h).trans<|p▸rfl
theorem K0{z}(h:t st=some (.ok false,st1))(g:u st1=z):tb .Or t u st=z:=(oM.at h).trans g
theorem aaD(h:t st=some (.ok true,st1)):tb .Or t u st=some (.ok true,st1):=oM.at h
theorem kx{z}(h:t st=some (.ok true,st1))(g:u st1=z):tb .And t u st=z:=(oM.at h).trans g
theorem ID(h:t st=some (.ok false,st1)):tb .And t u st=some (.ok false,st1):=oM.at h
theorem Ye:tk .Or st=some (.ok false,st):=rfl
theorem QQ:tk .And st=some (.ok true,st):=rfl
theorem JQ{op}(h:a st=some (.ok v,st1))(p:Z5 v st1.H=some q){z}(g:(bif yw op q then some (.ok v,st1)else b st1)=z):bx a b op st=z:=(oM.at h).trans<|p▸g
theorem adP{z}(h:t st=some (.ok true,st1))(g:a st1=z):ix a b t st=z:=(oM.at h).trans g
theorem ac8{z}(h:t st=some (.ok false,st1))(g:b st1=z):ix a b t st=z:=(oM.at h).trans g
theorem nu(h:a st=some (.ok v,st1)):nm a x st=some (.ok v,⟨st1.H,put x v st1.loc⟩):=(oM.at h).trans rfl
theorem C3:L2 [] st=some (.ok [],st):=rfl
theorem ed(h:a st=some (.ok v,st1))(g:L2 l st1=some (.ok vs,st2)):L2 (a::l) st=some (.ok (v::vs),st2):=(oM.at h).trans<|oM.at g
theorem tF(h:a st=some (.ok v,st1)):L2 [a] st=some (.ok [v],st1):=ed h C3
theorem vG(h:L2 l st=some (.ok vs,st1))(hb:vs.length<1000):ls l st=some (.ok<|.ref st1.H.length,⟨st1.H++[.list vs],st1.loc⟩):=(oM.at h).trans<|aH hb
theorem He(h:L2 l st=some (.ok vs,st1))(hb:vs.length<1000):tp l st=some (.ok<|.ref st1.H.length,⟨st1.H++[.tuple vs],st1.loc⟩):=(oM.at h).trans<|aH hb
theorem Jy{k:EF}{s1 s2 s3 s4:St}(h1:a st=some (.ok v1,s1))(h2:b s1=some (.ok v2,s2))(h3:c s2=some (.ok v3,s3))(h4:k s3=some (.ok v4,s4))(hi:Gm v1 s4.H=true)(p:rJ v1 v2 v3 v4 s4.H=some (o,H3)):sl a b c k st=some (.ok o,⟨H3,s4.loc⟩):=by refine(oM.at h1).trans<|(oM.at h2).trans<|(oM.at h3).trans<|(oM.at h4).trans<|(aH hi).trans ?_;refine a6 (aV _ p) ?_;rfl
theorem wR{w:V}(h:a st=some (.ok v,st1))(g:b st1=some (.ok w,st2))(hi:Gm v st2.H=true)(p:xQ v w st2.H=some (e,H3)):sb a b st=some (e,⟨H3,st2.loc⟩):=by refine(oM.at h).trans<|(oM.at g).trans<|(aH hi).trans ?_;rw[p];rfl
theorem rB(h:a st=some (.ok v,st1))(p:Iy v x st1.H=some m)(g:L2 l st1=some (.ok vs,st2))(hk:(Y6 m.1 st2.H||IY m.1 st2.H)=true)(q:oZ (oL fu n) fu m.1 (m.2++vs) [] st2.H=some (e,H2)):ml fu n a x l st=some (e,⟨H2,st2.loc⟩):=by refine(oM.at h).trans ?_;refine p▸?_;refine(oM.at rfl).trans<|(oM.at<|(oM.at g).trans rfl).trans<|(aH hk).trans ?_;refine a6 (aV _ q) ?_;rfl
theorem Fx(h:a st=some (.ok v,st1))(p:Iy v x st1.H=some m)(g:L2 l st1=some (.ok vs,st2))(hk:Y6 m.1 st2.H=true)(q:qL m.1 (m.2++vs) [] st2.H=some (e,H2)):mq a x l st=some (e,⟨H2,st2.loc⟩):=by refine(oM.at h).trans ?_;refine p▸?_;refine(oM.at rfl).trans<|(oM.at<|(oM.at g).trans rfl).trans<|(aH hk).trans ?_;refine a6 (aV _ q) ?_;rfl
theorem rO(h:a st=some (.ok v,st1))(g:L2 l st1=some (.ok vs,st2))(hk:(Y6 v st2.H||IY v st2.H)=true)(q:oZ (oL fu n) fu v vs [] st2.H=some (e,H2)):cl fu n a l st=some (e,⟨H2,st2.loc⟩):=(oM.at h).trans<|(oM.at<|(oM.at g).trans rfl).trans<|(aH hk).trans<|q▸rfl
theorem Oy(h:a st=some (.ok v,st1))(g:L2 l st1=some (.ok vs,st2))(hk:Y6 v st2.H=true)(q:qL v vs [] st2.H=some (e,H2)):cq a l st=some (e,⟨H2,st2.loc⟩):=(oM.at h).trans<|(oM.at<|(oM.at g).trans rfl).trans<|(aH hk).trans<|q▸rfl
theorem pK(q:qL v vs [] H1=some (e,H2)):oZ (oL fu n) fu v vs [] H1=some (e,H2):=by unfold oZ;simp only[q];rfl
theorem vB(h:yV (oL fu n) fu (.top A) vs [] H1=some p):oZ (oL fu n) fu (.top A) vs [] H1=some p:=by unfold oZ;simp only[h];rfl
theorem oQ{s:SF}{z}(h:s st=some (.ok .next,st1))(g:r st1=z):sq s r st=z:=(oM.at h).trans g
theorem Ah{s:SF}(h:s st=some (.ok<|.ret v,st1)):sq s r st=some (.ok<|.ret v,st1):=(oM.at h).trans rfl
theorem TZ{s:SF}(h:s st=some (.ok .brk,st1)):sq s r st=some (.ok .brk,st1):=(oM.at h).trans rfl
theorem Fd{s:SF}(h:s st=some (.ok .cont,st1)):sq s r st=some (.ok .cont,st1):=(oM.at h).trans rfl
theorem QL{s:SF}(h:s st=some (.exc v,st1)):sq s r st=some (.exc v,st1):=oM.ex h
theorem tL(h:a st=some (.ok v,st1)):xp a st=some (.ok .next,st1):=oM.at h
theorem TC(h:a st=some (.exc v,st1)):xp a st=some (.exc v,st1):=oM.ex h
theorem uQ(h:a st=some (.ok v,st1)):rt a st=some (.ok<|.ret v,st1):=oM.at h
theorem pE(h:a st=some (.ok v,st1)):sP a (tP x) st=some (.ok .next,⟨st1.H,put x v st1.loc⟩):=(oM.at h).trans rfl
theorem FN(h:a st=some (.exc v,st1)):sP a g st=some (.exc v,st1):=oM.ex h
theorem z5(h:a st=some (.ok v,st1))(g:b st1=some (.ok o,st2))(p:tK o x v st2.H=some H2):sP a (sa b x) st=some (.ok .next,⟨H2,st2.loc⟩):=by refine(oM.at h).trans<|(oM.at (b:=()) ?_).trans rfl;exact(oM.at g).trans<|p▸rfl
theorem IV{i:V}{H2:Hp}(g:a st=some (.ok o,st1))(g2:b st1=some (.ok i,st2))(p:uB o i v st2.H=some H2):ss a b v st=some (.ok (),⟨H2,st2.loc⟩):=(oM.at g).trans<|(oM.at g2).trans<|p▸rfl
theorem IC{i:V}(h:c st=some (.ok v,st1))(g:a st1=some (.ok o,st2))(g2:b st2=some (.ok i,HO))(p:uB o i v HO.H=some H2):sP c (ss a b) st=some (.ok .next,⟨H2,HO.loc⟩):=
 (oM.at h).trans ((oM.at<|IV g g2 p).trans rfl)
theorem SG{i:V}(h:c st=some (.ok v,st1))(g:a st1=some (.ok o,st2))(g2:b st2=some (.ok i,HO))(p:uB o i v HO.H=some H2):as2 c (ss a b) (tP x) st=some (.ok .next,⟨H2,put x v HO.loc⟩):=
 (oM.at h).trans ((oM.at<|IV g g2 p).trans rfl)
theorem Lk{w i:V}{op}(h:a st=some (.ok o,st1))(p1:P4 fu n o x st1.H=some (.ok v,H1))(g:b ⟨H1,st1.loc⟩=some (.ok w,st2))(p2:Jl op v w st2.H=some (i,H2))(p3:tK o x i H2=some H3):agA fu n a op x b st=some (.ok .next,⟨H3,st2.loc⟩):=by refine(oM.at h).trans<|(oM.at (by rw[p1];rfl)).trans<|(oM.at g).trans<|(oM.at (by rw[p2];rfl)).trans ?_;exact(oM.at (b:=())<|p3▸rfl).trans rfl
theorem v9{s:SF}{z}(h:t st=some (.ok true,st1))(g:s st1=z):fi t s r st=z:=(oM.at h).trans g
theorem sQ{s:SF}{z}(h:t st=some (.ok false,st1))(g:r st1=z):fi t s r st=z:=(oM.at h).trans g
theorem aaH{i:V}(g:a st=some (.ok o,st1))(g2:b st1=some (.ok i,st2))(p:yD o i st2.H=some H2):dl a b st=some (.ok .next,⟨H2,st2.loc⟩):=by refine(oM.at g).trans<|(oM.at g2).trans<|(oM.at (b:=())<|p▸rfl).trans rfl
theorem jk{s:SF}{h:SF}(e:s st=some (.ok f,st1)):Sq s T h st=some (.ok f,st1):=by dsimp only[Sq,EQ];rw[e]
theorem Xa{s:SF}{h:SF}(e:s st=some (.exc v,st1))(hx:BV v T=true)(g:h st1=some (.ok f,st2)):Sq s T h st=some (.ok f,st2):=by dsimp only[Sq];rw[e];refine a6 (aH hx) ?_;rw[g];rfl
theorem ZT{s:SF}{I:List V->St->Prop}(h:a st=some (.ok v,st1))(hi:o9 v st1.H=some xs)(h0:I xs.2 st1)(hk:∀l st,I l st->o9 v st.H=some xs)
 (step:∀w l st,I (w::l) st->∃f oE,s ⟨st.H,put x w st.loc⟩=some (.ok f,oE)/\(f=.next\/f=.cont)/\I l oE):∃oE,fr a x s st=some (.ok .next,oE)/\I [] oE:=by
  have key:∀l st,I l st->∃oE,Ge (o9 v) xs (tP x) s l st=some (.ok .next,oE)/\I [] oE:=by
   exists l;induction l with
   |nil=>intro st hI;exact⟨st,aH<|hk _ _ hI,hI⟩
   |cons w l ih=> intro st hI;obtain⟨f,oE,o5⟩:=step w l st hI;obtain⟨st2,q9⟩:=ih oE o5.2.2;refine⟨st2,(aH<|hk _ _ hI).trans<|(oM.at rfl).trans<|(oM.at o5.1).trans ?_,q9.2⟩;rcases o5.2.1 with rfl|rfl<;>exact q9.1
  obtain⟨oE,q8⟩:=key xs.2 st1 h0;refine⟨oE,(oM.at h).trans ?_,q8.2⟩;exact hi▸q8.1
theorem VG{s:SF}{x:Str}{v:V}{st st1:St}{I:List V->St->Prop}{R:V->St->Prop}{xs:List Nat×List V}(h:a st=some (.ok v,st1))(hi:o9 v st1.H=some xs)(h0:I xs.2 st1)(hk:∀l st,I l st->o9 v st.H=some xs)
 (step:∀w l st,I (w::l) st->∃f oE,s ⟨st.H,put x w st.loc⟩=some (.ok f,oE)/\(((f=.next\/f=.cont)/\I l oE)\/∃z,f=.ret z/\R z oE)):∃f oE,fr a x s st=some (.ok f,oE)/\((f=.next/\I [] oE)\/∃z,f=.ret z/\R z oE):=by
 exists a,s,x,v,st,st1,I,R,xs,_;have key:∀l st,I l st->∃f oE,Ge (o9 v) xs (tP x) s l st=some (.ok f,oE)/\((f=.next/\I [] oE)\/∃z,f=.ret z/\R z oE):=by
  exists l;induction l with
  |nil=>exists st;intro hI;exact⟨.next,st,aH<|hk _ _ hI,.inl ⟨rfl,hI⟩⟩
  |cons w l ih=>
   exists w,l,[ih];exists st;intro hI;exists _;exists f,oE,(q_:step w l st hI);obtain⟨e,hf⟩:=q_;have go:Ge (o9 v) xs (tP x) s (w::l) st=oM.then (s ⟨st.H,put x w st.loc⟩) _:=(aH<|hk _ _ hI).trans<|oM.at rfl;rcases hf with⟨hf,hI'⟩|⟨z,rfl,hz⟩
   .exists f2,st2,(q9:ih oE hI');refine k9 ⟨f2,st2,go.trans<|(oM.at e).trans ?_,q9.2⟩;rcases hf with rfl|rfl<;>exact q9.1
   .exact k9 ⟨_,oE,go.trans<|(oM.at e).trans rfl,.inr ⟨z,rfl,hz⟩⟩
 exists f,oE,(q8:key xs.2 st1 h0);refine⟨f,oE,(oM.at h).trans ?_,q8.2⟩;exact hi▸q8.1
section
variable{H L:Hp}{i j:Nat}{a b c:AO}
theorem qM(h:H[i]?=some a):i<H.length:=(aU.mp h).1
theorem oJ(h:H[i]?=some a):(H++L)[i]?=some a:=by exact a6 (bO<|qM h)<|h
theorem pR:(H++[a])[H.length]?=some a:=by refine a6 (aS<|aI _) ?_;rw[cD];rfl
theorem rD(h:H[i]?=some a):(H.set i b)[i]?=some b:=eU<|qM h
theorem qI(hn:i≠j)(h:H[j]?=some a):(H.set i b)[j]?=some a:=by exact a6 (dB hn)<|h
theorem Os(h:H[i]?=some a)(h':H[j]?=some b)(n:a≠b):i≠j:=by rintro rfl;exact n<|aA<|h.symm.trans h'
theorem oU(h:H[i]?=some a)(h':H[j]?=some b)(n:a≠b):(H.set i c)[j]?=some b:=qI (Os h h' n) h'
end
section
variable{H:Hp}{i j d m l:Nat}{x y:Str}{xs ys:List V}{v u w:V}{es:List (Str×V)}{fu n:Nat}{ks:List Str}
theorem aaN(h:H[i]?=some (.set ks)):sE H i=some ks:=by unfold sE;rw[h];rfl
theorem z8{γ:Type}{f:Nat->List V->Hp->Option γ}(h:H[i]?=some (.list xs))(hz:xs.length<big):vL f (.ref i) H=f i xs H:=by show(lE H i).bind _=_;exact(uE h)▸(aH hz)
theorem Me{k:Nat}(h:H[i]?=some (.inst 77 d xs))(hd:H[d]?=some (.dict es))(hs:y3 x=some k)(hv:xs[k]?=some v)(hb:B9 v=true):Ca (.ref i) x H=some (.ok v,H):=by show(iE H i).bind _=_;rw[Gu h hd,bY,aH rfl,hs,bY,hv,bY,aH hb]
theorem JJ(h:H[i]?=some (.inst 174 d xs))(hd:H[d]?=some (.dict es))(hs:u4.contains (174,x)=true)(hv:es.lookup x=some v)(hb:B9 v=true):Ca (.ref i) x H=some (.ok v,H):=by show(iE H i).bind _=_;rw[Gu h hd,bY,aL<|show ¬174=77 by decide,aH ⟨hs,rfl⟩,hv,bY,aH hb]
theorem Ut{k:Nat}(h:H[i]?=some (.inst 77 d xs))(hd:H[d]?=some (.dict es))(hs:y3 x=some k)(hk:k<=xs.length):tK (.ref i) x v H=some (H.set i<|.inst 77 d<|B5 k v xs):=by show(iE H i).bind _=_;rw[Gu h hd,bY,aH rfl,hs,bY,aH hk]
theorem Gh(h:H[i]?=some (.inst 174 d xs))(hd:H[d]?=some (.dict es))(hs:u4.contains (174,x)=true)(hl:es.length<900):tK (.ref i) x v H=some (H.set d<|.dict<|put x v es):=by show(iE H i).bind _=_;rw[Gu h hd,bY,aL<|show ¬174=77 by decide,aH ⟨hs,rfl,hl⟩]
theorem JF{p:r8 V×Hp}(h:Ca v x H=some p):P4 fu n v x H=some p:=by unfold P4;rw[h];rfl
theorem atB{p:r8 V×Hp}(h:Ca v x H=some p):FV v x H=some p:=by unfold FV;rw[h];rfl
theorem FE{k:Nat}(h:H[i]?=some (.qG l k)):P4 fu n (.ref i) "__next__" H=some (.ok<|.ref H.length,H++[.mw i]):=by
 have e:iE H i=none:=by delta iE;rw[h];rfl
 have e2:GU H i=some (l,k):=by delta GU;rw[h];rfl
 show((((iE H i).bind _).or<|(GU H i).bind _).or _)=_;rw[e,e2];rfl
theorem qS{mt:String}(h:H[i]?=some (.list xs))(hm:Bq x=some mt):Iy (.ref i) x H=some (.bi mt,[.ref i]):=by show(Ab (.ref i) x H).or _=_;rw[zP (by rw[uE h,bY,hm];rfl)];rfl
theorem M9{mt:String}(h:H[i]?=some (.dict es))(hm:Bs x=some mt):Iy (.ref i) x H=some (.bi mt,[.ref i]):=by show(Ab (.ref i) x H).or _=_;rw[zP (by rw[O7 h,bY,hm];delta lE;rw[h];rfl)];rfl
theorem ri{ep:Nat}(h:H[i]?=some (.o0 es ep)):Iy (.ref i) "values" H=some (.bi "dict.values",[.ref i]):=by show(Ab (.ref i) "values" H).or _=_;rw[zP (by delta lE dE sE fE;rw[h];rfl)];rfl
theorem MQ(h:H[i]?=some (.set ks)):Iy (.ref i) "add" H=some (.bi "set.add",[.ref i]):=by show(Ab (.ref i) "add" H).or _=_;rw[zP (by delta lE dE sE fE;rw[h];rfl)];rfl
theorem C7{mt:String}(hm:Mq x=some mt):Iy (.str y) x H=some (.bi mt,[.str y]):=by show(((Mq x).bind _).or _).or _=_;rw[hm];rfl
theorem Ds{f:Addr}(h:H[i]?=some (.inst 174 d xs))(hd:H[d]?=some (.dict es))(hl:es.lookup x=none)(hm:Fb.lookup (174,x)=some f):Iy (.ref i) x H=some (.top f,[.ref i]):=by
 have e:Ab (.ref i) x H=none:=by show(((lE H i).bind λU=>Bq x).or<|((dE H i).bind λU=>Bs x).or<|((sE H i).bind λU=>K9 x).or<|(fE H i).bind λU=>if x= "values" then some "dict.values" else none).bind _=_;delta lE dE sE fE;rw[h];rfl
 show((Ab (.ref i) x H).or<|((iE H i).bind _).or _)=_;rw[e,Gu h hd];show((if es.lookup x=none then(Fb.lookup (174,x)).bind _ else none).or _)=_;rw[aH hl,hm];rfl
theorem J7(h:H[i]?=some (.list xs))(hz:xs.length<big):qL (.bi "len") [.ref i] [] H=some (.ok<|.int xs.length,H):=by refine(by rfl':_=(vL (λU xs H=>some (.ok<|.int xs.length,H)) (.ref i) H).or (((tE H i).bind λxs=>gv (xs.length<big) (.int xs.length) H).or none)).trans ?_;rw[z8 h hz];rfl
theorem ro(h:H[i]?=some (.tuple xs))(hz:xs.length<big):qL (.bi "len") [.ref i] [] H=some (.ok<|.int xs.length,H):=by refine(by rfl':_=((lE H i).bind λxs=>if xs.length<big then some (.ok<|.int xs.length,H)else none).or (((tE H i).bind λxs=>gv (xs.length<big) (.int xs.length) H).or none)).trans ?_;delta lE tE;rw[h];show((gv _ _ _).or none)=_;unfold gv;rw[aH hz];rfl
theorem rT(h:H[i]?=some (.list xs))(hz:xs.length<big):qL (.bi "list.append") [.ref i,v] [] H=some (.ok .none,H.set i<|.list<|xs++[v]):=by refine(by rfl':_=(Du i v H).bind (λH=>some (.ok .none,H))).trans ?_;unfold Du;rw[uE h,bY,aH hz];rfl
theorem oy(h:H[i]?=some (.list xs))(h':H[j]?=some (.list ys))(hz:xs.length+ys.length<big):qL (.bi "list.extend") [.ref i,.ref j] [] H=some (.ok .none,H.set i<|.list<|xs++ys):=by refine(by rfl':_=vL (λi xs=>vL (λU ys H=>if xs.length+ys.length<big then some (.ok .none,H.set i<|.list<|xs++ys)else none)<|.ref j) (.ref i) H).trans ?_;rw[z8 h<|bP hz,z8 h'<|eH hz,aH hz]
theorem X9(h:H[i]?=some (.list xs))(hz:xs.length<big):qL (.ty "tuple") [.ref i] [] H=some (.ok<|.ref H.length,H++[.tuple xs]):=by refine(by rfl':_=vL (λU xs=>nw<|.tuple xs) (.ref i) H).trans ?_;refine a6 (z8 h hz) ?_;rfl
theorem zq{k:Int}:qL (.ty "range") [.int k] [] H=some (.ok<|.ref H.length,H++[.range 0 k 1]):=by rfl'
theorem aa3:qL (.ty "set") [] [] H=some (.ok<|.ref H.length,H++[.set []]):=by rfl'
theorem DQ(h:H[i]?=some (.list xs))(hz:xs.length<big):qL (.bi "list.clear") [.ref i] [] H=some (.ok .none,H.set i<|.list []):=by refine(by rfl':_=vL (λi xs H=>some (.ok .none,H.set i<|.list [])) (.ref i) H).trans ?_;rw[z8 h hz]
theorem qg(h:H[i]?=some (.set ks))(hz:ks.length<900):qL (.bi "set.add") [.ref i,.str x] [] H=some (.ok .none,H.set i<|.set<|if ks.contains x then ks else ks++[x]):=by refine(by rfl':_=(sE H i).bind (λxs=>if xs.length<900 then some (.ok .none,H.set i<|.set<|if xs.contains x then xs else xs++[x])else none)).trans ?_;simp only[aaN h];exact aH hz
theorem mh(h:H[i]?=some (.dict es)):qL (.bi "dict.get") [.ref i,.str x] [] H=some (.ok<|(es.lookup x).getD .none,H):=by refine(by rfl':_=(dE H i).bind (λes=>some (.ok<|(es.lookup x).getD .none,H))).trans ?_;rw[O7 h];rfl
theorem qf{ep:Nat}(h:H[i]?=some (.o0 es ep)):qL (.bi "dict.values") [.ref i] [] H=some (.ok<|.ref H.length,H++[.vals i]):=by refine(by rfl':_=((dE H i).bind λU=>nw (.vals i) H).or ((fE H i).bind λU=>nw (.vals i) H)).trans ?_;delta dE fE;exact h▸rfl
theorem Xp{k:Nat}(h:H[i]?=some (.list xs))(hz:xs.length<big)(ha:Dg xs=true)(hm:vQ x xs=some k):qL (.bi "list.index") [.ref i,.str x] [] H=some (.ok<|.int k,H):=by refine(by rfl':_=vL (λU xs H=>if Dg xs=true then(vQ x xs).bind λn=>some (.ok<|.int n,H)else none) (.ref i) H).trans ?_;rw[z8 h hz,aH ha,hm];rfl
theorem RN(h:H[i]?=some (.list xs))(hz:xs.length<big):qL (.ty "bool") [.ref i] [] H=some (.ok<|.bool (!xs.isEmpty),H):=by refine(by rfl':_=vL (λU xs H=>some (.ok<|.bool (!xs.isEmpty),H)) (.ref i) H).trans ?_;rw[z8 h hz]
theorem jf{r:r8 V×Hp}(h:xB i H=some r):qL (.bi "sorted") [.ref i] [] H=some r:=(by rfl':_=xB i H).trans h
theorem IQ(h:H[i]?=some (.list xs))(hz:xs.length<big)(hv:xs[xs.length-1]?=some v):qL (.bi "list.pop") [.ref i] [] H=some (.ok v,H.set i<|.list<|xs.eraseIdx<|xs.length-1):=by refine(by rfl':_=vL (λi xs H=>(xs[xs.length-1]?).map λv=>(.ok v,H.set i<|.list<|xs.eraseIdx<|xs.length-1)) (.ref i) H).trans ?_;simp only[z8 h hz,hv];rfl
theorem YT{r:r8 V×Hp}(h:EM i H=some r):oZ (oL fu n) fu (.bi "max") [.ref i] [] H=some r:=by refine(by rfl':_=none.or (none.or<|(EM i H).or<|(O1 (.bi "max") [.ref i] H).or<|(Gc (.bi "max") [.ref i] H).or<|Kf (.bi "max") [.ref i] H)).trans ?_;rw[h];rfl
theorem SE(h:H[i]?=some (.list xs)):oZ (oL fu n) fu (.bi "iter") [.ref i] [] H=some (.ok<|.ref H.length,H++[.qG i 0]):=by
 refine(by rfl':_=none.or (none.or<|none.or<|none.or<|(Gc (.bi "iter") [.ref i] H).or<|Kf (.bi "iter") [.ref i] H)).trans ?_;have e:Gc (.bi "iter") [.ref i] H=some (.ok<|.ref H.length,H++[.qG i 0]):=by refine(aH rfl).trans ?_;show(lE H i).bind _=_;rw[uE h];rfl
 rw[e];rfl
theorem ZZ{k:Nat}(h:H[m]?=some (.mw i))(h1:H[i]?=some (.qG l k))(h2:H[l]?=some (.list xs)):oZ (oL fu n) fu (.ref m) [] [] H=(XI l k i H xs).or ((Gc (.ref m) [] H).or<|Kf (.ref m) [] H):=by
 refine(by rfl':_=none.or (none.or<|none.or<|(O1 (.ref m) [] H).or<|(Gc (.ref m) [] H).or<|Kf (.ref m) [] H)).trans ?_;have e:O1 (.ref m) [] H=XI l k i H xs:=by refine(aH rfl).trans ?_;show(FB H m).bind _=_;rw[show FB H m=some i by delta FB;rw[h];rfl];show(GU H i).bind _=_;rw[show GU H i=some (l,k)by delta GU;rw[h1];rfl];show(lE H l).bind _=_;rw[uE h2];rfl
 rw[e];rfl
theorem UN{k:Nat}(h:H[m]?=some (.mw i))(h1:H[i]?=some (.qG l k))(h2:H[l]?=some (.list xs))(hv:xs[k]?=some v):oZ (oL fu n) fu (.ref m) [] [] H=some (.ok v,H.set i<|.qG l<|k+1):=by rw[ZZ h h1 h2];unfold XI;rw[hv];rfl
theorem TA{k:Nat}(h:H[m]?=some (.mw i))(h1:H[i]?=some (.qG l k))(h2:H[l]?=some (.list xs))(hv:xs[k]?=none):oZ (oL fu n) fu (.ref m) [] [] H=some (.exc<|.ty "StopIteration",H.set i .lend):=by rw[ZZ h h1 h2];unfold XI;rw[hv];rfl
theorem JW(h:H[m]?=some (.mw i)):(Y6 (.ref m) H||IY (.ref m) H)=true:=by
 have e:FB H m=some i:=by delta FB;rw[h];rfl
 show(_||(FB H m).isSome)=true;rw[e];exact n5 _
theorem ru{k:Nat}(h:H[i]?=some (.list xs))(hz:xs.length<big):rJ (.ref i) (.int (k:Int)) .none .none H=some (.ref H.length,H++[.list<|xs.drop k]):=by rw[G8 (h▸rfl) hz rfl rfl rfl<|by decide,Zz]
theorem sF(h:H[i]?=some (.list xs)):o9 (.ref i) H=some ([1],xs):=by show(H[i]?).bind _=_;rw[h];rfl
theorem M7(h:H[i]?=some (.tuple xs)):o9 (.ref i) H=some ([2],xs):=by show(H[i]?).bind _=_;rw[h];rfl
theorem AB{ep:Nat}(h:H[i]?=some (.o0 es ep)):o9 (.ref i) H=some ([4,ep],es.map λe=>V.str e.1):=by show(H[i]?).bind _=_;refine h▸?_;rfl
theorem gu{ep:Nat}(h:H[i]?=some (.vals d))(h':H[d]?=some (.o0 es ep)):o9 (.ref i) H=some ([5,d,ep],es.map (·.2)):=by show(H[i]?).bind _=_;rw[h];show(fE H d).map _=_;unfold fE;rw[h'];rfl
theorem Ga(h:H[i]?=some (.list xs))(hz:xs.length<big):Z5 (.ref i) H=some (!xs.isEmpty):=by show((lE H i).bind _).or _=_;rw[uE h,bY,aH hz];rfl
theorem BF(h:H[i]?=some (.dict es)):sZ .In (.str y) (.ref i) H=some (.bool (es.lookup y).isSome):=by delta sZ Bk L6 Hb vS vR lE tE dE;dsimp only;exact h▸rfl
theorem ut(h:H[i]?=some (.set ks)):sZ .In (.str y) (.ref i) H=some (.bool<|ks.contains y):=by delta sZ Bk L6 Hb vS vR lE tE dE sE;dsimp only;exact h▸rfl
theorem Hj(hy:PyData.strOk y=true):∀{ks:List Str},(∀x∈ks,PyData.strOk x=true)->D4 y (ks.map V.str) H=some (ks.contains y):=by
 intro ks hk;have e1:∀ks:List Str,tT (λv=>rd 2 v H) (ks.map V.str)=some (ks.map PyData.str):=by
  exists ks;induction ks with
  |nil=>rfl
  |cons x ks ih=>refine(a6 (aV _ ih) ?_:Option.map (λl=>PyData.str x::l) (tT (λv=>rd 2 v H)<|ks.map V.str)=_);rfl
 have e2:∀ks:List Str,(∀x∈ks,PyData.strOk x=true)->PyData.canLayAll0 (ks.map PyData.str)=true:=by
  intro ks hk;induction ks with
  |nil=>rfl
  |cons x ks ih=>show(PyData.canLay0 (.str x)&&PyData.canLayAll0 (ks.map PyData.str))=true;rw[ih λz hz=>hk z<|.tail _ hz];simpa[PyData.canLay0]using hk x<|.head _
 unfold D4;rw[e1,bY,aH (by simp only[e2 ks hk,hy];rfl)];rw[n4,show((λd=>PyData.eqv d<|.str y)∘PyData.str)=λz=>y==z from funext λz=>Bool.beq_comm,<-List.contains_eq_any_beq]
theorem CM(h:H[i]?=some (.list<|ks.map V.str))(hy:PyData.strOk y=true)(hk:∀x∈ks,PyData.strOk x=true):sZ .In (.str y) (.ref i) H=some (.bool<|ks.contains y):=by delta sZ Bk L6 vS vR;dsimp only;simp only[uE h,bY,Hj hy hk];rfl
theorem Yd(h:H[i]?=some (.list<|ks.map V.str))(hy:PyData.strOk y=true)(hk:∀x∈ks,PyData.strOk x=true):sZ .NotIn (.str y) (.ref i) H=some (.bool (!ks.contains y)):=by delta sZ Bk L6 vS vR;dsimp only;simp only[uE h,bY,Hj hy hk];rfl
end
set_option genInjectivity false in
structure E3 where
 (s d0 m:Nat)
 (ad dd ld:Str->Nat)
theorem yAd:Nonempty E3:=⟨⟨0,0,0,λU=>0,λU=>0,λU=>0⟩⟩
def BK(fz:Option Nat)(es:List<|Str×V):AO:=match fz with
 |none=>.dict es
 |some ep=>.o0 es ep
def tO(m:Nat)(rv:V)(po nf:Int):List<|Str×V:=[("_node2info",.ref m),("_ready_nodes",rv),("_npassedout",.int po),("_nfinished",.int nf)]
def pB(A:E3)(ns:List Str):List<|Str×V:=ns.map λx=>(x,.ref<|A.ad x)
structure tJ(b:Nat)(A:E3)(fz:Option Nat)(rv:V)(po nf:Int)(ns:List Str)(p:Str->Int)(sc:Str->List Str)(H:Hp):Prop where
 hs:H[A.s]?=some (.inst 174 A.d0 [])
 hd:H[A.d0]?=some (.dict<|tO A.m rv po nf)
 hm:H[A.m]?=some (BK fz<|pB A ns)
 hn:∀x∈ns,H[A.ad x]?=some (.inst 77 (A.dd x) [.str x,.int<|p x,.ref<|A.ld x])
 wH:∀x∈ns,H[A.dd x]?=some (.dict [])
 hl:∀x∈ns,H[A.ld x]?=some (.list<|(sc x).map .str)
 inj:∀x∈ns,∀y∈ns,A.ld x=A.ld y->x=y
 nd:ns.Nodup
 ls:b<=A.s
 Nz:b<=A.d0
 lm:b<=A.m
 ln:∀x∈ns,b<=A.ad x/\b<=A.ld x
def qW(b:Nat)(H H':Hp):Prop:=∀j<b,H'[j]?=H[j]?
theorem qW.refl:qW b H H:=λU U=>rfl
theorem qW.trans(h:qW b H H1)(h':qW b H1 H2):qW b H H2:=λj hj=>(h' j hj).trans<|h j hj
theorem qW.set(h:qW b H H')(hi:b<=i):qW b H<|H'.set i o:=λj hj=>by exact a6 (dB (cX<|lk<|aC hj hi))<|h j hj
theorem qW.app(h:qW b H H')(hb:b<=H'.length):qW b H<|H'++L:=λj hj=>by exact a6 (bO<|bC ‹_› ‹_›)<|h j hj
theorem C5:∀{ns:List Str},(pB A ns).lookup x=if x∈ns then some (.ref<|A.ad x)else none:=by
 exists zr;induction zr with
 |nil=> exact rfl
 |cons y ns pD=>
  show(match x==y with|true=>some (V.ref<|A.ad y)|false=>(pB A ns).lookup x)=_;by_cases h:x=y
  .subst h;simp only[bM];simp
  .simp only[a7.mpr h,pD];simp[h]
theorem tJ.len(R:tJ b A fz rv po nf ns p sc H):b<=H.length:=bC R.ls<|bS<|qM R.hs
theorem QC:AO.inst a d xs≠BK fz es:=λe=>by induction fz<;>rcases e with _|_
theorem rk:AO.list xs≠BK fz es:=λe=>by induction fz<;>rcases e with _|_
theorem BS(R:tJ b A fz rv po nf ns p sc H):BK fz (pB A ns)≠.dict (tO A.m rv po nf):=λe=>by
 rcases fz with _|ep
 .have h:=aV (λl:List (Str×V)=>l[2]?)<|diI e;simp only[pB,bD]at h;rcases hx:ns[2]? with _|y
  .replace h:=hx▸h;exact nn h
  .replace h:=hx▸h;cases aA h
 .injection e
theorem tJ.HP(R:tJ b A fz rv po nf ns p sc H)(hx:x∈ns)(q):tJ b A fz rv po nf ns (λy=>if y=x then q else p y) sc (H.set (A.ad x)<|.inst 77 (A.dd x) [.str x,.int q,.ref<|A.ld x])where
 hs:=oU (R.hn x hx) R.hs λe=>by rcases e with _|_
 hd:=oU (R.hn x hx) R.hd λh=>by injection h
 hm:=oU (R.hn x hx) R.hm QC
 hn y hy:=by
  by_cases e:y=x
  .subst e;exact(aH rfl)▸(rD<|R.hn y hy)
  .exact(aL e)▸(oU (R.hn x hx) (R.hn y hy) λh=>e (V.str.inj (b0<|inI h).1).symm)
 wH y hy:=oU (R.hn x hx) (R.wH y hy) λh=>by injection h
 hl y hy:=oU (R.hn x hx) (R.hl y hy) λh=>by injection h
 inj:=R.inj
 nd:=R.nd
 ls:=R.ls
 Nz:=R.Nz
 lm:=R.lm
 ln:=R.ln
theorem tJ.afa(R:tJ b A fz rv po nf ns p sc H)(hx:x∈ns)(q):tJ b A fz rv po nf ns p (λy=>if y=x then q else sc y) (H.set (A.ld x)<|.list<|q.map .str)where
 hs:=oU (R.hl x hx) R.hs λh=>by injection h
 hd:=oU (R.hl x hx) R.hd λh=>by injection h
 hm:=oU (R.hl x hx) R.hm rk
 hn y hy:=oU (R.hl x hx) (R.hn y hy) λh=>by injection h
 wH y hy:=oU (R.hl x hx) (R.wH y hy) λh=>by injection h
 hl y hy:=by
  by_cases e:y=x
  .subst e;exact(aH rfl)▸(rD<|R.hl y hy)
  .exact(aL e)▸(qI (λh=>e (R.inj x hx y hy h).symm)<|R.hl y hy)
 inj:=R.inj
 nd:=R.nd
 ls:=R.ls
 Nz:=R.Nz
 lm:=R.lm
 ln:=R.ln
theorem tJ.other(R:tJ b A fz rv po nf ns p sc H)(h:H[i]?=some (.list xs))(hi:∀x∈ns,A.ld x≠i):tJ b A fz rv po nf ns p sc (H.set i<|.list ys)where
 hs:=oU h R.hs λh=>by injection h
 hd:=oU h R.hd λh=>by injection h
 hm:=oU h R.hm rk
 hn y hy:=oU h (R.hn y hy) λh=>by injection h
 wH y hy:=oU h (R.wH y hy) λh=>by injection h
 hl y hy:=qI (λe=>hi y hy e.symm)<|R.hl y hy
 inj:=R.inj
 nd:=R.nd
 ls:=R.ls
 Nz:=R.Nz
 lm:=R.lm
 ln:=R.ln
theorem tJ.app(R:tJ b A fz rv po nf ns p sc H)(L):tJ b A fz rv po nf ns p sc (H++L)where
 hs:=oJ R.hs
 hd:=oJ R.hd
 hm:=oJ R.hm
 hn y hy:=oJ<|R.hn y hy
 wH y hy:=oJ<|R.wH y hy
 hl y hy:=oJ<|R.hl y hy
 inj:=R.inj
 nd:=R.nd
 ls:=R.ls
 Nz:=R.Nz
 lm:=R.lm
 ln:=R.ln
theorem tJ.attr(R:tJ b A fz rv po nf ns p sc H)(rv')(po' nf'):tJ b A fz rv' po' nf' ns p sc (H.set A.d0<|.dict<|tO A.m rv' po' nf')where
 hs:=oU R.hd R.hs λh=>by injection h
 hd:=rD R.hd
 hm:=oU R.hd R.hm (BS R).symm
 hn y hy:=oU R.hd (R.hn y hy) λh=>by injection h
 wH y hy:=oU R.hd (R.wH y hy) nofun
 hl y hy:=oU R.hd (R.hl y hy) λh=>by injection h
 inj:=R.inj
 nd:=R.nd
 ls:=R.ls
 Nz:=R.Nz
 lm:=R.lm
 ln:=R.ln
theorem tJ.congr(R:tJ b A fz rv po nf ns p sc H)(hp:∀x∈ns,p x=p' x)(hc:∀x∈ns,sc x=sc' x):tJ b A fz rv po nf ns p' sc' H where
 hs:=R.hs
 hd:=R.hd
 hm:=R.hm
 hn y hy:=by exact(hp y hy)▸(R.hn y hy)
 wH:=R.wH
 hl y hy:=by exact(hc y hy)▸(R.hl y hy)
 inj:=R.inj
 nd:=R.nd
 ls:=R.ls
 Nz:=R.Nz
 lm:=R.lm
 ln:=R.ln
theorem Wb:∀{es:List (Str×V)},es.lookup x=none->put x v es=es++[(x,v)]:=by
 exists zr;induction zr with
 |nil=> intro x7;exact rfl
 |cons zh es pD=>
  obtain⟨y,u⟩:=zh;intro h;have h':(match x==y with|true=>some u|false=>es.lookup x)=none:=h;by_cases e:x=y
  .subst e;rw[bM]at h';injection h'
  .rw[a7.mpr e]at h';show(if y=x then _ else(y,u)::put x v es)=_;rw[aL λq=>e q.symm,pD h'];rfl
def qQ(H:Hp)(m:Nat)(x:Str)(es:List<|Str×V):Hp:=(H++[AO.dict [],AO.inst 77 H.length [V.str x,V.int 0,V.ref<|H.length+2],AO.list []]).set m<|.dict<|es++[(x,.ref<|H.length+1)]
def E3.add(A:E3)(x:Str)(k:Nat):E3:=⟨A.s,A.d0,A.m,λy=>if y=x then k+1 else A.ad y,λy=>if y=x then k else A.dd y,λy=>if y=x then k+2 else A.ld y⟩
theorem Y7(hx:x∉ns):pB (A.add x k) (ns++[x])=pB A ns++[(x,.ref<|k+1)]:=by
 refine a6 bE ?_;congr 1
 .refine dN λy hy=>?_;show(y,V.ref<|if y=x then k+1 else A.ad y)=_;rw[aL (λe=>hx (e▸hy):¬y=x)]
 .show[(x,V.ref<|if x=x then k+1 else A.ad x)]=_;rw[aH rfl]
theorem tJ.node{H:Hp}(R:tJ b A none rv po nf ns p sc H){x:Str}(hx:x∉ns)(hp:p x=0)(hc:sc x=[]):tJ b (A.add x H.length) none rv po nf (ns++[x]) p sc<|qQ H A.m x<|pB A ns:=by
 exists b,A,rv,po,nf,ns,p,sc,H,x,[R,hx,hp,hc];have hm:(H++[AO.dict [],.inst 77 H.length [V.str x,.int 0,.ref<|H.length+2],.list []])[A.m]?=some (.dict<|pB A ns):=oJ R.hm;have hml:=qM R.hm;have ne:∀{y:Str},y∈ns->y≠x:=λhy e=>hx<|e▸hy;have g0:(qQ H A.m x<|pB A ns)[H.length]?=some (.dict []):=by unfold qQ;rw[dB<|bI ‹_›,aS<|aI _,cD];rfl
 have g1:(qQ H A.m x<|pB A ns)[H.length+1]?=some (.inst 77 H.length [.str x,.int 0,.ref<|H.length+2]):=by unfold qQ;rw[dB<|ktu_ne 1 hml,aS<|aT _ _,b5];rfl
 have g2:(qQ H A.m x<|pB A ns)[H.length+2]?=some (.list []):=by unfold qQ;rw[dB<|ktu_ne 2 hml,aS<|aT _ _,b5];rfl
 exact{
  hs:=oU hm (oJ R.hs) λe=>by injection e
  hd:=show(qQ H A.m x<|pB A ns)[A.d0]?=_ from oU hm (oJ R.hd)<|BS R
  hm:=by rw[Y7 hx];exact rD hm
  hn:=λy hy=>by
   rcases aO.mp hy with hy|hy
   .show(qQ H A.m x<|pB A ns)[if y=x then _ else A.ad y]?=some (.inst 77 (if y=x then _ else A.dd y) [_,_,.ref<|if y=x then _ else A.ld y]);exact(aL<|ne hy)▸(aL<|ne hy)▸(aL<|ne hy)▸(oU hm (oJ<|R.hn y hy) λe=>by injection e)
   .rw[aE]at hy;subst hy;show(qQ H A.m y<|pB A ns)[if y=y then _ else A.ad y]?=some (.inst 77 (if y=y then _ else A.dd y) [_,_,.ref<|if y=y then _ else A.ld y]);rw[aH rfl,aH rfl,aH rfl,hp];exact g1
  wH:=λy hy=>by
   rcases aO.mp hy with hy|hy
   .show(qQ H A.m x<|pB A ns)[if y=x then _ else A.dd y]?=_;refine(aL<|ne hy)▸?_;refine qI (λe=>?_)<|oJ<|R.wH y hy;have h1:=R.hm;rw[e,R.wH y hy]at h1;rcases ns with _|⟨z,l⟩
    .cases hy
    .injection(diI<|aA h1)
   .rw[aE]at hy;subst hy;show(qQ H A.m y<|pB A ns)[if y=y then _ else A.dd y]?=_;rw[aH rfl];exact g0
  hl:=λy hy=>by
   rcases aO.mp hy with hy|hy
   .show(qQ H A.m x<|pB A ns)[if y=x then _ else A.ld y]?=_;exact(aL<|ne hy)▸(oU hm (oJ<|R.hl y hy) λe=>by injection e)
   .rw[aE]at hy;subst hy;show(qQ H A.m y<|pB A ns)[if y=y then _ else A.ld y]?=_;rw[aH rfl,hc];exact g2
  inj:=λy hy z hz e=>by
   have e':(if y=x then H.length+2 else A.ld y)=(if z=x then H.length+2 else A.ld z):=e;have l:∀{y},y∈ns++[x]->y≠x->y∈ns:=λhy n=>(aO.mp hy).elim id λh=>absurd (aE.mp h) n;by_cases h1:y=x<;>by_cases h2:z=x
   .simp[h1,h2]
   .rw[aH h1,aL h2]at e';have:=qM<|R.hl z<|l hz h2;lia
   .rw[aL h1,aH h2]at e';have:=qM<|R.hl y<|l hy h1;lia
   .rw[aL h1,aL h2]at e';exact R.inj y (l hy h1) z (l hz h2) e'
  nd:=cH.mpr ⟨R.nd,(by simp:[x].Nodup),λa ha c hc e=>hx (by rw[aE]at hc;obtain rfl:=hc.symm;obtain rfl:=e.symm;exact ha)⟩
  ls:=R.ls
  Nz:=R.Nz
  lm:=R.lm
  ln:=λy hy=>by
   have hb:=R.len;show b<=(if y=x then _ else A.ad y)/\b<=(if y=x then _ else A.ld y);by_cases h1:y=x
   .rw[aH h1,aH h1];exact⟨lk hb,lk hb⟩
   .rw[aL h1,aL h1];exact R.ln y ((aO.mp hy).elim id λh=>absurd (aE.mp h) h1)}
theorem oX:∀{l:Loc},(put x v l).lookup x=some v:=by
 intro zr;induction zr with
 |nil=> show(match x==x with|true=>some v|false=>_)=_;rw[bM]
 |cons zh l pD=>
  obtain⟨y,u⟩:=zh;by_cases e:y=x
  .subst e;show(if y=y then(y,v)::l else _).lookup y=_;rw[aH rfl];show(match y==y with|true=>some v|false=>_)=_;rw[bM]
  .show(if y=x then _ else(y,u)::put x v l).lookup x=_;rw[aL e];show(match x==y with|true=>some u|false=>(put x v l).lookup x)=_;exact(a7.mpr<|dQ e)▸pD
theorem oR(h:(x==y)=false):∀{l:Loc},(put y v l).lookup x=l.lookup x:=by
 exists zr;induction zr with
 |nil=> show(match x==y with|true=>some v|false=>none)=_;exact h▸rfl
 |cons zh l pD=>
  obtain⟨z,u⟩:=zh;show(if z=y then(z,v)::l else(z,u)::put y v l).lookup x=(match x==z with|true=>some u|false=>l.lookup x);by_cases e:z=y
  .subst e;rw[aH rfl,h];show(match x==z with|true=>some v|false=>l.lookup x)=_;rw[h]
  .rw[aL e];show(match x==z with|true=>some u|false=>(put y v l).lookup x)=_;rw[pD]
abbrev lz(l:Loc)(x:Str):Option V:=l.lookup x
theorem Do{α:Type}{g:α->V}{a:EF}{s:SF}{x:Str}{v:V}{st st1:St}{k:List Nat}{r:List α}{I:List α->St->Prop}(h:a st=some (.ok v,st1))(h0:I [] st1)(hk:∀d st,I d st->o9 v st.H=some (k,r.map g))
 (step:∀done w rest st,r=done++w::rest->I done st->∃f oE,s ⟨st.H,put x (g w) st.loc⟩=some (.ok f,oE)/\(f=.next\/f=.cont)/\I (done++[w]) oE):∃oE,fr a x s st=some (.ok .next,oE)/\I r oE:=by
 obtain⟨oE,e,done,rest,hd,hr,hI⟩:=ZT (I:=λl st=>∃done rest,r=done++rest/\l=rest.map g/\I done st) h (hk _ _ h0) ⟨[],r,rfl,rfl,h0⟩ (λl st q9=>by obtain⟨_,_,_,_,I⟩:=q9;exact hk _ _ I)
  (λw l st q9=>by
   exists _;obtain⟨done,rest,hr,o5⟩:=q9;rcases rest with _|⟨w',rest⟩
   .injection o5.1
   .obtain⟨rfl,rfl⟩:=b0 o5.1;obtain⟨f,oE,q8⟩:=step done w' rest st hr o5.2;exact k9 ⟨f,oE,q8.1,q8.2.1,done++[w'],rest,by simp only[hr,aJ];rfl,rfl,q8.2.2⟩)
 rcases rest with _|⟨_,_⟩
 .simp only[bF]at hd;subst hd;exact⟨oE,e,hI⟩
 .injection hr
theorem Da{s:SF}{x:Str}{v:V}{st st1:St}{k:List Nat}{r:List Str}{I:List Str->St->Prop}(h:a st=some (.ok v,st1))(h0:I [] st1)(hk:∀d st,I d st->o9 v st.H=some (k,r.map .str))
 (step:∀done w rest st,r=done++w::rest->I done st->∃f oE,s ⟨st.H,put x (.str w) st.loc⟩=some (.ok f,oE)/\(f=.next\/f=.cont)/\I (done++[w]) oE):∃oE,fr a x s st=some (.ok .next,oE)/\I r oE:=Do h h0 hk step
theorem TS:oG (oL fu<|n+1) fu 73 [u,v] [] H=pN (yj fu n ⟨H,[("node",v),("self",u)]⟩):=
 Au aa0 (by rfl')
theorem Xx:oG (oL fu<|n+1) fu 117 [u,v] [] H=pN (Nx fu n ⟨H,[("node",v),("self",u)]⟩):=
 Au ON (by rfl')
theorem CC{w:V}:sH (oL fu<|n+1) fu 124 [("self",u),("node",v),("predecessors",w)] H=pN (Vk fu n ⟨H,[("predecessors",w),("node",v),("self",u)]⟩):=
 Au RX (by rfl')
theorem BG:oG (oL fu<|n+1) fu 110 [u] [] H=pN (Vj fu n ⟨H,[("graph",.none),("self",u)]⟩):=
 Au UM (by rfl')
theorem YS(hi:H[i]?=some (.inst 77 d []))(hd:H[d]?=some (.dict [])):
 oG (oL fu<|n+1) fu 73 [.ref i,.str x] [] H=some (.ok .none,(H++[AO.list []]).set i<|.inst 77 d [.str x,.int 0,.ref H.length]):=by
 have i1:(H.set i<|.inst 77 d [.str x])[i]?=some (.inst 77 d [.str x]):=rD hi;have d1:(H.set i<|.inst 77 d [.str x])[d]?=some (.dict []):=oU hi hd (λh=>by injection h);have e:yj fu n ⟨H,[("node",.str x),("self",.ref i)]⟩=some (.ok .next,⟨_,_⟩):=
  oQ (z5 (oB rfl) (oB rfl)<|Ut hi hd rfl<|aI 0)
   (oQ (z5 oH (oB rfl)<|Ut i1 d1 rfl<|aI 1)
    (z5 (vG C3<|c6 _) (oB rfl)<|Ut (oJ<|rD i1) (oJ<|oU i1 d1 λh=>by injection h) rfl<|aI 2))
 simp only[TS,e];show some (_,_)=_;congr 2
 show((H.set i _).set i _++[_]).set i (.inst 77 d [_,_,.ref ((H.set i _).set i _).length])=_;rw[jM,eQ,gK _ _ (by rw[eQ];exact qM hi),jM,gK _ _<|qM hi]
theorem MI:oZ (oL fu<|n+1) fu (.top 77) [.str x] [] H=some (.ok<|.ref<|H.length+1,H++[AO.dict [],AO.inst 77 H.length [V.str x,V.int 0,V.ref<|H.length+2],AO.list []]):=by
 refine vB<|(by rfl':_=Km (H.length+1) (oG (oL fu<|n+1) fu 73 [.ref<|H.length+1,.str x] []<|H++[.dict [],.inst 77 H.length []])).trans ?_;rw[YS (by refine a6 (aS<|by omega) ?_;rw[b5];rfl) (by rw[aS<|aI _,cD];rfl)];congr 2
 rw[aJ,dO _ _<|by omega,b5,aG];rfl
theorem tJ.at(R:tJ b A fz rv po nf ns p sc H){k:Str}(hs:u4.contains (174,k)=true)(hv:(tO A.m rv po nf).lookup k=some v)(hb:B9 v=true):P4 fu n (.ref A.s) k H=some (.ok v,H):=JF<|JJ R.hs R.hd hs hv hb
theorem Sl(R:tJ b A none rv po nf ns p sc H)(hx:x∉ns)(hl:ns.length<800):oG (oL fu<|n+2) fu 117 [.ref A.s,.str x] [] H=some (.ok<|.ref<|H.length+1,qQ H A.m x<|pB A ns):=by
 have hm:=R.hm;have ln:(pB A ns).lookup x=none:=by rw[C5,aL hx]
 have e:Nx fu (n+1) ⟨H,[("node",.str x),("self",.ref A.s)]⟩=some (.ok<|.ret<|.ref<|H.length+1,⟨(H++[AO.dict [],AO.inst 77 H.length [V.str x,V.int 0,V.ref<|H.length+2],AO.list []]).set A.m<|.dict<|put x (.ref<|H.length+1)<|pB A ns,_⟩):=
  oQ (v9 (pJ (v:=.none) (nu<|rB (sA (oB rfl)<|R.at rfl rfl rfl) (M9 hm rfl) (tF<|oB rfl) rfl<|pK<|(mh hm).trans<|ln▸rfl) oH rfl)
   (SG (rO oH (tF<|oB rfl) rfl MI) (sA (oB rfl)<|(R.app _).at rfl rfl rfl) (oB rfl)<|wa (oJ hm) (by unfold pB;rw[aF];unfold big;exact lk hl)))
   (uQ<|oB rfl)
 simp[Xx,e,Wb ln];rfl
theorem Tj(R:tJ b A none rv po nf ns p sc H)(hx:x∈ns):oG (oL fu<|n+1) fu 117 [.ref A.s,.str x] [] H=some (.ok<|.ref<|A.ad x,H):=by
 have hm:=R.hm;have e:Nx fu n ⟨H,[("node",.str x),("self",.ref A.s)]⟩=some (.ok<|.ret<|.ref<|A.ad x,⟨H,_⟩):=
  oQ (sQ (pJ (nu<|rB (sA (oB rfl)<|R.at rfl rfl rfl) (M9 hm rfl) (tF<|oB rfl) rfl<|pK<|(mh hm).trans (by rw[(by rw[C5,aH hx]:(pB A ns).lookup x=some (.ref<|A.ad x))];rfl)) oH rfl) rfl)
   (uQ<|oB rfl)
 simp[Xx,e];rfl
def ins(x:Str)(ns:List Str):List Str:=if x∈ns then ns else ns++[x]
theorem V8:x∈ins x ns:=by
 unfold ins;by_cases h:x∈ns
 .rw[aH h];exact h
 .rw[aL h];exact aW _<|.head _
theorem jq(R:tJ b A none rv po nf ns p sc H)(hl:ns.length<800)(hz:∀y,y∉ns->p y=0/\sc y=[]):∃A' H',oG (oL fu<|n+2) fu 117 [.ref A.s,.str x] [] H=some (.ok<|.ref<|A'.ad x,H')/\A'.s=A.s/\tJ b A' none rv po nf (ins x ns) p sc H'/\qW b H H'/\∀j o,H[j]?=some o->j≠A.m->H'[j]?=some o:=by
 by_cases hx:x∈ns
 .refine⟨A,H,Tj R hx,rfl,?_,.refl,λU U h U=>h⟩;unfold ins;exact(aH hx)▸R
 .refine⟨A.add x H.length,qQ H A.m x<|pB A ns,(Sl R hx hl).trans ?_,rfl,?_,(qW.refl.app R.len).set R.lm,λj o h hj=>qI (dQ hj)<|oJ h⟩
  .show some (r8.ok<|V.ref<|H.length+1,qQ H A.m x<|pB A ns)=some (r8.ok<|V.ref<|if x=x then H.length+1 else A.ad x,qQ H A.m x<|pB A ns);rw[aH rfl]
  .unfold ins;rw[aL hx];exact R.node hx (hz x hx).1 (hz x hx).2
theorem Xz(h:oG (oL fu n) fu 117 [u,v] [] H=some q):oZ (oL fu n) fu (.top 117) [u,v] [] H=some q:=vB<|(by rfl':_=oG (oL fu n) fu 117 [u,v] [] H).trans h
def qU(l:List Str)(ns:List Str):List Str:=l.foldl (λns x=>ins x ns) ns
theorem AU:(ins x ns).length<=ns.length+1:=by
 unfold ins;by_cases h:x∈ns
 .rw[aH h];exact aT _ _
 .rw[aL h,aG];exact aI _
theorem Ak:∀{l ns:List Str},(qU l ns).length<=ns.length+l.length:=by
 intro zr;induction zr with
 |nil=> intro _;exact aI _
 |cons x l pD=> intro ns;have h1:(qU l<|ins x ns).length<=(ins x ns).length+l.length:=pD;have h2:=AU (x:=x) (ns:=ns);show(qU l<|ins x ns).length<=ns.length+(l.length+1);exact lk<|aC h2 h1
theorem u0:∀{l ns:List Str},y∈qU l ns<->y∈l\/y∈ns:=by
 exists zr;induction zr with
 |nil=> intro ns;simp[qU]
 |cons x l pD=>
  intro ns;show y∈qU l (ins x ns)<->_;rw[pD,aK];have:y∈ins x ns<->y=x\/y∈ns:=by
   unfold ins;by_cases h:x∈ns
   .rw[aH h];exact⟨.inr,λq=>q.elim (λe=>e▸h) id⟩
   .rw[aL h,aO,aE];exact Or.comm
  rw[this];exact⟨λq=>q.elim (λh=>.inl<|.inr h) λq=>q.elim (λh=>.inl<|.inl h) .inr,λq=>q.elim (λq=>q.elim (λh=>.inr<|.inl h) .inl) λh=>.inr<|.inr h⟩
theorem Ea:qU (l++[y]) ns=ins y (qU l ns):=by unfold qU;refine a6 gD ?_;rfl
structure TV(b:Nat)(A:E3)(po nf:Int)(ns:List Str)(p:Str->Int)(sc:Str->List Str)(H:Hp)(k:Nat)(x:Str)(r done:List Str)(st:St):Prop where
 self:lz st.loc "self" =some (.ref A.s)
 node:lz st.loc "node" =some (.str x)
 rep:∃A',A'.s=A.s/\tJ b A' none .none po nf (qU (x::done) ns) p (λy=>sc y++(done.filter (· ==y)).map λU=>x) st.H
 same:qW b H st.H
 tup:st.H[k]?=some (.tuple<|r.map .str)
theorem ub{n b:Nat}{A:E3}{po nf:Int}{ns:List Str}{p:Str->Int}{sc:Str->List Str}{H:Hp}{x:Str}{k:Nat}{r done rest:List Str}{w:Str}{st:St}(hr:r=done++w::rest)(I:TV b A po nf ns p sc H k x r done st)(hl:ns.length+r.length+2<800)(hb:∀y,(sc y).length+r.length<big)(hz:∀y,y∉qU (x::done) ns->p y=0/\sc y=[]):
 ∃oE,Ln fu (n+2) ⟨st.H,put "pred" (.str w) st.loc⟩=some (.ok .next,oE)/\TV b A po nf ns p sc H k x r (done++[w]) oE:=by
 exists fu,n,b,A,po,nf,ns,p,sc,H,x,k,r,done,rest,w,st,_;exists A1,(q9:I.rep);have aca:done.length+1<=r.length:=by simp only[hr,aG,bA];exact by simp+arith only
 obtain⟨A2,H2,q8⟩:=jq q9.2 (by have:=Ak (l:=x::done) (ns:=ns);simp only[bA]at this;exact lk<|aC this<|aC aca hl) λy hy=>⟨(hz y hy).1,by have:done.filter (· ==y)=[]:=b8.mpr λz xi q=>hy<|u0.mpr<|.inl<|(eq_of_beq q)▸.tail _ xi;simp only[(hz y hy).2,this];rfl⟩
 exists A2,H2,_;have hw:w∈ins w (qU (x::done) ns):=V8;have hlen:(sc w++(done.filter (· ==w)).map λU=>x).length<big:=by simp[aG];have:=cU (· ==w) done;have:=hb w;lia
 have e:Ln fu (n+2) ⟨st.H,put "pred" (.str w) st.loc⟩=some (.ok .next,⟨H2.set (A2.ld w)<|.list<|((sc w++(done.filter (· ==w)).map λU=>x)++[x]).map .str,put "pred_info" (.ref<|A2.ad w)<|put "pred" (.str w) st.loc⟩):=by refine oQ (pE<|rB (oB<|(oR rfl).trans<|I.self.trans<|by rw[<-q9.1]) (Ds q9.2.hs q9.2.hd rfl rfl) (tF<|oB oX) rfl<|Xz q8.1) ?_;exact bE▸(tL<|rB (sA (oB oX)<|JF<|Me (q8.2.2.1.hn w hw) (q8.2.2.1.wH w hw) rfl rfl rfl) (qS (q8.2.2.1.hl w hw) rfl) (tF<|oB<|(oR rfl).trans<|(oR rfl).trans I.node) rfl<|pK<|rT (q8.2.2.1.hl w hw) (by rw[aF];exact hlen))
 refine⟨_,e,(oR rfl).trans<|(oR rfl).trans I.self,(oR rfl).trans<|(oR rfl).trans I.node,⟨A2,q8.2.1.trans q9.1,?_⟩,(I.same.trans q8.2.2.2.1).set (q8.2.2.1.ln w hw).2,oU (q8.2.2.1.hl w hw) (q8.2.2.2.2 _ _ I.tup<|Os I.tup q9.2.hm λe=>by rcases e with _|_) λh=>by injection h⟩;rw[show x::(done++[w])=(x::done)++[w]from rfl,Ea];refine(q8.2.2.1.afa hw<|(sc w++(done.filter (· ==w)).map λU=>x)++[x]).congr (λU U=>rfl) ?_;exists y;intro z_;rw[dR];by_cases h:y=w
 .obtain rfl:=h.symm;rw[aH rfl,aJ];simp
 .refine a6 (aL h) ?_;have:([w].filter (· ==y))=[]:=b8.mpr λz hz q=>h (by rw[aE]at hz;obtain rfl:=hz.symm;exact(eq_of_beq q).symm);rw[this];simp
theorem NC{n b:Nat}{A:E3}{po nf:Int}{ns:List Str}{p:Str->Int}{sc:Str->List Str}{H:Hp}{x:Str}{r:List Str}(R:tJ b A none .none po nf ns p sc H)(hl:ns.length+r.length+2<800)(hb:∀y,(sc y).length+r.length<big)(hz:∀y,y∉ns->p y=0/\sc y=[]):
 ∃A' H',sH (oL fu<|n+3) fu 124 [("self",.ref A.s),("node",.str x),("predecessors",.ref H.length)] (H++[.tuple<|r.map .str])=some (.ok .none,H')/\A'.s=A.s/\
  tJ b A' none .none po nf (qU (x::r) ns) (λy=>if y=x then p x+r.length else p y) (λy=>sc y++(r.filter (· ==y)).map λU=>x) H'/\qW b H H':=by
 exists fu,n,b,A,po,nf,ns,p,sc,H,x,r,_;exists _;exists g9,_;have R0:=R.app [.tuple<|r.map .str];have t0:(H++[.tuple<|r.map .str])[H.length]?=some (.tuple<|r.map .str):=pR;obtain⟨A1,H1,o5⟩:=jq R0 (lk hl) hz;exists A1,H1,_;have hx:x∈ins x ns:=V8;have t1:=o5.2.2.2.2 _ _ t0<|Os t0 R0.hm (λe=>by rcases e with _|_);obtain⟨oE,ef,I'⟩:=Da (s:=Ln fu<|n+2) (a:=lo "predecessors") (st:=⟨_,[("predecessors",.ref H.length),("node",.str x),("self",.ref A.s),("nodeinfo",.ref<|A1.ad x)]⟩)
  (I:=TV b A po nf ns (λy=>if y=x then p x+r.length else p y) sc H H.length x r) (oB rfl)
  ⟨rfl,rfl,⟨A1,o5.2.1,(o5.2.2.1.HP hx<|p x+r.length).congr (λU U=>rfl) λy U=>by simp⟩,((qW.refl.app R.len).trans o5.2.2.2.1).set (o5.2.2.1.ln x hx).1,oU (o5.2.2.1.hn x hx) t1 λh=>by injection h⟩
  (λd st I=>M7 I.tup)
  (λdone w rest st hr I=>by
   obtain⟨oE,q9⟩:=ub hr I hl hb λy hy=>by have hy':=λh=>hy<|u0.mpr<|.inr h;exact⟨by rw[aL λh=>hy<|u0.mpr<|.inl (by rw[h];exact cN)];exact(hz y hy').1,(hz y hy').2⟩
   exact⟨_,oE,q9.1,.inl rfl,q9.2⟩)
 exists A3,(q8:I'.rep);refine k9 ⟨A3,oE.H,?_,q8.1,q8.2,I'.same⟩;have e:Vk fu (n+2) ⟨H++[.tuple<|r.map .str],[("predecessors",.ref H.length),("node",.str x),("self",.ref A.s)]⟩=some (.ok .next,oE):=
  oQ (sQ (pJ (sA (oB rfl)<|R0.at rfl rfl rfl) oH rfl) rfl)
   (oQ (pE<|rB (oB rfl) (Ds R0.hs R0.hd rfl rfl) (tF<|oB rfl) rfl<|Xz o5.1)
    (oQ (Lk (oB rfl) (JF<|Me (o5.2.2.1.hn x hx) (o5.2.2.1.wH x hx) rfl rfl rfl) (rO oH (tF<|oB rfl) rfl<|pK<|ro t1 (by rw[aF];unfold big;exact eH<|hb x)) (by simp[aF];rfl)<|Ut (o5.2.2.1.hn x hx) (o5.2.2.1.wH x hx) rfl<|cR 1 2) ef))
 simp[CC,e];rfl
theorem HR{n b:Nat}{H:Hp}(hb:b<=H.length):∃A H',oZ (oL fu<|n+1) fu (.top 174) [] [] H=some (.ok<|.ref A.s,H')/\tJ b A none .none 0 0 [] (λU=>0) (λU=>[]) H'/\qW b H H':=by
 exists fu,n,b,H,_;have i0:(H++[AO.dict [],AO.inst 174 H.length []])[H.length+1]?=some (.inst 174 H.length []):=by rw[aS<|aT (List.length H) 1,b5];rfl
 have d0:(H++[AO.dict [],AO.inst 174 H.length []])[H.length]?=some (.dict []):=by rw[aS<|aI _,cD];rfl
 have m0:(H++[AO.dict [],AO.inst 174 H.length []]++[AO.dict []])[H.length+2]?=some (.dict []):=by rw[aJ,aS (by simp),b5];rfl
 generalize hH:H++[AO.dict [],AO.inst 174 H.length []]=H0 at i0 d0 m0;have hl0:H0.length=H.length+2:=by exact hH▸aG▸rfl
 have i1:=oJ (L:=[.dict []]) i0;have d1:=oJ (L:=[.dict []]) d0;have i2:=oU (c:=.dict [("_node2info",.ref H0.length)]) d1 i1 (λh=>by injection h);have d2:=rD (b:=.dict [("_node2info",.ref H0.length)]) d1;have i3:=oU (c:=.dict [("_node2info",.ref H0.length),("_ready_nodes",.none)]) d2 i2 (λh=>by injection h);have d3:=rD (b:=.dict [("_node2info",.ref H0.length),("_ready_nodes",.none)]) d2;have i4:=oU (c:=.dict [("_node2info",.ref H0.length),("_ready_nodes",.none),("_npassedout",.int 0)]) d3 i3 (λh=>by injection h);have d4:=rD (b:=.dict [("_node2info",.ref H0.length),("_ready_nodes",.none),("_npassedout",.int 0)]) d3;have e:Vj fu n ⟨H0,[("graph",.none),("self",.ref<|H.length+1)]⟩=some (.ok .next,⟨_,_⟩):=
  oQ (z5 rfl (oB rfl)<|Gh i1 d1 rfl (by simp))
   (oQ (z5 oH (oB rfl)<|Gh i2 d2 rfl<|c5 rfl)
    (oQ (z5 oH (oB rfl)<|Gh i3 d3 rfl<|c5 rfl)
     (oQ (z5 oH (oB rfl)<|Gh i4 d4 rfl<|c5 rfl)<|sQ (pJ (oB rfl) oH rfl) rfl)))
 refine⟨⟨H.length+1,H.length,H0.length,λU=>0,λU=>0,λU=>0⟩,_,vB<|(by rfl':_=Km (H.length+1) (oG (oL fu<|n+1) fu 110 [.ref<|H.length+1] []<|H++[AO.dict [],AO.inst 174 H.length []])).trans ?_,⟨oU d4 i4 λh=>by injection h,rD d4,?_,nofun,nofun,nofun,bH _,.nil,by exact dG hb,hb,by simp[hl0];exact dG hb,bH _⟩,?_⟩
 .simp only[hH,BG,e];rfl
 .rw[hl0]at*;have ne:H.length≠H.length+2:=(by simp);exact qI ne<|qI ne<|qI ne<|qI ne m0
 .refine((((qW.set ?_ hb).set hb).set hb).set hb);exact hH▸((qW.refl.app hb).app (by rw[aG];exact dG hb))
theorem EP:oG (oL fu<|n+1) fu 136 [u] [] H=pN (Vm fu n ⟨H,[("self",u)]⟩):=
 Au UO (by rfl')
theorem BB:oG (oL fu<|n+1) fu 143 [u] [] H=pN (Vn fu n ⟨H,[("self",u)]⟩):=
 Au QF (by rfl')
theorem EY:sH (oL fu<|n+1) fu 157 [("self",u),("nodes",v)] H=pN (Vo fu n ⟨H,[("nodes",v),("self",u)]⟩):=
 Au NT (by rfl')
theorem Tk:sZ .Eq (.int a) (.int c) H=some (.bool<|a==c):=by rfl
theorem lh:sZ .NotEq (.int a) (.int c) H=some (.bool (!(a==c))):=by rfl
theorem LO{rd:List V}(R:tJ b A none (.ref r) po nf ns p sc H)(hr:H[r]?=some (.list rd))(hz:rd.length<big):oG (oL fu<|n+1) fu 143 [.ref A.s] [] H=some (.ok<|.bool<|decide (nf<po)||!rd.isEmpty,H):=by
 have e:Vn fu n ⟨H,[("self",.ref A.s)]⟩=some (.ok<|.ret<|.bool<|decide (nf<po)||!rd.isEmpty,⟨H,[("self",.ref A.s)]⟩):=by
  refine oQ (sQ (pJ (sA (oB rfl)<|R.at rfl rfl rfl) oH rfl) rfl)<|uQ<|JQ (v:=.bool<|decide<|nf<po) (Pu (sA (oB rfl)<|R.at rfl rfl rfl) (sA (oB rfl)<|R.at rfl rfl rfl) rfl) rfl ?_;rcases decide (nf<po)with _|_
  .exact rO oH (tF<|sA (oB rfl)<|R.at rfl rfl rfl) rfl (pK<|RN hr hz)
  .rfl
 simp[BB,e];rfl
theorem WS{n b:Nat}{A:E3}{po nf:Int}{ns:List Str}{p:Str->Int}{sc:Str->List Str}{H:Hp}{r:Nat}{rd:List Str}(R:tJ b A none (.ref r) po nf ns p sc H)(hr:H[r]?=some (.list<|rd.map .str))(sJ:∀x∈ns,A.ld x≠r)(hb:b<=r)(Ro:∀x∈rd,x∈ns)(hz:rd.length<big):
 ∃H',oG (oL fu<|n+1) fu 136 [.ref A.s] [] H=some (.ok<|.ref H.length,H')/\tJ b A none (.ref r) (po+rd.length) nf ns (λy=>if y∈rd then-1 else p y) sc H'/\H'[r]?=some (.list [])/\H'[H.length]?=some (.tuple<|rd.map .str)/\qW b H H':=by
 exists fu,n,b,A,po,nf,ns,p,sc,H,r,rd,_;have xi:(rd.map V.str).length<big:=by rw[aF];exact hz
 have R0:=R.app [.tuple<|rd.map .str];obtain⟨oE,ef,l1,l2,R1,r1,o5⟩:=Da (a:=lo "result") (st:=⟨H++[.tuple<|rd.map .str],[("self",.ref A.s),("result",.ref H.length),("n2i",.ref A.m)]⟩)
  (I:=λdone st=>lz st.loc "self" =some (.ref A.s)/\(lz st.loc "result" =some (.ref H.length)/\lz st.loc "n2i" =some (.ref A.m))/\tJ b A none (.ref r) po nf ns (λy=>if y∈done then-1 else p y) sc st.H/\st.H[r]?=some (.list<|rd.map .str)/\qW b H st.H/\st.H[H.length]?=some (.tuple<|rd.map .str))
  (oB rfl) ⟨rfl,⟨rfl,rfl⟩,R0.congr (λy U=>by rfl) λU U=>rfl,oJ hr,qW.refl.app R.len,pR⟩ (λd st I=>M7 I.2.2.2.2.2)
  (λdone w rest st hd q9=>by
   exists done,w,rest,st,_;obtain⟨l1,q8⟩:=q9;have hw:=Ro w<|hd▸(aW _<|.head _);have e:js fu n ⟨st.H,put "node" (.str w) st.loc⟩=some (.ok .next,⟨st.H.set (A.ad w)<|.inst 77 (A.dd w) [.str w,.int (-1),.ref<|A.ld w],put "node" (.str w) st.loc⟩):=
    z5 (st:=⟨st.H,put "node" (.str w) st.loc⟩) oH (wR (oB<|(oR rfl).trans q8.1.2) (oB oX) (L3 q8.2.1.hm)<|Tn q8.2.1.hm<|by rw[C5,aH hw]) (Ut (q8.2.1.hn w hw) (q8.2.1.wH w hw) rfl<|cR 1 2)
   refine⟨_,_,e,.inl rfl,(oR rfl).trans l1,⟨(oR rfl).trans q8.1.1,(oR rfl).trans q8.1.2⟩,(q8.2.1.HP hw (-1)).congr (λy U=>?_) λU U=>rfl,oU (q8.2.1.hn w hw) q8.2.2.1 λh=>by injection h,q8.2.2.2.1.set (q8.2.1.ln w hw).1,oU (q8.2.1.hn w hw) q8.2.2.2.2 λh=>by injection h⟩;exists y,_;simp only[aO,aE];by_cases h:y=w
   .rw[aH h,aH<|.inr h]
   .rw[aL h];by_cases h':y∈done
    .rw[aH h',aH<|.inl h']
    .rw[aL h',aL λq=>q.elim h' h])
 have R2:=R1.other (ys:=[]) r1 sJ;have t2:=oU (c:=.list []) r1 o5.2 (λh=>by injection h);have e:Vm fu n ⟨H,[("self",.ref A.s)]⟩=some (.ok<|.ret<|.ref H.length,⟨_,_⟩):=
  oQ (sQ (pJ (sA (oB rfl)<|R.at rfl rfl rfl) oH rfl) rfl)
   (oQ (pE<|rO oH (tF<|sA (oB rfl)<|R.at rfl rfl rfl) rfl<|pK<|X9 hr xi)
    (oQ (pE<|sA (oB rfl)<|R0.at rfl rfl rfl)
     (oQ ef
      (oQ (tL<|rB (sA (oB l1)<|R1.at rfl rfl rfl) (qS r1 rfl) C3 rfl<|pK<|DQ r1 xi)
       (oQ (Lk (oB l1) (R2.at rfl rfl rfl) (rO oH (tF<|oB l2.1) rfl<|pK<|ro t2 xi) (by rw[aF];rfl)<|Gh R2.hs R2.hd rfl<|c5 rfl)<|uQ<|oB l2.1)))))
 exact⟨_,by simp[EP,e];rfl,(R2.attr (.ref r) (po+rd.length) nf).congr (λU U=>rfl) λU U=>rfl,oU R2.hd (rD r1) λh=>by injection h,oU R2.hd t2 λh=>by injection h,(o5.1.set hb).set R2.Nz⟩
def u6(q:(Str->Int)×List Str)(y:Str):(Str->Int)×List Str:=(λz=>if z=y then q.1 y-1 else q.1 z,if(q.1 y-1==0)=true then q.2++[y]else q.2)
def xR(sc:Str->List Str)(q:(Str->Int)×List Str)(x:Str):(Str->Int)×List Str:=(sc x).foldl u6 (λz=>if z=x then-2 else q.1 z,q.2)
structure DJ(b:Nat)(A:E3)(po nf:Int)(ns:List Str)(sc:Str->List Str)(H0:Hp)(k r:Nat)(Io:List V)(q:(Str->Int)×List Str)(st:St):Prop where
 self:lz st.loc "self" =some (.ref A.s)
 WT:lz st.loc "n2i" =some (.ref A.m)
 rep:tJ b A none (.ref r) po nf ns q.1 sc st.H
 rdy:st.H[r]?=some (.list<|q.2.map .str)
 same:qW b H0 st.H
 tup:st.H[k]?=some (.tuple Io)
theorem DJ.put(J:DJ b A po nf ns sc H0 k r Io q st)(h1:(("self" :Str)==x)=false)(h2:(("n2i" :Str)==x)=false):DJ b A po nf ns sc H0 k r Io q ⟨st.H,put x v st.loc⟩:=
 ⟨(oR h1).trans J.self,(oR h2).trans J.WT,J.rep,J.rdy,J.same,J.tup⟩
theorem mi:(u6 q y).2.length<=q.2.length+1:=by
 unfold u6;dsimp only;by_cases h:(q.1 y-1==0)=true
 .rw[aH h,aG];exact aI _
 .rw[aL h];exact aT _ _
theorem nq:∀{l:List Str}{q:(Str->Int)×List Str},(l.foldl u6 q).2.length<=q.2.length+l.length:=by
 intro zr;induction zr with
 |nil=> intro _;exact aI _
 |cons y l pD=> intro q;have h1:=mi (q:=q) (y:=y);have h2:=pD (q:=u6 q y);show(l.foldl u6<|u6 q y).2.length<=q.2.length+(l.length+1);exact lk<|aC h2 h1
theorem ag{n b:Nat}{A:E3}{po nf:Int}{ns:List Str}{sc:Str->List Str}{H0:Hp}{k r:Nat}{Io:List V}{q:(Str->Int)×List Str}{st:St}(sJ:∀x∈ns,A.ld x≠r)(hb:b<=r)(J:DJ b A po nf ns sc H0 k r Io q st){y:Str}(hy:y∈ns)(hq:q.2.length<big):∃oE,Fj fu n ⟨st.H,put "successor" (.str y) st.loc⟩=some (.ok .next,oE)/\DJ b A po nf ns sc H0 k r Io (u6 q y) oE:=by
 have R:=J.rep;have hn:=R.hn y hy;have R1:=R.HP hy<|q.1 y-1;have r1:=oU (c:=.inst 77 (A.dd y) [.str y,.int<|q.1 y-1,.ref<|A.ld y]) hn J.rdy (λh=>by injection h);have t1:=oU (c:=.inst 77 (A.dd y) [.str y,.int<|q.1 y-1,.ref<|A.ld y]) hn J.tup (λh=>by injection h);have s1:=J.same.set (o:=.inst 77 (A.dd y) [.str y,.int<|q.1 y-1,.ref<|A.ld y]) (R.ln y hy).1;have J1:=(J.put (x:= "successor") (v:=.str y) rfl rfl).put (x:= "successor_info") (v:=.ref<|A.ad y) rfl rfl;have go:∀z,Ws fu n ⟨st.H.set (A.ad y)<|.inst 77 (A.dd y) [.str y,.int<|q.1 y-1,.ref<|A.ld y],put "successor_info" (.ref<|A.ad y)<|put "successor" (.str y) st.loc⟩=z->Fj fu n ⟨st.H,put "successor" (.str y) st.loc⟩=z:=λz hz=>
  oQ (pE<|wR (oB<|(oR rfl).trans J.WT) (oB oX) (L3 R.hm)<|Tn R.hm<|by rw[C5,aH hy])
   (oQ (Lk (oB oX) (JF<|Me hn (R.wH y hy) rfl rfl rfl) oH rfl<|Ut hn (R.wH y hy) rfl<|cR 1 2) hz)
 have t:tc (al fu n (lo "successor_info") "npredecessors") (ct<|.int 0) .Eq ⟨st.H.set (A.ad y)<|.inst 77 (A.dd y) [.str y,.int<|q.1 y-1,.ref<|A.ld y],put "successor_info" (.ref<|A.ad y)<|put "successor" (.str y) st.loc⟩=some (.ok<|q.1 y-1==0,⟨st.H.set (A.ad y)<|.inst 77 (A.dd y) [.str y,.int<|q.1 y-1,.ref<|A.ld y],put "successor_info" (.ref<|A.ad y)<|put "successor" (.str y) st.loc⟩):=
  pJ (sA (oB oX)<|JF<|Me (rD hn) (R1.wH y hy) rfl rfl rfl) oH Tk
 by_cases h:(q.1 y-1==0)=true
 .rw[h]at t;refine⟨_,go _<|v9 t<|tL<|rB (sA (oB J1.self)<|R1.at rfl rfl rfl) (qS r1 rfl) (tF<|oB<|(oR rfl).trans oX) rfl<|pK<|rT r1 (by rw[aF];exact hq),J1.self,J1.WT,R1.other r1 sJ,?_,s1.set hb,oU r1 t1 λh=>by injection h⟩;refine(rD r1).trans ?_;unfold u6;rw[aH h,bE];rfl
 .simp only[iT]at h;rw[h]at t;refine⟨_,go _<|sQ t rfl,J1.self,J1.WT,R1,r1.trans ?_,s1,t1⟩;unfold u6;rw[aL (by rw[h];exact bV)]
theorem be{n b:Nat}{A:E3}{po nf:Int}{ns:List Str}{sc:Str->List Str}{H0:Hp}{k r:Nat}{Io:List V}{q:(Str->Int)×List Str}{st:St}(sJ:∀x∈ns,A.ld x≠r)(hb:b<=r)(J:DJ b A po nf ns sc H0 k r Io q st){x:Str}(hx:x∈ns)(hs:∀y∈sc x,y∈ns)(hq:q.2.length+(sc x).length<big)(hp:q.1 x=-1):∃oE,Kz fu n ⟨st.H,put "node" (.str x) st.loc⟩=some (.ok .next,oE)/\DJ b A po (nf+1) ns sc H0 k r Io (xR sc q x) oE:=by
 exists fu,n,b,A,po,nf,ns,sc,H0,k,r,Io,q,st,x,[sJ,hb,J,hx,hs,hq,hp];have R:=J.rep;have hn:=R.hn x hx;replace hn:=hp▸hn;have hm:=R.hm;have R1:=R.HP hx (-2);have J1:DJ b A po nf ns sc H0 k r Io (λz=>if z=x then-2 else q.1 z,q.2) ⟨st.H.set (A.ad x)<|.inst 77 (A.dd x) [.str x,.int (-2),.ref<|A.ld x],put "stat" (.int (-1))<|put "nodeinfo" (.ref<|A.ad x)<|put "node" (.str x) st.loc⟩:=
  ⟨(oR rfl).trans<|(oR rfl).trans<|(oR rfl).trans J.self,(oR rfl).trans<|(oR rfl).trans<|(oR rfl).trans J.WT,R1,oU hn J.rdy λh=>by injection h,J.same.set (R.ln x hx).1,oU hn J.tup λh=>by injection h⟩
 have ni:lz (put "stat" (.int (-1))<|put "nodeinfo" (.ref<|A.ad x)<|put "node" (.str x) st.loc) "nodeinfo" =some (.ref<|A.ad x):=(oR rfl).trans oX;obtain⟨oE,ef,J2⟩:=Da (s:=Fj fu n) (a:=al fu n (lo "nodeinfo") "successors") (st:=⟨st.H.set (A.ad x)<|.inst 77 (A.dd x) [.str x,.int (-2),.ref<|A.ld x],put "stat" (.int (-1))<|put "nodeinfo" (.ref<|A.ad x)<|put "node" (.str x) st.loc⟩)
  (I:=λdone st=>DJ b A po nf ns sc H0 k r Io (done.foldl u6 (λz=>if z=x then-2 else q.1 z,q.2)) st)
  (sA (oB ni)<|JF<|Me (rD hn) (R1.wH x hx) rfl rfl rfl) J1 (λd st I=>sF<|I.rep.hl x hx)
  (λdone w rest st hd I=>by
   have hl:=nq (l:=done) (q:=(λz=>if z=x then-2 else q.1 z,q.2));have tI:done.length<(sc x).length:=by simp only[hd,aG,bA];exact by simp+arith only
   obtain⟨oE,q8⟩:=ag sJ hb I (hs w<|hd▸(aW _<|.head _)) (lk<|aC tI<|aC hl hq);exact⟨_,oE,q8.1,.inl rfl,by exact gD▸q8.2⟩)
 have R2:=J2.rep;have e:Kz fu n ⟨st.H,put "node" (.str x) st.loc⟩=some (.ok .next,⟨oE.H.set A.d0<|.dict<|tO A.m (.ref r) po<|nf+1,oE.loc⟩):=
  oQ (sQ (pJ (nu<|rB (oB<|(oR rfl).trans J.WT) (M9 hm rfl) (tF<|oB oX) rfl<|pK<|(mh hm).trans (by rw[(by rw[C5,aH hx]:(pB A ns).lookup x=some (.ref<|A.ad x))];rfl)) oH rfl) rfl)
   (oQ (pE<|sA (oB oX)<|JF<|Me hn (R.wH x hx) rfl rfl rfl)
    (oQ (sQ (pJ (oB oX) oH lh) rfl)
     (oQ (z5 oH (oB ni)<|Ut hn (R.wH x hx) rfl<|cR 1 2)
      (oQ ef<|Lk (oB J2.self) (R2.at rfl rfl rfl) oH rfl<|Gh R2.hs R2.hd rfl<|c5 rfl))))
 exact⟨_,e,J2.self,J2.WT,R2.attr (.ref r) po<|nf+1,oU R2.hd J2.rdy λh=>by injection h,J2.same.set R2.Nz,oU R2.hd J2.tup λh=>by injection h⟩
theorem RB{H:Hp}{p:Str->Int}{rd Io:List Str}(R:tJ b A none (.ref r) po nf ns p sc H)(hr:H[r]?=some (.list<|rd.map .str))(sJ:∀x∈ns,A.ld x≠r)(hb:b<=r)(Ro:∀x∈Io,x∈ns)(hs:∀x,∀y∈sc x,y∈ns)
 (hz:∀done w rest,Io=done++w::rest->(done.foldl (xR sc) (p,rd)).1 w=-1/\(done.foldl (xR sc) (p,rd)).2.length+(sc w).length<big):
 ∃H',sH (oL fu<|n+1) fu 157 [("self",.ref A.s),("nodes",.ref H.length)] (H++[.tuple<|Io.map .str])=some (.ok .none,H')/\tJ b A none (.ref r) po (nf+Io.length) ns (Io.foldl (xR sc) (p,rd)).1 sc H'/\H'[r]?=some (.list<|(Io.foldl (xR sc) (p,rd)).2.map .str)/\qW b H H':=by
 have R0:=R.app [.tuple<|Io.map .str];obtain⟨oE,o5⟩:=Da (s:=Kz fu n) (a:=lo "nodes") (st:=⟨H++[.tuple<|Io.map .str],[("nodes",.ref H.length),("self",.ref A.s),("n2i",.ref A.m)]⟩)
  (I:=λdone st=>DJ b A po (nf+done.length) ns sc H H.length r (Io.map .str) (done.foldl (xR sc) (p,rd)) st)
  (oB rfl) ⟨rfl,rfl,by simpa using R0,oJ hr,qW.refl.app R.len,pR⟩ (λd st I=>M7 I.tup)
  (λdone w rest st hd I=>by
   have q9:=hz done w rest hd;obtain⟨oE,q8⟩:=be sJ hb I (Ro w<|hd▸(aW _<|.head _)) (hs w) q9.2 q9.1;refine⟨_,oE,q8.1,.inl rfl,?_⟩;rw[gD,aG];have:nf+done.length+1=nf+(done.length+[w].length):=by simp;exact Int.add_assoc nf (↑done.length) 1
   exact this▸q8.2)
 refine⟨oE.H,?_,o5.2.rep,o5.2.rdy,o5.2.same⟩;have e:Vo fu n ⟨H++[.tuple<|Io.map .str],[("nodes",.ref H.length),("self",.ref A.s)]⟩=some (.ok .next,oE):=
  oQ (sQ (pJ (sA (oB rfl)<|R0.at rfl rfl rfl) oH rfl) rfl)
   (oQ (pE<|sA (oB rfl)<|R0.at rfl rfl rfl) o5.1)
 simp[EY,e];rfl
set_option genInjectivity false in
structure Ent where
 x:Str
 c:Nat
 m:Nat
 i:Nat
theorem yEn:Nonempty Ent:=⟨⟨"",0,0,0⟩⟩
def Ao:List Ent->List (Str×V)
 |[]=>[]
 |e::S=>Ao S++[(e.x,.int (S.length:Int))]
theorem Hr{es fs:List (Str×V)}:(es++fs).lookup x=(es.lookup x).or (fs.lookup x):=by grind
theorem Fz{w:Str}{S:List Ent}(h:w∉S.map (·.x)):(Ao S).lookup w=none:=by
 induction S with
 |nil=>rfl
 |cons e S ih=> refine Hr.trans ?_;rw[ih λq=>h<|.tail _ q];show(match w==e.x with|true=>some _|false=>none)=_;rw[a7.mpr λq=>h (by rw[q];exact .head _)]
theorem Ip{w:Str}{S:List Ent}(h:w∈S.map (·.x)):∃k:Nat,(Ao S).lookup w=some (.int (k:Int)):=by
 induction S with
 |nil=>cases h
 |cons e S ih=>
  show ∃k:Nat,(Ao S++[(e.x,V.int S.length)]).lookup w=_;rw[Hr];by_cases hS:w∈S.map (·.x)
  .exact(ih hS).imp λk hk=>by rw[hk];rfl
  .rw[Fz hS,(aK.mp h).resolve_right hS];refine⟨S.length,?_⟩;show(match e.x==e.x with|true=>some _|false=>none)=_;rw[bM]
theorem ou{S:List Ent}(h:p∈Ao S):p.1∈S.map (·.x):=by
 induction S with
 |nil=>exact absurd h bG
 |cons e S ih=>
  rcases aO.mp h with h|h
  .exact .tail _ (ih h)
  .rw[aE.mp h];exact .head _
theorem oh{S:List Ent}(h:e.x∉S.map (·.x)):By e.x (Ao (e::S))=Ao S:=by show(Ao S++[(e.x,V.int S.length)]).filter (λq=>decide<|q.1≠e.x)=Ao S;simp only[dR,(jH.mpr λp hp=>b7 λq=>h (q▸ou hp):(Ao S).filter (λq=>decide<|q.1≠e.x)=Ao S)];simp
theorem M3:∀{S:List Ent},(Ao S).length=S.length
 |[]=>rfl
 |e::S=>by show(Ao S++[_]).length=_;simp only[aG,M3];rfl
def vM(sc:Str->List Str)(fin:List Str):List Str->List Ent->Prop
 |_,[]=>True
 |ok,e::S=>(∀y∈(sc e.x).take e.c,y∈fin\/y∈ok)/\(∀z∈ok,z∈sc e.x)/\vM sc fin [e.x] S
theorem vM.mono(hf:∀y∈fin,y∈zZ){S:List Ent}:∀{ok:List Str},vM sc fin ok S->vM sc zZ ok S:=by
 induction S with
 |nil=>exact λh=>h
 |cons e S ih=>exact λh=>⟨λy hy=>(h.1 y hy).imp (hf y) id,h.2.1,ih h.2.2⟩
theorem vM.solve{S:List Ent}{w:Str}(h:vM sc fin [w] S)(hw:w∈fin):vM sc fin [] S:=by
 rcases S with _|⟨e,S⟩
 .trivial
 .exact⟨λy hy=>.inl ((h.1 y hy).elim id λq=>by rw[aE]at q;rw[q];exact hw),λz hz=>absurd hz<|bG,h.2.2⟩
theorem vM.next{S:List Ent}{e:Ent}{w:Str}(h:vM sc fin [] (e::S))(hw:(sc e.x)[e.c]?=some w):vM sc fin [w] (⟨e.x,e.c+1,e.m,e.i⟩::S):=by
 refine⟨λy hy=>?_,λz hz=>?_,h.2.2⟩
 .simp only[mX,hw]at hy;rcases aO.mp hy with hy|hy
  .exact .inl ((h.1 y hy).elim id λq=>absurd q<|bG)
  .exact .inr hy
 .rw[aE]at hz;simp[hz];exact aR hw
theorem vM.pop{S:List Ent}{e:Ent}(h:vM sc fin [] (e::S))(hw:(sc e.x)[e.c]?=none):(∀y∈sc e.x,y∈fin)/\vM sc (fin++[e.x]) [] S:=by refine⟨λy hy=>?_,((h.2.2).mono λy hy=>b6 _ hy).solve<|aW _<|.head _⟩;exact(h.1 y (by rw[eV<|bZ.mp hw];exact hy)).elim id λq=>absurd q<|bG
theorem vM.acd{w:Str}{S:List Ent}:∀{v:Str},vM sc fin [v] S->w∈S.map (·.x)->∃C:List Str,w∈C/\(∃y∈C,v∈sc y)/\(∀x∈C,x∈S.map (·.x))/\∀x∈C,x=w\/∃y∈C,x∈sc y:=by
 induction S with
 |nil=>exact λU h=>by cases h
 |cons e S ih=>
  intro v h hw;have hv:=h.2.1 v<|.head _;by_cases he:e.x=w
  .exact⟨[w],.head _,⟨w,.head _,he▸hv⟩,λx hx=>aE.mp hx▸he▸.head _,λx hx=>.inl<|aE.mp hx⟩
  .obtain⟨C,h1,h2,q8⟩:=ih h.2.2<|(aK.mp hw).elim (λq=>absurd q.symm he) id;refine⟨e.x::C,.tail _ h1,⟨e.x,.head _,hv⟩,λx hx=>?_,λx hx=>?_⟩
   .exact(aK.mp hx).elim (λq=>q▸.head _) λq=>.tail _<|q8.1 x q
   .rcases aK.mp hx with q|q
    .exact .inr (h2.imp λy hy=>⟨.tail _ hy.1,q▸hy.2⟩)
    .exact(q8.2 x q).imp id λq9=>q9.imp λz hz=>⟨.tail _ hz.1,hz.2⟩
def jl(sc:Str->List Str)(fin:List Str):Prop:=∀l1 x l2,fin=l1++x::l2->∀y∈sc x,y∈l1
theorem jl.snoc(h:jl sc fin)(hx:∀y∈sc x,y∈fin):jl sc<|fin++[x]:=by
 exists sc,fin,x,_;exists l1,z,l2;intro e;exists y;intro hy;rcases List.append_eq_append_iff.mp e with⟨a,e1,e2⟩|⟨a,e1,e2⟩
 .rcases a with _|⟨b,a⟩
  .obtain⟨rfl,x7⟩:=b0 e2;rw[e1,bF];exact hx y hy
  .rcases a with _|_<;>rcases e2 with _|_
 .rcases a with _|⟨b,a⟩
  .obtain⟨rfl,Rt⟩:=b0 e2;simp only[bF]at e1;exact e1▸(hx y hy)
  .obtain⟨rfl,rfl⟩:=b0 e2;exact h l1 z a e1 y hy
def Cyc(sc:Str->List Str)(ns:List Str):Prop:=∃C:List Str,C≠[]/\(∀x∈C,x∈ns)/\∀x∈C,∃y∈C,x∈sc y
def GO(sc:Str->List Str)(ns:List Str):Prop:=∃fin:List Str,(∀x∈ns,x∈fin)/\jl sc fin
theorem uS{l:List Str}:∀{m:List Str},l.Nodup->(∀x∈l,x∈m)->l.length<=m.length:=by
 induction l with
 |nil=>exact λU U=>cV _
 |cons x l ih=> intro m hn hs;have hx:=hs x<|.head _;have hn:=c7.mp hn;have:=ih hn.2 λy hy=>(List.mem_erase_of_ne (λq:y=x=>hn.1<|q▸hy)).mpr<|hs y<|.tail _ hy;rw[List.length_erase_of_mem hx]at this;exact Nat.add_le_of_le_sub (List.length_pos_of_mem hx) this
def left(sc:Str->List Str)(S:List Ent):Nat:=(S.map λe=>(sc e.x).length-e.c).sum
def uO(ev:List Ev)(y:Str)(t:Nat×Nat):Prop:=(t,y)∈ev/\∀t',(t',y)∈ev->t'=t\/Rs t' t
def Asc(ev:List Ev)(R:List Str):Prop:=R.Pairwise λa b=>∃ta tb,uO ev a ta/\uO ev b tb/\Rs ta tb
structure Jv(E:rE)(D:List Str)(e0 Cz:List Ev)(q:(Str->Int)×List Str):Prop where
 hp:∀y,y∉D->q.1 y=(x6 E y:Int)-K4 (e0++Cz) y
 asc:Asc (e0++Cz) q.2
 mem:∀y,y∈q.2<->(∃t,(t,y)∈Cz)/\K4 (e0++Cz) y=x6 E y
theorem uO.snoc(h:uO ev a ta)(hn:a≠y):uO (ev++[(t,y)]) a ta:=
 ⟨b6 _ h.1,λt' h'=>(aO.mp h').elim (h.2 t') λh'=>absurd (aV (·.2)<|aE.mp h') hn⟩
theorem Gz:K4 (ev++[(t,y)]) z=K4 ev z+if y=z then 1 else 0:=by
 refine a6 Fm ?_;unfold K4;by_cases h:y=z
 .rw[aH h,bR (by rw[h];exact bM z)];rfl
 .rw[aL h,bN (p:=λq:Ev=>q.2==z) λx=>h<|eq_of_beq x];rfl
theorem HS(hs:ev.Pairwise λx y=>Rs x.1 y.1):(∃u,(u,a)∈ev)->∃ta,uO ev a ta:=by
 induction hs with
 |nil=>exact λq9=>by exists u,(hu:q9);simp at hu
 |@cons x l hx _ ih=>
  rintro⟨u,hu⟩
  by_cases hl:∃u,(u,a)∈l
  .exists ta,(q8:ih hl);exact⟨ta,.tail _ q8.1,λt' h'=>(aK.mp h').elim (λe=>.inr (by rw[show t'=x.1 from aV (·.1) e];exact hx _ q8.1))<|q8.2 t'⟩
  .rcases aK.mp hu with e|h
   .exact⟨u,by rw[e];exact .head _,λt' h'=>(aK.mp h').elim (λe'=>.inl<|aV (·.1)<|e'.trans e.symm) λh=>absurd ⟨t',h⟩ hl⟩
   .exact absurd ⟨u,h⟩ hl
theorem Jv.step{D:List Str}{e0 Cz:List Ev}{q:(Str->Int)×List Str}{t:Nat×Nat}{y:Str}(J:Jv E D e0 Cz q)(hs:(e0++Cz).Pairwise λx y=>Rs x.1 y.1)(vO:∀a∈e0++Cz,Rs a.1 t)(hy:y∉D)(hc:K4 (e0++Cz) y<x6 E y):Jv E D e0 (Cz++[(t,y)])<|u6 q y:=by
 exists E,D,e0,Cz,q,t,y,_;have hpy:=J.hp y hy;have hny:=λh=>by have:=((J.mem y).mp h).2;exact Nat.not_succ_le_zero 0<|lk<|aC (aN this.symm) hc
 have old:∀z,z≠y->((∃u,(u,z)∈Cz++[(t,y)])<->∃u,(u,z)∈Cz):=λz hz=>
  ⟨λq9=>by exists u,(hu:q9);exact(aO.mp hu).elim (λh=>⟨u,h⟩) λh=>absurd (aV (·.2)<|aE.mp h) hz,λq9=>by exists u,(hu:q9);exact⟨u,b6 _ hu⟩⟩
 have ace:Asc (e0++(Cz++[(t,y)])) q.2:=by rw[<-aJ];refine gX (λha hb qq=>?_) J.asc;obtain⟨ta,tb,h1,h2,h3⟩:=qq;exact⟨ta,tb,h1.snoc λe=>hny<|e▸ha,h2.snoc λe=>hny<|e▸hb,h3⟩
 have hz:((q.1 y-1==0)=true)<->K4 (e0++Cz) y+1=x6 E y:=by rw[hpy,a5];lia
 have isl:uO (e0++(Cz++[(t,y)])) y t:=by rw[<-aJ];exact⟨aW _<|.head _,λt' h'=>(aO.mp h').elim (λh=>.inr<|vO _ h) λh=>.inl<|aV (·.1)<|aE.mp h⟩
 refine⟨λz hzD=>?_,?_,λz=>?_⟩
 .rw[<-aJ,Gz];show(if z=y then q.1 y-1 else q.1 z)=_;by_cases h:z=y
  .rw[aH h,aH h.symm,hpy,h];lia
  .rw[aL h,aL λx=>h x.symm,J.hp z hzD];rfl
 .show Asc _ (if(q.1 y-1==0)=true then q.2++[y]else q.2);by_cases h:(q.1 y-1==0)=true
  .rw[aH h];refine gE.mpr ⟨ace,iF _ _,?_⟩;exists a;intro ha;exists b;intro hb;rw[aE]at hb;obtain rfl:=hb.symm;obtain⟨⟨u,hu⟩,hca⟩:=(J.mem a).mp ha;exists ta,(KC:(HS hs<|(aO.mp<|aW e0 hu).elim (λh=>⟨u,b6 _ h⟩) λh=>⟨u,aW _ h⟩));refine⟨ta,t,?_,isl,vO _ KC.1⟩;rw[<-aJ];exact KC.snoc λe=>hny<|e▸ha
  .rw[aL h];exact ace
 .exists z,[];show z∈(if(q.1 y-1==0)=true then q.2++[y]else q.2)<->_;rw[<-aJ,Gz];by_cases hzy:z=y
  .subst hzy;rw[aH rfl];by_cases h:(q.1 z-1==0)=true
   .rw[aH h];exact⟨λU=>⟨⟨t,aW _<|.head _⟩,hz.mp h⟩,λU=>aW _<|.head _⟩
   .rw[aL h];exact⟨λx=>absurd x hny,λx=>absurd (hz.mpr x.2) h⟩
  .simp only[aL (λx=>hzy x.symm:¬y=z),Nat.add_zero,old z hzy,<-J.mem z];by_cases h:(q.1 y-1==0)=true
   .rw[aH h,aO,aE];exact⟨λx=>x.elim id λx=>absurd x hzy,.inl⟩
   .rw[aL h]
theorem Jv.steps{D:List Str}(J:Jv E D e0 Cz q)(hs:(e0++(Cz++evn)).Pairwise λx y=>Rs x.1 y.1)(hD:∀a∈evn,a.2∉D)(hc:∀y,y∉D->K4 (e0++(Cz++evn)) y<=x6 E y):Jv E D e0 (Cz++evn)<|(evn.map (·.2)).foldl u6 q:=by
 induction evn generalizing Cz q with
 |nil=>rw[bF];exact J
 |cons a l ih=>
  obtain⟨t,y⟩:=a;have q8:=gE.mp (by rw[aJ];exact hs);have hy:=hD _<|.head _;have hcy:=hc y hy;have e1:Cz++(t,y)::l=(Cz++[(t,y)])++l:=by rw[aJ];rfl
  have vO:K4 (e0++Cz) y<x6 E y:=by rw[e1,(by rw[aJ,aJ,aJ]:e0++((Cz++[(t,y)])++l)=((e0++Cz)++[(t,y)])++l),Fm,Gz,aH rfl]at hcy;exact lk hcy
  exact e1▸ih (J.step q8.1 (λa ha=>q8.2.2 a ha _<|.head _) hy vO) (e1▸hs) (λa ha=>hD a<|.tail _ ha) (e1▸hc)
theorem O8{w:Str}{ts:List Str}(h:∀a∈ts,a≠w):(ts.foldl u6 q).1 w=q.1 w:=by
 induction ts generalizing q with
 |nil=>rfl
 |cons a l ih=> exact a6 (ih λb hb=>h b<|.tail _ hb)<|aL (h a<|.head _).symm
theorem Jv.mark{D:List Str}{e0 Cz:List Ev}{q:(Str->Int)×List Str}{w:Str}(J:Jv E D e0 Cz q)(hw:w∈D):Jv E D e0 Cz (λz=>if z=w then-2 else q.1 z,q.2):=
 ⟨λy hy=>by refine a6 (aL (λe=>hy (e▸hw):¬y=w)) ?_;exact J.hp y hy,J.asc,J.mem⟩
theorem yQ{α:Type}{P:List α->Prop}(h0:P [])(h1:∀l x,P l->P (l++[x]))(l):P l:=by
 rw[<-List.reverse_reverse l];generalize l.reverse=m;induction m with
 |nil=>exact h0
 |cons a m ih=>rw[cY];exact h1 _ _ ih
structure Hl(E:rE)(O:List Str)(R:List Str)(p:Str->Int):Prop where
 nd:(O++R).Nodup
 cl:∀e∈E,e.1∈O->e.2∈O
 rd:∀e∈E,e.1∈R->e.2∈O
 hp:∀y,y∉O->p y=(x6 E y:Int)-Eu E O y
theorem ip(S:Hl E O R p)(hp1:∀y,y∉R->p1 y=p y)(hr:∀y∈R,p1 y=-1):
 (∀done w rest,R=done++w::rest->(done.foldl (xR<|tG E) (p1,[])).1 w=-1/\(done.foldl (xR<|tG E) (p1,[])).2.length<=E.length)/\
  Jv E (O++R) (wD E 0 O) (wD E O.length R) (R.foldl (xR<|tG E) (p1,[])):=by
  exists E,O,R,p,p1,_;have hnD:∀a∈wD E O.length R,a.2∉O++R:=λa ha hD=>by obtain⟨⟨i,k⟩,y⟩:=a;obtain⟨j,z,qV⟩:=vY.mp ha;have he:=aR qV.2.2;exact(cH.mp S.nd).2.2 z ((aO.mp hD).elim (S.cl _ he)<|S.rd _ he) z (aR qV.2.1) rfl
  have acg:(wD E 0 O++wD E O.length R).Pairwise λx y=>Rs x.1 y.1:=by have:=mn (E:=E) (O:=O++R) (i:=0);rw[B6,dF]at this;exact this
  have afb:∀y,K4 (wD E 0 O++wD E O.length R) y<=x6 E y:=λy=>by have:=Ma (E:=E) (y:=y) (i:=0) S.nd;rw[B6,dF]at this;rw[this];exact W3
  have key:∀done rest,R=done++rest->Jv E (O++R) (wD E 0 O) (wD E O.length done) (done.foldl (xR<|tG E) (p1,[]))/\∀w∈rest,(done.foldl (xR<|tG E) (p1,[])).1 w=-1:=by
   refine yQ (λrest hd=>?_) λdone x ih rest hd=>?_
   .refine⟨⟨λy hy=>?_,.nil,λy=>⟨by simp,λh=>nomatch h.1⟩⟩,λw hw=>hr w<|hd▸hw⟩;simp only[show wD E O.length []=[]from rfl,bF,Ma<|(cH.mp S.nd).1];exact a6 (hp1 y λh=>hy<|aW _ h)<|S.hp y λh=>hy<|b6 _ h
   .have tI:R=done++x::rest:=by simp only[hd,aJ];rfl
    obtain⟨J,hw⟩:=ih (x::rest) tI;have eR:wD E O.length R=(wD E O.length done++It (O.length+done.length) x 0 E)++wD E (O.length+done.length+1) rest:=by simp only[tI,B6,aJ];rfl
    have e1:wD E O.length (done++[x])=wD E O.length done++It (O.length+done.length) x 0 E:=by refine a6 B6 ?_;show _++(It _ x 0 E++[])=_;rw[bF]
    have sub:∀a∈It (O.length+done.length) x 0 E,a∈wD E O.length R:=λa ha=>by rw[eR];exact b6 _<|aW _ ha
    have Iw:(wD E 0 O++(wD E O.length done++It (O.length+done.length) x 0 E)).Pairwise λx y=>Rs x.1 y.1:=by have:=acg;rw[eR,<-aJ]at this;exact(gE.mp this).1
    have J2:=(J.mark<|aW _ (by rw[tI];exact aW _<|.head _)).steps Iw (λa ha=>hnD a<|sub a ha) (λy U=>by refine bC ?_<|afb y;simp only[eR,Fm];exact by simp+arith only)
    refine gD▸e1▸?_;simp only[Vy]at J2;refine⟨J2,λw hwr=>?_⟩;have hwx:w≠x:=λe=>by have h1:=(cH.mp S.nd).2.1;rw[tI]at h1;exact(c7.mp<|(cH.mp h1).2.1).1<|e▸hwr
    show((tG E x).foldl u6 (λz=>if z=x then-2 else _,_)).1 w=-1;rw[O8]
    .exact a6 (aL hwx) (hw w<|.tail _ hwr)
    .intro a ha e;rw[<-Vy]at ha;obtain⟨ev,o5⟩:=cA.mp ha;refine hnD ev (sub ev o5.1)<|aW _ ?_;simp only[o5.2,e,tI];exact aW _<|.tail _ hwr
  refine⟨λdone w rest hd=>?_,(key R [] (bF R).symm).1⟩;obtain⟨J,h1⟩:=key done (w::rest) hd;refine⟨h1 w<|.head _,?_⟩;have Fp:(done.foldl (xR<|tG E) (p1,[])).2.Nodup:=mY (λ{a b}q9 e=>by
   obtain⟨ta,tb,h1,h2,h3⟩:=q9;subst e;rcases h1.2 _ h2.1 with e|e
   .simp only[e]at h3;exact Fa h3
   .exact Fa (J6 h3 e)) J.asc
  have:=uS (m:=E.map (·.1)) Fp λy hy=>by obtain⟨⟨⟨i,k⟩,ht⟩,_⟩:=(J.mem y).mp hy;obtain⟨j,z,q8⟩:=vY.mp ht;exact cA.mpr ⟨_,aR q8.2.2,rfl⟩
  simp only[aF]at this;exact this
def wW(E:rE)(O:List Str)(x:Str):Bool:=!O.contains x&&E.all λe=>!(e.1==x)||O.contains e.2
theorem uG:wW E O x=true<->x∉O/\∀e∈E,e.1=x->e.2∈O:=by
 unfold wW;simp only[aQ,dA,aX];refine and_congr ⟨λh q=>(by replace h:=(bB.mpr q)▸h;rcases h with _|_),λh=>eF.mpr λq=>h<|bB.mp q⟩ ⟨λh e he hx=>?_,λh e he=>?_⟩
 .have:=h e he;rw[hx,bM]at this;exact bB.mp this
 .induction hx:e.1==x
  .rfl
  .exact bB.mpr (h e he<|eq_of_beq hx)
def gk(E:rE)(O:List Str)(x:Str)(q:Int×Int):Prop:=(q=(-1,-1)/\x6 E x=0)\/∃i k:Nat,q=((i:Int),(k:Int))/\uO (wD E 0 O) x (i,k)
def XH(E:rE)(ns O:List Str)(x:Str)(k:(Int×Int)×Int):Prop:=gk E O x k.1/\∃j:Nat,ns[j]?=some x/\k.2=(j:Int)
def DP(E:rE)(ns O:List Str)(a b:Str):Prop:=∃ka kb,XH E ns O a ka/\XH E ns O b kb/\t4 ka kb=true
structure qR(E:rE)(ns O R:List Str):Prop where
 perm:R.Perm<|ns.filter<|wW E O
 asc:R.Pairwise<|DP E ns O
theorem uO.uniq(h:uO ev x a)(h':uO ev x b):a=b:=by
 rcases h.2 _ h'.1 with e|h1
 .exact e.symm
 .rcases h'.2 _ h.1 with e|h2
  .exact e
  .exact absurd (J6 h1 h2) Fa
theorem Gk(h:x6 E x=0):∀e∈E,e.1≠x:=λe he hx=>by have:=i8 h;exact absurd (b8.mp this e he)<|by simp[hx]
theorem Qc(h:uO (wD E 0 O) x t):x6 E x≠0:=λh0=>by obtain⟨j,z,q8⟩:=vY.mp h.1;exact Gk h0 _ (aR q8.2.2) rfl
theorem XH.uniq{k k':(Int×Int)×Int}(hn:ns.Nodup)(h:XH E ns O x k)(h':XH E ns O x k'):k=k':=by
 exists E,ns,O,x,k,k',_;obtain⟨k1,k2⟩:=k;exists k1,k2,_;obtain⟨k1',k2'⟩:=k';exists k1',k2',_;obtain⟨h1,j,q9⟩:=h;obtain⟨XS,j',q8⟩:=h';have e2:k2=k2':=q9.2.trans<|(aV Nat.cast<|(j5 (aU.mp q9.1).1 hn).mp<|q9.1.trans q8.1.symm).trans q8.2.symm;have e3:k1=k1':=by
  rcases h1 with⟨a,b⟩|⟨i,q,a,b⟩<;>rcases XS with⟨a',b'⟩|⟨i',q',a',b'⟩
  .exact a.trans a'.symm
  .exact absurd b (Qc b')
  .exact absurd b' (Qc b)
  .have:=b.uniq b';obtain⟨rfl,rfl⟩:=bQ this;exact a.trans a'.symm
 simp[e2,e3]
theorem Fc:TO t4:=(TO.int.lex TO.int).lex TO.int
theorem Z9(h:t4 a b=true)(h':t4 b a=true):False:=Fc.GZ h h'
theorem DP.GZ(hn:ns.Nodup)(h:DP E ns O a b)(h':DP E ns O b a):False:=by exists E,ns,O,a,b,_;exists ka,kb,(q_:h);obtain⟨h1,h2,h3⟩:=q_;exists kb',ka',(q8:h');rw[h2.uniq hn q8.1]at h3;rw[h1.uniq hn q8.2.1]at h3;exact Z9 h3 q8.2.2
theorem Zk{α:Type}{r:α->α->Prop}(ha:∀a b,r a b->r b a->False){l:List α}:∀{m:List α},l.Perm m->l.Pairwise r->m.Pairwise r->l=m:=by
 induction l with
 |nil=>exact λp U U=>(nW.mp p.symm).symm
 |cons a l ih=>
  intro m p h1 h2;rcases m with _|⟨b,m⟩
  .exact nW.mp p
  .have h1:=mG.mp h1;have h2:=mG.mp h2;have Jb:=dY λsJ=>
    ha a b (h1.1 b<|(aK.mp<|p.symm.subset<|.head _).resolve_left λe=>sJ e.symm) (h2.1 a<|(aK.mp<|p.subset<|.head _).resolve_left sJ)
   subst Jb;rw[ih (List.Perm.cons_inv p) h1.2 h2.2]
theorem qR.uniq(hn:ns.Nodup)(h:qR E ns O R)(h':qR E ns O R'):R=R':=
 Zk (λa b x y=>x.GZ hn y) (h.perm.trans h'.perm.symm) h.asc h'.asc
theorem qR.mem(h:qR E ns O R):y∈R<->y∈ns/\y∉O/\∀e∈E,e.1=y->e.2∈O:=by rw[h.perm.mem_iff,dT,uG]
set_option tactic.hygienic true in
theorem Uj{E:rE}{ns O R:List Str}{p p1:Str->Int}(hn:ns.Nodup)(hE:∀e∈E,e.1∈ns/\e.2∈ns)(S:Hl E O R p)(hR:qR E ns O R)(J:Jv E (O++R) (wD E 0 O) (wD E O.length R) (p1,R')):
 Hl E (O++R) R' p1/\qR E ns (O++R) R':=by
 exists R',E,ns,O,R,p,p1,_;have eA:wD E 0 (O++R)=wD E 0 O++wD E O.length R:=by rw[B6,dF]
 have hc:∀y,K4 (wD E 0 O++wD E O.length R) y=Eu E (O++R) y:=λy=>by rw[<-eA,Ma S.nd]
 have Fp:R'.Nodup:=mY (λ{a b}qq e=>by obtain⟨ta,tb,h1,h2,h3⟩:=qq;subst e;rw[h1.uniq h2]at h3;exact Fa h3) J.asc;have YB:∀y,(∃t,(t,y)∈wD E O.length R)<->∃z∈R,(y,z)∈E:=λy=>by
  exists y,[];constructor
  .rintro⟨⟨i,k⟩,h⟩
   exists j,z,(q8:vY.mp h);exact⟨z,aR q8.2.1,aR q8.2.2⟩
  .rintro⟨z,h1,h2⟩
   exists z,_;exists j,(hj:cE h1);exists k,(hk:cE h2);exact⟨(O.length+j,k),vY.mpr ⟨j,z,rfl,hj,hk⟩⟩
 have zE:∀y,y∈R'<->(∃z∈R,(y,z)∈E)/\∀e∈E,e.1=y->e.2∈O++R:=λy=>by rw[<-FP,<-hc,<-YB];exact J.mem y
 have ach:∀y∈R',y∉O++R:=λy hy hD=>by obtain⟨⟨z,h1,h2⟩,x7⟩:=(zE y).mp hy;exact(cH.mp S.nd).2.2 z ((aO.mp hD).elim (S.cl _ h2)<|S.rd _ h2) z h1 rfl
 refine⟨⟨cH.mpr ⟨S.nd,Fp,λa ha b hb e=>ach b hb<|e▸ha⟩,λe he h=>b6 _<|(aO.mp h).elim (S.cl e he)<|S.rd e he,λe he h=>((zE _).mp h).2 e he rfl,λy hy=>(J.hp y hy).trans<|by rw[hc]⟩,⟨?_,?_⟩⟩
 .refine(List.perm_ext_iff_of_nodup Fp<|hn.filter _).mpr ?_;exists y;rw[dT,uG,zE];constructor
  .intro h;obtain⟨⟨z,Rt,h2⟩,h3⟩:=id h;exact⟨(hE _ h2).1,ach y<|(zE y).mpr h,h3⟩
  .rintro⟨h1,h2,h3⟩
   refine⟨dY λhno=>h2<|aW _<|hR.mem.mpr ⟨h1,λq=>h2<|b6 _ q,λe he hy=>?_⟩,h3⟩;exact(aO.mp<|h3 e he hy).elim id λq=>absurd ⟨e.2,q,by exact hy▸he⟩ hno
 .refine gX (λ{a b}ha hb qq=>?_) J.asc;obtain⟨ta,tb,h1,h2,h3⟩:=qq;obtain⟨ia,ka⟩:=ta;obtain⟨ib,kb⟩:=tb;obtain⟨ja,hja⟩:=cE (by obtain⟨⟨z,xc,h⟩,HE⟩:=(zE a).mp ha;exact(hE _ h).1);obtain⟨jb,hjb⟩:=cE (by obtain⟨⟨z,XW,h⟩,z6_⟩:=(zE b).mp hb;exact(hE _ h).1);refine⟨((ia,ka),ja),((ib,kb),jb),⟨.inr ⟨ia,ka,rfl,by rw[eA];exact h1⟩,ja,hja,rfl⟩,⟨.inr ⟨ib,kb,rfl,by rw[eA];exact h2⟩,jb,hjb,rfl⟩,?_⟩;unfold Rs at h3;dsimp only[t4];dsimp only at*;rw[aL (by intro q;have:=eq_of_beq q;simp only[nV]at this;lia)];by_cases e:ia=ib
  .exact a6 (aH<|e▸(bM _)) (b7<|by simp_all)
  .exact a6 (aL (by intro q;exact e<|j8.mp<|eq_of_beq q)) (b7<|by simp_all)
theorem FH{s:SF}{x:Str}{v:V}{st st1:Nat->St}{k:Nat->List Nat}{r:List Str}{I:List Str->(Nat->St)->Prop}{Q:V->(Nat->St)->Prop}(h:∀i,a (st i)=some (.ok v,st1 i))(h0:I [] st1)(hk:∀d st,I d st->∀i,o9 v (st i).H=some (k i,r.map .str))
 (step:∀done w rest st,r=done++w::rest->I done st->∃f oE,(∀i,s ⟨(st i).H,put x (.str w) (st i).loc⟩=some (.ok f,oE i))/\(((f=.next\/f=.cont)/\I (done++[w]) oE)\/∃z,f=.ret z/\Q z oE)):
  ∃f oE,(∀i,fr a x s (st i)=some (.ok f,oE i))/\((f=.next/\I r oE)\/∃z,f=.ret z/\Q z oE):=by
  have key:∀rest done st,r=done++rest->I done st->∃f oE,(∀i,Ge (o9 v) (k i,r.map .str) (tP x) s (rest.map .str) (st i)=some (.ok f,oE i))/\((f=.next/\I r oE)\/∃z,f=.ret z/\Q z oE):=by
   exists rest;induction rest with
   |nil=>intro done st hd hI;simp only[bF]at hd;subst hd;exact⟨.next,st,λi=>aH<|hk _ _ hI i,.inl ⟨rfl,hI⟩⟩
   |cons w l ih=>
    intro done st hd hI;obtain⟨f,oE,e,hf⟩:=step done w l st hd hI;have go:∀i,Ge (o9 v) (k i,r.map .str) (tP x) s ((w::l).map .str) (st i)=oM.then (s ⟨(st i).H,put x (.str w) (st i).loc⟩) _:=λi=>(aH<|hk _ _ hI i).trans<|oM.at rfl;rcases hf with⟨hf,hI'⟩|⟨z,rfl,hz⟩
    .obtain⟨f2,st2,q9⟩:=ih (done++[w]) oE (by simp only[hd,aJ];rfl) hI';refine⟨f2,st2,λi=>(go i).trans<|(oM.at<|e i).trans ?_,q9.2⟩;rcases hf with rfl|rfl<;>exact q9.1 i
    .exact⟨_,oE,λi=>(go i).trans<|(oM.at<|e i).trans rfl,.inr ⟨z,rfl,hz⟩⟩
  obtain⟨f,oE,q8⟩:=key r [] st1 rfl h0;refine⟨f,oE,λi=>(oM.at<|h i).trans ?_,q8.2⟩;rw[hk _ _ h0 i];exact q8.1 i
set_option tactic.hygienic true in
theorem IN{s r:SF}{I:Nat->(Nat->St)->Prop}{Q:Fl->(Nat->St)->Prop}
 (step:∀k st,I k st->(∃f st2,(∀i,t (st i)=some (.ok true,st i))/\(∀i,s (st i)=some (.ok f,st2 i))/\(((f=.next\/f=.cont)/\∃k',k'<k/\I k' st2)\/(f=.brk/\Q .next st2)\/∃v,f=.ret v/\Q (.ret v) st2))\/
  ∃f st2,(∀i,t (st i)=some (.ok false,st i))/\(∀i,r (st i)=some (.ok f,st2 i))/\Q f st2):∀fu k st,I k st->k<fu->∃f oE,(∀i,tX t s r fu (st i)=some (.ok f,oE i))/\Q f oE:=by
  exists zr;induction zr with
  |zero=> intro _ _ _ h;exact absurd h<|kY _
  |succ fu pD=>
   intro k st hI h;exists _;rcases step k st hI with⟨f,st2,e1,e2,hf⟩|⟨f,st2,e1,e2,hQ⟩
   .have go:∀i,tX t s r (fu+1) (st i)=oM.then (s<|st i) _:=λi=>oM.at<|e1 i;rcases hf with⟨hf,k',hk,hI'⟩|⟨rfl,hQ⟩|⟨v,rfl,hQ⟩
    .obtain⟨f3,HO,q8⟩:=pD k' st2 hI' (lk<|aC hk h);refine k9 ⟨f3,HO,λi=>(go i).trans<|(oM.at<|e2 i).trans ?_,q8.2⟩;rcases hf with rfl|rfl<;>exact q8.1 i
    .exact k9 ⟨_,_,λi=>(go i).trans<|(oM.at<|e2 i).trans rfl,hQ⟩
    .exact k9 ⟨_,_,λi=>(go i).trans<|(oM.at<|e2 i).trans rfl,hQ⟩
   .exact k9 ⟨f,st2,λi=>(oM.at<|e1 i).trans<|e2 i,hQ⟩
def dz(J:List Nat)(H H':Hp):Prop:=∀(j:Nat)(o:AO),H[j]?=some o->j∉J->H'[j]?=some o
theorem dz.set(h:dz J H H')(hi:i∈J):dz J H<|H'.set i o:=λj o hj hn=>qI (λe=>hn<|e▸hi)<|h j o hj hn
theorem dz.app(h:dz J H H'):dz J H<|H'++L:=λj o hj hn=>oJ<|h j o hj hn
structure Cy(k:Nat)(A:E3)(ns:List Str)(sc:Str->List Str)(S:List Ent)(seen fin:List Str)(T:Hp)(loc:Loc):Prop where
 l0:lz loc "n2i" =some (.ref A.m)
 l1:lz loc "stack" =some (.ref<|k+0)
 l2:lz loc "itstack" =some (.ref<|k+1)
 l3:lz loc "seen" =some (.ref<|k+2)
 l4:lz loc "node2stacki" =some (.ref<|k+3)
 h0:T[0]?=some (.list<|S.reverse.map λe=>.str e.x)
 h1:T[1]?=some (.list<|S.reverse.map λe=>.ref<|k+e.m)
 h2:T[2]?=some (.set seen)
 h3:T[3]?=some (.dict<|Ao S)
 hm:∀e∈S,T[e.m]?=some (.mw<|k+e.i)
 hl:∀e∈S,T[e.i]?=some (.qG (A.ld e.x) e.c)
 hi:(S.map (·.i)).Nodup
 nd:(S.map (·.x)).Nodup
 sn:∀x,x∈seen<->x∈fin\/x∈S.map (·.x)
 snd:seen.Nodup
 Iq:∀x∈seen,x∈ns
 dm:jl sc fin
theorem Cy.put{S:List Ent}{seen:List Str}(C:Cy k A ns sc S seen fin T loc):Cy k A ns sc S seen fin T<|put "node" v loc:=
 {C with l0:=(oR rfl).trans C.l0,l1:=(oR rfl).trans C.l1,l2:=(oR rfl).trans C.l2,l3:=(oR rfl).trans C.l3,l4:=(oR rfl).trans C.l4}
theorem Cy.len{S:List Ent}{seen:List Str}(C:Cy k A ns sc S seen fin T loc):S.length<=ns.length:=by have:=uS C.nd λx hx=>C.Iq x<|(C.sn x).mpr<|.inr hx;rw[aF]at this;exact this
theorem rX(hk:H.length=k)(h:T[j]?=some o):(H++T)[k+j]?=some o:=by rw[<-hk,aS<|aT _ _,b5];exact h
theorem vE(hk:H.length=k):(H++T).set (k+j) o=H++T.set j o:=by rw[<-hk,dO _ _<|aT _ _,b5]
theorem Bb(hk:H.length=k):(H++T).length=k+T.length:=by simp only[aG,hk]
theorem na{S:List Ent}{seen:List Str}(C:Cy k A ns sc S seen fin T loc){j:Nat}(hj:T[j]?=some o)(a1:∀xs,o≠.list xs)(a2:∀xs,o≠.set xs)(a3:∀xs,o≠.dict xs):j∉[0,1,2,3]:=λhJ=>by
 simp only[aK,bG,or_false]at hJ;rcases hJ with rfl|rfl|rfl|rfl
 .exact a1 _ (aA<|hj.symm.trans C.h0)
 .exact a1 _ (aA<|hj.symm.trans C.h1)
 .exact a2 _ (aA<|hj.symm.trans C.h2)
 .exact a3 _ (aA<|hj.symm.trans C.h3)
theorem FT{k:Nat}{A:E3}{rv:V}{po nf:Int}{ns:List Str}{p:Str->Int}{sc:Str->List Str}{Hf:Nat->Hp}{T:Hp}{loc:Loc}{S:List Ent}{seen fin:List Str}{w:Str}(R:∀i,tJ b A (some i) rv po nf ns p sc<|Hf i)(hk:∀i,(Hf i).length=k)(hN:ns.length<800)(C:Cy k A ns sc S seen fin T loc)(hw:lz loc "node" =some (.str w))(hn:w∈ns)(hs:w∉seen):
 ∃e T',e.x=w/\e.c=0/\(∀i,Mv fu n ⟨Hf i++T,loc⟩=some (.ok .next,⟨Hf i++T',loc⟩))/\Cy k A ns sc (e::S) (seen++[w]) fin T' loc:=by
 exists fu,n,b,k,A,rv,po,nf,ns,p,sc,Hf,T,loc,S,seen,fin,w,_;have zd:=C.len;have aci:seen.length<=ns.length:=uS C.snd C.Iq;have KE:w∉S.map (·.x):=λq=>hs<|(C.sn w).mpr<|.inr q;have F0:=qI (b:=.set<|seen++[w]) (show 2≠0 by decide) C.h0;have F1:=qI (b:=.set<|seen++[w]) (show 2≠1 by decide) C.h1;have F2:=rD (b:=.set<|seen++[w]) C.h2;have F3:=qI (b:=.set<|seen++[w]) (show 2≠3 by decide) C.h3;have X:dz [0,1,2,3] T<|T.set 2<|.set<|seen++[w]:=dz.set (λU U h U=>h)<|.tail _<|.tail _<|.head _;have hlen:(T.set 2<|.set<|seen++[w]).length=T.length:=eQ;generalize hT1:T.set 2 (.set<|seen++[w])=T1 at*;have GL:(T1++[AO.qG (A.ld w) 0])[T.length]?=some (.qG (A.ld w) 0):=by exact hlen▸pR
 have X2:=X.app (L:=[.qG (A.ld w) 0]);have G0:=oJ (L:=[.qG (A.ld w) 0]) F0;have G1:=oJ (L:=[.qG (A.ld w) 0]) F1;have G2:=oJ (L:=[.qG (A.ld w) 0]) F2;have G3:=oJ (L:=[.qG (A.ld w) 0]) F3;have Rp:(T1++[AO.qG (A.ld w) 0]).length=T.length+1:=by rw[aG,hlen];rfl
 generalize hT2:T1++[AO.qG (A.ld w) 0]=T2 at*;have HM:(T2++[AO.mw<|k+T.length])[T.length+1]?=some (.mw<|k+T.length):=by exact Rp▸pR
 have HL:=oJ (L:=[.mw<|k+T.length]) GL;have X3:=X2.app (L:=[.mw<|k+T.length]);have H0:=oJ (L:=[.mw<|k+T.length]) G0;have H1:=oJ (L:=[.mw<|k+T.length]) G1;have H2:=oJ (L:=[.mw<|k+T.length]) G2;have H3:=oJ (L:=[.mw<|k+T.length]) G3;generalize hT3:T2++[AO.mw<|k+T.length]=T3 at*;have I0:=qI (b:=.list<|(S.reverse.map λe=>V.ref<|k+e.m)++[V.ref<|k+(T.length+1)]) (show 1≠0 by decide) H0;have I1:=rD (b:=.list<|(S.reverse.map λe=>V.ref<|k+e.m)++[V.ref<|k+(T.length+1)]) H1;have I2:=qI (b:=.list<|(S.reverse.map λe=>V.ref<|k+e.m)++[V.ref<|k+(T.length+1)]) (show 1≠2 by decide) H2;have I3:=qI (b:=.list<|(S.reverse.map λe=>V.ref<|k+e.m)++[V.ref<|k+(T.length+1)]) (show 1≠3 by decide) H3;have IL:=oU (c:=.list<|(S.reverse.map λe=>V.ref<|k+e.m)++[V.ref<|k+(T.length+1)]) H1 HL nofun;have IM:=oU (c:=.list<|(S.reverse.map λe=>V.ref<|k+e.m)++[V.ref<|k+(T.length+1)]) H1 HM nofun;have X4:=X3.set (i:=1) (o:=.list<|(S.reverse.map λe=>V.ref<|k+e.m)++[V.ref<|k+(T.length+1)])<|.tail _<|.head _;generalize hT4:T3.set 1 (.list<|(S.reverse.map λe=>V.ref<|k+e.m)++[V.ref<|k+(T.length+1)])=T4 at*;have J0:=qI (b:=.dict<|Ao S++[(w,.int (S.length:Int))]) (show 3≠0 by decide) I0;have J1:=qI (b:=.dict<|Ao S++[(w,.int (S.length:Int))]) (show 3≠1 by decide) I1;have J2:=qI (b:=.dict<|Ao S++[(w,.int (S.length:Int))]) (show 3≠2 by decide) I2;have J3:=rD (b:=.dict<|Ao S++[(w,.int (S.length:Int))]) I3;have JL:=oU (c:=.dict<|Ao S++[(w,.int (S.length:Int))]) I3 IL nofun;have JM:=oU (c:=.dict<|Ao S++[(w,.int (S.length:Int))]) I3 IM nofun;have X5:=X4.set (i:=3) (o:=.dict<|Ao S++[(w,.int (S.length:Int))])<|.tail _<|.tail _<|.tail _<|.head _;generalize hT5:T4.set 3 (.dict<|Ao S++[(w,.int (S.length:Int))])=T5 at*;have X6:=X5.set (i:=0) (o:=.list<|(S.reverse.map λe=>V.str e.x)++[.str w])<|.head _;have hz0:(S.reverse.map λe=>V.str e.x).length<big:=by rw[aF,d5];unfold big;exact lk<|aC zd hN
 have hc:(if seen.contains w then seen else seen++[w])=seen++[w]:=aL (by rw[bB];exact hs);refine⟨⟨w,0,T.length+1,T.length⟩,T5.set 0<|.list<|(S.reverse.map λe=>V.str e.x)++[.str w],rfl,rfl,λi=>?_,?_⟩
 .have x9:=hk i;have Ri:=R i;refine oQ (tL<|rB (oB C.l3) (MQ<|rX x9 C.h2) (tF<|oB hw) rfl<|pK<|(qg (rX x9 C.h2) (lk<|aC aci hN)).trans<|by rw[hc,vE x9,hT1]) ?_;refine oQ (tL<|rB (oB C.l2) (qS (rX x9 F1) rfl) (tF<|sA (st1:=⟨Hf i++T2,loc⟩) (v:=.ref<|k+T.length) ?_ ?_) rfl<|pK<|(rT (rX x9 H1) (by rw[aF,d5];unfold big;omega)).trans<|by rw[vE x9,hT4]) ?_
  .exact rO oH (tF<|sA (wR (oB C.l0) (oB hw) (ie<|oJ Ri.hm)<|DU (oJ Ri.hm)<|by rw[C5,aH hn])<|JF<|Me (oJ<|Ri.hn w hn) (oJ<|Ri.wH w hn) rfl rfl rfl) rfl ((SE<|oJ<|Ri.hl w hn).trans<|by simp only[Bb x9,hlen,aJ,hT2])
  .exact(FE<|rX x9 GL).trans (by simp only[Bb x9,Rp,aJ,hT3])
  exact oQ (IC (rO oH (tF<|oB C.l1) rfl<|pK<|J7 (rX x9 I0) hz0) (oB C.l4) (oB hw)<|(wa (rX x9 I3) (by rw[M3];unfold big;omega)).trans<|by rw[(by simp only[Wb<|Fz KE,aF,d5]:put w (.int (S.reverse.map λe=>V.str e.x).length) (Ao S)=Ao S++[(w,.int S.length)]),vE x9,hT5])
   (tL<|rB (oB C.l1) (qS (rX x9 J0) rfl) (tF<|oB hw) rfl<|pK<|(rT (rX x9 J0) hz0).trans<|by rw[vE x9])
 exact{
  l0:=C.l0,l1:=C.l1,l2:=C.l2,l3:=C.l3,l4:=C.l4
  h0:=(rD J0).trans (by rw[cY,bE];rfl)
  h1:=(qI (by decide) J1).trans (by rw[cY,bE];rfl)
  h2:=qI (by decide) J2
  h3:=qI (by decide) J3
  hm:=λe he=>by
   rcases aK.mp he with rfl|he
   .exact oU J0 JM (λh=>by injection h)
   .exact X6 _ _ (C.hm e he) (na C (C.hm e he) (λU h=>by injection h) (λU h=>by injection h) λU h=>by injection h)
  hl:=λe he=>by
   rcases aK.mp he with rfl|he
   .exact oU J0 JL (λh=>by injection h)
   .exact X6 _ _ (C.hl e he) (na C (C.hl e he) (λU h=>by injection h) (λU h=>by injection h) λU h=>by injection h)
  hi:=c7.mpr ⟨λq=>by exists e,(q8:cA.mp q);have:=qM<|C.hl e q8.1;rw[q8.2]at this;exact dJ _ this,C.hi⟩
  nd:=c7.mpr ⟨KE,C.nd⟩
  sn:=λx=>by rw[aO,aE,C.sn,cW,aK];exact⟨λq=>q.elim (λq=>q.imp id .inr) λq=>.inr<|.inl q,λq=>q.elim (λq=>.inl<|.inl q) λq=>q.elim .inr λq=>.inl<|.inr q⟩
  snd:=cH.mpr ⟨C.snd,by simp,λa ha c hc q=>hs (by rw[aE]at hc;simp[<-hc,<-q];exact ha)⟩
  Iq:=λx hx=>(aO.mp hx).elim (C.Iq x) λq=>by rw[aE]at q;rw[q];exact hn
  dm:=C.dm}
theorem Ch{S:List Ent}{α:Type}{f:Ent->α}:((e::S).reverse.map f)[((e::S).reverse.map f).length-1]?=some (f e):=by simp only[cY,bE,aG];show(_++[f e])[_+1-1]?=_;simp only[jZ,aS<|aI _,cD];rfl
theorem Xb{S:List Ent}{α:Type}{f:Ent->α}:((e::S).reverse.map f).eraseIdx (((e::S).reverse.map f).length-1)=S.reverse.map f:=by grind
set_option tactic.hygienic true in
theorem EE{Hf:Nat->Hp}{S:List Ent}{seen:List Str}{w:Str}(R:∀i,tJ b A (some i) rv po nf ns p sc<|Hf i)(hk:∀i,(Hf i).length=k)(hN:ns.length<800)(C:Cy k A ns sc (e::S) seen fin T loc)(hw:(sc e.x)[e.c]?=some w):
 ∃T',(∀i,Lm fu n ⟨Hf i++T,loc⟩=some (.ok .brk,⟨Hf i++T',put "node" (.str w) loc⟩))/\Cy k A ns sc (⟨e.x,e.c+1,e.m,e.i⟩::S) seen fin T' (put "node" (.str w) loc):=by
 have zd:=C.len;have hm:=C.hm e<|.head _;have hl:=C.hl e<|.head _;have X:dz [e.i] T<|T.set e.i<|.qG (A.ld e.x)<|e.c+1:=dz.set (λU U h U=>h)<|.head _;have ni:∀{j:Nat}{o:AO},T[j]?=some o->(∀l k,o≠.qG l k)->(T.set e.i<|.qG (A.ld e.x)<|e.c+1)[j]?=some o:=λhj a=>X _ _ hj (by rw[aE];rintro rfl;exact a _ _<|aA<|hj.symm.trans hl);refine⟨T.set e.i<|.qG (A.ld e.x)<|e.c+1,λi=>jk (oQ
  (pE (rO (wR (oB C.l2) (N6 oH rfl) (uA<|rX (hk i) C.h1)<|K6 (rX (hk i) C.h1) (by simp only[aF,d5];unfold big;exact lk<|aC zd hN) Ch) C3 (JW<|rX (hk i) hm)
   ((UN (rX (hk i) hm) (rX (hk i) hl) (oJ<|(R i).hl _<|C.Iq _<|(C.sn _).mpr<|.inr<|.head _) (by simp only[bD,hw];rfl)).trans<|by rw[vE<|hk i]))) (TZ rfl)),?_⟩
 exact{C.put with
  h0:=by exact cY▸((ni C.h0 nofun).trans (by simp only[cY,bE];rfl))
  h1:=by exact cY▸((ni C.h1 nofun).trans (by simp only[cY,bE];rfl))
  h2:=ni C.h2<|by simp
  h3:=ni C.h3<|by simp
  hm:=λa ha=>(aK.mp ha).elim (λq=>by simp[q];exact ni hm nofun) λq=>ni (C.hm a<|.tail _ q) nofun
  hl:=λa ha=>(aK.mp ha).elim (λq=>by exact q▸(rD hl)) λq=>X _ _ (C.hl a<|.tail _ q) (by rw[aE];intro q';exact(c7.mp C.hi).1<|cA.mpr ⟨a,q,q'⟩)
  hi:=C.hi
  nd:=C.nd
  sn:=C.sn}
theorem RA{k:Nat}{A:E3}{rv:V}{po nf:Int}{ns:List Str}{p:Str->Int}{sc:Str->List Str}{Hf:Nat->Hp}{T:Hp}{loc:Loc}{S:List Ent}{seen fin:List Str}{e:Ent}(R:∀i,tJ b A (some i) rv po nf ns p sc<|Hf i)(hk:∀i,(Hf i).length=k)(hN:ns.length<800)(C:Cy k A ns sc (e::S) seen fin T loc)(hw:(sc e.x)[e.c]?=none)(hs:∀y∈sc e.x,y∈fin):
 ∃T',(∀i,Lm fu n ⟨Hf i++T,loc⟩=some (.ok .next,⟨Hf i++T',loc⟩))/\Cy k A ns sc S seen (fin++[e.x]) T' loc:=by
 exists fu,n,b,k,A,rv,po,nf,ns,p,sc,Hf,T,loc,S,seen,fin,e,_;have zd:S.length+1<=ns.length:=C.len;have hz1:((e::S).reverse.map λe=>V.ref<|k+e.m).length<big:=by rw[aF,d5];show S.length+1<big;unfold big;exact lk<|aC zd hN
 have hm:=C.hm e<|.head _;have hl:=C.hl e<|.head _;exists q,(hq:Ip (S:=e::S)<|.head _);have F0:=oU (c:=.lend) hl C.h0 (λh=>by injection h);have F1:=oU (c:=.lend) hl C.h1 (λh=>by injection h);have F2:=oU (c:=.lend) hl C.h2 (λh=>by injection h);have F3:=oU (c:=.lend) hl C.h3 (λh=>by injection h);have X1:dz [e.i,0,1,2,3] T<|T.set e.i .lend:=dz.set (λU U h U=>h)<|.head _;generalize hT1:T.set e.i .lend=T1 at*;have G0:=rD (b:=.list<|S.reverse.map λe=>V.str e.x) F0;have G1:=qI (b:=.list<|S.reverse.map λe=>V.str e.x) (show 0≠1 by decide) F1;have G2:=qI (b:=.list<|S.reverse.map λe=>V.str e.x) (show 0≠2 by decide) F2;have G3:=qI (b:=.list<|S.reverse.map λe=>V.str e.x) (show 0≠3 by decide) F3;have X2:=X1.set (o:=.list<|S.reverse.map λe=>V.str e.x)<|.tail _<|.head _;generalize hT2:T1.set 0 (.list<|S.reverse.map λe=>V.str e.x)=T2 at*;have J0:=qI (b:=.dict<|Ao S) (show 3≠0 by decide) G0;have J1:=qI (b:=.dict<|Ao S) (show 3≠1 by decide) G1;have J2:=qI (b:=.dict<|Ao S) (show 3≠2 by decide) G2;have J3:=rD (b:=.dict<|Ao S) G3;have X3:=X2.set (o:=.dict<|Ao S)<|.tail _<|.tail _<|.tail _<|.tail _<|.head _;generalize hT3:T2.set 3 (.dict<|Ao S)=T3 at*;have X4:=X3.set (o:=.list<|S.reverse.map λe=>V.ref<|k+e.m)<|.tail _<|.tail _<|.head _;have nm:∀{j:Nat}{o:AO},T[j]?=some o->(∀xs,o≠.list xs)->(∀xs,o≠.set xs)->(∀xs,o≠.dict xs)->j≠e.i->j∉[e.i,0,1,2,3]:=λhj a1 a2 a3 a4 hJ=>(aK.mp hJ).elim a4<|na C hj a1 a2 a3;refine⟨T3.set 1<|.list<|S.reverse.map λe=>V.ref<|k+e.m,λi=>?_,?_⟩
 .have x9:=hk i;refine Xa (QL<|FN (rO (wR (oB C.l2) (N6 oH rfl) (uA<|rX x9 C.h1)<|K6 (rX x9 C.h1) hz1 Ch) C3 (JW<|rX x9 hm)
   ((TA (rX x9 hm) (rX x9 hl) (oJ<|(R i).hl _<|C.Iq _<|(C.sn _).mpr<|.inr<|.head _) (by simp only[bD,hw];rfl)).trans<|by rw[vE x9,hT1]))) rfl ?_
  exact oQ
   (aaH (oB C.l4) (Fx (oB C.l1) (qS (rX x9 F0) rfl) C3 rfl<|(IQ (rX x9 F0) (by rw[aF,d5];show S.length+1<big;unfold big;omega) Ch).trans<|by rw[Xb,vE x9,hT2])<|(TQ (rX x9 G3) (by rw[hq];rfl) (by rw[M3];show S.length+1<big;unfold big;omega)).trans<|by rw[oh<|(c7.mp C.nd).1,vE x9,hT3])
   (tL<|Fx (oB C.l2) (qS (rX x9 J1) rfl) C3 rfl<|(IQ (rX x9 J1) hz1 Ch).trans<|by rw[Xb,vE x9])
 exact{
  l0:=C.l0,l1:=C.l1,l2:=C.l2,l3:=C.l3,l4:=C.l4
  h0:=qI (by decide) J0
  h1:=rD J1
  h2:=qI (by decide) J2
  h3:=qI (by decide) J3
  hm:=λa ha=>X4 _ _ (C.hm a<|.tail _ ha)<|nm (C.hm a<|.tail _ ha) (λU h=>by injection h) (λU h=>by injection h) (λU h=>by injection h)<|Os (C.hm a<|.tail _ ha) hl λh=>by injection h
  hl:=λa ha=>X4 _ _ (C.hl a<|.tail _ ha)<|nm (C.hl a<|.tail _ ha) (λU h=>by injection h) (λU h=>by injection h) (λU h=>by injection h) λq=>(c7.mp C.hi).1<|cA.mpr ⟨a,ha,q⟩
  hi:=(c7.mp C.hi).2
  nd:=(c7.mp C.nd).2
  sn:=λx=>by rw[C.sn,aO,aE,cW,aK];exact⟨λq=>q.elim (λq=>.inl<|.inl q) λq=>q.elim (λq=>.inl<|.inr q) .inr,λq=>q.elim (λq=>q.elim .inl λq=>.inr<|.inl q) λq=>.inr<|.inr q⟩
  snd:=C.snd
  Iq:=C.Iq
  dm:=C.dm.snoc hs}
theorem IF(h:H[i]?=some (.list xs))(h':H[j]?=some (.list ys))(hz:xs.length+ys.length<big):Uh .Add (.ref i) (.ref j) H=some (.ref H.length,H++[.list<|xs++ys]):=by refine(rfl:_=(none:xe).or (none.or<|vL (λU xs=>vL (λU ys H=>if xs.length+ys.length<big then some (.ref H.length,H++[.list<|xs++ys])else none)<|.ref j) (.ref i) H)).trans ?_;rw[z8 h<|bP hz,z8 h'<|eH hz,aH hz];rfl
theorem W4:oG (oL fu<|n+1) fu 164 [u] [] H=pN (Vp fu n ⟨H,[("self",u)]⟩):=
 Au QD (by rfl')
def Um(Hf:Nat->Hp)(T:Hp)(loc:Loc)(i:Nat):St:=⟨Hf i++T,loc⟩
def adz(k:Nat)(A:E3)(ns:List Str)(sc:Str->List Str)(Hf:Nat->Hp)(seen:List Str)(m:Nat)(st:Nat->St):Prop:=∃S fin w T loc,st=Um Hf T loc/\Cy k A ns sc S seen fin T loc/\lz loc "node" =some (.str w)/\w∈ns/\vM sc fin [w] S/\S≠[]/\left sc S<m
def gy(k:Nat)(A:E3)(ns:List Str)(sc:Str->List Str)(Hf:Nat->Hp)(seen:List Str)(st:Nat->St):Prop:=∃fin T loc,st=Um Hf T loc/\Cy k A ns sc [] seen fin T loc
set_option tactic.hygienic true in
theorem ey{k:Nat}{A:E3}{ns:List Str}{sc:Str->List Str}{S:List Ent}{seen:List Str}(R:∀i,tJ b A (some i) rv po nf ns p sc<|Hf i)(hk:∀i,(Hf i).length=k)(hN:ns.length<800)(Dy:ns.length<fu)(Ii:∀x,∀y∈sc x,y∈ns)(C:Cy k A ns sc S seen fin T loc)(L:vM sc fin [] S):
 ∃f oE,(∀i,Xi fu n ⟨Hf i++T,loc⟩=some (.ok f,oE i))/\((f=.brk/\gy k A ns sc Hf seen oE)\/(f=.next/\adz k A ns sc Hf seen (left sc S) oE)):=
 IN (I:=λm st=>∃S' zZ T' loc',st=Um Hf T' loc'/\m=S'.length/\Cy k A ns sc S' seen zZ T' loc'/\vM sc zZ [] S'/\left sc S'<=left sc S)
  (λm st q9=>by
  exists _;obtain⟨S',zZ,T',loc',xO,qV⟩:=q9;subst xO;have zd:=qV.2.1.len;have hz0:(S'.reverse.map λe=>V.str e.x).length<big:=by simp only[aF,d5];unfold big;exact lk<|aC zd hN
  rcases S' with _|⟨e,S'⟩
  .exact k9 (.inr ⟨.brk,_,λi=>Kq (oB qV.2.1.l1)<|Ga (rX (hk i) qV.2.1.h0) hz0,λi=>rfl,.inl ⟨rfl,zZ,T',loc',rfl,qV.2.1⟩⟩)
  .have ht:∀i,te (lo "stack") (Um Hf T' loc' i)=some (.ok true,Um Hf T' loc' i):=λi=>Kq (oB qV.2.1.l1)<|(Ga (rX (hk i) qV.2.1.h0) hz0).trans (by rw[cY];simp);have hle:left sc (e::S')=((sc e.x).length-e.c)+left sc S':=rfl;cases hw:(sc e.x)[e.c]? with
   |some w=> obtain⟨T2,o5⟩:=EE R hk hN qV.2.1 hw;have vO:=(aU.mp hw).1;refine k9<|.inl ⟨_,_,ht,o5.1,.inr<|.inl ⟨rfl,.inr ⟨rfl,_,zZ,w,T2,_,rfl,o5.2,oX,Ii _ w<|aR hw,qV.2.2.1.next hw,eL _ _,?_⟩⟩⟩;have:left sc (⟨e.x,e.c+1,e.m,e.i⟩::S')=((sc e.x).length-(e.c+1))+left sc S':=rfl;grind
   |none=> have vH:=qV.2.2.1.pop hw;obtain⟨T2,q8⟩:=RA R hk hN qV.2.1 hw vH.1;refine k9 ?_;exact .inl ⟨_,_,ht,q8.1,.inl ⟨.inl rfl,S'.length,by rw[qV.1];exact dX _,S',_,T2,loc',rfl,rfl,q8.2,vH.2,(lk<|aC (aN hle.symm) qV.2.2.2)⟩⟩)
  fu S.length (Um Hf T loc) ⟨S,fin,T,loc,rfl,rfl,C,L,aI _⟩ (bW C.len Dy)
def CQ(sc:Str->List Str)(ns:List Str)(k:Nat)(Hf:Nat->Hp)(v:V)(st:Nat->St):Prop:=∃j xs T loc,st=Um Hf T loc/\v=.ref (k+j)/\T[j]?=some (.list xs)/\xs≠[]/\xs.length<big/\Cyc sc ns
theorem qk{n k:Nat}{A:E3}{ns:List Str}{sc:Str->List Str}{Hf:Nat->Hp}{T:Hp}{loc:Loc}{S:List Ent}{seen fin:List Str}{w:Str}(hk:∀i,(Hf i).length=k)(hN:ns.length<800)(C:Cy k A ns sc S seen fin T loc)(hw:lz loc "node" =some (.str w))(L:vM sc fin [w] S)(hs:w∈S.map (·.x)):∃v oE,(∀i,Nb fu n ⟨Hf i++T,loc⟩=some (.ok<|.ret v,oE i))/\CQ sc ns k Hf v oE:=by
 exists fu,n,k,A,ns,sc,Hf,T,loc,S,seen,fin,w,_;exists q,(hq:Ip hs);have zd:=C.len;have hd:((S.reverse.map λe=>V.str e.x).drop q).length<=ns.length:=by simp[eX];exact dG zd
 have KJ:((S.reverse.map λe=>V.str e.x).drop q).length+[V.str w].length<big:=by show _+1<big;unfold big;exact lk<|aC hd hN
 exists D,(q8:L.acd hs);refine⟨.ref<|k+(T.length+2),Um Hf (T++[.list<|(S.reverse.map λe=>V.str e.x).drop q]++[.list [.str w]]++[.list<|(S.reverse.map λe=>V.str e.x).drop q++[.str w]]) loc,λi=>?_,T.length+2,(S.reverse.map λe=>V.str e.x).drop q++[.str w],_,loc,rfl,rfl,?_,?_,?_,⟨D,List.ne_nil_of_mem q8.1,λx hx=>C.Iq x<|(C.sn x).mpr<|.inr<|q8.2.2.1 x hx,λx hx=>(q8.2.2.2 x hx).elim (λq=>by exact q▸q8.2.1) id⟩⟩
 .have x9:=hk i;have e1:Nb fu n ⟨Hf i++T,loc⟩=some (.ok<|.ret<|.ref _,⟨_,_⟩):=
   uQ (y8 (Jy (s1:=⟨Hf i++T,loc⟩) (oB C.l1) (wR (oB C.l4) (oB hw) (L3<|rX x9 C.h3)<|Tn (rX x9 C.h3) hq) oH oH (uA<|rX x9 C.h0)<|ru (rX x9 C.h0) (by simp only[aF,d5];unfold big;exact lk<|aC zd hN)) (vG (tF<|oB hw)<|c5 rfl)<|IF (oJ<|pR) pR KJ)
  simp only[e1];show some (r8.ok<|Fl.ret<|V.ref (Hf i++T++[AO.list<|(S.reverse.map λe=>V.str e.x).drop q]++[AO.list [V.str w]]).length,(⟨_,_⟩:St))=some (_,⟨_,_⟩);rw[show(Hf i++T++[AO.list<|(S.reverse.map λe=>V.str e.x).drop q]++[AO.list [V.str w]]).length=k+(T.length+2)by simp only[aG,x9];rfl];simp only[aJ]
 .exact(show T.length+2=(T++[AO.list<|(S.reverse.map λe=>V.str e.x).drop q]++[AO.list [V.str w]]).length by simp only[aG];rfl)▸pR
 .simp
 .rw[aG];exact KJ
theorem lp{n b k:Nat}{A:E3}{rv:V}{po nf:Int}{ns:List Str}{p:Str->Int}{sc:Str->List Str}{Hf:Nat->Hp}{T:Hp}{loc:Loc}{seen fin:List Str}{w:Str}{K:Nat}(R:∀i,tJ b A (some i) rv po nf ns p sc<|Hf i)(hk:∀i,(Hf i).length=k)(hN:ns.length<800)(Ii:∀x,∀y∈sc x,y∈ns)(hK:∀x,(sc x).length<=K)(Dy:ns.length*(K+1)<fu)(C:Cy k A ns sc [] seen fin T loc)(hw:lz loc "node" =some (.str w))(hn:w∈ns)(hs:w∉seen):
 ∃f oE,(∀i,wj fu n ⟨Hf i++T,loc⟩=some (.ok f,oE i))/\((f=.next/\∃qP,gy k A ns sc Hf qP oE/\w∈qP/\∀x∈seen,x∈qP)\/∃v,f=.ret v/\CQ sc ns k Hf v oE):=by
 exists fu,n,b,k,A,rv,po,nf,ns,p,sc,Hf,T,loc,seen,fin,w,K,_;refine IN (I:=λm st=>∃S qP zZ w' T' loc',st=Um Hf T' loc'/\Cy k A ns sc S qP zZ T' loc'/\lz loc' "node" =some (.str w')/\w'∈ns/\vM sc zZ [w'] S/\(w∈qP\/w'=w)/\(∀x∈seen,x∈qP)/\m=(ns.length-qP.length)*(K+1)+left sc S)
  (λm st qq=>?_) fu _ (Um Hf T loc) ⟨[],seen,fin,w,T,loc,rfl,C,hw,hn,trivial,.inr rfl,λU h=>h,rfl⟩ (bW (lQ _<|kL _ _) Dy)
 obtain⟨S,qP,zZ,w',T',loc',xO,C,hw,hn,L,hww,Ro,hm⟩:=qq;subst xO;refine .inl ?_;have ht:∀i,te (ct<|.bool true) (Um Hf T' loc' i)=some (.ok true,Um Hf T' loc' i):=λi=>Kq oH rfl;have Yt:∀i,tc (lo "node") (lo "seen") .In (Um Hf T' loc' i)=some (.ok<|qP.contains w',Um Hf T' loc' i):=λi=>pJ (oB hw) (oB C.l3)<|ut<|rX (hk i) C.h2;exists _;have after:∀{S1:List Ent}{Yu:List Str}{T1:Hp},(∀i,fi (tc (lo "node") (lo "seen") .In) (Wk fu n) (Mv fu n) (Um Hf T' loc' i)=some (.ok .next,⟨Hf i++T1,loc'⟩))->Cy k A ns sc S1 Yu zZ T1 loc'->vM sc zZ [] S1->w∈Yu->(∀x∈seen,x∈Yu)->(ns.length-Yu.length)*(K+1)+left sc S1<=m->
  ∃f st2,(∀i,te (ct<|.bool true) (Um Hf T' loc' i)=some (.ok true,Um Hf T' loc' i))/\(∀i,td fu n (Um Hf T' loc' i)=some (.ok f,st2 i))/\(((f=.next\/f=.cont)/\∃m',m'<m/\∃S qP zZ w' T' loc',st2=Um Hf T' loc'/\Cy k A ns sc S qP zZ T' loc'/\lz loc' "node" =some (.str w')/\w'∈ns/\vM sc zZ [w'] S/\(w∈qP\/w'=w)/\(∀x∈seen,x∈qP)/\m'=(ns.length-qP.length)*(K+1)+left sc S)\/(f=.brk/\((Fl.next=.next/\∃qP,gy k A ns sc Hf qP st2/\w∈qP/\∀x∈seen,x∈qP)\/∃v,Fl.next=.ret v/\CQ sc ns k Hf v st2))\/∃v,f=.ret v/\((Fl.ret v=.next/\∃qP,gy k A ns sc Hf qP st2/\w∈qP/\∀x∈seen,x∈qP)\/∃u,Fl.ret v=.ret u/\CQ sc ns k Hf u st2)):=λe1 C1 L1 hw1 hs1 hk1=>by
  obtain⟨f,st2,o5⟩:=ey R hk hN (bW (Nat.le_mul_of_pos_right _<|c6 K) Dy) Ii C1 L1;refine⟨f,st2,ht,λi=>oQ (e1 i)<|o5.1 i,?_⟩;exists _;rcases o5.2 with⟨rfl,hB⟩|⟨rfl,S2,afg,w2,T2,uK,g0,C2,g1,g2,g3,g4,g5⟩
  .exact k9 (.inr<|.inl ⟨rfl,.inl ⟨rfl,_,hB,hw1,hs1⟩⟩)
  .exact k9 (.inl ⟨.inl rfl,_,(lk<|aC g5 hk1),S2,_,afg,w2,T2,uK,g0,C2,g1,g2,g3,.inl hw1,hs1,rfl⟩)
 by_cases ew:w'∈qP
 .have hc:=bB.mpr ew;replace Yt:=hc▸Yt;have yl:∀i,tc (lo "node") (lo "node2stacki") .In (Um Hf T' loc' i)=some (.ok ((Ao S).lookup w').isSome,Um Hf T' loc' i):=λi=>pJ (oB hw) (oB C.l4)<|BF<|rX (hk i) C.h3;by_cases xO:w'∈S.map (·.x)
  .obtain⟨j,hj⟩:=Ip xO;replace yl:=hj▸yl;obtain⟨v,st2,q9⟩:=qk hk hN C hw L xO;exact k9 ⟨.ret v,st2,ht,λi=>Ah<|v9 (Yt i)<|v9 (yl i)<|q9.1 i,.inr<|.inr ⟨v,rfl,.inr ⟨v,rfl,q9.2⟩⟩⟩
  .rw[Fz xO]at yl;exact k9<|after (λi=>v9 (Yt i)<|sQ (yl i) rfl) C (L.solve<|((C.sn w').mp ew).elim id λq=>absurd q xO) (hww.elim id λq=>q▸ew) Ro<|aN hm.symm
 .have hc:qP.contains w'=false:=by rw[eF];intro q;exact ew (bB.mp q)
  replace Yt:=hc▸Yt;obtain⟨e,T1,rfl,he0,q8⟩:=FT R hk hN C hw hn ew;have hl1:qP.length+1<=ns.length:=by have:=uS q8.2.snd q8.2.Iq;rw[aG]at this;exact this
  refine k9 ?_;refine after (λi=>sQ (Yt i)<|q8.1 i) q8.2 ⟨by rw[he0];intro y hy;simp only[nN]at hy;exact(nomatch hy),λz hz=>(nomatch hz),L⟩ (hww.elim (λq=>b6 _ q) λq=>aW _<|q▸(.head _)) (λx hx=>b6 _<|Ro x hx) ?_;have h1:left sc (e::S)=((sc e.x).length-e.c)+left sc S:=rfl;have h2:=hK e.x;have h3:(ns.length-qP.length)*(K+1)=(ns.length-(qP++[e.x]).length)*(K+1)+(K+1):=by rw[aG,<-Nat.succ_mul];congr 1;show _=ns.length-(qP.length+1)+1;grind
  simp only[hm,h3];exact lk<|aC (aN<|aY ((lk<|aN he0):e.c<=(sc e.x).length))<|aC h2<|aN h1
theorem WU{n b k:Nat}{A:E3}{rv:V}{po nf:Int}{ns:List Str}{p:Str->Int}{sc:Str->List Str}{Hf:Nat->Hp}{K:Nat}(R:∀i,tJ b A (some i) rv po nf ns p sc<|Hf i)(hk:∀i,(Hf i).length=k)(hN:ns.length<800)(Ii:∀x,∀y∈sc x,y∈ns)(hK:∀x,(sc x).length<=K)(Dy:ns.length*(K+1)<fu):
 ∃v T,(∀i,oG (oL fu<|n+1) fu 164 [.ref A.s] [] (Hf i)=some (.ok v,Hf i++T))/\((v=.none/\GO sc ns)\/∃j xs,v=.ref (k+j)/\T[j]?=some (.list xs)/\xs≠[]/\xs.length<big/\Cyc sc ns):=by
 exists fu,n,b,k,A,rv,po,nf,ns,p,sc,Hf,K,_;exists _;have C0:Cy k A ns sc [] [] [] [.list [],.list [],.set [],.dict []] [("self",.ref A.s),("n2i",.ref A.m),("stack",.ref<|k+0),("itstack",.ref<|k+1),("seen",.ref<|k+2),("node2stacki",.ref<|k+3)]:={
  l0:=rfl,l1:=rfl,l2:=rfl,l3:=rfl,l4:=rfl,h0:=rfl,h1:=rfl,h2:=rfl,h3:=rfl
  hm:=bH _,hl:=bH _,hi:=.nil,nd:=.nil,sn:=λx=>⟨nofun,λq=>q.elim nofun nofun⟩,snd:=.nil,Iq:=bH _,dm:=λl1 x l2 e=>by rcases l1 with _|_<;>injection e}
 obtain⟨f,oE,e1,hf⟩:=FH (a:=lo "n2i") (s:=uc fu n)
  (I:=λdone st=>∃seen,gy k A ns sc Hf seen st/\∀x∈done,x∈seen) (λi=>oB rfl) ⟨[],⟨[],_,_,rfl,C0⟩,bH _⟩
  (λd st qq i=>by obtain⟨seen,⟨fin,T,loc,xO,C⟩,_⟩:=qq;subst xO;exact(AB<|oJ (R i).hm).trans (by simp only[pB,bX];rfl))
  (λdone w rest st hd qq=>by
   obtain⟨seen,⟨fin,T,loc,xO,C⟩,hs⟩:=qq;subst xO;have C':=C.put (v:=.str w);have Yt:∀i,tc (lo "node") (lo "seen") .In ⟨Hf i++T,put "node" (.str w) loc⟩=some (.ok<|seen.contains w,⟨Hf i++T,put "node" (.str w) loc⟩):=λi=>pJ (oB oX) (oB C'.l3)<|ut<|rX (hk i) C.h2;by_cases ew:w∈seen
   .replace Yt:=(bB.mpr ew)▸Yt;exact⟨.cont,_,λi=>Fd<|v9 (Yt i)<|Fd rfl,.inl ⟨.inr rfl,seen,⟨fin,T,_,rfl,C'⟩,λx hx=>(aO.mp hx).elim (hs x) λq=>by rw[aE]at q;simp[q];exact ew⟩⟩
   .replace Yt:=(show seen.contains w=false by rw[eF];intro q;exact ew<|bB.mp q)▸Yt;obtain⟨f,oE,e2,h⟩:=lp R hk hN Ii hK Dy C' oX (hd▸(aW _<|.head _)) ew;refine⟨f,oE,λi=>oQ (sQ (Yt i) rfl)<|e2 i,?_⟩;rcases h with⟨rfl,qP,hB,h1,h2⟩|h
    .exact .inl ⟨.inl rfl,qP,hB,λx hx=>(aO.mp hx).elim (λq=>h2 x<|hs x q) λq=>by rw[aE]at q;simp[q];exact h1⟩
    .exact .inr h)
 have go:∀i z,qv fu n (Um Hf [AO.list [],AO.list [],AO.set [],AO.dict []] [("self",.ref A.s),("n2i",.ref A.m),("stack",.ref<|k+0),("itstack",.ref<|k+1),("seen",.ref<|k+2),("node2stacki",.ref<|k+3)] i)=z->Vp fu n ⟨Hf i,[("self",.ref A.s)]⟩=z:=λi z hz=>by refine oQ (pE<|sA (oB rfl)<|(R i).at rfl rfl rfl)<|oQ (pE<|vG C3<|by decide)<|oQ (pE<|vG C3<|by decide)<|oQ (pE<|rO oH C3 rfl<|pK aa3)<|oQ (pE rfl) ?_;simp only[<-hz];simp[hk i];rfl
 rcases hf with⟨rfl,seen,⟨fin,T,loc,xO,C⟩,hs⟩|⟨v,rfl,j,xs,T,loc,xO,rfl,h1,h2,h3,h4⟩
 .replace xO:=xO.symm;subst xO;exact k9 ⟨.none,T,λi=>by simp[W4,go i _<|oQ (e1 i)<|uQ oH];rfl,.inl ⟨rfl,fin,λx hx=>((C.sn x).mp<|hs x hx).elim id nofun,C.dm⟩⟩
 .subst xO;exact k9 ⟨.ref<|k+j,T,λi=>by simp[W4,go i _<|Ah<|e1 i];rfl,.inr ⟨j,xs,rfl,h1,h2,h3,h4⟩⟩
section
variable{H:Hp}{a:EF}{st st1 st2:St}{v:V}{loc:Loc}{j:Nat}{xs:List V}
theorem B4{β:Type}{o:oM β}{b:β}(h:o=some (.ok b,st1))(hl:st1.loc=loc):Ac loc o=some (b,st1.H):=a6 (aV _ h)<|aH hl
theorem MS(h:H[j]?=some (.list xs))(hz:xs.length<big):Du j v H=some (H.set j<|.list<|xs++[v]):=by unfold Du;exact(uE h)▸(aH hz)
theorem zH(h:a st=some (.ok v,st1))(hl:st1.loc=st.loc)(hj:st1.H[j]?=some (.list xs))(hz:xs.length<big):qN a j st=some ⟨st1.H.set j<|.list<|xs++[v],st.loc⟩:=by unfold qN;rw[B4 h hl];show(Du j v st1.H).bind _=_;rw[MS hj hz];rfl
theorem nj{t:TF}{leaf:uJ}{z:Option St}(h:t st=some (.ok true,st1))(hl:st1.loc=st.loc)(g:leaf ⟨st1.H,st.loc⟩=z):uF t leaf st=z:=by unfold uF;exact(B4 h hl)▸g
theorem ng{t:TF}{leaf:uJ}(h:t st=some (.ok false,st1))(hl:st1.loc=st.loc):uF t leaf st=some ⟨st1.H,st.loc⟩:=by unfold uF;exact(B4 h hl)▸rfl
theorem Wz{α:Type}{f:α->V}{it:Hp->Option (List Nat×List V)}{ks:Nat->List Nat}{asg:V->St->Option Loc}{turn:uJ}{r:List α}{I:List α->(Nat->St)->Prop}(hk:∀d st,I d st->∀i,it (st i).H=some (ks i,r.map f))
 (step:∀done w rest st,r=done++w::rest->I done st->∃oE,(∀i,((asg (f w)<|st i).bind λloc=>turn ⟨(st i).H,loc⟩)=some (oE i))/\I (done++[w]) oE){st:Nat->St}(h0:I [] st):
 ∃oE,(∀i,sU it (ks i,r.map f) asg turn (r.map f) (st i)=some (oE i))/\I r oE:=by
 have key:∀rest done st,r=done++rest->I done st->∃oE,(∀i,sU it (ks i,r.map f) asg turn (rest.map f) (st i)=some (oE i))/\I r oE:=by
  exists rest;induction rest with
  |nil=>intro done st hd hI;simp only[bF]at hd;subst hd;exact⟨st,λi=>aH<|hk _ _ hI i,hI⟩
  |cons w l ih=>
   intro done st hd hI;obtain⟨oE,q9⟩:=step done w l st hd hI;obtain⟨st2,q8⟩:=ih (done++[w]) oE (by simp only[hd,aJ];rfl) q9.2;refine⟨st2,λi=>(aH<|hk _ _ hI i).trans ?_,q8.2⟩;have e1:=q9.1 i;rcases hq:asg (f w) (st i)with _|l'
   .have e1:=hq▸e1;rcases e1 with _|_
   .rw[hq]at e1;show(turn ⟨(st i).H,l'⟩).bind _=_;exact(show turn ⟨(st i).H,l'⟩=some (oE i)from e1)▸(q8.1 i)
 exact key r [] st rfl h0
theorem Lp{rs:Scope}{eh:V->St->Option Loc}{turn:Nat->uJ}{xs:List Nat×List V}(h:a st=some (.ok v,st1))(hl:st1.loc=st.loc)(hi:o9 v st1.H=some xs)(hc:sU (o9 v) xs eh (turn st1.H.length) xs.2 ⟨st1.H++[.list []],Nt rs st.loc⟩=some st2):rP a rs eh turn st=some (.ok<|.ref st1.H.length,⟨st2.H,st.loc⟩):=by unfold rP;rw[B4 h hl];simp[hi];rw[hc];rfl
end
section
variable{fu n b K:Nat}{A:E3}{rv u:V}{po nf:Int}{ns:List Str}{p:Str->Int}{sc:Str->List Str}{H:Hp}
theorem tJ.freeze(R:tJ b A none rv po nf ns p sc H)(ep):tJ b A (some ep) rv po nf ns p sc (H.set A.m<|.o0 (pB A ns) ep)where
 hs:=oU R.hm R.hs λe=>by injection e
 hd:=oU R.hm R.hd<|BS R
 hm:=rD R.hm
 hn y hy:=oU R.hm (R.hn y hy) λe=>by injection e
 wH y hy:=by
  refine qI (λe=>?_)<|R.wH y hy;have h1:=R.hm;simp only[e,R.wH y hy]at h1;rcases ns with _|⟨z,l⟩
  .simp at hy
  .injection(diI<|aA h1)
 hl y hy:=oU R.hm (R.hl y hy) λe=>by injection e
 inj:=R.inj
 nd:=R.nd
 ls:=R.ls
 Nz:=R.Nz
 lm:=R.lm
 ln:=R.ln
theorem Vv:oG (oL fu<|n+1) fu 129 [u] [] H=pN (Vl fu n ⟨H,[("self",u)]⟩):=
 Au RC (by rfl')
theorem ED{q:r8 V×Hp}(h:oG (oL fu n) fu 164 [u] [] H=some q):oZ (oL fu n) fu (.top 164) [u] [] H=some q:=vB<|(by rfl':_=oG (oL fu n) fu 164 [u] [] H).trans h
theorem NH{l:List EF}{vs:List V}{st st1:St}(h:L2 l st=some (.ok vs,st1))(hb:vs.length<big):rzc l st=some (.exc<|.top 92,st1):=oM.ex<|(oM.at h).trans<|aH hb
theorem K8{a c:V}:[a,c].length<big:=by show 2<big;decide
def zeros(p:Str->Int)(ns:List Str):List Str:=ns.filter λx=>p x==0
theorem RT(R:tJ b A none .none po nf ns p sc H)(hN:ns.length<800)(Ii:∀x,∀y∈sc x,y∈ns)(hK:∀x,(sc x).length<=K)(Dy:ns.length*(K+1)<fu):
 ∃r rr H',oZ (oL fu<|n+2) fu (.top 129) [.ref A.s] [] H=some (r,H')/\tJ b A none (.ref rr) po nf ns p sc H'/\H'[rr]?=some (.list<|(zeros p ns).map .str)/\(∀x∈ns,A.ld x≠rr)/\b<=rr/\qW b H H'/\((r=.ok .none/\GO sc ns)\/(r=.exc (.top 92)/\Cyc sc ns)):=by
 exists fu,n,b,K,A,po,nf,ns,p,sc,H,_;have hlen:∀ep,(H.set A.m<|.o0 (pB A ns) ep).length=H.length:=λep=>eQ;have RF:=λep=>R.freeze ep;obtain⟨oE,ec,loc,xO⟩:=Wz (α:=Str) (f:=λx=>.ref<|A.ad x) (it:=o9<|.ref<|H.length+0) (ks:=λep=>[5,A.m,ep]) (asg:=Bo "i") (turn:=uF (tc (ab (lo "i") "npredecessors") (ct<|.int 0) .Eq)<|qN (ab (lo "i") "node")<|H.length+1) (r:=ns)
  (I:=λdone st=>∃loc,st=Um (λep=>H.set A.m<|.o0 (pB A ns) ep) [.vals A.m,.list<|(zeros p done).map .str] loc)
  (λd st q9 ep=>by obtain⟨loc,xO⟩:=q9;subst xO;exact(gu (rX (T:=[.vals A.m,.list<|(zeros p d).map .str]) (hlen ep) rfl)<|oJ (RF ep).hm).trans (by unfold pB;rw[bX];rfl))
  (λdone w rest st hd q9=>by
   obtain⟨loc,xO⟩:=q9;subst xO;have hw:w∈ns:=by rw[hd];exact aW _<|.head _
   have WV:done.length<=ns.length:=by simp only[hd,aG];exact aT done.length (w::rest).length
   have ht:∀ep,tc (ab (lo "i") "npredecessors") (ct<|.int 0) .Eq ⟨H.set A.m (.o0 (pB A ns) ep)++[.vals A.m,.list<|(zeros p done).map .str],put "i" (.ref<|A.ad w) loc⟩=some (.ok<|p w==0,⟨H.set A.m (.o0 (pB A ns) ep)++[.vals A.m,.list<|(zeros p done).map .str],put "i" (.ref<|A.ad w) loc⟩):=λep=>
    pJ (ji (oB oX)<|atB<|Me (v:=.int<|p w) (oJ<|(RF ep).hn w hw) (oJ<|(RF ep).wH w hw) rfl rfl rfl) oH Tk
   refine⟨Um (λep=>H.set A.m<|.o0 (pB A ns) ep) [.vals A.m,.list<|(zeros p<|done++[w]).map .str]<|put "i" (.ref<|A.ad w) loc,λep=>?_,_,rfl⟩;have hz:zeros p (done++[w])=zeros p done++zeros p [w]:=dR ..;cases hc:p w==0 with
   |true=>
    rw[hc]at ht;have h1:zeros p [w]=[w]:=by unfold zeros;rw[bR<|by exact hc];rfl
    refine nj (ht ep) rfl<|(zH (ji (oB oX)<|atB<|Me (v:=.str w) (oJ<|(RF ep).hn w hw) (oJ<|(RF ep).wH w hw) rfl rfl rfl) rfl (rX (T:=[.vals A.m,.list<|(zeros p done).map .str]) (hlen ep) rfl) (by have:=(λl=>by rw[aF];exact cU _ _:∀l:List Str,((zeros p l).map V.str).length<=l.length) done;unfold big;exact lk<|aC this<|aC WV hN)).trans ?_;rw[vE<|hlen ep,hz,h1,bE];rfl
   |false=>
    rw[hc]at ht;have h1:zeros p [w]=[]:=by unfold zeros;rw[bN<|by exact hc▸bV];rfl
    refine(ng (ht ep) rfl).trans ?_;rw[hz,h1,bF];rfl)
  (st:=Um (λep=>H.set A.m<|.o0 (pB A ns) ep) [.vals A.m,.list []] []) ⟨[],rfl⟩
 subst xO;have Rp:∀ep,((H.set A.m (.o0 (pB A ns) ep)++[AO.vals A.m,.list<|(zeros p ns).map V.str]).set A.d0<|.dict<|tO A.m (.ref<|H.length+1) po nf).length=H.length+2:=λep=>by simp only[eQ,aG,hlen ep];rfl
 exists v,T,(q_:WU (fu:=fu) (n:=n) (λep=>((RF ep).app [AO.vals A.m,.list<|(zeros p ns).map V.str]).attr (.ref<|H.length+1) po nf) Rp hN Ii hK Dy);obtain⟨e2,hv⟩:=q_;have hd0:=qM R.hd;have hml:=qM R.hm;have go:∀ep z,vq fu (n+1) ⟨(H.set A.m (.o0 (pB A ns) ep)++[AO.vals A.m,.list<|(zeros p ns).map V.str]).set A.d0 (.dict<|tO A.m (.ref<|H.length+1) po nf)++T,[("self",.ref A.s),("cycle",v)]⟩=z->Vl fu (n+1) ⟨H.set A.m<|.o0 (pB A ns) ep,[("self",.ref A.s)]⟩=z:=λep z hz=>by
  refine oQ (sQ (pJ (v:=.none) (w:=.none) (sA (oB rfl)<|(RF ep).at rfl rfl rfl) oH rfl) rfl) ?_;have R1:=(RF ep).app [AO.vals A.m,.list<|(zeros p ns).map V.str];have c1:rP (mq (ab (lo "self") "_node2info") "values" []) Wn (Bo "i") (λj=>uF (tc (ab (lo "i") "npredecessors") (ct<|.int 0) .Eq)<|qN (ab (lo "i") "node") j) ⟨H.set A.m<|.o0 (pB A ns) ep,[("self",.ref A.s)]⟩=some (.ok<|.ref<|H.length+1,⟨H.set A.m (.o0 (pB A ns) ep)++[AO.vals A.m,.list<|(zeros p ns).map V.str],[("self",.ref A.s)]⟩):=by
   have a1:mq (ab (lo "self") "_node2info") "values" [] ⟨H.set A.m<|.o0 (pB A ns) ep,[("self",.ref A.s)]⟩=some (.ok<|.ref (H.set A.m<|.o0 (pB A ns) ep).length,⟨H.set A.m (.o0 (pB A ns) ep)++[.vals A.m],[("self",.ref A.s)]⟩):=
    Fx (ji (oB rfl)<|atB<|JJ (v:=.ref A.m) (RF ep).hs (RF ep).hd rfl rfl rfl) (ri (RF ep).hm) C3 rfl (qf (RF ep).hm)
   refine(Lp a1 rfl
    (xs:=([5,A.m,ep],ns.map λx=>.ref<|A.ad x)) ((gu pR<|oJ (RF ep).hm).trans (by unfold pB;rw[bX];rfl)) (st2:=⟨H.set A.m (.o0 (pB A ns) ep)++[AO.vals A.m,.list<|(zeros p ns).map V.str],loc⟩) ?_).trans ?_
   .have:=ec ep;simp[aG,hlen ep];exact this
   .rw[aG,hlen ep];rfl
  have R2:=R1.attr (.ref<|H.length+1) po nf;exact oQ (z5 c1 (oB rfl)<|Gh R1.hs R1.hd rfl<|c5 rfl)
   (oQ (pE<|rB (oB rfl) (Ds R2.hs R2.hd rfl rfl) C3 rfl<|ED<|e2 ep) hz)
 have HD:∀ep,(H.set A.m (.o0 (pB A ns) ep)++[AO.vals A.m,.list<|(zeros p ns).map V.str]).set A.d0 (.dict<|tO A.m (.ref<|H.length+1) po nf)++T=((H++[AO.vals A.m,.list<|(zeros p ns).map V.str]).set A.d0 (.dict<|tO A.m (.ref<|H.length+1) po nf)++T).set A.m (.o0 (pB A ns) ep):=λep=>by symm;rw[gK _ _ (show A.m<((H++[AO.vals A.m,.list<|(zeros p ns).map V.str]).set A.d0<|.dict<|tO A.m (.ref<|H.length+1) po nf).length by simp[eQ,aG];exact Nat.lt_add_right 2 hml),List.set_comm _ _ (Os R.hm R.hd<|BS R).symm,gK _ _ hml]
 have R3:tJ b A none (.ref<|H.length+1) po nf ns p sc<|(H++[AO.vals A.m,.list<|(zeros p ns).map V.str]).set A.d0 (.dict<|tO A.m (.ref<|H.length+1) po nf)++T:=((R.app _).attr (.ref<|H.length+1) po nf).app T;have hm3:((H++[AO.vals A.m,.list<|(zeros p ns).map V.str]).set A.d0 (.dict<|tO A.m (.ref<|H.length+1) po nf)++T)[A.m]?=some (.dict<|pB A ns):=R3.hm;have acl:((H++[AO.vals A.m,.list<|(zeros p ns).map V.str]).set A.d0 (.dict<|tO A.m (.ref<|H.length+1) po nf)++T).set A.m (.dict<|pB A ns)=(H++[AO.vals A.m,.list<|(zeros p ns).map V.str]).set A.d0 (.dict<|tO A.m (.ref<|H.length+1) po nf)++T:=by
  refine mZ λj=>?_;by_cases hj:A.m=j
  .subst hj;simp[eU<|qM hm3,hm3]
  .rw[dB hj]
 have hfz:Jr A.s H=some (A.m,pB A ns):=by unfold Jr;rw[Gu R.hs R.hd,bY,aH rfl];show(dE H A.m).map _=_;rw[O7 R.hm];rfl
 have fin:∀r,(∀ep,oG (oL fu<|n+2) fu 129 [.ref A.s] [] (H.set A.m<|.o0 (pB A ns) ep)=some (r,(H.set A.m (.o0 (pB A ns) ep)++[AO.vals A.m,.list<|(zeros p ns).map V.str]).set A.d0 (.dict<|tO A.m (.ref<|H.length+1) po nf)++T))->oZ (oL fu<|n+2) fu (.top 129) [.ref A.s] [] H=some (r,(H++[AO.vals A.m,.list<|(zeros p ns).map V.str]).set A.d0 (.dict<|tO A.m (.ref<|H.length+1) po nf)++T):=λr hr=>
  vB ((show _=Zy (oL fu<|n+2) fu A.s H from by rfl').trans<|(SJ hfz (qM hm3) λep=>(hr ep).trans<|by rw[HD ep]).trans<|by rw[acl])
 have hrr:((H++[AO.vals A.m,.list<|(zeros p ns).map V.str]).set A.d0 (.dict<|tO A.m (.ref<|H.length+1) po nf)++T)[H.length+1]?=some (.list<|(zeros p ns).map V.str):=oJ<|qI (ktu_ne 1 hd0)<|rX rfl rfl;have sJ:=λx hx=>by have:=qM<|R.hl x hx;exact ktu_ne 1 this
 have hb:=R.len;have LC:qW b H<|(H++[AO.vals A.m,.list<|(zeros p ns).map V.str]).set A.d0 (.dict<|tO A.m (.ref<|H.length+1) po nf)++T:=((qW.refl.app hb).set R.Nz).app (by simp[eQ];exact dG hb);rcases hv with⟨rfl,hF⟩|⟨j,xs,rfl,h1,h2,h3,h4⟩
 .exact⟨_,_,_,fin _ (λep=>by simp[Vv,go ep _<|sQ (Kq (oB rfl) rfl) rfl];rfl),R3,hrr,sJ,by lia,LC,.inl ⟨rfl,hF⟩⟩
 .refine⟨_,_,_,fin _ λep=>?_,R3,hrr,sJ,by lia,LC,.inr ⟨rfl,h4⟩⟩;simp[Vv,go ep (some (.exc<|.top 92,⟨_,_⟩))<|v9 (Kq (oB rfl)<|(Ga (rX (Rp ep) h1) h3).trans<|by rw[(by induction xs with|nil=>exact absurd rfl h2|cons=>rfl:(!xs.isEmpty)=true)])<|NH (ed oH<|tF<|oB rfl) K8];rfl
end
theorem DL{ns:List Str}:ns.Pairwise λa b=>∃i j:Nat,ns[i]?=some a/\ns[j]?=some b/\i<j:=
 dC.mpr λi j hi hj Nf=>⟨i,j,aP hi,aP hj,Nf⟩
theorem w6:x6 E x=0<->∀e∈E,e.1≠x:=by
 constructor
 .exact Gk
 .intro h;unfold x6;rw[b8.mpr λe he q=>h e he<|eq_of_beq q];rfl
theorem OM{p:Str->Int}(hn:ns.Nodup)(hp:∀x,p x=x6 E x):Hl E [] (zeros p ns) p/\qR E ns [] (zeros p ns):=by
 have h0:∀x,(p x==0)=true<->x6 E x=0:=λx=>by rw[hp,a5];exact Int.ofNat_eq_zero
 have hz:zeros p ns=ns.filter (wW E []):=mJ λx U=>by rw[eO,h0,uG,w6];exact⟨λh=>⟨bG,λe he hx=>absurd hx<|h e he⟩,λh e he hx=>nomatch h.2 e he hx⟩
 have hm:∀x∈zeros p ns,x6 E x=0:=λx hx=>(h0 x).mp (dT.mp hx).2;refine⟨⟨hn.filter _,λe U h=>absurd h<|bG,λe he h=>absurd rfl<|Gk (hm _ h) e he,λy U=>?_⟩,⟨by rw[hz],?_⟩⟩
 .have:Eu E [] y=0:=by unfold Eu;rw[b8.mpr λe U=>by simp];rfl
  simp only[hp,this];exact Int.neg_inj.mp rfl
 .have h1:=(DL (ns:=ns)).filter λx=>p x==0;refine gX (λ{a b}ha hb qq=>?_) h1;obtain⟨i,j,h2,h3,h4⟩:=qq;exact⟨((-1,-1),i),((-1,-1),j),⟨.inl ⟨rfl,hm a ha⟩,i,h2,rfl⟩,⟨.inl ⟨rfl,hm b hb⟩,j,h3,rfl⟩,a6 (aH<|bM _)<|b7<|iM.mpr h4⟩
inductive wC(E:rE)(ns:List Str):List Str->List (List Str)->List Str->Prop
 |nil {O}:(∀x∈ns,wW E O x=false)->wC E ns O [] O
 |cons {O R RS O'}:R≠[]->qR E ns O R->wC E ns (O++R) RS O'->wC E ns O (R::RS) O'
theorem qR.nodup(hn:ns.Nodup)(h:qR E ns O R)(hO:O.Nodup):(O++R).Nodup:=
 cH.mpr ⟨hO,h.perm.nodup_iff.mpr<|hn.filter _,λa ha b hb e=>(h.mem.mp hb).2.1<|e▸ha⟩
theorem T7(h:wC E ns O RS O')(hn:ns.Nodup)(hO:O.Nodup)(hs:∀x∈O,x∈ns):O'.Nodup/\(∀x∈O',x∈ns)/\∀x∈ns,wW E O' x=false:=by
 induction h with
 |nil h=>exact⟨hO,hs,h⟩
 |cons _ hR _ ih=>exact ih (hR.nodup hn hO) λx hx=>(aO.mp hx).elim (hs x) λq=>(hR.mem.mp q).1
theorem Tp{C:List Str}(h:wC E ns O RS O')(hC:∀x∈C,∃y∈C,(x,y)∈E)(h0:∀x∈C,x∉O):∀x∈C,x∉O':=by
 induction h with
 |nil _=>exact h0
 |cons _ hR _ ih=> refine ih λx hx q=>(aO.mp q).elim (h0 x hx) λq=>?_;obtain⟨y,q8⟩:=hC x hx;exact h0 y q8.1<|(hR.mem.mp q).2.2 _ q8.2 rfl
theorem zR{x y:Str}:x∈tG E y<->(x,y)∈E:=by
 unfold tG;rw[cA];constructor
 .rintro⟨⟨a,b⟩,h1,h2⟩
  have q8:=dT.mp h1;have h5:=eq_of_beq q8.2;subst h5;subst h2;exact q8.1
 .exact λh=>⟨(x,y),dT.mpr ⟨h,bM y⟩,rfl⟩
theorem vh{O:List Str}(F:GO (tG E) ns)(hE:∀e∈E,e.1∈ns/\e.2∈ns)(hr:∀x∈ns,x∉O->∃e∈E,e.1=x/\e.2∉O):∀x∈ns,x∈O:=by
 obtain⟨fin,hf,T⟩:=F;have key:∀k x,x∈ns->fin.length<=k+fin.idxOf x->x∈O:=by
  exists k;induction k with
  |zero=> intro x hx h;have:=c0.mpr<|hf x hx;lia
  |succ k ih=>
   intro x hx h;refine dY λhO=>?_;obtain⟨⟨x',z⟩,he,rfl,hz⟩:=hr x hx hO;have hzn:=(hE _ he).2;refine hz<|ih z hzn ?_;have vO:=c0.mpr<|hf z hzn;have hsp:fin=fin.take (fin.idxOf z)++z::fin.drop (fin.idxOf z+1):=by have:=lF (fin.idxOf z) fin;rw[dZ vO,j0 vO]at this;exact this.symm
   have ei:=T _ z _ hsp x'<|zR.mpr he;have:fin.idxOf x'<fin.idxOf z:=by
    have h1:fin.idxOf x'=(fin.take<|fin.idxOf z).idxOf x':=by
     conv=>lhs;rw[hsp]
     rw[List.idxOf_append,aH ei]
    rw[h1];have:=c0.mpr ei;simp only[fQ]at this;grind
   exact lk<|aC this h
 exact λx hx=>key fin.length x hx<|aT _ _
theorem Ze(h:wC E ns [] RS O')(hn:ns.Nodup)(hE:∀e∈E,e.1∈ns/\e.2∈ns):(GO (tG E) ns->¬O'.length<ns.length)/\(Cyc (tG E) ns->O'.length<ns.length):=by
 have q8:=T7 h hn .nil<|bH _;constructor
 .intro F;have:=vh F hE λx hx hO=>dY λhno=>by have h4:=q8.2.2 x hx;replace h4:=(uG.mpr ⟨hO,λe he hex=>dY λq=>hno ⟨e,he,hex,q⟩⟩)▸h4;rcases h4 with _|_
  have:=uS hn this;exact gF.mpr this
 .rintro⟨C,sJ,hC,hc⟩
  have h4:=Tp h (λx hx=>by obtain⟨y,hy,hxy⟩:=hc x hx;exact⟨y,hy,zR.mp hxy⟩) λx U=>bG;rcases C with _|⟨c,C⟩
  .exact absurd rfl sJ
  .exact uS (c7.mpr ⟨h4 c<|.head _,q8.1⟩) λx hx=>(aK.mp hx).elim (λq=>by rw[q];exact hC c<|.head _)<|q8.2.1 x
theorem BY{α:Type}[Inhabited α]{L:List α}{kf:α->(Int×Int)×Int}{rf:α->V}(hn:(L.map kf).Nodup):∃R:List α,R.Perm L/\R.Pairwise (λa b=>t4 (kf a) (kf b)=true)/\yJ (L.map kf) (L.map rf)=R.map rf:=by
 exists α,_;exists L,kf,rf,_;unfold yJ;rw[aF];by_cases h2:L.length<2
 .refine⟨L,.refl _,?_,by rw[aH h2]⟩;rcases L with _|⟨a,L⟩
  .exact .nil
  ·(rcases L with _|⟨b,L⟩;(exact iF _ _);(exact absurd h2<|by simp))
 .rw[aL h2];have O:eg L.length λi j=>t4 ((L.map kf).getD i default)<|(L.map kf).getD j default:=⟨λa b c h h'=>Fc.tr h h',λa=>Fc.ir _,λa b ha hb sJ=>by
   refine Fc.x6 λe=>sJ ?_;have Qz:a<(L.map kf).length:=by rw[aF];exact ha
   have WD:b<(L.map kf).length:=by rw[aF];exact hb
   simp only[c9,aP Qz,aP WD]at e;exact(j5 Qz hn).mp (by simp only[aP Qz,aP WD];exact aV some e)⟩
  have q8:=ba O<|dU ‹_›;generalize s9 (λi j=>t4 ((L.map kf).getD i default)<|(L.map kf).getD j default) (kas_sort L.length)=q at*;have vO:∀i∈q.toList,i<L.length:=λi hi=>cJ.mp<|(List.Perm.mem_iff q8.1).mp hi;refine⟨q.toList.map λi=>L.getD i default,?_,?_,?_⟩
  .have h3:L=(List.range L.length).map λi=>L.getD i default:=by
    refine mZ ?_;exists i;rw[bD];by_cases hi:i<L.length
    .rw[eT hi];show _=some (L.getD i default);simp only[c9,aP hi];rfl
    .refine a6 (lG<|by omega) ?_;rw[lG (by rw[cG];omega)];rfl
   have:=q8.1.map λi=>L.getD i default;simp only[<-h3]at this;exact this
  .rw[iP];refine dC.mpr ?_;exists i,j;intro hi hj Nf;have h4:=q8.2 i j Nf<|(q8.1.size)▸eS▸hj;have e1:∀k hk,r7 q k=q.toList[k]:=λk hk=>X8<|eS▸hk;rw[e1 i hi,e1 j hj]at h4;have e2:∀k,k<L.length->(L.map kf).getD k default=kf (L.getD k default):=λk hk=>by simp only[c9,bD,aP hk];rfl
   simp only[e2 _<|vO _<|gM hi,e2 _<|vO _<|gM hj]at h4;exact h4
  .rw[bX];refine dN ?_;exists i;intro hi;show(L.map rf).getD i .none=rf (L.getD i default);simp only[c9,bD,aP<|vO i hi];rfl
theorem Uy{α:Type}[Inhabited α]{H:Hp}{i:Nat}{L:List α}{kf:α->(Int×Int)×Int}{rn pn:α->Nat}{nm:α->Str}(h:H[i]?=some (.list<|L.map λx=>V.ref<|rn x))(h1:1<=L.length)(h2:L.length<64)(hn:(L.map kf).Nodup)
 (ht:∀x∈L,H[rn x]?=some (.tuple [.ref<|pn x,.int (kf x).2,.str<|nm x])/\H[pn x]?=some (.tuple [.int (kf x).1.1,.int (kf x).1.2])):
 ∃R:List α,R.Perm L/\R.Pairwise (λa b=>t4 (kf a) (kf b)=true)/\xB i H=some (.ok<|.ref H.length,H++[.list<|R.map λx=>V.ref<|rn x]):=by
 have hk:∀x∈L,Kg H (.ref<|rn x)<|kf x:=λx hx=>⟨_,_,_,rfl,ht x hx⟩;have e:(L.map λx=>V.ref<|rn x).map (Er H)=L.map kf:=by exact a6 bX<|dN λx hx=>Xn<|hk x hx
 obtain⟨R,q8⟩:=BY hn;refine⟨R,q8.1,q8.2.1,?_⟩;delta xB lE;rw[h];show @ite _ _ (_) _ _=_;rw[e,aH ⟨⟨by rw[aF];exact h1,by rw[aF];exact h2⟩,List.forall_mem_map.mpr λx hx=>⟨_,hk x hx⟩,hn⟩,q8.2.2]
theorem Xy:rK a b=true<->a.1>b.1\/(a.1=b.1/\a.2>b.2):=by
 unfold rK;by_cases e:a.1=b.1
 .rw[aH<|e▸bM _,decide_eq_true_iff];exact⟨λh=>.inr ⟨e,h⟩,λh=>h.elim (λq=>absurd e<|Int.ne_of_gt q) And.right⟩
 .rw[aL λq=>e<|eq_of_beq q,decide_eq_true_iff];exact⟨.inl,λh=>h.elim id λq=>absurd q.1 e⟩
def Sb(P:List<|Int×Int)(b:Int×Int):Int×Int:=P.foldl (λb q=>if rK q b=true then q else b) b
theorem DG:∀{P:List (Int×Int)}{b:Int×Int},(Sb P b=b\/Sb P b∈P)/\∀a∈b::P,a=Sb P b\/rK (Sb P b) a=true:=by
 exists zr;induction zr with
 |nil=> exact⟨.inl rfl,λa ha=>.inl<|aE.mp ha⟩
 |cons q P pD=>
  exists q,P,[pD];exists b;have e:Sb (q::P) b=Sb P (if rK q b=true then q else b):=rfl;obtain⟨h1,h2⟩:=pD;rw[<-e]at h1 h2;generalize Sb (q::P) b=m at*;have tr:∀{a c d:Int×Int},rK a c=true->rK c d=true->rK a d=true:=λh h'=>ky.tr h h';have h3:=h2 _<|.head _;by_cases hg:rK q b=true
  .rw[aH hg]at h1 h2 h3;refine⟨.inr<|h1.elim (λx=>by rw[x];exact .head _) λx=>.tail _ x,?_⟩;exists a;intro ha;rcases aK.mp ha with rfl|ha
   .exact .inr (h3.elim (λx=>by exact x▸hg) λx=>tr x hg)
   .exact h2 a ha
  .rw[aL hg]at h1 h2 h3;refine⟨h1.imp id λx=>.tail _ x,?_⟩;exists a;intro ha;rcases aK.mp ha with rfl|ha
   .exact h2 _ (.head _)
   .rcases aK.mp ha with rfl|ha
    .have hle:a=b\/rK b a=true:=by
      by_cases e1:a=b
      .exact .inl e1
      .exact .inr ((ky.x6 e1).resolve_left hg)
     rcases hle with rfl|hle
     .exact h3
     .exact .inr (h3.elim (λx=>by exact x▸hle) λx=>tr x hle)
    .exact h2 a (.tail _ ha)
def tS(E:rE)(x:Str):List Nat:=(List.range E.length).filter λk=>((E[k]?).map (·.1))==some x
theorem wJ:k∈tS E x<->∃z,E[k]?=some (x,z):=by
 unfold tS;rw[dT,cJ];constructor
 .rintro⟨h,e⟩
  rw[aP h]at e;have:=eq_of_beq e;exact⟨(E[k]).2,by refine a6 (aP h) ?_;exact aV some<|fM (aA this) rfl⟩
 .rintro⟨z,h⟩
  exact⟨(aU.mp h).1,by rw[h];exact bM _⟩
def pairsOf(E:rE)(O:List Str)(x:Str):List<|Int×Int:=(tS E x).map λ(k:Nat)=>(((((E[k]?).map λ(e:Str×Str)=>O.idxOf e.2).getD 0:Nat):Int),(k:Int))
theorem zo{x:Str}(hO:O.Nodup)(hx:∀e∈E,e.1=x->e.2∈O):gk E O x<|Sb (pairsOf E O x) (-1,-1):=by
 exists E,O,x,_;obtain⟨h1,h2⟩:=DG;generalize Sb (pairsOf E O x) (-1,-1)=q at*;have hp:∀(k:Nat)z,E[k]?=some (x,z)->((O.idxOf z:Int),(k:Int))∈pairsOf E O x:=λk z h=>cA.mpr ⟨k,wJ.mpr ⟨z,h⟩,by rw[h];rfl⟩;have hq:∀a∈pairsOf E O x,∃(k:Nat)(z:Str),E[k]?=some (x,z)/\a=((O.idxOf z:Int),(k:Int)):=λa ha=>by exists a,_;exists k,(q_:cA.mp ha);obtain⟨hk,rfl⟩:=q_;exists z,(hz:wJ.mp hk);exact⟨k,z,hz,by rw[hz];rfl⟩
 by_cases hn:pairsOf E O x=[]
 .rw[hn]at h1;refine .inl ⟨h1.elim id λh=>absurd h<|bG,w6.mpr ?_⟩;exists e;intro he hex;exists k,(hk:cE he);have:=hp k e.2 (by simp[hk,<-hex]);replace this:=hn▸this;cases this
 .have hqm:q∈pairsOf E O x:=by
   refine h1.elim (λh=>?_) id;exists a,(ha:List.exists_mem_of_ne_nil _ hn);exists k,z,(q_:hq a ha);obtain⟨x7,rfl⟩:=q_;rcases h2 _ (.tail _ ha)with e|e
   .simp only[h]at e;have:=aV (·.2) e;contradiction
   .rw[h,Xy]at e;omega
  exists k,z,(q_:hq q hqm);obtain⟨hz,rfl⟩:=q_;have hi:O[O.idxOf z]?=some z:=by have vO:=c0.mpr<|hx _ (aR hz) rfl;simp[aP vO]
  refine .inr ⟨O.idxOf z,k,rfl,vY.mpr ⟨_,z,(dF _).symm,hi,hz⟩,?_⟩;exists t';intro ht';obtain⟨i',k'⟩:=t';exists i',k',_;exists j,z',(q_:vY.mp ht');obtain⟨e1,q8⟩:=q_;simp only[dF]at e1;subst e1;have hj:O.idxOf z'=i':=by have vO:=c0.mpr<|aR q8.1;refine(j5 vO hO).mp ?_;simp[aP vO,q8.1]
  have hm:=h2 _<|.tail _<|hp k' z' q8.2;rw[hj]at hm;rcases hm with e|e
  .have a1:=aV (·.1) e;have a2:=aV (·.2) e;dsimp only at a1 a2;left;simp[j8.mp a1,j8.mp a2]
  .rw[Xy]at e;dsimp only at e;right;dsimp only[Rs];grind
theorem FM(h:(rs.names.lookup x==some .cell)=true):∀{l:Loc},lz (Nt rs l) x=lz l x:=by
 exists zr;induction zr with
 |nil=> exact rfl
 |cons zh l pD=>
  obtain⟨y,v⟩:=zh;have ih:=pD;show List.lookup x (List.filter (λp=>rs.names.lookup p.1==some .cell) ((y,v)::l))=(match x==y with|true=>some v|false=>List.lookup x l);rcases hy:x==y with _|_
  .by_cases hc:(rs.names.lookup y==some .cell)=true
   .rw[bR<|by exact hc];show(match x==y with|true=>some v|false=>_)=_;rw[hy];exact ih
   .rw[bN<|by exact hc];exact ih
  .have:=eq_of_beq hy;subst this;rw[bR<|by exact h];show(match x==x with|true=>some v|false=>_)=some v;rw[bM]
theorem Eg(h1:rd 3 a H=some da)(h2:rd 3 c H=some dc)(c1:da.canLay0=true)(c2:dc.canLay0=true):sZ .Eq a c H=some (.bool<|PyData.eqv da dc)/\sZ .NotEq a c H=some (.bool (!PyData.eqv da dc)):=by constructor<;>(delta sZ Bk;dsimp only;exact(by unfold eqV;exact h1▸h2▸aH (by simp only[c1,c2];rfl):eqV a c H=some (PyData.eqv da dc))▸rfl)
theorem vP(h:H[i]?=some (.list xs))(hd:tT (λv=>rd n v H) xs=some ds):rd (n+1) (.ref i) H=some (.list ds):=by show(lE H i).elim ((tE H i).bind λxs=>(tT (λv=>rd n v H) xs).bind λds=>some<|PyData.tuple ds) (λxs=>(tT (λv=>rd n v H) xs).bind λds=>some<|PyData.list ds)=_;rw[uE h];show(tT (λv=>rd n v H) xs).bind _=_;rw[hd];rfl
theorem Bg(h:H[i]?=some (.tuple xs))(hd:tT (λv=>rd n v H) xs=some ds):rd (n+1) (.ref i) H=some (.tuple ds):=by show(lE H i).elim ((tE H i).bind λxs=>(tT (λv=>rd n v H) xs).bind λds=>some<|PyData.tuple ds) (λxs=>(tT (λv=>rd n v H) xs).bind λds=>some<|PyData.list ds)=_;rw[(by unfold lE;rw[h];rfl:lE H i=none),(by unfold tE;rw[h];rfl:tE H i=some xs)];show(tT (λv=>rd n v H) xs).bind _=_;rw[hd];rfl
theorem tY{α:Type}{f:α->V}{g:α->PyData}:∀{l:List α},(∀x∈l,rd n (f x) H=some (g x))->tT (λv=>rd n v H) (l.map f)=some (l.map g):=by
 exists zr;induction zr with
 |nil=> intro x7;exact rfl
 |cons x l pD=> intro h;show(rd n (f x) H).bind _=_;rw[h x<|.head _];rw[pD λy hy=>h y<|.tail _ hy];rfl
theorem Bi{α:Type}{g:α->PyData}:∀{l:List α},(∀x∈l,(g x).canLay0=true)->PyData.canLayAll0 (l.map g)=true:=by
 intro zr;induction zr with
 |nil=> intro _;exact rfl
 |cons x l pD=> intro h;show(_&&_)=true;simp only[h x<|.head _,pD λy hy=>h y<|.tail _ hy];rfl
theorem Mr:PyData.eqv (.list ds) (.list [])=ds.isEmpty:=by
 rcases ds with _|⟨d,ds⟩
 .rfl
 .exact PySem.SeqAt.eqvAll_other_length (by simp)
theorem Fe:((H++(a::M))++L).set H.length b=H++(b::(M++L)):=by rw[aJ,dO _ _<|aI _,cD];rfl
theorem Hx:(H++(a::M))[H.length]?=some a:=rX rfl (j:=0) rfl
theorem Mu:(H++(a::M)).length=H.length+1+M.length:=by simp[aG];exact nK<|j6 (List.length H)<|List.length M
section
variable{α:Type}
def CL(rs:Scope)(y:Str)(loc loc':Loc):Prop:=∀z,(z==y)=false->(rs.names.lookup z==some .cell)=true->lz loc' z=lz loc z
theorem CL.put{w:V}(h:CL rs y loc l'):CL rs y loc<|put y w l':=λz hz hc=>(oR hz).trans<|h z hz hc
theorem Cj{turn:Nat->uJ}{a:EF}{I:List α->Hp->List V->Prop}(h:a ⟨H0,loc⟩=some (.ok v,⟨H1,loc⟩))(hi:∀L,o9 v (H1++L)=some (ks,r.map f))(h0:I [] [] [])
 (step:∀done w rest M xs loc',r=done++w::rest->I done M xs->CL rs y loc loc'->lz loc' y=some (f w)->
  ∃M' VQ l',turn H1.length ⟨H1++(.list xs::M),loc'⟩=some ⟨H1++(.list VQ::M'),l'⟩/\CL rs y loc l'/\I (done++[w]) M' VQ):
 ∃M xs,rP a rs (Bo y) turn ⟨H0,loc⟩=some (.ok<|.ref H1.length,⟨H1++(.list xs::M),loc⟩)/\I r M xs:=by
 exists _;obtain⟨oE,ec,M,xs,loc',xO,hc,hI⟩:=Wz (asg:=Bo y)
  (I:=λdone st=>∃M xs loc',st=(λU=>⟨H1++(.list xs::M),loc'⟩)/\CL rs y loc loc'/\I done M xs)
  (λd st q9 U=>by obtain⟨M,xs,loc',xO,_⟩:=q9;subst xO;exact hi _)
  (λdone w rest st hd q9=>by obtain⟨M,xs,loc',xO,hc,hI⟩:=q9;exists _;subst xO;obtain⟨M',VQ,l',q8⟩:=step done w rest M xs (put y (f w) loc') hd hI hc.put oX;exact k9 ⟨λU=>⟨H1++(.list VQ::M'),l'⟩,λU=>q8.1,M',VQ,_,rfl,q8.2.1,q8.2.2⟩)
  ⟨[],[],_,rfl,λz U hc=>FM hc,h0⟩
 subst xO;exact k9 ⟨M,xs,Lp h rfl (by have:=hi [];rw[bF]at this;exact this)<|ec 0,hI⟩
theorem Of{r:List α}{g:α->V}(h:a ⟨H0,loc⟩=some (.ok v,⟨H1,loc⟩))(hi:∀L,o9 v (H1++L)=some (ks,r.map f))(hz:r.length<big)
 (ht:∀w∈r,∀L loc',CL rs y loc loc'->lz loc' y=some (f w)->t ⟨H1++L,loc'⟩=some (.ok<|p w,⟨H1++L,loc'⟩)/\(p w=true->e ⟨H1++L,loc'⟩=some (.ok<|g w,⟨H1++L,loc'⟩))):
 rP a rs (Bo y) (λj=>uF t<|qN e j) ⟨H0,loc⟩=some (.ok<|.ref H1.length,⟨H1++[.list<|(r.filter p).map g],loc⟩):=by
 obtain⟨M,xs,e,hM,hx⟩:=Cj (turn:=λj=>uF t<|qN e j) (I:=λdone M xs=>M=[]/\xs=(done.filter p).map g) h hi ⟨rfl,rfl⟩
  (λdone w rest M xs loc' hd q9 hc hl=>by
   obtain⟨hM,hx⟩:=q9;subst hM;subst hx;obtain⟨h1,h2⟩:=ht w (by rw[hd];exact aW _<|.head _) [.list<|(done.filter p).map g] loc' hc hl;refine⟨[],_,_,?_,hc,rfl,rfl⟩;rw[dR];cases hp:p w with
   |true=> rw[hp]at h1;simp only[bR hp,bE];refine nj h1 rfl<|(zH (h2 hp) rfl pR (by rw[aF];exact bW (by simp only[hd,aG];exact bC (cU _ _)<|aT _ _) hz)).trans ?_;rw[dO _ _<|aI _,cD];rfl
   |false=> rw[hp]at h1;simp[bN<|hp▸bV];exact ng h1 rfl)
 simp[e,hM,hx]
theorem Go{r:List α}(h:a ⟨H0,loc⟩=some (.ok v,⟨H1,loc⟩))(hi:∀L,o9 v (H1++L)=some (ks,r.map f))(hz:r.length<big)
 (ht:∀w∈r,∀L loc',CL rs y loc loc'->lz loc' y=some (f w)->t ⟨H1++L,loc'⟩=some (.ok<|p w,⟨H1++L,loc'⟩)):
 rP a rs (Bo y) (λj=>uF t<|qN (lo y) j) ⟨H0,loc⟩=some (.ok<|.ref H1.length,⟨H1++[.list<|(r.filter p).map f],loc⟩):=
 Of h hi hz λw hw L loc' hc hl=>⟨ht w hw L loc' hc hl,λU=>oB hl⟩
theorem Oa{loc:Loc}{r:List α}{O:α->AO}(h:a ⟨H0,loc⟩=some (.ok v,⟨H1,loc⟩))(hi:∀L,o9 v (H1++L)=some (ks,r.map f))(hz:r.length<big)
 (ht:∀w∈r,∀L loc',CL rs y loc loc'->lz loc' y=some (f w)->e ⟨H1++L,loc'⟩=some (.ok<|.ref (H1++L).length,⟨(H1++L)++[O w],loc'⟩)):
 rP a rs (Bo y) (λj=>qN e j) ⟨H0,loc⟩=some (.ok<|.ref H1.length,⟨H1++(.list (((List.range r.length).map λi=>H1.length+1+i).map .ref)::r.map O),loc⟩):=by
 obtain⟨M,xs,o5⟩:=Cj (I:=λdone M xs=>M=done.map O/\xs=((List.range done.length).map λi=>H1.length+1+i).map .ref) h hi ⟨rfl,rfl⟩
  (λdone w rest M xs loc' hd q9 hc hl=>by have q8:=q9;have h2:=zH (ht w (hd▸(aW _<|.head _)) (.list xs::M) loc' hc hl) rfl (oJ Hx) (by simp only[q8.2,aF,cG];exact bW (by simp only[hd,aG];exact aT _ _) hz);rw[Fe,Mu]at h2;refine⟨_,_,_,h2,hc,by simp only[q8.1,bE];rfl,?_⟩;simp only[q8.2,q8.1,aF,show(done++[w]).length=done.length+1 from aG,kT,bE];rfl)
 simp only[o5.1,o5.2.1,o5.2.2]
end
theorem Aj(m c:Nat)(hc:1<=c):Builtin.Range.rangeSize 0 (m:Int) (c:Int)=(((m+c-1)/c:Nat):Int):=by
 refine a6 (aH<|iM.mpr hc) ?_;rcases m with _|m
 .rw[dF,Nat.div_eq_of_lt<|Nat.sub_lt hc Nat.one_pos];rfl
 .refine a6 (aH<|iM.mpr<|c6 m) ?_;rw[eY,jZ,j4 _ hc,Int.sub_zero,show((m+1:Nat):Int)-1=m from Int.add_sub_cancel m 1];rfl
theorem Ci(h0:0<=x)(h1:x<10000000):Builtin.Range.rangeFitsLong x=true:=by unfold Builtin.Range.rangeFitsLong;simp only[aQ,d6];lia
theorem lj{m c:Nat}(hm:m<100000)(hc0:1<=c)(hc:c<=3):Builtin.Range.small 0 (m:Int) (c:Int)=true:=by unfold Builtin.Range.small;have hd:(m+c-1)/c<=m+c-1:=Nat.div_le_self _ _;rw[Aj m c hc0];generalize(m+c-1)/c=d at*;rw[Ci (by decide) (by simp),Ci (by lia)<|by lia,Ci (by simp)<|by lia,Ci (by lia)<|by lia,aH<|Int.natCast_pos.mpr hc0,Ci (by omega)<|by omega];simp
theorem Ls{i m c:Nat}(h:H[i]?=some (.range 0 (m:Int) (c:Int)))(hm:m<100000)(hc:1<=c)(hc3:c<=3):o9 (.ref i) H=some ([3],(List.range<|(m+c-1)/c).map λk=>V.int ((k*c:Nat):Int)):=by show(H[i]?).bind _=_;rw[h];rw[bY];unfold ue;dsimp only;rw[aH ⟨lj hm hc hc3,by rw[Aj m c hc];exact eK _⟩];unfold tV;simp only[Aj m c hc,Int.toNat_natCast,(λl=>dN λk U=>by simp only[Int.zero_add,Int.natCast_mul]:∀l:List Nat,l.map (λ(k:Nat)=>V.int<|0+k*c)=l.map (λk=>V.int (k*c:Nat)))]
theorem iq(hx:PyData.strOk x=true)(hy:PyData.strOk y=true):sZ .Eq (.str x) (.str y) H=some (.bool<|x==y)/\sZ .NotEq (.str x) (.str y) H=some (.bool (!(x==y))):=by have h:=Eg (H:=H) (a:=.str x) (c:=.str y) rfl rfl (by simpa[PyData.canLay0]using hx) (by simpa[PyData.canLay0]using hy);rw[show PyData.eqv (.str x) (.str y)=(x==y)by simp[PyData.eqv]]at h;exact h
theorem wO:1000<big:=by unfold big;decide
def zk(E:List<|Str×Str)(j:Nat):Str:=(E[j]?).elim "" (·.2)
structure Lv(k nI eI oI rI:Nat)(loc:Loc):Prop where
 ln:lz loc "names" =some (.ref<|k+nI)
 le:lz loc "edges" =some (.ref<|k+eI)
 lo:lz loc "order" =some (.ref<|k+oI)
 lr:lz loc "rounds" =some (.ref<|k+rI)
structure Rv(k nI eI oI rI:Nat)(ns O:List Str)(ES:List<|Nat×Str×Str)(RS:List<|Nat×List Str)(T:Hp):Prop where
 hn:T[nI]?=some (.list<|ns.map .str)
 he:T[eI]?=some (.list<|ES.map λq=>.ref<|k+q.1)
 het:∀q∈ES,T[q.1]?=some (.tuple [.str q.2.1,.str q.2.2])
 ho:T[oI]?=some (.list<|O.map .str)
 hr:T[rI]?=some (.list<|RS.map λq=>.ref<|k+q.1)
 Rz:∀q∈RS,T[q.1]?=some (.list<|q.2.map .str)/\q.1≠oI/\q.1≠rI
 ne:oI≠nI/\oI≠eI/\oI≠rI/\rI≠nI/\rI≠eI
structure Ok(ns O:List Str)(ES:List<|Nat×Str×Str):Prop where
 z:ES.length<1000
 sn:∀x∈ns,PyData.strOk x=true
 so:∀x∈O,PyData.strOk x=true
 se:∀q∈ES,PyData.strOk q.2.1=true/\PyData.strOk q.2.2=true
abbrev Eo(ES:List<|Nat×Str×Str):rE:=ES.map (·.2)
theorem Lv.put(L:Lv k nI eI oI rI loc)(h1:(("names" :Str)==z)=false)(h2:(("edges" :Str)==z)=false)(h3:(("order" :Str)==z)=false)(h4:(("rounds" :Str)==z)=false):Lv k nI eI oI rI<|put z v loc:=
 ⟨(oR h1).trans L.ln,(oR h2).trans L.le,(oR h3).trans L.lo,(oR h4).trans L.lr⟩
theorem Rv.same(R:Rv k nI eI oI rI ns O ES RS T)(h:qW T.length T T1):Rv k nI eI oI rI ns O ES RS T1 where
 hn:=(h _<|qM R.hn).trans R.hn
 he:=(h _<|qM R.he).trans R.he
 het q hq:=(h _<|qM<|R.het q hq).trans<|R.het q hq
 ho:=(h _<|qM R.ho).trans R.ho
 hr:=(h _<|qM R.hr).trans R.hr
 Rz q hq:=⟨(h _<|qM (R.Rz q hq).1).trans (R.Rz q hq).1,(R.Rz q hq).2⟩
 ne:=R.ne
theorem My(hk:H.length=k)(L){w:Nat}(R:Rv k nI eI oI rI ns O ES RS T)(hz:ES.length<1000)(hw:ES[w]?=some e)
 (h1:lz loc' "edges" =some (.ref<|k+eI))(h2:lz loc' "k" =some (.int (w:Int))):
  sb (sb (lo "edges")<|lo "k") (ct<|.int 0) ⟨(H++T)++L,loc'⟩=some (.ok<|.str e.2.1,⟨(H++T)++L,loc'⟩)/\sb (sb (lo "edges")<|lo "k") (ct<|.int 1) ⟨(H++T)++L,loc'⟩=some (.ok<|.str e.2.2,⟨(H++T)++L,loc'⟩):=by
  have g1:((H++T)++L)[k+eI]?=some (.list<|ES.map λq=>.ref<|k+q.1):=oJ<|rX hk R.he;have g2:((H++T)++L)[k+e.1]?=some (.tuple [.str e.2.1,.str e.2.2]):=oJ<|rX hk<|R.het e<|aR hw;have i1:sb (lo "edges") (lo "k") ⟨(H++T)++L,loc'⟩=some (.ok<|.ref<|k+e.1,⟨(H++T)++L,loc'⟩):=wR (oB h1) (oB h2) (uA g1)<|Mk g1 (by rw[aF];exact cK hz wO) (by simp only[bD,hw];rfl);exact⟨wR i1 oH (N3 g2)<|Xc g2 K8 rfl,wR i1 oH (N3 g2)<|Xc g2 K8 rfl⟩
theorem BE(hk:H.length=k)(R:Rv k nI eI oI rI ns O ES RS T)(L:Lv k nI eI oI rI loc)(K:Ok ns O ES)(hx:lz loc "name" =some (.str x))(hsx:PyData.strOk x=true):
 rP (cq (ct<|.ty "range") [cq (ct<|.bi "len") [lo "edges"]]) Xv (Bo "k") (λj=>uF (tc (sb (sb (lo "edges")<|lo "k")<|ct<|.int 0) (lo "name") .Eq)<|qN (lo "k") j) ⟨H++T,loc⟩=
  some (.ok<|.ref<|k+(T.length+1),⟨H++(T++[.range 0 (ES.length:Int) 1,.list<|(tS (Eo ES) x).map λ(j:Nat)=>.int (j:Int)]),loc⟩):=by
 have hr:∀L,o9 (.ref (H++T).length) ((H++T)++[.range 0 (ES.map λq=>V.ref<|k+q.1).length 1]++L)=some ([3],(List.range ES.length).map λ(j:Nat)=>V.int j):=λL=>by have:=Ls (oJ (L:=L)<|pR (H:=H++T) (a:=.range 0 (ES.map λq=>V.ref<|k+q.1).length 1)) (by rw[aF];exact cK K.z (by simp)) (aI _)<|c6 _;refine a6 this ?_;rw[aF,jZ,Nat.div_one];exact aV (λl=>some ([3],l))<|dN λj U=>by rw[Nat.mul_one]
 refine(Go (loc:=loc) (p:=λj=>(((Eo ES)[j]?).map (·.1))==some x) (Oy oH (tF<|Oy oH (tF<|oB L.le) rfl<|J7 (rX hk R.he) (by rw[aF];exact cK K.z wO)) rfl zq) hr
  (cG▸(cK K.z wO)) (λw hw M loc' hc hl=>?_)).trans ?_
 .have WW:=cJ.mp hw;have h0:=aP WW;rw[aJ<|H++T];simp only[show((((Eo ES)[w]?).map (·.1))==some x)=(ES[w].2.1==x)by simp only[bD,h0];rfl];exact pJ (My hk _ R K.z h0 ((hc _ rfl rfl).trans L.le) hl).1 (oB<|(hc _ rfl rfl).trans hx) (iq (K.se _<|gM WW).1 hsx).1
 .unfold tS;simp only[aG,hk,aJ,aF];rfl
theorem ij(hk:H.length=k)(R:Rv k nI eI oI rI ns O ES RS T)(L:Lv k nI eI oI rI loc)(K:Ok ns O ES){r:List Nat}(hm:lz loc "mine" =some (.ref<|k+m))(hT:T[m]?=some (.list<|r.map λ(j:Nat)=>.int (j:Int)))(hr:∀j∈r,j<ES.length)(WX:r.length<big):
 rP (lo "mine") Mb (Bo "k") (λj=>uF (tc (sb (sb (lo "edges")<|lo "k")<|ct<|.int 1) (lo "order") .NotIn)<|qN (lo "k") j) ⟨H++T,loc⟩=
  some (.ok<|.ref (H++T).length,⟨(H++T)++[.list<|(r.filter λj=>!O.contains (zk (Eo ES) j)).map λ(j:Nat)=>.int (j:Int)],loc⟩):=
 Go (oB hm) (λL=>sF<|oJ<|rX hk hT) WX λw hw M loc' hc hl=>by have WW:=hr w hw;have h0:=aP WW;exact(show zk (Eo ES) w=ES[w].2.2 by unfold zk;rw[bD,h0];rfl)▸(pJ (My hk _ R K.z h0 ((hc _ rfl rfl).trans L.le) hl).2 (oB<|(hc _ rfl rfl).trans L.lo)<|Yd (oJ<|rX hk R.ho) (K.se _<|gM WW).2 K.so)
theorem Ej:∀{O:List Str},x∈O->vQ x (O.map .str)=some (O.idxOf x):=by
 intro zr;induction zr with
 |nil=> intro h;simp at h
 |cons y O pD=>
  intro h;show(if y=x then some 0 else(vQ x<|O.map .str).map (· +1))=_;rw[List.idxOf_cons];by_cases e:y=x
  .rw[aH e,a5.mpr e];rfl
  .rw[aL e,a7.mpr e,pD<|(aK.mp h).resolve_left λq=>e q.symm];rfl
theorem Fq:∀{O:List Str},Dg (O.map V.str)=true:=by
 intro zr;induction zr with
 |nil=> exact rfl
 |cons _ O pD=> exact pD
theorem gb(is:List Nat):∀ks{b:Nat}{kb:Int×Int},KP H (.ref b) kb->is.length=ks.length->(∀(j i:Nat)q,is[j]?=some i->ks[j]?=some q->KP H (.ref i) q)->
 ∃i,NW H (.ref b) (is.map .ref)=.ref i/\KP H (.ref i) (Sb ks kb):=by
 revert H is;exists H,is;induction is with
 |nil=>intro ks b kb h hl _;obtain rfl:=cC.mp hl.symm;exact⟨b,rfl,h⟩
 |cons i is ih=>
  intro ks b kb h hl hk;rcases ks with _|⟨q,ks⟩
  .injection hl
  have hq:=hk 0 i q rfl rfl;have e:NW H (.ref b) ((i::is).map .ref)=NW H (if rK q kb=true then .ref i else .ref b) (is.map .ref):=by rw[<-Wp hq,<-Wp h];rfl
  rw[e,show Sb (q::ks) kb=Sb ks (if rK q kb=true then q else kb)from rfl];by_cases hg:rK q kb=true
  .rw[aH hg,aH hg];exact ih ks hq (n6 hl) λj=>hk<|j+1
  .rw[aL hg,aL hg];exact ih ks h (n6 hl) λj=>hk<|j+1
theorem ms(h:j<E.length):E[j]?=some ((E[j]).1,zk E j):=by unfold zk;rw[aP h];rfl
theorem Md(h:j∈tS E x):j<E.length:=cJ.mp (dT.mp h).1
theorem FD(hO:x∉O):((tS E x).filter λj=>!O.contains (zk E j)).isEmpty=wW E O x:=by
 rw[eO,cI,b8,uG];refine⟨λh=>⟨hO,λe he hx=>?_⟩,λh j hj q=>?_⟩
 .obtain⟨j,hj⟩:=cE he;have h2:=h j<|wJ.mpr ⟨e.2,by refine a6 hj ?_;rw[<-hx]⟩;unfold zk at h2;rw[hj]at h2;exact bB.mp<|by simpa using h2
 .obtain⟨z,hz⟩:=wJ.mp hj;have h2:=h.2 _ (aR hz) rfl;unfold zk at q;replace q:=hz▸q;rw[show(some (x,z)).elim ("" :Str) (·.2)=z from rfl,bB.mpr h2]at q;injection q
theorem HT(hk:H.length=k)(R:Rv k nI eI oI rI ns O ES RS T)(L:Lv k nI eI oI rI loc)(K:Ok ns O ES)(hx:lz loc "name" =some (.str x))(hsx:PyData.strOk x=true)(hm:lz loc "mine" =some (.ref<|k+m))(hT:T[m]?=some (.list<|(tS (Eo ES) x).map λ(j:Nat)=>.int (j:Int))):
 ∃M,(tb .Or (tc (lo "name") (lo "order") .In)<|tb .Or (tc (rP (lo "mine") Mb (Bo "k") λj=>uF (tc (sb (sb (lo "edges")<|lo "k")<|ct<|.int 1) (lo "order") .NotIn)<|qN (lo "k") j) (ls []) .NotEq)<|tk .Or) ⟨H++T,loc⟩=some (.ok (!wW (Eo ES) O x),⟨H++(T++M),loc⟩):=by
 have h1:=pJ (oB hx) (oB (st:=⟨H++T,loc⟩) L.lo)<|CM (rX hk R.ho) hsx K.so;by_cases hO:x∈O
 .refine⟨[],?_⟩;rw[bB.mpr hO]at h1;rw[bF,show wW (Eo ES) O x=false from eF.mpr λq=>(uG.mp q).1 hO];exact aaD h1
 .refine⟨[.list<|((tS (Eo ES) x).filter λj=>!O.contains (zk (Eo ES) j)).map λ(j:Nat)=>.int j,.list []],?_⟩;rw[eF.mpr λq=>hO<|bB.mp q]at h1;refine K0 h1 ?_;have h2:=ij hk R L K hm hT (λj hj=>by have:=Md hj;rwa[aF]at this)<|bW (cU _ _) (by rw[cG,aF];exact cK K.z wO);generalize hF:(tS (Eo ES) x).filter (λj=>!O.contains (zk (Eo ES) j))=F at h2⊢;have h3:=(Eg (H:=(H++T++[AO.list<|F.map λ(j:Nat)=>.int j])++[.list []])
   (vP (oJ pR)<|tY λU U=>rfl) (vP pR rfl) (Bi λU U=>rfl) rfl).2
  replace h3:=Mr▸h3;have h4:=pJ h2 (vG C3<|by decide) h3;rw[show(F.map λ(j:Nat)=>PyData.int j).isEmpty=wW (Eo ES) O x by refine(by refine hF▸?_;exact FD hO:F.isEmpty=wW (Eo ES) O x)▸?_;rcases F with _|_<;>rfl]at h4
  refine(by rw[aJ,aJ];rfl:(H++T++[AO.list<|F.map λ(j:Nat)=>.int j])++[.list []]=H++(T++[AO.list<|F.map λ(j:Nat)=>.int j,.list []]))▸?_;rcases hr:wW (Eo ES) O x with _|_
  .rw[hr]at h4;exact aaD h4
  .rw[hr]at h4;exact K0 h4 Ye
def I5(O:List Str)(E:rE)(j:Nat):AO:=.tuple [.int (O.idxOf (zk E j):Nat),.int (j:Int)]
theorem OW(hk:H.length=k)(R:Rv k nI eI oI rI ns O ES RS T)(Lo:Lv k nI eI oI rI loc)(K:Ok ns O ES){r:List Nat}(hO:O.length<big)(hm:lz loc "mine" =some (.ref<|k+m))(hT:T[m]?=some (.list<|r.map λ(j:Nat)=>.int (j:Int)))(hr:∀j∈r,j<ES.length/\zk (Eo ES) j∈O)(WX:r.length<big):
 rP (lo "mine") Ly (Bo "k") (λj=>qN (tp [mq (lo "order") "index" [sb (sb (lo "edges")<|lo "k")<|ct<|.int 1],lo "k"]) j) ⟨H++T++M0,loc⟩=
  some (.ok<|.ref (H++T++M0).length,⟨(H++T++M0)++(.list (((List.range r.length).map λi=>(H++T++M0).length+1+i).map .ref)::r.map (I5 O<|Eo ES)),loc⟩):=by
 refine Oa (oB hm) (λL=>sF<|oJ<|oJ<|rX hk hT) WX λw hw L loc' hc hl=>?_;obtain⟨WW,hwO⟩:=hr w hw;have h0:=aP WW;have h1:=(My hk (M0++L) R K.z h0 ((hc _ rfl rfl).trans Lo.le) hl).2;rw[<-aJ,<-(by unfold zk;rw[bD,h0];rfl:zk (Eo ES) w=ES[w].2.2)]at h1;have go:(H++T++M0++L)[k+oI]?=some (.list<|O.map .str):=oJ<|oJ<|rX hk R.ho;exact He (ed (Fx (oB<|(hc _ rfl rfl).trans Lo.lo) (qS go rfl) (tF h1) rfl<|Xp go (by rw[aF];exact hO) Fq<|Ej hwO)<|tF<|oB hl)<|show 2<1000 by decide
theorem HU{H T:Hp}{loc:Loc}{x:Str}(hk:H.length=k)(R:Rv k nI eI oI rI ns O ES RS T)(L:Lv k nI eI oI rI loc)(K:Ok ns O ES){m:Nat}(hO:O.length<big)(hm:lz loc "mine" =some (.ref<|k+m))(hT:T[m]?=some (.list<|(tS (Eo ES) x).map λ(j:Nat)=>.int (j:Int)))(hx:∀e∈Eo ES,e.1=x->e.2∈O):
 ∃M i,(cl fu n (ct<|.bi "max") [bn (ls [tp [un (ct<|.int 1) .USub,un (ct<|.int 1) .USub]]) (rP (lo "mine") Ly (Bo "k") λj=>qN (tp [mq (lo "order") "index" [sb (sb (lo "edges")<|lo "k")<|ct<|.int 1],lo "k"]) j) .Add]) ⟨H++T,loc⟩=some (.ok<|.ref i,⟨H++(T++M),loc⟩)/\
  (H++(T++M))[i]?=some (.tuple [.int (Sb (pairsOf (Eo ES) O x) (-1,-1)).1,.int (Sb (pairsOf (Eo ES) O x) (-1,-1)).2]):=by
 exists fu,n,k,nI,eI,oI,rI,ns,O,ES,RS,H,T,loc,x,m,[hk,R,L,K,hO,hm,hT,hx];have hl:(tS (Eo ES) x).length<1000:=bW (cU _ _) (by rw[cG,aF];exact K.z);have hr:∀j∈tS (Eo ES) x,j<ES.length/\zk (Eo ES) j∈O:=λj hj=>by exists j,_;have h1:=Md hj;refine⟨by rwa[aF]at h1,?_⟩;exists z,(hz:wJ.mp hj);have h2:=ms h1;replace h2:=hz▸h2;have:=hx _ (aR hz) rfl;rcases h2 with _|_;exact this
 have hp:=OW hk R L K (M0:=[.tuple [.int (-1),.int (-1)]]++[.list [.ref (H++T).length]]) hO hm hT hr<|cK hl wO;have hpr:pairsOf (Eo ES) O x=(tS (Eo ES) x).map λj=>(((O.idxOf (zk (Eo ES) j):Nat):Int),(j:Int)):=dN λj hj=>by rw[ms<|Md hj];rfl
 rw[hpr];generalize tS (Eo ES) x=r at*;have ha:=aJ H T;generalize H++T=X at*;rw[<-aJ]at hp;have l0:ls [tp [un (ct<|.int 1) .USub,un (ct<|.int 1) .USub]] ⟨X,loc⟩=some (.ok<|.ref (X++[AO.tuple [.int (-1),.int (-1)]]).length,⟨X++[.tuple [.int (-1),.int (-1)]]++[.list [.ref X.length]],loc⟩):=
  vG (tF<|He (ed (N6 oH rfl)<|tF<|N6 oH rfl)<|show 2<1000 by decide) (show 1<1000 by decide)
 have gt:(X++[.tuple [.int (-1),.int (-1)]]++[.list [.ref X.length]])[X.length]?=some (.tuple [.int (-1),.int (-1)]):=oJ pR;have gl:(X++[AO.tuple [.int (-1),.int (-1)]]++[.list [.ref X.length]])[(X++[AO.tuple [.int (-1),.int (-1)]]).length]?=some (.list [.ref X.length]):=pR;have hc:X++[.tuple [.int (-1),.int (-1)]]++[.list [.ref X.length]]=X++[.tuple [.int (-1),.int (-1)],.list [.ref X.length]]:=by simp only[aJ];rfl
 generalize X++[.tuple [.int (-1),.int (-1)]]++[.list [.ref X.length]]=Y at*;have e1:((List.range r.length).map λi=>Y.length+1+i).length=r.length:=by simp[aF,cG]
 have q:∀i z,(((List.range r.length).map λi=>Y.length+1+i)[i]?=some z)->(r[i]?).map (I5 O<|Eo ES)=(Y++(AO.list (((List.range r.length).map λi=>Y.length+1+i).map .ref)::r.map (I5 O<|Eo ES)))[z]? :=λi z hz=>by
  rw[bD]at hz;have hi:i<r.length:=by rw[<-e1];rw[<-bD]at hz;exact(aU.mp hz).1
  rw[eT hi]at hz;obtain rfl:Y.length+1+i=z:=aA hz;rw[aS (by simp+arith only),show Y.length+1+i-Y.length=i+1 by exact cM (lk<|aN<|aY<|show List.length Y<=List.length Y+1+i from(by simp+arith only))<|lk<|aN (aY<|show List.length Y<=List.length Y+1+i from(by simp+arith only)).symm,kJ,bD]
 generalize(List.range r.length).map (λi=>Y.length+1+i)=is at*;have gl2:=oJ (L:=AO.list (is.map .ref)::r.map (I5 O<|Eo ES)) gl;have gt2:=oJ (L:=AO.list (is.map .ref)::r.map (I5 O<|Eo ES)) gt;have gr:(Y++(AO.list (is.map .ref)::r.map (I5 O<|Eo ES)))[Y.length]?=some (.list<|is.map .ref):=rX rfl (j:=0) rfl;have hc2:Y++(AO.list (is.map .ref)::r.map (I5 O<|Eo ES))=X++([.tuple [.int (-1),.int (-1)],.list [.ref X.length]]++(AO.list (is.map .ref)::r.map (I5 O<|Eo ES))):=by simp only[hc,aJ]
 generalize Y++(AO.list (is.map .ref)::r.map (I5 O<|Eo ES))=Z at*;have hk:∀k z w,is[k]?=some z->(r.map λj=>(((O.idxOf (zk (Eo ES) j):Nat):Int),(j:Int)))[k]?=some w->KP (Z++[.list (V.ref X.length::is.map .ref)]) (.ref z) w:=λk z w hz hw=>by have hq:=q k z hz;rw[bD]at hw;obtain⟨j,hj,rfl⟩:=a9.mp hw;rw[hj]at hq;exact⟨z,rfl,oJ hq.symm⟩
 have hX:KP (Z++[.list (V.ref X.length::is.map .ref)]) (.ref X.length) (-1,-1):=⟨_,rfl,oJ gt2⟩;obtain⟨i,q8⟩:=gb is _ hX (by rw[aF];exact e1) hk;refine⟨[.tuple [.int (-1),.int (-1)],.list [.ref X.length]]++(AO.list (is.map .ref)::r.map (I5 O<|Eo ES))++[.list (V.ref X.length::is.map .ref)],i,?_,?_⟩
 .rw[<-ha,<-aJ,<-hc2];refine rO oH (tF<|y8 l0 hp<|IF gl2 gr (by simp only[aF,e1];show 1+r.length<big;have:=hl;have:=wO;exact lk<|aC this hl)) rfl<|YT ?_;show(lE _ _).bind _=_;rw[uE pR];refine(aH ⟨eL _ _,λv hv=>?_⟩).trans<|aV (λv=>some (r8.ok v,Z++[AO.list (V.ref X.length::is.map .ref)])) q8.1;rcases aK.mp hv with rfl|hv
  .exact⟨_,hX⟩
  .obtain⟨z,hz,rfl⟩:=cA.mp hv;obtain⟨k,hz⟩:=cE hz;have h:=(aU.mp hz).1;rw[e1]at h;exact⟨_,hk k z _ hz (by rw[bD,aP h];rfl)⟩
 .rw[<-ha,<-aJ,<-hc2];obtain⟨j,e,h⟩:=q8.2;obtain rfl:=V.ref.inj e;exact h
noncomputable abbrev LU:=Nat×Nat×Str
def BL(ns O:List Str)(E:rE)(q:LU):(Int×Int)×Int:=(Sb (pairsOf E O q.2.2) (-1,-1),((ns.idxOf q.2.2:Nat):Int))
structure Fv(k nI eI oI rI:Nat)(ns O:List Str)(ES:List<|Nat×Str×Str)(H T0:Hp)(done:List Str)(T:Hp)(RD:List LU)(loc:Loc):Prop where
 lv:Lv k nI eI oI rI loc
 LD:lz loc "ready" =some (.ref<|k+T0.length)
 sm:qW T0.length T0 T
 hy:T[T0.length]?=some (.list<|RD.map λq=>.ref<|k+q.1)
 hq:∀q∈RD,T[q.1]?=some (.tuple [.ref q.2.1,.int (BL ns O (Eo ES) q).2,.str q.2.2])/\(H++T)[q.2.1]?=some (.tuple [.int (BL ns O (Eo ES) q).1.1,.int (BL ns O (Eo ES) q).1.2])
 hd:RD.map (·.2.2)=done.filter (wW (Eo ES) O)
theorem Fv.app(F:Fv k nI eI oI rI ns O ES H T0 done T RD loc)(M):Fv k nI eI oI rI ns O ES H T0 done (T++M) RD loc where
 lv:=F.lv
 LD:=F.LD
 sm:=F.sm.app<|bS<|qM F.hy
 hy:=oJ F.hy
 hq q hq:=⟨oJ (F.hq q hq).1,by rw[<-aJ];exact oJ (F.hq q hq).2⟩
 hd:=F.hd
theorem Fv.mv(F:Fv k nI eI oI rI ns O ES H T0 done T RD loc)(l:Lv k nI eI oI rI loc')(h:lz loc' "ready" =lz loc "ready"):Fv k nI eI oI rI ns O ES H T0 done T RD loc':=⟨l,h.trans F.LD,F.sm,F.hy,F.hq,F.hd⟩
theorem Fv.skip(F:Fv k nI eI oI rI ns O ES H T0 done T RD loc)(h:wW (Eo ES) O x=false):Fv k nI eI oI rI ns O ES H T0 (done++[x]) T RD loc:=
 {F with hd:=by simp[bN<|h▸bV];exact F.hd}
theorem Fv.push(F:Fv k nI eI oI rI ns O ES H T0 done T RD loc)(hk:H.length=k){t i:Nat}(ht:T[t]?=some (.tuple [.ref i,.int (BL ns O (Eo ES) (t,i,x)).2,.str x]))(hi:(H++T)[i]?=some (.tuple [.int (BL ns O (Eo ES) (t,i,x)).1.1,.int (BL ns O (Eo ES) (t,i,x)).1.2]))(hr:wW (Eo ES) O x=true):
 Fv k nI eI oI rI ns O ES H T0 (done++[x]) (T.set T0.length<|.list<|(RD.map λq=>.ref<|k+q.1)++[.ref<|k+t]) (RD++[(t,i,x)]) loc where
 lv:=F.lv
 LD:=F.LD
 sm:=F.sm.set<|aI _
 hy:=by simp only[bE];exact rD F.hy
 hq q hq:=by
  refine(vE hk)▸?_;have g:=rX hk F.hy;rcases aO.mp hq with hq|hq
  .exact⟨oU F.hy (F.hq q hq).1 λh=>by injection h,oU g (F.hq q hq).2 λh=>by injection h⟩
  .rw[aE.mp hq];exact⟨oU F.hy ht λh=>by injection h,oU g hi λh=>by injection h⟩
 hd:=by simp only[bE,dR,F.hd,bR hr];rfl
theorem ci{n k nI eI oI rI:Nat}{ns O done:List Str}{ES:List (Nat×Str×Str)}{RS:List (Nat×List Str)}{RD:List LU}{H T T0:Hp}{loc:Loc}{x:Str}(hk:H.length=k)(R:Rv k nI eI oI rI ns O ES RS T0)(K:Ok ns O ES)(hO:O.length<big)(hN:ns.length<big)(F:Fv k nI eI oI rI ns O ES H T0 done T RD loc)(hx:x∈ns)(hl:RD.length<big):
 ∃f T' RD' loc',Ff fu n ⟨H++T,put "name" (.str x) loc⟩=some (.ok f,⟨H++T',loc'⟩)/\(f=.next\/f=.cont)/\Fv k nI eI oI rI ns O ES H T0 (done++[x]) T' RD' loc':=by
 exists fu,n,k,nI,eI,oI,rI,ns,O,done,ES,RS,RD,H,T,T0,loc,x,_;exists _;have sx:=K.sn x hx;have l1:=F.lv.put (z:= "name") (v:=.str x) rfl rfl rfl rfl;have h1:=pE (x:= "mine")<|BE hk (R.same F.sm) l1 K oX sx;have F1:=F.app [.range 0 ES.length 1,.list<|(tS (Eo ES) x).map λ(j:Nat)=>.int j];have hT:(T++[AO.range 0 ES.length 1,.list<|(tS (Eo ES) x).map λ(j:Nat)=>.int j])[T.length+1]?=some (.list<|(tS (Eo ES) x).map λ(j:Nat)=>.int j):=rX rfl rfl;generalize T++[AO.range 0 ES.length 1,.list<|(tS (Eo ES) x).map λ(j:Nat)=>.int j]=T1 at*;have l2:=l1.put (z:= "mine") (v:=.ref<|k+(T.length+1)) rfl rfl rfl rfl;have hn2:lz (put "mine" (.ref<|k+(T.length+1))<|put "name" (.str x) loc) "name" =some (.str x):=(oR rfl).trans oX;have F2:=F1.mv l2<|(oR rfl).trans<|oR rfl;have hm2:lz (put "mine" (.ref<|k+(T.length+1))<|put "name" (.str x) loc) "mine" =some (.ref<|k+(T.length+1)):=oX;generalize put "mine" (.ref<|k+(T.length+1)) (put "name" (.str x) loc)=uK at*;exists M,(h3:HT hk (R.same F2.sm) l2 K hn2 sx hm2 hT);have F3:=F2.app M;have hT3:=oJ (L:=M) hT;generalize T1++M=T3 at*;rcases hr:wW (Eo ES) O x with _|_
 .rw[hr]at h3;exact k9 ⟨.cont,T3,RD,uK,oQ h1<|Fd<|v9 h3<|Fd rfl,.inr rfl,F3.skip hr⟩
 .rw[hr]at h3;exists M4,i,(q8:HU (fu:=fu) (n:=n) hk (R.same F3.sm) l2 K hO hm2 hT3 (uG.mp hr).2);have F4:=(F3.app M4).mv (l2.put (z:= "last") (v:=.ref i) rfl rfl rfl rfl)<|oR rfl;have R4:=R.same F4.sm;generalize T3++M4=T4 at*;have hn4:lz (put "last" (.ref i) uK) "name" =some (.str x):=(oR rfl).trans hn2;have e7:=tL<|rB (fu:=fu) (n:=n) (x:= "append") (oB F4.LD) (qS (rX hk F4.hy) rfl) (tF<|He (ed (oB (st:=⟨H++T4,put "last" (.ref i) uK⟩) oX)<|ed (rB (fu:=fu) (n:=n) (x:= "index") (oB F4.lv.ln) (qS (rX hk R4.hn) rfl) (tF<|oB hn4) rfl<|pK<|Xp (rX hk R4.hn) (by rw[aF];exact hN) Fq<|Ej hx)<|tF<|oB hn4)<|show 3<1000 by decide) rfl<|pK<|rT (oJ<|rX hk F4.hy) (by rw[aF];exact hl);rw[Bb hk]at e7;rw[aJ,vE hk]at e7;exact k9 ⟨.next,_,_,_,oQ h1<|oQ (sQ h3 rfl)<|oQ (pE q8.1) e7,.inl rfl,(F4.app [.tuple [.ref i,.int<|ns.idxOf x,.str x]]).push hk pR (by rw[<-aJ];exact oJ q8.2) hr⟩
theorem Rv.round{j:Nat}(V0:Rv k nI eI oI rI ns O ES RS T)(hj:T[j]?=some (.list<|R.map .str))(n1:j≠oI)(n2:j≠rI):
 Rv k nI eI oI rI ns (O++R) ES (RS++[(j,R)]) ((T.set rI<|.list<|(RS.map λq=>.ref<|k+q.1)++[.ref<|k+j]).set oI<|.list<|O.map .str++R.map .str)where
 hn:=qI V0.ne.1<|qI V0.ne.2.2.2.1 V0.hn
 he:=qI V0.ne.2.1<|qI V0.ne.2.2.2.2 V0.he
 het q hq:=oU (qI V0.ne.2.2.1.symm V0.ho) (oU V0.hr (V0.het q hq) λh=>by injection h) λh=>by injection h
 ho:=by exact bE▸(rD<|qI V0.ne.2.2.1.symm V0.ho)
 hr:=by simp only[bE];exact qI V0.ne.2.2.1<|rD V0.hr
 Rz q hq:=by
  rcases aO.mp hq with hq|hq
  .have:=V0.Rz q hq;exact⟨qI this.2.1.symm<|qI this.2.2.symm this.1,this.2⟩
  .rw[aE.mp hq];exact⟨qI n1.symm<|qI n2.symm hj,n1,n2⟩
 ne:=V0.ne
theorem Tv(hk:H.length=k)(V0:Rv k nI eI oI rI ns O ES RS T0)(L:Lv k nI eI oI rI loc)(K:Ok ns O ES)(hO:O.length<big)(hN:ns.length<big)(hr:lz loc "ready" =some (.ref<|k+T0.length)):
 ∃T RD loc',fr (lo "names") "name" (Ff fu n) ⟨H++(T0++[.list []]),loc⟩=some (.ok .next,⟨H++T,loc'⟩)/\Fv k nI eI oI rI ns O ES H T0 ns T RD loc':=by
 exists k,n,fu,H,loc,nI,eI,oI,rI,ns,O,ES,RS,T0,[hk,V0,L,K,hO,hN,hr];obtain⟨oE,e,T,RD,loc',rfl,F⟩:=Da (s:=Ff fu n)
  (I:=λdone st=>∃T RD loc',st=⟨H++T,loc'⟩/\Fv k nI eI oI rI ns O ES H T0 done T RD loc') (oB L.ln) ⟨_,_,_,rfl,⟨L,hr,qW.refl.app<|aI _,pR,λU h=>absurd h bG,rfl⟩⟩
  (λd st qq=>by exists d,st,[qq];exists T,RD,loc',(q_:qq);obtain⟨h,F⟩:=q_;subst h;exact sF<|rX hk (V0.same F.sm).hn)
  (λdone w rest st hd qq=>by
   exists done,w,rest,st,[hd,qq];exists T,RD,loc',(q_:qq);obtain⟨h,F⟩:=q_;subst h;have hl:RD.length<big:=by have h1:=aV List.length F.hd;rw[aF]at h1;have h2:=cU (wW (Eo ES) O) done;have h3:=aV List.length hd;simp only[aG]at h3;exact lk<|aC (aN h3.symm)<|aC h2<|aC (aN h1) hN
   obtain⟨f,T',RD',uK,q8⟩:=ci hk V0 K hO hN F (by rw[hd];exact aW _<|.head _) hl;exact⟨f,_,q8.1,q8.2.1,T',RD',uK,rfl,q8.2.2⟩)
 exact⟨T,RD,loc',e,F⟩
theorem br{r:List LU}{Z:Hp}(h:cq (ct<|.bi "sorted") [lo "ready"] ⟨Z,loc⟩=some (.ok<|.ref Z.length,⟨Z++[.list<|r.map λq=>.ref<|k+q.1],loc⟩))
 (ht:∀q∈r,∃a b,Z[k+q.1]?=some (.tuple [a,b,.str q.2.2]))(hl:r.length<big):
 rP (cq (ct<|.bi "sorted") [lo "ready"]) Ww (GH ["last","place","name"] 3) (λj=>qN (lo "name") j) ⟨Z,loc⟩=
  some (.ok<|.ref (Z++[AO.list<|r.map λq=>.ref<|k+q.1]).length,⟨(Z++[.list<|r.map λq=>.ref<|k+q.1])++[.list<|(r.map (·.2.2)).map .str],loc⟩):=by
 exists k,loc,r,Z,_;have g0:(Z++[AO.list<|r.map λq=>.ref<|k+q.1])[Z.length]?=some (.list<|r.map λq=>.ref<|k+q.1):=pR;have ht':∀q∈r,∃a b,(Z++[AO.list<|r.map λq=>.ref<|k+q.1])[k+q.1]?=some (.tuple [a,b,.str q.2.2]):=λq hq=>by exists a,b,(h:ht q hq);exact⟨a,b,oJ h⟩
 generalize Z++[AO.list<|r.map λq=>.ref<|k+q.1]=Y at*;obtain⟨oE,ec,uK,rfl⟩:=Wz (α:=LU) (asg:=GH ["last","place","name"] 3) (turn:=qN (lo "name") Y.length)
  (I:=λdone st=>∃loc',st=λU=>⟨Y++[.list<|(done.map (·.2.2)).map .str],loc'⟩) (λd st q9 U=>by obtain⟨_,h⟩:=q9;subst h;exact sF<|oJ g0)
  (λdone w rest st hd q9=>by
   obtain⟨loc',h⟩:=q9;subst h;obtain⟨a,b,hw⟩:=ht' w (by rw[hd];exact aW _<|.head _);refine⟨_,λU=>?_,put "name" (.str w.2.2)<|put "place" b<|put "last" a loc',rfl⟩;have e1:GH ["last","place","name"] 3 (.ref<|k+w.1) ⟨Y++[.list<|(done.map (·.2.2)).map .str],loc'⟩=some (put "name" (.str w.2.2)<|put "place" b<|put "last" a loc'):=by have e:t9 (.ref<|k+w.1) 3 (Y++[AO.list<|(done.map (·.2.2)).map .str])=some _:=jz (oJ hw) rfl;show(t9 (.ref<|k+w.1) 3<|Y++[AO.list<|(done.map (·.2.2)).map .str]).bind _=_;rw[e];rfl
   simp only[e1];refine(zH (oB oX) rfl pR ?_).trans ?_
   .simp only[aF];have:=aV List.length hd;simp only[aG]at this;exact lk<|aC (aN this.symm) hl
   .rw[dO _ _<|aI _,cD,bE,bE];rfl) ⟨_,rfl⟩
 exact Lp h rfl (sF g0)<|ec 0
theorem AL{RD:List LU}(Fp:ns.Nodup)(hs:∀q∈RD,q.2.2∈ns)(hd:(RD.map (·.2.2)).Nodup):(RD.map<|BL ns O<|Eo ES).Nodup:=by refine iP.mpr<|(iP.mp hd).imp_of_mem λ{a b}ha hb h e=>h ?_;have h1:=Int.ofNat.inj<|aV (·.2) e;exact(j0<|c0.mpr<|hs a ha)▸(j0<|c0.mpr<|hs b hb)▸(List.getElem_of_eq rfl _|>.trans (by congr 1))
theorem lu(ze:O.Nodup)(hx:x∈ns)(hr:wW (Eo ES) O x=true)(a b):XH (Eo ES) ns O x<|BL ns O (Eo ES) (a,b,x):=by refine⟨zo ze (uG.mp hr).2,ns.idxOf x,?_,rfl⟩;have h2:=c0.mpr hx;simp[aP h2]
theorem su(hk:H.length=k)(K:Ok ns O ES)(F:Fv k nI eI oI rI ns O ES H T0 ns T RD loc):
 tc (lo "ready") (ls []) .Eq ⟨H++T,loc⟩=some (.ok RD.isEmpty,⟨(H++T)++[.list []],loc⟩):=by
 have h1:=(Eg (H:=(H++T)++[.list []])
  (vP (oJ<|rX hk F.hy)<|tY λq hq=>Bg (oJ<|rX hk (F.hq q hq).1) (show(rd 1 (.ref q.2.1) _).bind _=_ by rw[Bg (oJ (F.hq q hq).2) rfl];rfl)) (vP pR rfl) (Bi λq hq=>?_) rfl).1
 .replace h1:=Mr▸h1;refine(pJ (oB F.LD) (vG C3<|by decide) h1).trans ?_;rcases RD with _|_<;>rfl
 .show PyData.canLayAll0 [.tuple [.int _,.int _],.int _,.str q.2.2]=true;have:q.2.2∈RD.map (·.2.2):=fL hq;rw[F.hd]at this;show(_&&(_&&(PyData.strOk q.2.2&&_)))=true;rw[K.sn _ (dT.mp this).1];rfl
inductive Sf(fu n k nI eI oI rI:Nat)(ns O:List Str)(ES:List<|Nat×Str×Str)(RS:List<|Nat×List Str)(H:Hp)(st:St):Prop
 |stop {T t loc'}:(∀x∈ns,wW (Eo ES) O x=false)->K1 fu n st=some (.ok<|.ret<|.ref<|k+t,⟨H++T,loc'⟩)->T[t]?=some (.tuple [.ref<|k+rI,.bool<|decide<|O.length<ns.length])->Rv k nI eI oI rI ns O ES RS T->Sf fu n k nI eI oI rI ns O ES RS H st
 |next {T R j loc'}:R≠[]->qR (Eo ES) ns O R->K1 fu n st=some (.ok .next,⟨H++T,loc'⟩)->Rv k nI eI oI rI ns (O++R) ES (RS++[(j,R)]) T->Lv k nI eI oI rI loc'->Sf fu n k nI eI oI rI ns O ES RS H st
set_option tactic.hygienic true in
theorem on{n k nI eI oI rI:Nat}{ns O:List Str}{ES:List (Nat×Str×Str)}{RS:List (Nat×List Str)}{H T0:Hp}{loc:Loc}(hk:H.length=k)(V0:Rv k nI eI oI rI ns O ES RS T0)(L:Lv k nI eI oI rI loc)(K:Ok ns O ES)(ze:O.Nodup)(hO:O.length<=ns.length)(hN:ns.length<64)(Fp:ns.Nodup)(LE:RS.length<=O.length):Sf fu n k nI eI oI rI ns O ES RS H ⟨H++T0,loc⟩:=by
 exists fu,n,k,nI,eI,oI,rI,ns,O,ES,RS,H,T0,loc,_;exists _;exists g9,_;have b64:=wO;have h0:sP (ls []) (tP "ready") ⟨H++T0,loc⟩=_:=pE<|vG C3 (by decide);simp only[Bb hk,aJ]at h0;obtain⟨T,RD,uK,h1,F⟩:=Tv (fu:=fu) (n:=n) hk V0 (L.put (z:= "ready") (v:=.ref<|k+T0.length) rfl rfl rfl rfl) K (by lia) (by lia) oX;exists T,RD,uK,_;have h2:=su hk K F;have F2:=F.app [.list []];have V2:=V0.same F2.sm;rw[aJ]at h2;have hlen:RD.length<=ns.length:=by have:=aV List.length F.hd;simp only[aF]at this;rw[this];exact cU _ _
 generalize T++[AO.list []]=T2 at*;rcases YC:RD.isEmpty with _|_
 .replace h2:=YC▸h2;have sJ:RD≠[]:=λq=>by replace YC:=q▸YC;injection YC
  have zE:∀q∈RD,q.2.2∈ns/\wW (Eo ES) O q.2.2=true:=λq hq=>by have h3:q.2.2∈RD.map (·.2.2):=fL hq;rw[F.hd]at h3;exact dT.mp h3
  obtain⟨r,hp,q8⟩:=Uy (kf:=BL ns O<|Eo ES) (rX hk F2.hy) (jI.mpr sJ) (bW ‹_› ‹_›) (AL Fp (λq hq=>(zE q hq).1) (by simp[F.hd];exact Fp.filter _)) λq hq=>⟨rX hk (F2.hq q hq).1,(F2.hq q hq).2⟩;exists r,_;have WX:=hp.length_eq;have h4:=br (loc:=uK) (Oy oH (tF<|oB F.LD) rfl<|jf q8.2) (λq hq=>⟨_,_,rX hk (F2.hq q<|hp.mem_iff.mp hq).1⟩) (lk<|aC (aN WX)<|aC hlen<|aC b64 hN);have hR:qR (Eo ES) ns O<|r.map (·.2.2):=by refine⟨by refine F.hd▸?_;exact hp.map _,iP.mpr<|q8.1.imp_of_mem λ{a b}ha hb h=>?_⟩;have Qz:=zE a<|hp.mem_iff.mp ha;have WD:=zE b<|hp.mem_iff.mp hb;exact⟨_,_,lu ze Qz.1 Qz.2 a.1 a.2.1,lu ze WD.1 WD.2 b.1 b.2.1,h⟩
  have hb:(r.map (·.2.2)).length<=ns.length:=by rw[aF];exact le_of_eq_of_le WX hlen
  have V3:=V2.same (T1:=T2++[.list<|r.map λq=>.ref<|k+q.1])<|qW.refl.app<|aI _;have afo:r.map (·.2.2)≠[]:=λq=>sJ<|i8<|WX▸(cC.mpr<|lX.mp q);rw[aJ H,Bb hk]at h4;generalize T2++[AO.list<|r.map λq=>.ref<|k+q.1]=T3 at*;generalize r.map (·.2.2)=R at*;have V4:=V3.same (T1:=T3++[.list<|R.map .str])<|qW.refl.app<|aI _;have hj:(T3++[AO.list<|R.map .str])[T3.length]?=some (.list<|R.map .str):=pR;have n2:T3.length≠rI:=λq=>by have:=qM V3.hr;omega
  rw[aJ]at h4;generalize T3++[AO.list<|R.map .str]=T4 at*;have h5:=tL<|rB (fu:=fu) (n:=n) (x:= "append") (oB F.lv.lr) (qS (rX hk V2.hr) rfl) (tF h4) rfl<|pK<|rT (rX hk V4.hr) (by rw[aF];exact lk<|aC b64<|aC LE<|aC hN hO);have V5:=V4.round hj (λq=>by have:=qM V3.ho;omega) n2;have g2:=rX hk<|rD (b:=.list<|(RS.map λq=>V.ref<|k+q.1)++[.ref<|k+T3.length]) V4.hr;have g3:=rX hk<|qI n2.symm (b:=.list<|(RS.map λq=>V.ref<|k+q.1)++[.ref<|k+T3.length]) hj;have g4:=rX hk<|qI V4.ne.2.2.1.symm (b:=.list<|(RS.map λq=>V.ref<|k+q.1)++[.ref<|k+T3.length]) V4.ho;rw[vE hk]at h5;generalize T4.set rI (.list<|(RS.map λq=>V.ref<|k+q.1)++[.ref<|k+T3.length])=T5 at*;have h6:=tL<|rB (fu:=fu) (n:=n) (x:= "extend") (oB F.lv.lo) (qS g4 rfl) (tF (wR (oB F.lv.lr) (N6 oH rfl) (uA g2) (K6 g2 (by rw[aG,aF];show RS.length+1<big;exact lk<|aC b64<|aC LE<|aC hN hO) (by rw[aG,aF];show(_++_)[RS.length]?=_;rw[aS (by rw[aF];exact aI _),aF,cD];rfl)):sb (lo "rounds") (un (ct<|.int 1) .USub) ⟨H++T5,uK⟩=some (.ok<|.ref<|k+T3.length,⟨H++T5,uK⟩))) rfl<|pK<|oy g4 g3 (by simp[aF];lia);rw[vE hk]at h6;exact k9<|.next afo hR (oQ h0<|oQ h1<|oQ (sQ h2 rfl)<|oQ h5 h6) V5 F.lv
 .replace h2:=YC▸h2;have h3:(cm (cl fu n (ct<|.bi "len") [lo "order"]) (cl fu n (ct<|.bi "len") [lo "names"]) .Lt) ⟨H++T2,uK⟩=some (.ok<|.bool<|decide<|O.length<ns.length,⟨H++T2,uK⟩):=by refine Pu (rO oH (tF<|oB F.lv.lo) rfl<|pK<|J7 (rX hk V2.ho) (by rw[aF];lia)) (rO oH (tF<|oB F.lv.ln) rfl<|pK<|J7 (rX hk V2.hn) (by rw[aF];lia)) ?_;rw[aF,aF];show some (V.bool<|decide<|(O.length:Int)<ns.length)=_;rw[show decide ((O.length:Int)<ns.length)=decide (O.length<ns.length)from decide_eq_decide.mpr iM]
  refine k9<|.stop (loc':=uK) (λx hx=>?_) (oQ h0<|oQ h1<|Ah<|v9 h2<|uQ<|(He (ed (oB F.lv.lr)<|tF h3)<|show 2<1000 by decide).trans ?_) pR<|V2.same<|qW.refl.app<|aI _
  .have:=F.hd;rw[cI.mp YC]at this;exact eF.mpr<|b8.mp this.symm x hx
  .simp[Bb hk]
section
variable{fu n k nI eI oI rI:Nat}{ns O R:List Str}{ES:List (Nat×Str×Str)}{RS:List (Nat×List Str)}{RD r:List LU}{H T T0 T1 M:Hp}{loc loc':Loc}{x:Str}{j:Nat}
set_option tactic.hygienic true in
theorem O4(hk:H.length=k)(hN:ns.length<64)(Fp:ns.Nodup):∀{m:Nat}{O:List Str}{RS:List (Nat×List Str)}{T:Hp}{loc:Loc},ns.length<m+O.length->Rv k nI eI oI rI ns O ES RS T->Lv k nI eI oI rI loc->Ok ns O ES->O.Nodup->(∀x∈O,x∈ns)->RS.length<=O.length->
 ∃RS2 O' T' t loc',tX (te<|ct<|.bool true) (K1 fu n) nx m ⟨H++T,loc⟩=some (.ok<|.ret<|.ref<|k+t,⟨H++T',loc'⟩)/\T'[t]?=some (.tuple [.ref<|k+rI,.bool<|decide<|O'.length<ns.length])/\wC (Eo ES) ns O (RS2.map (·.2)) O'/\
  T'[rI]?=some (.list<|(RS++RS2).map λq=>.ref<|k+q.1)/\∀q∈RS++RS2,T'[q.1]?=some (.list<|q.2.map .str):=by
 exists fu,n,k,nI,eI,oI,rI,ns,ES,H,[hk,hN,Fp];exists zr;induction zr with
 |zero=> exists O,RS,T,loc;intro hm V0 L K ze hO hl;have:=uS ze hO;grind
 |succ m pD=>
  exists m,[pD];exists O,RS,T,loc;intro hm V0 L K ze hO hl;have ht:te (ct<|.bool true) ⟨H++T,loc⟩=some (.ok true,⟨H++T,loc⟩):=Kq oH rfl;rcases on hk V0 L K ze (uS ze hO) hN Fp hl with⟨h0,e,h1,h2⟩|⟨sJ,hR,e,V1,L1⟩
  .exact⟨[],O,_,_,_,(oM.at ht).trans<|(oM.at e).trans rfl,h1,.nil h0,by rw[bF];exact h2.hr,by rw[bF];exact λq hq=>(h2.Rz q hq).1⟩
  .exists _;rename_i T1 R j t7;have hs:=λx hx=>(aO.mp hx).elim (hO x) λh=>(hR.mem.mp h).1;have Rq:=jI.mpr sJ;obtain⟨RS2,O',T',t,loc',e2,h1,h2,h3,h4⟩:=pD (by rw[aG];exact lk<|aC Rq hm) V1 L1 ⟨K.z,K.sn,λx hx=>K.sn x<|hs x hx,K.se⟩ (hR.nodup Fp ze) hs (by simp only[aG];exact aC hl Rq);rw[aJ]at h3 h4;exact k9 ⟨(j,R)::RS2,O',T',t,loc',(oM.at ht).trans<|(oM.at e).trans e2,h1,.cons sJ hR h2,h3,h4⟩
theorem bq{i:Nat}{row:List Str}(hk:H.length=k)(hr:H[i]?=some (.list<|row.map .str))(hs:∀x∈row,PyData.strOk x=true)(WA:∀x∈ns,PyData.strOk x=true)(hz:ns.length+row.length<big)(l1:lz loc "rows" =some (.ref j))(l2:lz loc "names" =some (.ref<|k+0))(l3:lz loc "row" =some (.ref i)):
 ∃loc',Tl fu n ⟨H++[.list<|ns.map .str],loc⟩=some (.ok .next,⟨H++[.list<|(qU row ns).map .str],loc'⟩)/\lz loc' "rows" =some (.ref j)/\lz loc' "names" =some (.ref<|k+0):=by
 exists fu,n,k,ns,H,loc,j,i,row,_;obtain⟨oE,e,loc',rfl,h1,h2⟩:=Da (s:=vf fu n)
  (I:=λdone st=>∃loc',st=⟨H++[.list<|(qU done ns).map .str],loc'⟩/\lz loc' "rows" =some (.ref j)/\lz loc' "names" =some (.ref<|k+0)) (oB l3) ⟨_,rfl,l1,l2⟩
  (λd st q9=>by exists d,st,_;exists x7,(q_:q9);obtain⟨h,Rt⟩:=q_;subst h;exact sF<|oJ hr)
  (λdone w rest st hd q9=>by
   exists done,w,rest,st,_;exists loc',(q_:q9);obtain⟨h,q8⟩:=q_;subst h;have hlen:(qU done ns).length<big:=by have h3:=Ak (l:=done) (ns:=ns);have h4:=aV List.length hd;simp only[aG]at h4;exact lk<|aC (aN h4.symm)<|aC h3 hz
   have g:=rX (j:=0) (T:=[.list<|(qU done ns).map .str]) hk rfl;have XS:lz (put "name" (.str w) loc') "rows" =some (.ref j):=(oR rfl).trans q8.1;have h2':lz (put "name" (.str w) loc') "names" =some (.ref<|k+0):=(oR rfl).trans q8.2;have ht:=pJ (oB (st:=⟨H++[.list<|(qU done ns).map .str],put "name" (.str w) loc'⟩) oX) (oB h2')<|Yd g (hs w (by rw[hd];exact aW _<|.head _)) λx hx=>(u0.mp hx).elim (λh=>hs x (by rw[hd];exact b6 _ h))<|WA x;rw[Ea];by_cases hc:w∈qU done ns
   .rw[bB.mpr hc]at ht;exact⟨_,_,sQ ht rfl,.inl rfl,_,by unfold ins;rw[aH hc],XS,h2'⟩
   .rw[eF.mpr λq=>hc<|bB.mp q]at ht;refine⟨_,_,v9 ht<|tL<|rB (oB h2') (qS g rfl) (tF<|oB oX) rfl<|pK<|rT g (by rw[aF];exact hlen),.inl rfl,_,?_,XS,h2'⟩;unfold ins;rw[aL hc,vE hk,bE];rfl)
 exact⟨loc',e,h1,h2⟩
end
noncomputable abbrev x4:=Nat×Str×List Str
def pL(rws:List x4):rE:=rws.flatMap λq=>q.2.2.map λz=>(q.2.1,z)
structure XG(i:Nat)(rws:List x4)(H:Hp):Prop where
 hl:H[i]?=some (.list<|rws.map λq=>.ref q.1)
 hr:∀q∈rws,H[q.1]?=some (.list<|(q.2.1::q.2.2).map .str)
def vZ(d:Nat)(PS:List<|Nat×Str×Str):List V:=PS.map λq=>.ref<|d+q.1
def Ud(M:Hp)(PS:List<|Nat×Str×Str):Prop:=∀q∈PS,M[q.1]?=some (.tuple [.str q.2.1,.str q.2.2])
theorem Ud.app{PS:List (Nat×Str×Str)}(h:Ud M PS)(L):Ud (M++L) PS:=λq hq=>oJ<|h q hq
theorem R7{loc loc':Loc}{x:Str}{r:List Str}{PS:List (Nat×Str×Str)}{j:Nat}(hj:H1[j]?=some (.list<|(x::r).map .str))(hl:lz loc' "row" =some (.ref j))(hc:CL Bn "row" loc loc')(hM:Ud M PS)(hz:PS.length+r.length+1<big):
 ∃M' WY l',Hq (sl (lo "row") (ct<|.int 1) (ct .none)<|ct .none) (Bo "need") (qN (tp [sb (lo "row")<|ct<|.int 0,lo "need"]) H1.length) ⟨H1++(.list (vZ (H1.length+1) PS)::M),loc'⟩=some ⟨H1++(.list (vZ (H1.length+1) WY)::M'),l'⟩/\
  CL Bn "row" loc l'/\WY.map (·.2)=PS.map (·.2)++r.map (λz=>(x,z))/\Ud M' WY:=by
 exists H1,M,loc,loc',x,r,PS,j,_;have hb:((x::r).map V.str).length<big:=by simp only[aF];exact eH hz
 have gj:(H1++(.list (vZ (H1.length+1) PS)::M))[j]?=some (.list<|(x::r).map .str):=oJ hj;obtain⟨oE,ec,M',WY,l',rfl,q8⟩:=Wz (it:=o9<|.ref<|H1.length+(M.length+1)) (asg:=Bo "need") (turn:=qN (tp [sb (lo "row")<|ct<|.int 0,lo "need"]) H1.length)
  (I:=λdone st=>∃M2 HV l2,st=(λU=>⟨H1++(.list (vZ (H1.length+1) HV)::M2),l2⟩)/\CL Bn "row" loc l2/\lz l2 "row" =some (.ref j)/\HV.map (·.2)=PS.map (·.2)++done.map (λz=>(x,z))/\Ud M2 HV/\M2[M.length]?=some (.list<|r.map .str))
  (λd st qq U=>by obtain⟨M2,HV,l2,h,_,_,_,_,h5⟩:=qq;subst h;exact sF<|rX rfl h5)
  (λdone w rest st hd qq=>by
   obtain⟨M2,HV,l2,h,h1,h2,h3,h4,h5⟩:=qq;subst h;have hw:lz (put "need" (.str w) l2) "row" =some (.ref j):=(oR rfl).trans h2;have gj2:(H1++(.list (vZ (H1.length+1) HV)::M2))[j]?=some (.list<|(x::r).map .str):=oJ hj;have hP:HV.length<big:=by have h6:=aV List.length h3;have h7:=aV List.length hd;simp only[aG,aF]at h6;simp only[aG]at h7;exact lk<|aC (aN h7.symm)<|aC (aN h6) hz
   have e2:=zH (He (ed (wR (oB (st:=⟨H1++(.list (vZ (H1.length+1) HV)::M2),put "need" (.str w) l2⟩) hw) (oH (v:=.int 0)) (uA gj2)<|Mk gj2 hb rfl)<|tF<|oB oX)<|show 2<1000 by decide) rfl (oJ Hx) (by unfold vZ;rw[aF];exact hP);simp only[Fe,Mu]at e2;refine⟨_,λU=>e2,M2++[.tuple [.str x,.str w]],HV++[(M2.length,x,w)],_,?_,λz hz hc=>?_,hw,?_,?_,oJ h5⟩
   .unfold vZ;exact bE▸rfl
   .by_cases hn:z= "need"
    .subst hn;rcases hc with _|_
    .exact(oR<|a7.mpr hn).trans (h1 z hz hc)
   .simp only[h3,bE,aJ];rfl
   .exact λq hq=>(aO.mp hq).elim (λhq=>oJ<|h4 q hq) λhq=>by exact(aE.mp hq)▸pR)
  ⟨_,PS,_,rfl,hc,hl,(bF _).symm,hM.app _,pR⟩
 refine⟨M',WY,l',?_,q8.1,q8.2.2.1,q8.2.2.2.1⟩;unfold Hq;rw[B4 (Jy (oB (st:=⟨H1++(.list (vZ (H1.length+1) PS)::M),loc'⟩) hl) (oH (v:=.int 1)) (oH) (oH) (uA gj)<|ru gj hb) rfl];show(o9 (.ref (H1++(AO.list (vZ (H1.length+1) PS)::M)).length)<|(H1++(AO.list (vZ (H1.length+1) PS)::M))++[.list<|r.map .str]).bind _=_;rw[aA (by simp only[Mu,nQ,iH 1]:(some<|V.ref (H1++(AO.list (vZ (H1.length+1) PS)::M)).length)=some (.ref<|H1.length+(M.length+1)))|>V.ref.inj,aJ];show(o9 _<|H1++(AO.list _::(M++[_]))).bind _=_;rw[show o9 (.ref<|H1.length+(M.length+1)) (H1++(AO.list (vZ (H1.length+1) PS)::(M++[.list<|r.map .str])))=some ([1],r.map .str)from sF<|rX rfl pR];rw[aJ];exact ec 0
theorem qw{H T0:Hp}{loc:Loc}(hk:H.length=k)(R:XG i rws H)(hl:lz loc "rows" =some (.ref i))(hz:(pL rws).length<1000)(hb:∀q∈rws,q.2.2.length<1000):
 ∃M PS,rP (lo "rows") Bn (Bo "row") (λj=>Hq (sl (lo "row") (ct<|.int 1) (ct .none)<|ct .none) (Bo "need")<|qN (tp [sb (lo "row")<|ct<|.int 0,lo "need"]) j) ⟨H++T0,loc⟩=
  some (.ok<|.ref<|k+T0.length,⟨H++(T0++(.list (PS.map λq=>.ref<|k+q.1)::M)),loc⟩)/\Eo PS=pL rws/\∀q∈PS,(T0++(.list (PS.map λq=>.ref<|k+q.1)::M))[q.1]?=some (.tuple [.str q.2.1,.str q.2.2]):=by
 exists k,i,rws,H,T0,loc,_;exists _;obtain⟨M,xs,e,PS,hx,h1,h2⟩:=Cj (turn:=λj=>Hq (sl (lo "row") (ct<|.int 1) (ct .none)<|ct .none) (Bo "need")<|qN (tp [sb (lo "row")<|ct<|.int 0,lo "need"]) j)
  (I:=λdone M xs=>∃PS,xs=vZ ((H++T0).length+1) PS/\PS.map (·.2)=pL done/\Ud M PS) (oB hl) (λL=>sF<|oJ<|oJ R.hl) ⟨[],rfl,rfl,bH _⟩
  (λdone w rest M xs loc' hd q9 hc hl'=>by
   exists _;obtain⟨PS,hx,h1,h2⟩:=q9;subst hx;have hw:w∈rws:=by rw[hd];exact aW _<|.head _
   have hlen:PS.length<1000:=by
    have h3:=aV List.length h1;rw[aF]at h3;have h4:(pL rws).length=(pL done).length+(pL (w::rest)).length:=by rw[hd];unfold pL;simp only[gV,aG]
    exact lk<|aC (aN h4.symm)<|aC (aN h3) hz
   obtain⟨M',WY,l',q8⟩:=R7 (oJ<|R.hr w hw) hl' hc h2 (by have:=hb w hw;unfold big;exact lk<|aC this hlen);refine k9 ⟨M',_,l',q8.1,q8.2.1,WY,rfl,?_,q8.2.2.2⟩;simp[q8.2.2.1,h1];unfold pL;simp only[gV];simp)
 subst hx;refine k9 ?_;refine⟨M,PS.map λq=>(T0.length+1+q.1,q.2),?_,by simp only[bX,<-h1];rfl,λq hq=>?_⟩
 .rw[e,Bb hk,aJ,bX];congr 6
  exact aV AO.list<|dN λq U=>aV V.ref<|show k+T0.length+1+q.1=k+(T0.length+1+q.1)by lia
 .obtain⟨p,hp,rfl⟩:=cA.mp hq;exact(aS<|by lia).trans<|a6 (aV _<|show T0.length+1+p.1-T0.length=p.1+1 by exact cM (lk<|aN<|aY ((by simp+arith only):List.length T0<=List.length T0+1+p.fst))<|lk<|aN (aY ((by simp+arith only):List.length T0<=List.length T0+1+p.fst)).symm)<|h2 p hp
def sT(rws:List x4):List Str:=rws.foldl (λns q=>qU (q.2.1::q.2.2) ns) []
theorem wL{w:x4}:sT (d++[w])=qU (w.2.1::w.2.2) (sT d):=by unfold sT;refine a6 gD ?_;rfl
theorem wS:∀{d:List x4},x∈sT d<->∃q∈d,x∈q.2.1::q.2.2:=λ{d}=>by
 induction d using yQ with
 |h0=>exact⟨nofun,λq9=>by obtain⟨_,h,_⟩:=q9;simp at h⟩
 |h1 d w ih=>
  rw[wL,u0,ih];constructor
  .rintro(h|⟨q,hq,h⟩)
   .exact⟨w,aW _<|.head _,h⟩
   .exact⟨q,b6 _ hq,h⟩
  .rintro⟨q,hq,h⟩
   rcases aO.mp hq with hq|hq
   .exact .inr ⟨q,hq,h⟩
   .rw[aE.mp hq]at h;exact .inl h
theorem Lc:∀{l ns:List Str},ns.Nodup->(qU l ns).Nodup:=by
 intro zr;induction zr with
 |nil=> intro _ h;exact h
 |cons x l pD=>
  intro ns h;exact pD (by
  show(if x∈ns then ns else ns++[x]).Nodup;by_cases hx:x∈ns
  .rw[aH hx];exact h
  .rw[aL hx];exact cH.mpr ⟨h,iF _ _,λa ha c hc e=>hx (by simp[<-aE.mp hc,<-e];exact ha)⟩)
theorem Hw:(sT d).Nodup:=by
 induction d using yQ with
 |h0=>exact .nil
 |h1 d w ih=>rw[wL];exact Lc ih
theorem zQ:e∈pL rws->e.1∈sT rws/\e.2∈sT rws:=λh=>by obtain⟨q,q8⟩:=iY.mp h;obtain⟨z,hz,rfl⟩:=cA.mp q8.2;exact⟨wS.mpr ⟨q,q8.1,.head _⟩,wS.mpr ⟨q,q8.1,.tail _ hz⟩⟩
def xV(rws:List x4):Nat:=(rws.map λq=>q.2.2.length+1).sum
theorem wV:xV (d++e)=xV d+xV e:=by unfold xV;simp only[bE,nH]
theorem Bv:(sT d).length<=xV d:=by
 induction d using yQ with
 |h0=>exact aI _
 |h1 d w ih=> have:=Ak (l:=w.2.1::w.2.2) (ns:=sT d);simp only[wL,wV];show _<=_+(w.2.2.length+1+0);simp only[bA]at this;exact lk<|aC this ih
theorem Dn:(pL d).length<=xV d:=by
 induction d using yQ with
 |h0=>exact aI _
 |h1 d w ih=> simp[(by unfold pL;rw[gV];simp:(pL<|d++[w]).length=(pL d).length+w.2.2.length),wV];show _<=_+(w.2.2.length+1+0);exact lk ih
theorem EB:oG (oL fu<|n+1) fu 927 [u] [] H=pN (Vt fu n ⟨H,[("rows",u)]⟩):=
 Au SO (by rfl')
theorem TU{n k i:Nat}{rws:List x4}{H:Hp}(hk:H.length=k)(R:XG i rws H)(hs:∀q∈rws,∀x∈q.2.1::q.2.2,PyData.strOk x=true)(hz:xV rws<64)(Dy:64<fu):
 ∃(T:Hp)(t rI:Nat)(RS:List<|Nat×List Str)(O':List Str),oG (oL fu<|n+1) fu 927 [.ref i] [] H=some (.ok<|.ref<|k+t,H++T)/\T[t]?=some (.tuple [.ref<|k+rI,.bool<|decide<|O'.length<(sT rws).length])/\wC (pL rws) (sT rws) [] (RS.map (·.2)) O'/\
  T[rI]?=some (.list<|RS.map λq=>.ref<|k+q.1)/\∀q∈RS,T[q.1]?=some (.list<|q.2.map .str):=by
 exists fu,n,k,i,rws,H,_;exists _;exists g9,_;have kb:=wO;have WZ:∀x∈sT rws,PyData.strOk x=true:=λx hx=>by exists q,(q_:wS.mp hx);obtain⟨hq,h⟩:=q_;exact hs q hq x h
 have h0:sP (ls []) (tP "names") ⟨H,[("rows",.ref i)]⟩=some (.ok .next,⟨H++[.list []],[("rows",.ref i),("names",.ref<|k+0)]⟩):=by exact hk▸(pE<|vG C3<|by decide)
 obtain⟨oE,h1,t7,rfl,vH⟩:=Do (g:=λq:x4=>V.ref q.1) (s:=Tl fu n) (a:=lo "rows") (x:= "row") (st:=⟨H++[.list []],[("rows",.ref i),("names",.ref<|k+0)]⟩) (r:=rws) (k:=[1])
  (I:=λdone st=>∃loc',st=⟨H++[.list<|(sT done).map .str],loc'⟩/\lz loc' "rows" =some (.ref i)/\lz loc' "names" =some (.ref<|k+0)) (oB rfl) ⟨_,rfl,rfl,rfl⟩
  (λd st q9=>by exists d,st,_;exists x7,(q_:q9);obtain⟨h,Rt⟩:=q_;subst h;exact sF<|oJ R.hl)
  (λdone w rest st hd q9=>by
   exists done,w,rest,st,_;exists loc',(q_:q9);obtain⟨h,h1,h2⟩:=q_;subst h;have hw:w∈rws:=by rw[hd];exact aW _<|.head _
   have Nm:xV rws=xV done+(w.2.2.length+1+xV rest):=by simp only[hd,wV];rfl
   have hn:=Bv (d:=done);obtain⟨uK,qV⟩:=bq (fu:=fu) (n:=n) (ns:=sT done) hk (R.hr w hw) (hs w hw) (λx hx=>WZ x (by exists q,(o5:wS.mp hx);exact wS.mpr ⟨q,by rw[hd];exact b6 _ o5.1,o5.2⟩)) (by simp only[bA];exact lk<|aC hn<|aC (aN Nm.symm)<|aC kb hz) ((oR rfl).trans h1) ((oR rfl).trans h2) oX
   exact⟨_,_,qV.1,.inl rfl,uK,by rw[wL],qV.2.1,qV.2.2⟩)
 exists t7,_;have YD:=Dn (d:=rws);obtain⟨M,PS,h2,e1,e2⟩:=qw (T0:=[.list<|(sT rws).map .str]) hk R vH.1 (lk<|aC YD hz) (λq hq=>by exists q,_;exists a,b,(q_:List.append_of_mem hq);obtain rfl:=q_;rw[wV]at hz;have:xV (q::b)=q.2.2.length+1+xV b:=rfl;exact lk<|aC (aN this.symm) hz)
 exists M,PS,_;have V1:([AO.list<|(sT rws).map .str]++(.list (PS.map λq=>.ref<|k+q.1)::M))[0]?=some (.list<|(sT rws).map .str):=rfl;have V2:([AO.list<|(sT rws).map .str]++(.list (PS.map λq=>.ref<|k+q.1)::M))[1]?=some (.list<|PS.map λq=>.ref<|k+q.1):=rfl;have Rq:2<=([AO.list<|(sT rws).map .str]++(.list (PS.map λq=>.ref<|k+q.1)::M)).length:=by show 2<=(_::_::M).length;simp only[bA];exact cR 2 M.length
 generalize[AO.list<|(sT rws).map .str]++(.list (PS.map λq=>.ref<|k+q.1)::M)=T1 at*;have h4:sP (ls []) (tP "order") ⟨H++T1,put "edges" (.ref<|k+1) t7⟩=_:=pE<|vG C3 (by decide);simp only[Bb hk,aJ]at h4;have h5:sP (ls []) (tP "rounds") ⟨H++(T1++[.list []]),put "order" (.ref<|k+T1.length)<|put "edges" (.ref<|k+1) t7⟩=_:=pE<|vG C3 (by decide);simp only[Bb hk,aJ]at h5;rw[aG]at h5;have L:Lv k 0 1 T1.length (T1.length+1)<|put "rounds" (.ref<|k+(T1.length+1))<|put "order" (.ref<|k+T1.length)<|put "edges" (.ref<|k+1) t7:=
  ⟨(oR rfl).trans<|(oR rfl).trans<|(oR rfl).trans vH.2,(oR rfl).trans<|(oR rfl).trans<|oX,(oR rfl).trans oX,oX⟩
 have V0:Rv k 0 1 T1.length (T1.length+1) (sT rws) [] PS []<|T1++[.list [],.list []]:=
  ⟨oJ V1,oJ V2,λq hq=>oJ<|e2 q hq,rX rfl (j:=0) rfl,rX rfl rfl,bH _,⟨cX<|lk Rq,⟨cX<|lk Rq,⟨bI<|by simp+arith only,⟨cX<|by simp+arith only,cX<|lk Rq⟩⟩⟩⟩⟩
 have hlen:PS.length<1000:=by have:=aV List.length e1;rw[aF]at this;exact lk<|aC (aN this)<|aC YD hz
 have hse:∀q∈PS,PyData.strOk q.2.1=true/\PyData.strOk q.2.2=true:=λq hq=>by
  have:q.2∈pL rws:=by exact e1▸(fL hq)
  have:=zQ this;exact⟨WZ _ this.1,WZ _ this.2⟩
 have HB:=Bv (d:=rws);obtain⟨RS,O',T',t,loc',h6,h7,h8,q8⟩:=O4 hk (bW ‹_› ‹_›) Hw (m:=fu) (lk<|aC HB<|aC Dy hz) V0 L ⟨hlen,WZ,bH _,hse⟩ .nil (bH _)<|aI _;rw[e1]at h8;refine k9 ⟨T',t,T1.length+1,RS,O',?_,h7,h8,q8.1,q8.2⟩;have e:Vt fu n ⟨H,[("rows",.ref i)]⟩=some (.ok<|.ret<|.ref<|k+t,⟨H++T',loc'⟩):=
  oQ h0 (oQ h1<|oQ (pE h2)<|oQ h4<|oQ h5 h6)
 simp[EB,e];rfl
theorem oz(h:t st=some (.ok false,oE)):tX t b o (f+1) st=o oE:=by show oM.then (t st) _=_;rw[h];rfl
section
variable(fu n:Nat)(x:Str)(p:Int)(s:V)(R:Hp)
def g7(i:Nat)(st:St):oM Fl:=pY (oL fu<|n+4) fu 40 false (pC 827) ((oW 827).drop i) st
def gk7(i:Nat):Fl->St->oM Fl:=fh<|Aa (D0 (oL fu<|n+4) fu (pY (oL fu<|n+4) fu 39) false<|pC 827)<|(oW 827).drop i
def RP:Loc:=[("self",.ref 1)]
theorem adX(st)(hs:st=⟨oS x p s (.str "") R,RP⟩):g7 fu n 0 st=oM.then (oM.then (pX st<|(pN<|t8 fu n 0 st).or none) λv st=>(p0 (pC 827) "raw" v st).then D1) (gk7 fu n 2):=by subst hs;rfl'
def qb(v:V):Loc:=[("self",.ref 1),("raw",v)]
def g7w(st:St):oM Fl:=tX (u7 (oL fu (n+4) false) (pC 827)<|whT<|sN (oW 827) 3) (pY (oL fu<|n+4) fu 39 false (pC 827)<|whB<|sN (oW 827) 3) (pY (oL fu<|n+4) fu 39 false (pC 827) []) fu st
theorem ac3(v):g7 fu n 2 ⟨oS x p s (.str "") R,qb v⟩=(g7w fu n ⟨oS x p s (.str "") R,qb v⟩).then (gk7 fu n 4):=by rfl'
theorem ad2(st)(v)(hs:st=⟨oS x p s (.str "") R,qb v⟩):u7 (oL fu (n+4) false) (pC 827) (whT<|sN (oW 827) 3) st=(sO st<|(Bk .Eq v .none st.H).or none).then λc st=>sO st<|(oL fu (n+4) false).Kt c st.H:=by subst hs;rfl'
theorem adq:g7 (fu+1) n 2 ⟨oS x p s (.str "") R,qb .none⟩=some (.ok<|.ret .none,⟨oS x p s (.str "") R,qb .none⟩):=by rfl'
theorem adH(v):g7 fu n 4 ⟨oS x p s (.str "") R,qb v⟩=some (.ok<|.ret v,⟨oS x p s (.str "") R,qb v⟩):=by rfl'
end
theorem W8(h:∀d∈t,d<128)(H):Bk .Eq (.str<|oP t) .none H=some (.bool false):=by show((if(PyData.canLay0 (.str<|oP t)&&PyData.canLay0 .none)=true then some (PyData.eqv (.str<|oP t) .none)else none).bind _)=_;simp only[PyData.canLay0,uH h];rfl
def jr(e:Ry):Prop:=∀t,e.tok=some t->∀d∈t,d<128
theorem OL{n:Nat}{x:Str}{R:Hp}{p:Int}{s:V}{z:Option Ry}(hf:0<fu)(hz:∀e,z=some e->jr e)(T:Zx x R (t8 fu n 0 ⟨oS x p s (.str "") R,RP⟩) z):Zx x R (g7 fu n 0 ⟨oS x p s (.str "") R,RP⟩) z:=by
 exists fu,n,x,R,p,s,z,_;obtain⟨f,rfl⟩:∃g,fu=g+1:=⟨fu-1,(eZ hf).mp rfl⟩;exists f,_;have e0:=adX (f+1) n x p s R _ rfl;induction T with
 |bad h=>exact .bad<|e0.trans (by rw[h];rfl)
 |@good e lc h=>
  have hk:=hz e rfl;refine .good (lc:=qb<|N2 e.tok)<|(e0.trans (by rw[h];rfl'):g7 (f+1) n 0 ⟨oS x p s (.str "") R,RP⟩=g7 (f+1) n 2 ⟨oS x e.k e.sv (.str "") R,qb<|N2 e.tok⟩).trans ?_;rcases ht:e.tok with _|t
  .exact adq f n x e.k e.sv R
  .rw[ac3];have e2:u7 (oL (f+1) (n+4) false) (pC 827) (whT<|sN (oW 827) 3) ⟨oS x e.k e.sv (.str "") R,qb<|N2<|some t⟩=some (.ok false,⟨oS x e.k e.sv (.str "") R,qb<|N2<|some t⟩):=by refine a6 (ad2 (f+1) n x e.k e.sv R _ _ rfl) ?_;rw[show Bk .Eq (N2<|some t) .none _=_ from W8 (hk t ht) _];rfl'
   simp[show g7w (f+1) n _=_ from oz e2];exact adH (f+1) n x e.k e.sv R _
section
variable(fu n:Nat)(x:Str)(p:Int)(s:V)(R:Hp)
def h3(i:Nat)(st:St):oM Fl:=pY (oL fu<|n+5) fu 40 false (pC 863) ((oW 863).drop i) st
def hk3(i:Nat):Fl->St->oM Fl:=fh<|Aa (D0 (oL fu<|n+5) fu (pY (oL fu<|n+5) fu 39) false<|pC 863)<|(oW 863).drop i
theorem ac6(st)(hs:st=⟨oS x p s (.str "") R,RP⟩):h3 fu n 0 st=oM.then (oM.then (pX st<|(pN<|g7 fu n 0 st).or none) λv st=>(p0 (pC 863) "token" v st).then D1) (hk3 fu n 1):=by subst hs;rfl'
def XK(v:V):Loc:=[("self",.ref 1),("token",v)]
theorem ahg:h3 fu n 1 ⟨oS x p s (.str "") R,XK .none⟩=some (.exc<|.ty "StopIteration",⟨oS x p s (.str "") R,XK .none⟩):=by rfl'
theorem ady(st)(v)(hs:st=⟨oS x p s (.str "") R,XK v⟩):h3 fu n 1 st=oM.then (oM.then (oM.then (sO st<|(Bk .Eq v .none st.H).or none) λc st=>sO st<|(oL fu (n+5) false).Kt c st.H) λc st=>bif c then pY (oL fu<|n+5) fu 39 false (pC 863) (ur<|sN (oW 863) 1) st else pY (oL fu<|n+5) fu 39 false (pC 863) (UF<|sN (oW 863) 1) st) (hk3 fu n 2):=by subst hs;rfl'
theorem aea(h:∀d∈t,d<128):h3 fu n 1 ⟨oS x p s (.str "") R,XK<|.str<|oP t⟩=some (.ok<|.ret<|.str<|oP t,⟨oS x p s (.str "") R,XK<|.str<|oP t⟩):=by rw[ady fu n x p s R _ _ rfl,W8 h];rfl'
end
def rU:LM->List Nat->List Nat->Option (List<|List Nat)
 |.bl,_,[]=>some []
 |.wd,tk,[]=>some [tk]
 |.qu _,_,[]=>none
 |.bl,_,c::r=>if c=32 then rU .bl [] r else if yv c=true then rU (.qu c) [] r else rU .wd [c] r
 |.wd,tk,c::r=>if c=32 then(rU .bl [] r).map (tk:: ·)else if yv c=true then rU (.qu c) tk r else rU .wd (tk++[c]) r
 |.qu q,tk,c::r=>if c=q then rU .wd tk r else rU (.qu q) (tk++[c]) r
theorem sL:rU .bl ym []=some []:=rfl
theorem sM:rU .wd ym []=some [ym]:=rfl
theorem s8:rU (.qu q) ym []=none:=rfl
theorem sY:rU .bl ym (c::r)=if c=32 then rU .bl [] r else if yv c=true then rU (.qu c) [] r else rU .wd [c] r:=rfl
theorem xE:rU .wd ym (c::r)=if c=32 then(rU .bl [] r).map (ym:: ·)else if yv c=true then rU (.qu c) ym r else rU .wd (ym++[c]) r:=rfl
theorem L4:rU (.qu q) ym (c::r)=if c=q then rU .wd ym r else rU (.qu q) (ym++[c]) r:=rfl
section
variable(fu n:Nat)(x:Str)(p:Int)(s:V)(R:Hp)
theorem ad0:oG (oL fu<|n+5) fu 863 [.ref 1] [] (oS x p s (.str "") R)=pN (h3 fu n 0 ⟨oS x p s (.str "") R,RP⟩):=by rfl'
end
inductive W0(x:Str)(R:Hp)(o:pO):Option Ry->Prop
 |bad {H:Hp} (h:o=some (.exc<|.ty "ValueError",H)):W0 x R o none
 |stop {e:Ry} (ht:e.tok=none) (h:o=some (.exc<|.ty "StopIteration",oS x e.k e.sv (.str "") R)):W0 x R o<|some e
 |item {e:Ry} {t:List Nat} (ht:e.tok=some t) (h:o=some (.ok<|.str<|oP t,oS x e.k e.sv (.str "") R)):W0 x R o<|some e
theorem Xs{s:V}(hf:0<fu)(hz:∀e,z=some e->jr e)(T:Zx x R (t8 fu n 0 ⟨oS x p s (.str "") R,RP⟩) z):W0 x R (oG (oL fu<|n+5) fu 863 [.ref 1] []<|oS x p s (.str "") R) z:=by
 have e0:=(ad0 fu n x p s R).trans<|aV pN<|ac6 fu n x p s R _ rfl;induction(OL hf hz T)with
 |bad h=>exact .bad<|e0.trans (by rw[h];rfl)
 |@good e lc h=>
  have e1:=e0.trans (show _=pN (h3 fu n 1 ⟨oS x e.k e.sv (.str "") R,XK<|N2 e.tok⟩)by rw[h];rfl');have hk:=hz e rfl;rcases ht:e.tok with _|t
  .exact .stop ht (e1.trans (by rw[ht];rfl))
  .exact .item ht (e1.trans (by simp[ht,show N2 (some t)=.str (oP t)from rfl,aea fu n x _ _ R<|hk t ht];rfl))
set_option tactic.hygienic true in
theorem GD{l:List Nat}:∀rest m tk qd k,l.drop k=rest->U2 m tk qd->rU m tk rest=match lx m tk qd k rest with
 |none=>none
 |some e=>match e.tok with
  |none=>some []
  |some t=>if e.sv=.none then some [t]else(rU .bl []<|l.drop e.k).map (t:: ·):=by
 revert l;exists l;have tw:∀{tk:List Nat}{qd:Bool}{sv:V}{k:Nat}{nc:List Nat},U2 .wd tk qd->Ry.tok ⟨sv,k,tk,qd,nc⟩=some tk:=by
  intro tk qd sv k nc h;rcases qd with _|_
  .rcases h with h|h
   .rcases tk with _|⟨_,_⟩
    .exact absurd rfl h
    .rfl
   .rcases h with _|_
  .rfl
 intro rest;induction rest with
 |nil=>
  intro m tk qd k hd hI;rcases m with _|_|q
  .obtain⟨rfl,rfl⟩:=hI;rfl
  .show some [tk]=match Ry.tok ⟨.none,k,tk,qd,[]⟩with
    |none=>some []
    |some t=>if V.none=V.none then some [t]else _
   exact(tw hI)▸rfl
  .rfl
 |cons c r ih=>
  intro m tk qd k hd hI;have tI:l.drop (k+1)=r:=by have:=aV List.tail hd;simpa using this
  refine K3▸?_;rcases m with _|_|q
  .simp[sL,sM,s8,sY,u9];split
   .exact ih _ _ _ _ tI ⟨rfl,rfl⟩
   .split
    .rename_i hq;refine ih _ _ _ _ tI ?_;simpa[yv,U2]using hq
    .exact ih _ _ _ _ tI (.inl<|eL _ _)
  .simp[sL,sM,s8,sY,xE,u9];split
   .dsimp only;exact(tw hI)▸tI▸rfl
   .split
    .rename_i hq;refine ih _ _ _ _ tI ?_;simpa[yv,U2]using hq
    .exact ih _ _ _ _ tI (.inl<|by simp)
  .simp[sL,sM,s8,sY,xE,L4,u9];split
   .exact ih _ _ _ _ tI (.inr rfl)
   .exact ih _ _ _ _ tI hI
theorem aaw{l:List Nat}:∀rest m tk qd k e,l.drop k=rest->lx m tk qd k rest=some e->(e.sv=.none/\l.drop e.k=[])\/(e.sv=.str " " /\(l.drop e.k).length<rest.length):=by
 exists l,[];exists rest;induction rest with
 |nil=>intro m tk qd k e hd h;induction m<;>rcases h with _|_<;>exact .inl ⟨rfl,hd⟩
 |cons c r ih=>
  intro m tk qd k e hd h;have tI:l.drop (k+1)=r:=by have:=aV List.tail hd;simpa using this
  rw[K3]at h;rcases hS:u9 m tk qd c with _|z
  .rw[hS]at h;obtain rfl:=aA h;exact .inr ⟨rfl,by simp only[tI];exact nO r.length⟩
  .obtain⟨m',Ky,Rx⟩:=z;rw[hS]at h;rcases ih m' Ky Rx (k+1) e tI h with h|h
   .exact .inl h
   .exact .inr ⟨h.1,by simp only[bA];exact lk h.2⟩
inductive Gv(x:Str)(acc:List V)(o:pO):Option (List<|List Nat)->Prop
 |bad {H:Hp} (h:o=some (.exc<|.ty "ValueError",H)):Gv x acc o none
 |good {ws:List (List Nat)} {k:Nat} {s:V} (h:o=some (.ok<|.ref 8,oS x k s (.str "") [.list<|acc++ws.map (V.str∘oP)])):Gv x acc o<|some ws
theorem aaM(S)(m)(x)(p)(s t)(R):sB S fu 1 8 (m+1) (oS x p s t R)=jt (oG S fu 863 [.ref 1] []<|oS x p s t R) (λv H'=>(Du 8 v H').bind<|sB S fu 1 8 m) (λH'=>some (.ok<|.ref 8,H')):=by rfl'
theorem adM{s t v:V}(h:acc.length<big):Du 8 v (oS x p s t [.list acc])=some (oS x p s t [.list<|acc++[v]]):=aH h
theorem TR{l:List Nat}(hl:∀c∈l,c∈pM)(h:lx .bl [] false k (l.drop k)=some e):jr e:=by
 intro t ht d hd;refine Op<|fw _ _ _ _ _ _ (λd hd=>hl d<|gJ hd) (by decide) h d ?_;unfold Ry.tok at ht;split at ht
 .obtain rfl:=aA ht;exact hd
 .split at ht
  .exact nn ht
  .obtain rfl:=aA ht;exact hd
theorem tn{n:Nat}{l:List Nat}(Dy:1000<=fu)(hl:∀c∈l,c∈pM)(hz:l.length<900):∀N k acc m,(l.drop k).length<N->N<m->acc.length+N<2000->
 Gv (oP l) acc (sB (oL fu<|n+5) fu 1 8 m<|oS (oP l) k (.str " ") (.str "") [.list acc]) (rU .bl []<|l.drop k):=by
 exists fu,n,l,[Dy,hl,hz];exists N;induction N with
 |zero=>exists k,acc,m;intro h;lia
 |succ N ih=>
  exists N,[ih];exists k,acc,m;intro h1 h2 h3;obtain⟨m,rfl⟩:∃g,m=g+2:=⟨m-2,(cM (lk<|aN (aY<|show 2<=m from(lk h2)).symm)<|lk<|aN<|aY<|show 2<=m from(lk h2))⟩;exists m,_;rw[GD (l.drop k) .bl [] false k rfl ⟨rfl,rfl⟩,aaM];have T:=SK fu n [.list acc] hl (lk hz) Dy (k:=k);have hsv:=λe h=>aaw (l.drop k) .bl [] false k e rfl h;have A9:=λe(h:lx .bl [] false k (l.drop k)=some e)=>TR hl h;generalize lx .bl [] false k (l.drop k)=z at T hsv A9;have X:=Xs (by omega) A9 T;induction X with
  |bad h=>exact h▸(.bad rfl)
  |@stop e ht h=> rw[h];simp only[ht];exact .good (by rw[List.map_nil,bF];rfl)
  |@item e t ht h=>
   exists e,t,_;rw[h];dsimp only;rw[ht];dsimp only;show Gv _ _ ((Du 8 (.str<|oP t) _).bind _) _;rw[adM (by unfold big;exact lk h3)];show Gv _ _ (sB (oL fu<|n+5) fu 1 8 (m+1) _) _;rcases hsv e rfl with⟨e1,e2⟩|⟨e1,e2⟩
   .rw[aH e1,e1,aaM];have X:=Xs (z:=some ⟨.none,e.k,[],false,[]⟩) (by omega) (λe h=>by cases h;exists t;intro ht;exact nomatch ht)<|.good<|EG fu n [.list<|acc++[.str<|oP t]] (by unfold big;exact lk hz) (fG.mp e2) (by omega);cases X with
    |stop ht h=>exact h▸(.good rfl)
    |item ht h=>exact nn ht
   .rw[aL<|e1▸(λh=>by injection h),e1];have I:=ih e.k (acc++[.str<|oP t]) (m+1) (lk<|aC e2 h1) (iG ‹_›) (by simp only[aG,fB];exact lk h3);generalize rU .bl [] (l.drop e.k)=w at I;induction I with
    |bad h=>exact h▸(.bad rfl)
    |good h=>exact h▸(.good (by rw[cW,aJ];rfl))
def PD:Stmt->List ExceptHandler
 |.Try _ h _ _ _=>h
 |_=>[]
section
variable(fu n:Nat)(x:Str)(H:Hp)
def lp0:Loc:=[("posix",.bool true),("comments",.bool false),("s",.str x)]
def lp1:Loc:=lp0 x++([("lex",.ref 1)]:Loc)
theorem ad6:pY (oL fu<|n+6) fu 40 false (pC 878) (oW 878) ⟨[],lp0 x⟩=oM.then (pX ⟨oS x 0 (.str " ") (.str "") [],lp1 x⟩<|(sB (oL fu<|n+5) fu 1 8 fu<|oS x 0 (.str " ") (.str "") [.list []]).or none) λv st=>some (.ok<|.ret v,st):=by rfl'
theorem adx:oG (oL fu<|n+6) fu 878 [.str x] [] []=pN (pY (oL fu<|n+6) fu 40 false (pC 878) (oW 878) ⟨[],lp0 x⟩):=by rfl'
def sR(o:pO):pO:=(o.map λp=>(Bz H.length p.1,H++p.2.map (AO.sh H.length))).or none
theorem SX(st)(hs:st=⟨H,[("line",.str x)]⟩):pY (oL fu<|n+7) fu 40 false (pC 922) (oW 922) st=vd (oL fu<|n+7) (pY (oL fu<|n+7) fu 39) (pC 922) (λU=>oM.then (pX st<|sR H<|oG (oL fu<|n+6) fu 878 [.str x] [] []) λv st=>some (.ok<|.ret v,st)) (PD<|sN (oW 922) 0) st:=by subst hs;rfl'
theorem QV(st)(hs:st=⟨H,[("line",.str x)]⟩)(H'):vd (oL fu<|n+7) (pY (oL fu<|n+7) fu 39) (pC 922) (λU=>some (.exc<|.ty "ValueError",⟨H',st.loc⟩)) (PD<|sN (oW 922) 0) st=some (.ok<|.ret .none,⟨H',st.loc⟩):=by subst hs;rfl'
theorem AK(st oE)(hs:st=⟨H,[("line",.str x)]⟩)(v):vd (oL fu<|n+7) (pY (oL fu<|n+7) fu 39) (pC 922) (λU=>some (.ok<|.ret v,oE)) (PD<|sN (oW 922) 0) st=some (.ok<|.ret v,oE):=by subst hs;rfl'
theorem aeb:oG (oL fu<|n+7) fu 922 [.str x] [] H=pN (pY (oL fu<|n+7) fu 40 false (pC 922) (oW 922) ⟨H,[("line",.str x)]⟩):=by rfl'
end
inductive R9(o:pO)(H:Hp):Option (List<|List Nat)->Prop
 |bad {G:Hp} (h:o=some (.ok .none,H++G)):R9 o H none
 |good {ws:List (List Nat)} {G:Hp} {i:Nat} (h:o=some (.ok<|.ref<|H.length+i,H++G)) (hi:G[i]?=some (.list<|ws.map<|V.str∘oP)):R9 o H<|some ws
theorem PC(ws:List<|List Nat):(ws.map<|V.str∘oP).map (V.sh k)=ws.map (V.str∘oP):=by refine a6 bX ?_;rfl
theorem zp{n:Nat}{l:List Nat}{H:Hp}(Dy:1000<=fu)(hl:∀c∈l,c∈pM)(hz:l.length<900):R9 (oG (oL fu<|n+7) fu 922 [.str<|oP l] [] H) H<|rU .bl [] l:=by
 exists fu,n,l,H,_;have W:=tn (n:=n) Dy hl hz (l.length+1) 0 [] fu (by rw[jY];exact nO l.length) (lk<|aC hz Dy) (by simp[fW];exact lk hz);have e0:=aeb fu n (oP l) H;simp only[SX fu n (oP l) H _ rfl,adx,ad6]at e0;replace W:=jY▸W;generalize rU .bl [] l=z at W;induction W with
 |bad h=> rw[show sB (oL fu<|n+5) fu 1 8 fu (oS (oP l) 0 (.str " ") (.str "") [.list []])=_ from h]at e0;exact .bad<|e0.trans<|aV pN<|QV fu n (oP l) H _ rfl<|H++_
 |good h=> rw[show sB (oL fu<|n+5) fu 1 8 fu (oS (oP l) 0 (.str " ") (.str "") [.list []])=_ from h]at e0;refine .good (e0.trans<|aV pN<|AK fu n (oP l) H _ ⟨H++_,[("line",.str<|oP l)]⟩ rfl<|.ref<|H.length+8) ?_;show some (AO.list<|([]++_).map<|V.sh H.length)=_;simp only[List.nil_append,PC]
theorem T6{S:Bool->oY}(h:qL f xT kv H=some r):oZ S fu f xT kv H=some r:=by show(qL f xT kv H).or _=_;simp only[h];rfl
theorem Dj:∀ps:List<|List Nat,uU (ps.map λp=>V.str<|oP p)=some (ps.map oP):=by
 intro zr;induction zr with
 |nil=> exact rfl
 |cons p ps pD=> simp only[cW,uU,pD];rfl
theorem Dh{s:List Nat}{ps:List (List Nat)}(h:(ps.map List.length).sum+ps.length*s.length<big):JoinOk (oP s) (ps.map oP)=true:=by unfold JoinOk;rw[StrLaws.joinTotal];unfold Builtin.Str.tooLong;rw[dA,decide_eq_false_iff_not,bX];simp only[show((λx:Str=>x.length)∘oP)=List.length from(funext λl=>rF l),aF,rF];have:=rG;grind
theorem Lq{S:Bool->oY}(hi:lE H i=some (ws.map λp=>V.str<|oP p))(hb:ws.length<big)(hj:(ws.map List.length).sum+ws.length*x.length<big):oZ S fu (.bi "str.join") [.str<|oP x,.ref i] [] H=some (.ok<|.str<|oP<|jn x ws,H):=T6 (by show(lE H i).bind _=_;rw[hi];show(if _ then _ else none)=_;rw[aH (by rw[aF];exact hb),Dj];show(if _ then _ else none)=_;rw[aH<|Dh hj,Di])
def rtE:Stmt->Expr
 |.Return (some e) _=>e
 |_=>.Name "" ⟨0,0,0,0⟩
section
variable(fu n:Nat)(l:List Nat)(ps:List V)
def M6(i:Nat)(st:St):oM Fl:=pY (oL fu<|n+1) fu 40 false (pC 910) ((oW 910).drop i) st
def OS(i:Nat):Fl->St->oM Fl:=fh<|Aa (D0 (oL fu<|n+1) fu (pY (oL fu<|n+1) fu 39) false<|pC 910)<|(oW 910).drop i
theorem ac7:oG (oL fu<|n+1) fu 910 [.str<|oP l] [] []=pN (M6 fu n 0 ⟨[],[("line",.str<|oP l)]⟩):=by rfl'
theorem ME(st)(hs:st=⟨[],[("line",.str<|oP l)]⟩):M6 fu n 0 st=oM.then (oM.then (pX st<|oZ (oL fu n) fu (.bi "str.split") [.str<|oP l,.str<|oP [34]] [] []) λv st=>(p0 (pC 910) "parts" v st).then D1) (OS fu n 1):=by subst hs;rfl'
def wG:Loc:=[("line",.str<|oP l),("parts",.ref 0)]
theorem ado{S:Bool->oY}(h:ps.length<big):oZ S fu (.bi "len") [.ref 0] [] [.list ps]=some (.ok<|.int ps.length,[.list ps]):=T6 (by show(if ps.length<big then some (r8.ok<|V.int ps.length,[AO.list ps])else none).or _=_;rw[aH h];rfl)
theorem RK(st)(hs:st=⟨[.list ps],wG l⟩):u7 (oL fu (n+1) false) (pC 910) (ifT<|sN (oW 910) 1) st=oM.then (oM.then (oM.then (pX st<|oZ (oL fu n) fu (.bi "len") [.ref 0] [] st.H) λa st=>uL st<|Uh .Mod a (.int 2) st.H) λa st=>sO st<|(oL fu (n+1) false).cmp .Eq a (.int 0) st.H) (λc st=>sO st<|(oL fu (n+1) false).Kt c st.H):=by subst hs;rfl'
theorem UI(h:ps.length<big):u7 (oL fu (n+1) false) (pC 910) (ifT<|sN (oW 910) 1) ⟨[.list ps],wG l⟩=some (.ok<|(ps.length:Int).fmod 2==0,⟨[.list ps],wG l⟩):=by rw[RK fu n l ps _ rfl,ado fu ps h];rfl'
theorem OH(st)(hs:st=⟨[.list ps],wG l⟩):M6 fu n 1 st=oM.then (oM.then (u7 (oL fu (n+1) false) (pC 910) (ifT<|sN (oW 910) 1) st) λc st=>bif c then pY (oL fu<|n+1) fu 39 false (pC 910) (ur<|sN (oW 910) 1) st else pY (oL fu<|n+1) fu 39 false (pC 910) (UF<|sN (oW 910) 1) st) (OS fu n 2):=by subst hs;rfl'
def ad1(S:oY)(f:V)(b:V)(o:oM V):oM Fl:=oM.then (oM.then (oM.then (o.then λv st=>some (.ok [v],st)) λxT st=>some (.ok (xT,([]:List<|Str×V)),st)) λa st=>if S.kp f st.H then pX st (S.call f ([b]++a.1) a.2 st.H)else none) λv st=>some (.ok<|.ret v,st)
theorem NN(st)(hs:st=⟨[.list ps],wG l⟩):M6 fu n 2 st=ad1 (oL fu (n+1) false) (.bi "str.join") (.str "") (uL st<|rJ (.ref 0) .none .none (.int 2) st.H):=by subst hs;rfl'
theorem AG(h:ps.length<big):M6 fu n 2 ⟨[.list ps],wG l⟩=(pX ⟨[.list ps,.list<|pA ps],wG l⟩<|oZ (oL fu n) fu (.bi "str.join") [.str "",.ref 1] [] [.list ps,.list<|pA ps]).then λv st=>some (.ok<|.ret v,st):=by
 have e:rJ (.ref 0) .none .none (.int 2) [.list ps]=some (.ref 1,[.list ps,.list<|pA ps]):=by rw[G8 rfl h rfl rfl rfl<|by decide,zj];rfl
 simp[NN fu n l ps _ rfl,e];rfl'
def nl(S:oY)(f:V)(b:V)(o:oM V):oM V:=oM.then (oM.then (o.then λv st=>some (.ok [v],st)) λxT st=>some (.ok (xT,([]:List<|Str×V)),st)) λa st=>if S.kp f st.H then pX st (S.call f ([b]++a.1) a.2 st.H)else none
def ad3:Expr->Expr
 |.BinOp _ _ r _=>r
 |e=>e
def QU:Expr:=ad3<|rtE<|sN (ur<|sN (oW 910) 1) 0
theorem TD(st)(hs:st=⟨[.list ps],wG l⟩):pY (oL fu<|n+1) fu 39 false (pC 910) (ur<|sN (oW 910) 1) st=oM.then (oM.then (oM.then (nl (oL fu (n+1) false) (.bi "str.join") (.str "")<|uL st<|rJ (.ref 0) .none (.int (-1)) (.int 2) st.H) λa st=>uL st<|(oL fu (n+1) false).bin .Add a (.str "\"") st.H) λa st=>((EV (oL fu (n+1) false) (pC 910) 23).1 QU st).then λb st=>uL st<|(oL fu (n+1) false).bin .Add a b st.H) λv st=>some (.ok<|.ret v,st):=by subst hs;rfl'
theorem fx(h:ps.length<big):rJ (.ref 0) .none (.int (-1)) (.int 2) [.list ps]=some (.ref 1,[.list ps,.list<|pA ps.dropLast]):=by rw[G8 rfl h rfl rfl rfl<|by decide,ke];rfl
theorem EN(h:ps.length<big):nl (oL fu (n+1) false) (.bi "str.join") (.str "") (uL ⟨[.list ps],wG l⟩<|rJ (.ref 0) .none (.int (-1)) (.int 2) [.list ps])=pX ⟨[.list ps,.list<|pA ps.dropLast],wG l⟩ (oZ (oL fu n) fu (.bi "str.join") [.str "",.ref 1] [] [.list ps,.list<|pA ps.dropLast]):=by rw[fx ps h];rfl'
theorem Pb(h:x.length+y.length<big):Uh .Add (.str<|oP x) (.str<|oP y) H=some (.str<|oP<|x++y,H):=by
 have e:gz (oP x) (oP y) H=some (.str<|oP<|x++y,H):=by
  refine(aH h).trans ?_;rcases x with _|⟨a,x⟩
  .rfl
  .rcases y with _|⟨b,y⟩
   .rw[bF];rfl
   .rw[<-Bj];rfl
 show none.or ((gz (oP x) (oP y) H).or _)=_;rw[e];rfl
theorem MZ(H)(st)(hs:st=⟨.list ps::H,wG l⟩):(EV (oL fu (n+1) false) (pC 910) 23).1 QU st=pX st ((oL fu (n+1) false).item (.ref 0) (.int (-1)) st.H):=by subst hs;rfl'
theorem bj{w:List Nat}(h:(ws++[w]).length<big):xQ (.ref 0) (.int (-1)) (.list ((ws++[w]).map λp=>V.str<|oP p)::H)=some (.ok<|.str<|oP w,.list ((ws++[w]).map λp=>V.str<|oP p)::H):=K6 rfl (by rw[aF];exact h)<|by simp
def xT(ws:List<|List Nat):List V:=ws.map λp=>V.str<|oP p
theorem Tg{w:List Nat}(hb:(ws++[w]).length<big)(hj:((pA ws).map List.length).sum+(pA ws).length*0<big)(he:(pA ws).length<big)(h1:(jn []<|pA ws).length+1<big)(h2:(jn [] (pA ws)++[34]).length+w.length<big):pY (oL fu<|n+1) fu 39 false (pC 910) (ur<|sN (oW 910) 1) ⟨[.list<|xT<|ws++[w]],wG l⟩=some (.ok<|.ret<|.str<|oP<|jn [] (pA ws)++[34]++w,⟨[.list<|xT<|ws++[w],.list<|xT<|pA ws],wG l⟩):=by
 exists fu,n,l,ws,w,_;have ec:nl (oL fu (n+1) false) (.bi "str.join") (.str "") (uL ⟨[.list<|xT<|ws++[w]],wG l⟩<|rJ (.ref 0) .none (.int (-1)) (.int 2) [.list<|xT<|ws++[w]])=some (.ok<|.str<|oP<|jn []<|pA ws,⟨[.list<|xT<|ws++[w],.list<|xT<|pA ws],wG l⟩):=by rw[EN fu n l _ (by unfold xT;rw[aF];exact hb),(by unfold xT;simp only[bE,List.map_singleton,List.dropLast_concat,Jz]:pA (xT<|ws++[w]).dropLast=xT (pA ws))];exact aV (pX _)<|Lq (x:=[]) rfl he hj
 have e1:∀H,(oL fu (n+1) false).bin .Add (.str<|oP<|jn []<|pA ws) (.str "\"") H=some (.str<|oP<|jn [] (pA ws)++[34],H):=λH=>Pb h1;have e2:∀H,(oL fu (n+1) false).bin .Add (.str<|oP<|jn [] (pA ws)++[34]) (.str<|oP w) H=some (.str<|oP<|jn [] (pA ws)++[34]++w,H):=λH=>Pb h2;have e4:(oL fu (n+1) false).item (.ref 0) (.int (-1)) [.list<|xT<|ws++[w],.list<|xT<|pA ws]=_:=bj hb;refine a6 (TD fu n l _ _ rfl) ?_;rw[ec];show oM.then (oM.then (uL _ _) _) _=_;rw[e1];show oM.then (oM.then ((EV (oL fu (n+1) false) (pC 910) 23).1 QU _) _) _=_;rw[MZ fu n l (xT<|ws++[w]) [.list<|xT<|pA ws] _ rfl];rw[e4];show oM.then (uL _ _) _=_;rw[e2];rfl
theorem bp(hb:ws.length<big)(hj:((pA ws).map List.length).sum+(pA ws).length*0<big)(he:(pA ws).length<big):M6 fu n 2 ⟨[.list<|xT ws],wG l⟩=some (.ok<|.ret<|.str<|oP<|jn []<|pA ws,⟨[.list<|xT ws,.list<|xT<|pA ws],wG l⟩):=by rw[AG fu n l _ (by unfold xT;rw[aF];exact hb),(by unfold xT;rw[Jz]:pA (xT ws)=xT (pA ws))];exact aV (λo=>oM.then (pX _ o) _)<|Lq (x:=[]) rfl he hj
theorem FA{S:Bool->oY}(h1:l.length+2<big)(c):oZ S fu (.bi "str.split") [.str<|oP l,.str<|oP [c]] [] []=some (.ok<|.ref 0,[.list<|xT<|rS c l]):=T6 (by have hl:=Gx l c;show(if _ then _ else none)=_;rw[aH ⟨rfl,by rw[rF];exact bP h1,by exact bW ‹_› ‹_›⟩,U1,bX];rfl)
theorem CZ(h1:l.length+2<big):M6 fu n 0 ⟨[],[("line",.str<|oP l)]⟩=M6 fu n 1 ⟨[.list<|xT<|rS 34 l],wG l⟩:=by rw[ME fu n l _ rfl,FA fu l h1];rfl'
theorem RQ(h:(xT<|rS 34 l).length<big):M6 fu n 1 ⟨[.list<|xT<|rS 34 l],wG l⟩=oM.then (bif(((xT<|rS 34 l).length:Int).fmod 2==0)then pY (oL fu<|n+1) fu 39 false (pC 910) (ur<|sN (oW 910) 1) ⟨[.list<|xT<|rS 34 l],wG l⟩else some (.ok .next,⟨[.list<|xT<|rS 34 l],wG l⟩)) (OS fu n 2):=by simp[OH fu n l _ _ rfl,UI fu n l _ h];rfl
end
def pI(l:List Nat):List Nat:=if(rS 34 l).length%2=0 then jn [] (pA (rS 34 l).dropLast)++[34]++(rS 34 l).getLast (Ax 34 l)else jn []<|pA<|rS 34 l
set_option tactic.hygienic true in
theorem Mo(c)(l):((rS c l).map List.length).sum<=l.length:=by
 induction l with
 |nil=>exact aI _
 |cons d r ih=>
  dsimp only[Gl];split
  .simp;exact lk ih
  .split
   .rename_i h;rw[h]at ih;simp at ih⊢;exact lk ih
   .simp
theorem Jq(ps:List<|List Nat):((pA ps).map List.length).sum<=(ps.map List.length).sum/\(pA ps).length<=ps.length:=by
 induction ps using L9 with
 |h0=>exact⟨aI _,aI _⟩
 |h1 a=>exact⟨aI _,aI _⟩
 |h2 a b r ih=>exact⟨fJ (bC ih.1<|cR _ _) _,gQ<|bC ih.2<|dM _⟩
theorem Xk{ps:List (List Nat)}(h:p∈ps):p.length<=(ps.map List.length).sum:=by
 induction h with
 |head=>exact aT _ _
 |tail _ _ ih=>exact bC ih<|cR _ _
theorem Sv(ps):(jn [] ps).length=(ps.map List.length).sum:=by
 induction ps using li with
 |h0=>rfl
 |h1 p=>rfl
 |h2 p q r ih=>simp only[RM,bF,aG,ih,cW,l5]
theorem yn{fu n:Nat}{l:List Nat}(hl:l.length<1000):∃G,oG (oL fu<|n+1) fu 910 [.str<|oP l] [] []=some (.ok<|.str<|oP<|pI l,G):=by
 exists fu,n,l,_;have afp:5000<big:=(by decide);have a1:=Ml 34 l;have a2:=Mo 34 l;have hv:(xT<|rS 34 l).length=(rS 34 l).length:=by unfold xT;rw[aF]
 simp[ac7,CZ fu n l (lk<|aC afp hl),RQ fu n l (by rw[hv];lia),hv];unfold pI;by_cases h:(rS 34 l).length%2=0
 .rw[aH h,show(((rS 34 l).length:Int).fmod 2==0)=true by rw[a5,eG _<|by omega];exact mH.mp h];have e:=List.dropLast_concat_getLast<|Ax 34 l;generalize(rS 34 l).dropLast=ws at e;generalize(rS 34 l).getLast (Ax 34 l)=w at e;have b2:((rS 34 l).map List.length).sum=(ws.map List.length).sum+w.length:=by simp only[<-e,bE,nH];rfl
  have b3:=Jq ws;have b4:=Sv<|pA ws;simp only[<-e,Tg fu n l (by rw[e];grind) (by omega) (by grind) (by omega) (by simp only[aG,fB];omega)];exact⟨_,rfl⟩
 .rw[aL h,show(((rS 34 l).length:Int).fmod 2==0)=false by rw[a7,eG _<|by omega];exact mI.mp h];have b3:=Jq<|rS 34 l;refine⟨_,(aV pN rfl).trans<|(aV pN<|bp fu n l (by grind) (by grind)<|by grind).trans rfl⟩
def Gs(c:Nat):Bool:=c==97||c==98
def D7(l:List Nat):Bool:=l.all Gs
def uZ(w:List Nat):List Nat:=if w.isEmpty=false/\D7 w=true then w else[39]++wE 39 [39,34,39,34,39] w++[39]
def pV(ws:List<|List Nat):List Nat:=jn [32]<|ws.map uZ
theorem LK:Str.ofString "'" =oP [39]:=by decide+kernel
theorem NE:Str.ofString "'\"'\"'" =oP [39,34,39,34,39]:=by decide+kernel
theorem MY:Str.ofString "ab" =oP [97,98]:=by decide+kernel
theorem Wm:(oP l==oP m)=(l==m):=by rw[eO,a5,a5,K5]
def rq(c:Nat):List Nat:=if c=39 then[39,34,39,34,39]else[c]
theorem Cn(w):wE 39 [39,34,39,34,39] w=w.flatMap rq:=rfl
theorem OE(c):(rq c).length<=5:=by unfold rq;split<;>simp
theorem wq:∀w:List Nat,((w.map rq).map List.length).sum<=5*w.length/\(w.flatMap rq).length<=5*w.length:=by
 intro zr;induction zr with
 |nil=> simp
 |cons c w pD=> have h2:=OE c;simp only[cW,l5,List.flatMap_cons,aG,bA];exact⟨lk<|aC h2 pD.1,lk<|aC h2 pD.2⟩
theorem F6(ps):jn [] ps=ps.flatten:=by
 induction ps using li with
 |h0=>rfl
 |h1 p=>exact(bF p).symm
 |h2 p q r ih=>rw[RM,bF,ih];rfl
theorem bz(w):((w.filter λc=>!Gs c).map λc=>[c]).isEmpty=D7 w:=by
 unfold D7;induction w with
 |nil=>rfl
 |cons c w ih=> rcases h:Gs c with _|_<;>simp[h]at ih⊢<;>exact ih
theorem Bc(w):(uZ w).length<=5*w.length+2:=by
 unfold uZ;split
 .exact(by simp+arith only)
 .have:=(wq w).2;rw[<-Cn]at this;simp[aG];exact String.Pos.Raw.mk_le_mk.mp this
def zV(f:List Nat->List Nat):List (List Nat)->List (List Nat)
 |[]=>[]
 |[a]=>[f a]
 |a::b::r=>f a::b::zV f r
theorem afS:zV f []=[]:=rfl
theorem aaC:zV f [a]=[f a]:=rfl
theorem aaP:zV f (a::b::r)=f a::b::zV f r:=rfl
def tA(l:List Nat):List Nat:=wE 32 [10] l
def yU(l:List Nat):Option<|List<|List Nat:=if(rS 39 l).length%2=0 then none else if(pA<|rS 39 l).any (λp=>decide<|34∈p)=true then none else
 some (((rS 10<|jn [39]<|zV tA<|rS 39 l).filter λp=>!p.isEmpty).map<|wE 39 [])
theorem Wq(f)(ps):(zV f ps).length=ps.length:=by
 induction ps using L9 with
 |h0=>rfl
 |h1 a=>rfl
 |h2 a b r ih=>exact aV (· +1+1) ih
theorem tq(f)(ps:List<|List Nat):∀k p,ps[2*k]?=some p->(zV f (ps.take<|2*k)++ps.drop (2*k)).set (2*k) (f p)=zV f (ps.take<|2*(k+1))++ps.drop (2*(k+1))/\(zV f (ps.take<|2*k)++ps.drop (2*k))[2*k]?=some p:=by
 induction ps using L9 with
 |h0=>exact λU U h=>nn h
 |h1 a=>
  intro k p h;rcases k with _|k
  .obtain rfl:=aA h;exact⟨rfl,rfl⟩
  .exact nn h
 |h2 a b r ih=>
  intro k p h;rcases k with _|k
  .obtain rfl:=aA h;exact⟨rfl,rfl⟩
  .exact⟨aV (f a::b:: ·) (ih k p h).1,(ih k p h).2⟩
theorem Jm(ps:List<|List Nat):∀k,(pA ps)[k]?=ps[2*k]? :=by
 induction ps using L9 with
 |h0=>exact λU=>rfl
 |h1 a=>intro k;rcases k with _|k<;>rfl
 |h2 a b r ih=>
  intro k;rcases k with _|k
  .rfl
  .exact ih k
theorem Zs(ps:List<|List Nat):(pA ps).length=(ps.length+1)/2:=by
 induction ps using L9 with
 |h0=>rfl
 |h1 a=>simp[Mh]
 |h2 a b r ih=>exact(aV (· +1) ih).trans (j4 (r.length+1)<|c6 1).symm
theorem ny(h:ps.length<=k)(f):zV f (ps.take k)++ps.drop k=zV f ps:=by simp[eV h,kP h]
theorem S6(hz:∀d∈z,d<128)(hl:∀d∈l,d<128):∀d∈wE c z l,d<128:=by
 intro d hd;obtain⟨e,he,hd⟩:=iY.mp hd;split at hd
 .exact hz d hd
 .rw[aE]at hd;subst hd;exact hl _ he
set_option tactic.hygienic true in
theorem W1:∀{l:List Nat}{p:List Nat},p∈rS c l->∀d∈p,d∈l:=by
 intro zr;induction zr with
 |nil=> intro p h d hd;simp only[Bp,aE]at h;subst h;exact nomatch hd
 |cons e r pD=>
  intro p h d hd;dsimp only[Bp,Gl]at h;split at h
  .rcases aK.mp h with rfl|h
   .exact nomatch hd
   .exact cO _ (pD h d hd)
  .split at h
   .rename_i q qs e';rcases aK.mp h with rfl|h
    .rcases aK.mp hd with rfl|hd
     .exact cN
     .exact cO _ (pD (e'▸cN) d hd)
    .exact cO _ (pD (e'▸(cO _ h)) d hd)
   .simp only[aE]at h;subst h;simp only[aE]at hd;subst hd;exact cN
theorem Qg(l):(tA l).length=l.length:=by
 induction l with
 |nil=>rfl
 |cons c l ih=> have e:tA (c::l)=(if c=32 then[10]else[c])++tA l:=rfl;simp only[e];split<;>simp<;>exact Nat.add_right_cancel<|congrFun (aV HAdd.hAdd ih) c
theorem GA(ps):((zV tA ps).map List.length)=ps.map List.length:=by
 induction ps using L9 with
 |h0=>rfl
 |h1 a=>simp only[aaC,cW,Qg]
 |h2 a b r ih=>simp[aaP,Qg,ih]
theorem DR(s)(ps):(jn [s] ps).length<=(ps.map List.length).sum+ps.length:=by
 induction ps using li with
 |h0=>exact aI _
 |h1 p=>exact dM _
 |h2 p q r ih=> simp only[RM,aG,cW,l5,bA,fW]at ih⊢;exact lk ih
theorem zw(hf:∀p,(∀c∈p,c<128)->∀c∈f p,c<128)(ps):(∀p∈ps,∀c∈p,c<128)->∀p∈zV f ps,∀c∈p,c<128:=by
 induction ps using L9 with
 |h0=>exact λh=>h
 |h1 a=>exact λh p hp=>aE.mp hp▸hf a (h a<|.head _)
 |h2 a b r ih=>
  intro h p hp;rcases aK.mp hp with rfl|hp
  .exact hf a (h a<|.head _)
  rcases aK.mp hp with rfl|hp
  .exact h _ (.tail _<|.head _)
  .exact ih (λq hq=>h q<|.tail _<|.tail _ hq) p hp
def r6:List<|List Nat:=[[97],[98],[39],[34],[32],[]]
def Ep(x:Int):List Nat:=r6.getD (x.fmod 6).toNat []
def wordOf(x:Int):List Nat:=Ep x++Ep (x.fdiv 6)
def sV(zs:List Int):List<|List Nat:=(zs.take 12).map wordOf
def Pw(ws:List<|List Nat)(k:Nat):List<|List Nat:=(ws.drop<|3*k).take 3
def Jn(ws:List<|List Nat):List<|List<|List Nat:=(List.range<|(ws.length+3-1)/3).map<|Pw ws
theorem yo(x:Int):∃m:Nat,m<6/\x.fmod 6=(m:Int):=by rw[eG _<|by decide];have h:=Int.emod_nonneg x (b:=6) (by decide);exact⟨(x%6).toNat,(Int.toNat_lt h).mpr<|Int.emod_lt_of_pos x<|by decide,(Int.toNat_of_nonneg h).symm⟩
theorem Db(x){m:Nat}(hm:m<6)(e:x.fmod 6=(m:Int)):r6[m]?=some (Ep x):=by unfold Ep;rw[e,c9];have:m<r6.length:=hm;exact(aP this)▸rfl
theorem zO(x):(Ep x).length<=1/\∀c∈Ep x,c<128:=by obtain⟨m,q8⟩:=yo x;exact(by decide:∀p∈r6,p.length<=1/\∀c∈p,c<128) _<|aR<|Db x q8.1 q8.2
theorem To(x):(wordOf x).length<=2/\∀c∈wordOf x,c<128:=by
 have h1:=zO x;have h2:=zO<|x.fdiv 6;unfold wordOf;refine⟨by rw[aG];exact lk<|aC h2.1 h1.1,λc hc=>?_⟩;rcases aO.mp hc with h|h
 .exact h1.2 c h
 .exact h2.2 c h
def uV:List Nat->List Nat->Option Nat->List Nat->List Nat
 |out,cur,_,[]=>out++cur
 |out,cur,none,c::r=>if c=34 then uV out (cur++[c]) (some cur.length) r else uV out (cur++[c]) none r
 |out,cur,some k,c::r=>if c=34 then uV (out++cur.take k) [] none r else uV out (cur++[c]) (some k) r
theorem afM:uV out cur o []=out++cur:=rfl
theorem afP:uV out cur none (c::r)=if c=34 then uV out (cur++[c]) (some cur.length) r else uV out (cur++[c]) none r:=rfl
theorem afA:uV out cur (some k) (c::r)=if c=34 then uV (out++cur.take k) [] none r else uV out (cur++[c]) (some k) r:=rfl
theorem ft(out cur r):uV out cur none (34::r)=uV out (cur++[34]) (some cur.length) r:=aH rfl
theorem ow(out cur r)(k):uV out cur (some k) (34::r)=uV (out++cur.take k) [] none r:=aH rfl
theorem ff(out cur r)(o)(h:¬c=34):uV out cur o (c::r)=uV out (cur++[c]) o r:=by
 rcases o with _|k
 .exact aL h
 .exact aL h
theorem CJ(r):∀out cur o,(uV out cur o r).length<=out.length+cur.length+r.length:=by
 induction r with
 |nil=>exact λout cur o=>aN<|aG
 |cons c r ih=>
  intro out cur o;have s:out.length+(cur++[c]).length+r.length=out.length+cur.length+(c::r).length:=by simp only[aG,bA,fW];exact cM (by simp+arith only)<|by simp+arith only
  rcases o with _|k
  .exact iteInduction (motive:=λx=>List.length x<=_) (λU=>s▸ih out (cur++[c]) _) λU=>s▸ih out (cur++[c]) _
  .refine iteInduction (motive:=λx=>List.length x<=_) (λU=>bC (ih (out++cur.take k) [] none) ?_) λU=>s▸ih out (cur++[c]) _;simp only[aG,bA,fW,fQ];lia
theorem Zj{α:Type}(a b:α)(r):pA (a::b::r)=a::pA r:=rfl
theorem sG(h:34∉l):pI l=l:=by unfold pI;simp[Bt 34 l h];rfl
theorem w0(hp:34∉p)(hr:34∉r):pI (p++34::r)=p++34::r:=by
 have e:rS 34 (p++34::r)=[p,r]:=by simp[B8 34 p r hp,Bt 34 r hr]
 unfold pI;simp[e];simp[V7,Mh,ac5,adT]
theorem xC(hp:34∉p)(hq:34∉q):pI (p++34::(q++34::r))=p++pI r:=by
 exists p,q,r,_;have e:rS 34 (p++34::(q++34::r))=p::q::rS 34 r:=by simp[B8 34 p _ hp,B8 34 q r hq]
 have sJ:=Ax 34 r;unfold pI;simp only[e];rw[(by simp[bA];lia:(p::q::rS 34 r).length%2=(rS 34 r).length%2)];split
 .have e1:(p::q::rS 34 r).dropLast=p::q::(rS 34 r).dropLast:=by
   rcases h:rS 34 r with _|⟨a,b⟩
   .exact absurd h sJ
   .rfl
  have e2:(p::q::rS 34 r).getLast (by simp)=(rS 34 r).getLast sJ:=by rw[m1<|by simp,m1 sJ]
  simp only[e1,e2,Zj,F6];simp
 .simp[F6];rfl
theorem Fg(hp:34∉p)(out cur r)(o):uV out cur o (p++r)=uV out (cur++p) o r:=by
 induction p generalizing cur with
 |nil=>simp
 |cons c p ih=> simp only[kD,ff _ _ _ _ (λe=>hp (e▸cN):¬c=34),ih λm=>hp<|cO _ m,aJ];rfl
theorem v7(l):34∉l\/∃p r,34∉p/\l=p++34::r:=by
 by_cases h:34∈l
 .obtain⟨p,r,e,q⟩:=List.eq_append_cons_of_mem h;exact .inr ⟨p,r,q,e⟩
 .exact .inl h
theorem Kd:∀N l out,l.length<=N->uV out [] none l=out++pI l:=by
 intro N;induction N with
 |zero=> intro l out h;have:=cC.mp<|kR h;subst this;rw[sG<|by simp];rfl
 |succ N ih=>
  intro l out h;rcases v7 l with hf|⟨p,r,hp,rfl⟩
  .have:=Fg hf out [] [] none;rw[bF]at this;simp only[this,sG hf];rfl
  .simp[Fg hp,ft];rcases v7 r with hf|⟨q,r',hq,rfl⟩
   .have:=Fg hf out (p++[34]) []<|some p.length;simp only[bF]at this;simp only[this,w0 hp hf];rw[aJ];rfl
   .simp only[Fg hq,ow,xC hp hq];have e:(p++[34]++q).take p.length=p:=by simp only[aJ,List.take_left]
    rw[e,ih r' _ (by simp at h;lia),aJ]
def z0(l:List Nat):List Nat:=wE 39 [] l
theorem yY(a b):z0 (a++b)=z0 a++z0 b:=by simp[z0,wE]
theorem S7:z0 [39]=[]:=rfl
theorem Hk(h:c≠39):z0 [c]=[c]:=by simp[z0,wE,h]
def Y8:List Nat->List Nat->List (List Nat)
 |cur,[]=>if cur.isEmpty=true then[]else[z0 cur]
 |cur,c::r=>if c=10 then(if cur.isEmpty=true then Y8 [] r else z0 cur::Y8 [] r)else Y8 (cur++[c]) r
theorem Gg:Y8 cur []=if cur.isEmpty=true then[]else[z0 cur]:=rfl
theorem P9:Y8 cur (c::r)=if c=10 then(if cur.isEmpty=true then Y8 [] r else z0 cur::Y8 [] r)else Y8 (cur++[c]) r:=rfl
def Sr:Bool->List Nat->List Nat
 |_,[]=>[]
 |b,c::r=>if c=39 then 39::Sr (!b) r else if b=false/\c=32 then 10::Sr b r else c::Sr b r
theorem Jk:Sr b []=[]:=rfl
theorem Kc:Sr b (c::r)=if c=39 then 39::Sr (!b) r else if b=false/\c=32 then 10::Sr b r else c::Sr b r:=rfl
def JT:Bool->List Nat->Bool
 |b,[]=>b
 |b,c::r=>if c=39 then JT (!b) r else JT b r
theorem Gy:JT b []=b:=rfl
theorem Gj:JT b (c::r)=if c=39 then JT (!b) r else JT b r:=rfl
def JI:Bool->List Nat->Bool
 |_,[]=>false
 |b,c::r=>if c=39 then JI (!b) r else(!b&&c==34)||JI b r
theorem Tx:JI b []=false:=rfl
theorem Uc:JI b (c::r)=if c=39 then JI (!b) r else(!b&&c==34)||JI b r:=rfl
def wf(b:Bool)(cur l:List Nat):Option<|List<|List Nat:=if JT b l=true then none else if JI b l=true then none else some<|Y8 cur<|Sr b l
theorem J4:∀l tk,34∉l->rU (.qu 34) tk l=none:=by
 intro zr;induction zr with
 |nil=> intro tk _;exact rfl
 |cons c r pD=> intro tk h;rw[L4,aL (λe=>h (e▸cN):¬c=34)];exact pD _ λm=>h<|cO _ m
def vT(l:List Nat):Nat:=(l.filter (· ==34)).length
theorem Gf(c)(l):vT (c::l)=(if c=34 then 1 else 0)+vT l:=by
 unfold vT;by_cases h:c=34
 .simp[h];exact iH (List.filter (λx=>x==34) l).length 1
 .simp[h]
theorem Hc(h:vT l=0):34∉l:=by intro hm;have h0:=cC.mp h;rw[b8]at h0;exact h0 34 hm rfl
theorem Xf:∀l,(∀c∈l,c∈pM)->vT l<=1->
 rU .bl [] l=wf false [] l/\(∀cur,cur.isEmpty=false->rU .wd (z0 cur) l=wf false cur l)/\(∀cur,cur.isEmpty=false->rU (.qu 39) (z0 cur) l=wf true cur l):=by
 exists zr;induction zr with
 |nil=>
  intro x7 Rt;refine⟨rfl,λcur h=>?_,λcur h=>?_⟩
  .simp[sL,sM,wf,Gy,Gj,Tx,Uc,Jk,Gg,h]
  .rfl
 |cons c r pD=>
  exists c,r,[pD];intro hl hc;rw[Gf]at hc;have hcs:=hl c cN;obtain⟨i1,q8⟩:=pD (λd hd=>hl d<|cO _ hd)<|lH hc;have sJ:∀(cur:List Nat)d,(cur++[d]).isEmpty=false:=λcur d=>by rcases cur with _|_<;>rfl
  simp only[pM,aK,bG,or_false]at hcs;by_cases Ix:c=39
  .subst Ix;refine⟨?_,λcur h=>?_,λcur h=>?_⟩
   .have e:=q8.2 [39] rfl;simp only[S7]at e;simp[sL,sM,s8,sY,e];rfl
   .have e:=q8.2 (cur++[39])<|sJ _ _;simp only[yY,S7,bF]at e;simp[sL,sM,s8,sY,xE,e];rfl
   .have e:=q8.1 (cur++[39])<|sJ _ _;simp only[yY,S7,bF]at e;simp[sL,sM,s8,sY,xE,L4,e];rfl
  .have inq:∀cur,cur.isEmpty=false->rU (.qu 39) (z0 cur) (c::r)=wf true cur (c::r):=by
    exists cur;intro h;have e:=q8.2 (cur++[c])<|sJ _ _;simp only[yY,Hk Ix]at e;have h10:c≠10:=by rcases hcs with rfl|rfl|rfl|rfl|rfl<;>decide
    simp[sL,sM,s8,sY,xE,L4,e];simp[wf,Gy,Gj,Tx,Uc,Jk,Kc,Gg,P9,Ix,h10]
   refine⟨?_,λcur h=>?_,inq⟩
   .exists _;rcases hcs with rfl|rfl|rfl|rfl|rfl
    .have e:=q8.1 [97] rfl;rw[Hk<|by decide]at e;refine k9 ?_;simp[sL,sM,s8,sY,e];rfl
    .have e:=q8.1 [98] rfl;rw[Hk<|by decide]at e;refine k9 ?_;simp[sL,sM,s8,sY,e];rfl
    .exact k9 (absurd rfl Ix)
    .have hn:34∉r:=Hc (by simp at hc;omega);refine k9 ?_;simp only[sL,sM,s8,sY,show 34≠32 from by decide,show yv 34=true from rfl,J4 r [] hn];simp[wf,Gy,Gj,Tx,Uc]
    .refine k9 ?_;simp[sL,sM,s8,sY,i1];rfl
   .exists cur,_;rcases hcs with rfl|rfl|rfl|rfl|rfl
    .have e:=q8.1 (cur++[97])<|sJ _ _;rw[yY,Hk<|by decide]at e;simp[sL,sM,s8,sY,xE,e];rfl
    .have e:=q8.1 (cur++[98])<|sJ _ _;rw[yY,Hk<|by decide]at e;simp[sL,sM,s8,sY,xE,e];rfl
    .exact absurd rfl Ix
    .have hn:34∉r:=Hc (by simp at hc;omega);simp[sL,sM,s8,sY,xE,show 34≠32 from by decide,show yv 34=true from rfl,J4 r _ hn];simp[wf,Gy,Gj,Tx,Uc]
    .simp[sL,sM,s8,sY,xE,i1];simp[wf,Gy,Gj,Tx,Uc,Jk,Kc,Gg,P9,h];split
     .rfl
     .split<;>rfl
theorem Ha{α:Type}(a:α)(ps):pA (a::ps)=a::pA ps.tail:=by rcases ps with _|_<;>rfl
def aa1:Bool->List (List Nat)->List (List Nat)
 |false,ps=>zV tA ps
 |true,[]=>[]
 |true,p::ps=>p::zV tA ps
theorem Bf(a)(ps):zV tA (a::ps)=tA a::aa1 true ps:=by rcases ps with _|_<;>rfl
def UD(b:Bool)(ps:List<|List Nat):Bool:=(pA<|if b=true then ps.tail else ps).any λp=>decide<|34∈p
theorem On(h:c≠39)(e:rS 39 r=p::ps):rS 39 (c::r)=(c::p)::ps:=by
 show(if c=39 then[]::rS 39 r else match rS 39 r with
  |p::ps=>(c::p)::ps
  |[]=>[[c]])=_
 rw[aL h,e]
theorem Py(r):rS 39 (39::r)=[]::rS 39 r:=rfl
theorem yp(r):∃p ps,rS 39 r=p::ps:=by
 rcases h:rS 39 r with _|⟨p,ps⟩
 .exact absurd h (Ax 39 r)
 .exact⟨p,ps,rfl⟩
theorem Mi(s c)(p)(ps):jn [s] ((c::p)::ps)=c::jn [s] (p::ps):=by rcases ps with _|_<;>rfl
theorem GJ:∀l b,JT b l=(b !=decide ((rS 39 l).length%2=0))/\JI b l=UD b (rS 39 l)/\Sr b l=jn [39] (aa1 b<|rS 39 l):=by
 exists zr;induction zr with
 |nil=> exists b;induction b<;>exact⟨rfl,rfl,rfl⟩
 |cons c r pD=>
  exists c,r,[pD];exists b;exists p,ps,(e:yp r);by_cases Ix:c=39
  .subst Ix;have q8:=pD (!b);rw[Py];refine⟨?_,?_,?_⟩
   .simp[Gy,Gj,q8.1];by_cases hp:(rS 39 r).length%2=0
    .have:¬((rS 39 r).length+1)%2=0:=by lia
     simp only[b7 hp,cQ this];cases b<;>rfl
    .have:((rS 39 r).length+1)%2=0:=by lia
     simp only[cQ hp,b7 this];cases b<;>rfl
   .simp[Tx,Uc,q8.2.1];unfold UD;cases b
    .simp[Ha]
    .rfl
   .simp[Jk,Kc,q8.2.2,e];cases b
    .show 39::jn [39] (p::zV tA ps)=jn [39] (zV tA ([]::p::ps));rw[Bf];rfl
    .show 39::jn [39] (zV tA (p::ps))=jn [39] ([]::zV tA (p::ps));rw[Bf];rfl
  .obtain⟨i1,i2,i3⟩:=pD b;refine(On Ix e)▸?_;rw[e]at i1 i2 i3;refine⟨?_,?_,?_⟩
   .simp[Gy,Gj,aL Ix,i1]
   .simp[Tx,Uc,aL Ix,i2];unfold UD;cases b
    .simp[Ha];rw[<-Bool.or_assoc];congr 1
     rw[eO];simp only[d8,a5,d6];constructor
     .rintro(h|h)
      .exact .inl h.symm
      .exact .inr h
     .rintro(h|h)
      .exact .inl h.symm
      .exact .inr h
    .rfl
   .rw[Kc,aL Ix,i3];cases b
    .show(if _ then _ else _)=jn [39] (zV tA ((c::p)::ps));rw[Bf];show(if false=false/\c=32 then 10::jn [39] (zV tA (p::ps))else c::jn [39] (zV tA (p::ps)))=_;rw[Bf];have e1:tA (c::p)=(if c=32 then[10]else[c])++tA p:=rfl;rw[e1];by_cases yq:c=32
     .rw[aH ⟨rfl,yq⟩,aH yq];exact(Mi 39 10 _ _).symm
     .rw[aL λh=>yq h.2,aL yq];exact(Mi 39 c _ _).symm
    .refine(a6 (aL<|by simp) ?_:(if true=false/\c=32 then _ else c::jn [39] (p::zV tA ps))=jn [39] ((c::p)::zV tA ps));rw[Mi]
theorem QB:∀T cur,10∉cur->Y8 cur T=((rS 10<|cur++T).filter λp=>!p.isEmpty).map z0:=by
 intro zr;induction zr with
 |nil=> intro cur h;simp[Bt 10 cur h];rcases cur with _|_<;>rfl
 |cons c r pD=>
  intro cur h;by_cases h10:c=10
  .subst h10;rw[B8 10 cur r h];have ih:=pD [] (by simp);rcases cur with _|_<;>simp[Gg,P9,ih]
  .have ih:=pD (cur++[c]) (by simp[h];exact neN λa=>h10<|id<|nK a);simp only[aJ,List.singleton_append]at ih;rw[P9,aL h10,ih]
theorem pq(hl:∀c∈l,c∈pM)(hc:vT l<=1):rU .bl [] l=yU l:=by
 exists l,_;refine a6 ((Xf l hl hc).1) ?_;obtain⟨i1,q8⟩:=GJ l false;delta wf yU;simp only[i1,q8.1,q8.2,QB _ []<|by simp];simp only[(by rcases decide ((rS 39 l).length%2=0)with _|_<;>rfl:(false !=decide ((rS 39 l).length%2=0))=decide ((rS 39 l).length%2=0))]
 simp only[d6];rfl
theorem Js(a b):vT (a++b)=vT a+vT b:=by simp[vT]
theorem xF(h:34∉l):vT l=0:=by unfold vT;rw[cC,b8];intro c hc e;simp only[a5]at e;exact h<|e▸hc
theorem bf:∀N l,l.length<=N->vT (pI l)<=1/\∀c∈pI l,c∈l:=by
 intro N;induction N with
 |zero=> intro l h;have:=cC.mp<|kR h;subst this;rw[sG<|by simp];simp[vT]
 |succ N ih=>
  intro l h;rcases v7 l with hf|⟨p,r,hp,rfl⟩
  .rw[sG hf,xF hf];simp
  .rcases v7 r with hf|⟨q,r',hq,rfl⟩
   .rw[w0 hp hf,Js,Gf,xF hp,xF hf];simp
   .obtain⟨i1,i2⟩:=ih r' (by simp at h;lia);rw[xC hp hq,Js,xF hp];refine⟨(lk i1),λc hc=>?_⟩;rcases aO.mp hc with h'|h'
    .simp[h']
    .simp[i2 c h']
theorem Y9(w):Hv (oP w)=D7 w:=by refine a6 iX.symm ?_;rw[wT];rfl
theorem aj(w):tR (oP w)=oP (uZ w):=by
 unfold tR;rw[rF,Y9];rcases w with _|⟨c,w⟩
 .decide+kernel
 .refine a6 (aL<|by simp) ?_;unfold uZ;by_cases hg:D7 (c::w)=true
  .rw[aH hg,aH ⟨rfl,hg⟩]
  .rw[aL hg,aL λh=>hg h.2,LK,NE,Qb,my,Bj,Bj]
theorem Zn:(r6.all λp=>r6.all λq=>sW.contains<|oP<|p++q)=true:=by decide+kernel
theorem Dl(x):Ep x∈r6:=by obtain⟨m,q8⟩:=yo x;exact aR<|Db x q8.1 q8.2
theorem MC(x):sW.contains (oP<|wordOf x)=true:=aX.mp (aX.mp Zn _<|Dl x) _<|Dl<|x.fdiv 6
theorem Y5:(r6.all λp=>p.all λc=>pM.contains c)=true:=by decide+kernel
theorem GT(x):∀c∈wordOf x,c∈pM:=by
 have key:=λy c hc=>by exact bB.mp<|aX.mp (aX.mp Y5 _<|Dl y) c hc
 intro c hc;rcases aO.mp hc with h|h
 .exact key _ c h
 .exact key _ c h
abbrev tx(w:List Nat):V:=.str<|oP w
theorem Pf{α:Type}{f g:α->V}{a e:EF}{rs:Scope}{y:Str}{H0 H1:Hp}{loc:Loc}{v:V}{ks:List Nat}{r:List α}(h:a ⟨H0,loc⟩=some (.ok v,⟨H1,loc⟩))(hi:∀L,o9 v (H1++L)=some (ks,r.map f))(hz:r.length<big)
 (ht:∀w∈r,∀L loc',CL rs y loc loc'->lz loc' y=some (f w)->e ⟨H1++L,loc'⟩=some (.ok<|g w,⟨H1++L,loc'⟩)):
 rP a rs (Bo y) (λj=>qN e j) ⟨H0,loc⟩=some (.ok<|.ref H1.length,⟨H1++[.list<|r.map g],loc⟩):=by
 obtain⟨M,xs,e,hM,hx⟩:=Cj (I:=λdone M xs=>M=[]/\xs=done.map g) h hi ⟨rfl,rfl⟩
  (λdone w rest M xs loc' hd q9 hc hl=>by obtain⟨hM,hx⟩:=q9;subst hM;subst hx;refine⟨[],_,_,(zH (ht w (by rw[hd];exact aW _<|.head _) [.list<|done.map g] loc' hc hl) rfl pR (by rw[aF];exact bW (by simp only[hd,aG];exact aT _ _) hz)).trans ?_,hc,rfl,rfl⟩;rw[dO _ _<|aI _,cD,bE];rfl)
 simp[e,hM,hx]
theorem IH(h:∀c∈l,c<128):o9 (tx l) H=some ([0],l.map λc=>tx [c]):=by
 have e:((oP l).cps.all λc=>decide<|c<128)=true:=by rw[<-iX,wT,aX];intro c hc;exact b7<|h c hc
 refine a6 (aH e) ?_;unfold Qn;dsimp only[wT]
theorem Ks(hl:∀c∈l,c<128)(hm:∀c∈m,c<128):sZ .Eq (tx l) (tx m) H=some (.bool<|l==m)/\sZ .NotEq (tx l) (tx m) H=some (.bool (!(l==m))):=by have:=iq (H:=H) (uH hl)<|uH hm;rwa[Wm]at this
theorem aa8:sZ .NotIn (tx [c]) (.str "ab") H=some (.bool (!Gs c)):=by
 show some (V.bool (!Fw (Str.ofString "ab") (oP [c])))=_;rw[MY,Dm];congr 3
 unfold Gs;rw[eO,decide_eq_true_iff,d8,a5,a5,aK,aE]
theorem ah{n:Nat}{H M:Hp}{loc:Loc}{acc:List V}{w:List Nat}(hl:∀c∈w,c<128)(hw:w.length<1000)(hz:acc.length<big)(h2:lz loc "written" =some (.ref H.length)):
 ∃M' loc',S5 fu n ⟨H++(.list acc::M),put "word" (tx w) loc⟩=some (.ok .next,⟨H++(.list (acc++[tx<|uZ w])::M'),loc'⟩)/\lz loc' "written" =some (.ref H.length):=by
 exists fu,n,H,M,loc,acc,w,_;have kb:=wO;have h1:lz (put "word" (tx w) loc) "word" =some (tx w):=oX;have h3:lz (put "word" (tx w) loc) "written" =some (.ref H.length):=(oR rfl).trans h2;generalize put "word" (tx w) loc=t7 at*;have ne:=pJ (oB (st:=⟨H++(.list acc::M),t7⟩) h1) (oH (v:=tx [])) (Ks (m:=[]) hl nofun).2;have els:∀M1,∃M' loc',ll fu n ⟨H++(.list acc::M1),t7⟩=some (.ok .next,⟨H++(.list (acc++[tx<|[39]++wE 39 [39,34,39,34,39] w++[39]])::M'),loc'⟩)/\lz loc' "written" =some (.ref H.length):=λM1=>by
  exists M1,[];have e1:=pE (x:= "inner")<|Pf (rs:=Vw) (y:= "sign") (e:=ix (ct<|tx [39,34,39,34,39]) (lo "sign")<|tc (lo "sign") (ct<|tx [39]) .Eq) (g:=λc=>tx<|rq c) (oB (st:=⟨H++(.list acc::M1),t7⟩) h1) (λL=>IH hl) (cK hw kb) (λc hc L loc' Ii du=>by
   have t1:=pJ (oB (st:=⟨(H++(.list acc::M1))++L,loc'⟩) du) (oH (v:=tx [39])) (Ks (by exists d;intro hd;rw[aE.mp hd];exact hl c hc)<|by decide).1;unfold rq;by_cases Ix:c=39
   .subst Ix;rw[aH rfl];exact adP t1 oH
   .rw[aL Ix];rw[show([c]==[39])=false from a7.mpr λe=>Ix (b0 e).1]at t1;exact ac8 t1<|oB du)
  have hq:=wq w;have l2:lz (put "inner" (.ref (H++(AO.list acc::M1)).length) t7) "written" =some (.ref H.length):=(oR rfl).trans h3;have g2:=oJ (L:=[.list<|w.map λc=>tx<|rq c])<|Hx (H:=H) (a:=.list acc) (M:=M1);have hj:(jn []<|w.map rq).length=(wE 39 [39,34,39,34,39] w).length:=by simp only[F6,Cn,m7]
  have e3:=y8 (y8 (oH (v:=tx [39])) (rB (fu:=fu) (n:=n) (x:= "join") (oH (v:=tx []) (st:=⟨(H++(.list acc::M1))++[.list<|w.map λc=>tx<|rq c],put "inner" (.ref (H++(AO.list acc::M1)).length) t7⟩)) (C7 rfl) (tF<|oB<|oX) rfl<|Lq (S:=oL fu n) (fu:=fu) (by rw[uE pR,bX];rfl) (by rw[aF];omega) (by rw[aF];show _+_*0<_;have:=hq.1;unfold big;lia))<|Pb (by show 1+_<_;simp only[hj,Cn];have:=hq.2;unfold big;omega)) (oH (v:=tx [39]))<|Pb (by simp only[aG,hj,Cn];show 1+_+1<_;have:=hq.2;unfold big;omega);rw[F6,<-m7,<-Cn]at e3;have e4:=tL<|rB (fu:=fu) (n:=n) (x:= "append") (oB l2) (qS g2 rfl) (tF e3) rfl<|pK<|rT g2 hz;simp only[Fe]at e4;exact⟨_,_,oQ e1 e4,l2⟩
 unfold uZ;rcases hw0:w.isEmpty with _|_
 .rw[(a7.mpr λe=>by replace hw0:=e▸hw0;injection hw0)]at ne;have eq:=(Eg (H:=((H++(.list acc::M))++[AO.list<|(w.filter λc=>!Gs c).map λc=>tx [c]])++[.list []]) (a:=.ref (H++(AO.list acc::M)).length) (c:=.ref ((H++(AO.list acc::M))++[AO.list<|(w.filter λc=>!Gs c).map λc=>tx [c]]).length) (da:=.list<|(w.filter λc=>!Gs c).map λc=>PyData.str<|oP [c]) (dc:=.list [])
   (vP (oJ pR)<|tY λU U=>rfl) (vP pR rfl) (Bi λc hc=>by exact uH (by exists d;intro hd;rw[aE.mp hd];exact hl c (dT.mp hc).1)) rfl).1
  rw[Mr]at eq;have e2:=pJ (Go (rs:=Wu) (y:= "sign") (oB h1) (λL=>IH hl) (by omega) λc hc L loc' Ii du=>pJ (oB du) oH aa8) (vG C3<|by decide) eq;have hg:=bz w;rw[kK]at hg;rw[kK,hg]at e2;rw[aJ,aJ,kD]at e2;by_cases Yv:D7 w=true
  .rw[aH ⟨rfl,Yv⟩];rw[Yv]at e2;generalize M++([.list<|(w.filter λc=>!Gs c).map λc=>tx [c]]++[.list []])=M2 at*;have e4:=tL<|rB (fu:=fu) (n:=n) (x:= "append") (oB (st:=⟨H++(.list acc::M2),t7⟩) h3) (qS Hx rfl) (tF<|oB h1) rfl<|pK<|rT (Hx) hz;rw[<-bF (H++(AO.list acc::M2)),Fe,bF]at e4;exact⟨_,_,v9 (kx ne<|kx e2 QQ) e4,h3⟩
  .rw[aL λh=>Yv h.2];rw[eF.mpr Yv]at e2;exists M',loc',(q8:els<|M++([.list<|(w.filter λc=>!Gs c).map λc=>tx [c]]++[.list []]));exact⟨M',loc',sQ (kx ne<|ID e2) q8.1,q8.2⟩
 .have e0:=cI.mp hw0;subst e0;exists M',loc',(q_:els M);obtain⟨e,h⟩:=q_;rw[aL λh=>by injection h.1];exact⟨M',loc',sQ (ID ne) e,h⟩
theorem DI:oG (oL fu<|n+1) fu 903 [u] [] H=pN (Vs fu n ⟨H,[("words",u)]⟩):=
 Au UK (by rfl')
theorem vk{α:Type}{f g:α->Nat}{l:List α}(h:∀x∈l,f x<=g x):(l.map f).sum<=(l.map g).sum:=by
 induction l with
 |nil=>exact aI _
 |cons a l ih=>exact aC (h a<|.head _)<|ih λx hx=>h x<|.tail _ hx
theorem XA{n:Nat}{H:Hp}{i:Nat}{ws:List (List Nat)}(hi:H[i]?=some (.list<|ws.map tx))(hl:∀w∈ws,∀c∈w,c<128)(hw:∀w∈ws,w.length<=2)(hn:ws.length<=3):∃G,oG (oL fu<|n+1) fu 903 [.ref i] [] H=some (.ok<|tx<|pV ws,H++G):=by
 exists fu,n,H,i,ws,_;have kb:=wO;obtain⟨oE,e,M,loc',rfl,h2⟩:=Do (s:=S5 fu n) (a:=lo "words") (st:=⟨H++[.list []],[("words",.ref i),("written",.ref H.length)]⟩)
  (I:=λdone st=>∃M loc',st=⟨H++(.list (done.map λw=>tx<|uZ w)::M),loc'⟩/\lz loc' "written" =some (.ref H.length)) (oB rfl) ⟨[],_,rfl,rfl⟩
  (λd st q9=>by exists d,st,_;exists x7,Rt,(q_:q9);obtain⟨h,xc⟩:=q_;subst h;exact sF<|oJ hi)
  (λdone w rest st hd q9=>by
   exists done,w,rest,st,_;exists M,loc',(q_:q9);obtain⟨h,h2⟩:=q_;subst h;have hwm:w∈ws:=by exact hd▸(aW _<|.head _)
   have WV:=aV List.length hd;simp only[aG]at WV;have:=hw w hwm;obtain⟨M',l2,q8⟩:=ah (acc:=done.map λw=>tx<|uZ w) (hl w hwm) (lk this) (by rw[aF];exact lk<|aC (aN WV.symm)<|aC kb hn) h2;exact⟨_,_,q8.1,.inl rfl,M',l2,by rw[bE];rfl,q8.2⟩)
 have hs:=vk (f:=λw=>(uZ w).length) (g:=λU=>12) λw h=>by have:=Bc w;have:=hw w h;lia
 have hs2:(ws.map λU=>12).sum=12*ws.length:=by simp[nJ,kS]
 have e3:Vs fu n ⟨H,[("words",.ref i)]⟩=_:=oQ (pE<|vG C3<|by decide)<|oQ e<|uQ<|rB (oH) (C7 rfl) (tF<|oB h2) rfl<|Lq (by refine a6 (uE Hx) ?_;rw[bX];rfl) (by rw[aF];exact lk<|aC kb hn) (by simp only[aF,bX];show(ws.map λw=>(uZ w).length).sum+_*1<_;unfold big;lia);simp[DI,e3];exact⟨_,rfl⟩
theorem CY{α:Type}{g:α->V}{a:EF}{s:SF}{x:Str}{v:V}{st st1:St}{k:List Nat}{r:List α}{I:List α->St->Prop}{R:V->St->Prop}(h:a st=some (.ok v,st1))(h0:I [] st1)(hk:∀d st,I d st->o9 v st.H=some (k,r.map g))
 (step:∀done w rest st,r=done++w::rest->I done st->∃f oE,s ⟨st.H,put x (g w) st.loc⟩=some (.ok f,oE)/\(((f=.next\/f=.cont)/\I (done++[w]) oE)\/∃z,f=.ret z/\R z oE)):∃f oE,fr a x s st=some (.ok f,oE)/\((f=.next/\I r oE)\/∃z,f=.ret z/\R z oE):=by
 obtain⟨f,oE,qV⟩:=VG (I:=λl st=>∃done rest,r=done++rest/\l=rest.map g/\I done st) h (hk _ _ h0) ⟨[],r,rfl,rfl,h0⟩ (λl st q9=>by obtain⟨_,_,_,_,I⟩:=q9;exact hk _ _ I)
  (λw l st q9=>by
   obtain⟨done,rest,o5⟩:=q9;rcases rest with _|⟨w',rest⟩
   .injection o5.2.1
   .obtain⟨rfl,rfl⟩:=b0 o5.2.1;obtain⟨f,oE,q8⟩:=step done w' rest st o5.1 o5.2.2;exact⟨f,oE,q8.1,q8.2.imp (λq9=>by obtain⟨h1,h2⟩:=q9;exact⟨h1,done++[w'],rest,by simp only[o5.1,aJ];rfl,rfl,h2⟩) id⟩)
 refine⟨f,oE,qV.1,qV.2.imp (λqq=>⟨qq.1,?_⟩) id⟩;obtain⟨h1,done,rest,hd,hr,hI⟩:=qq;induction rest with
 |nil=>simp only[bF]at hd;subst hd;exact hI
 |cons=>rcases hr with _|_
theorem Xl(h1:l.length+2<big):qL (.bi "str.split") [tx l,tx [c]] [] H=some (.ok<|.ref H.length,H++[.list<|(rS c l).map tx]):=by have hl:=Gx l c;show(if _ then _ else none)=_;rw[aH ⟨rfl,by rw[rF];exact bP h1,bW ‹_› ‹_›⟩,U1,bX];rfl
theorem ud{i:Nat}{ws:List (List Nat)}(hi:lE H i=some (ws.map λp=>V.str<|oP p))(hb:ws.length<big)(hj:(ws.map List.length).sum+ws.length*x.length<big):qL (.bi "str.join") [.str<|oP x,.ref i] [] H=some (.ok<|.str<|oP<|jn x ws,H):=by show(lE H i).bind _=_;rw[hi];show(if _ then _ else none)=_;rw[aH (by rw[aF];exact hb),Dj];show(if _ then _ else none)=_;rw[aH<|Dh hj,Di]
theorem IW(h:a st=some (.ok<|tx z,st1))(hx:x=oP [c])(hy:y=oP zs)(sJ:([c]==zs)=false)(hz:z.length+(z.length+1)*zs.length<=16777216):rp a x y st=some (.ok<|tx<|wE c zs z,st1):=by subst hx;subst hy;refine(oM.at h).trans ?_;show pX st1 (gv _ _ _)=_;unfold gv;rw[aH ⟨by exact a6 Wm sJ,by rw[rF,rF];exact hz⟩,Qb,my];rfl
theorem YH:sZ .In (tx [c]) (tx l) H=some (.bool<|decide<|c∈l):=by show some (V.bool<|Fw (oP l)<|oP [c])=_;rw[Dm]
structure WI(ps:List<|List Nat)(M:Hp)(j:Nat)(st:St):Prop where
 hH:st.H=.list ((zV tA (ps.take<|2*j)++ps.drop (2*j)).map tx)::M
 hl:lz st.loc "strands" =some (.ref 0)
 hf:∀i<j,∀p,ps[2*i]?=some p->34∉p
theorem U0{ps:List (List Nat)}{j:Nat}{p:List Nat}{st:St}(hz:ps.length<1000)(wz:p.length<1000)(W:WI ps M j st)(hp:ps[2*j]?=some p):
 ∃f oE,Mm fu n ⟨st.H,put "k" (.int ((j*2:Nat):Int)) st.loc⟩=some (.ok f,oE)/\(((f=.next\/f=.cont)/\WI ps M (j+1) oE)\/∃z,f=.ret z/\z=.none/\34∈p):=by
 exists fu,n,M,ps,j,p,st,_;obtain⟨H,loc⟩:=st;obtain⟨rfl,h2,hf⟩:=W;have kb:=wO;have l1:lz (put "k" (.int (j*2:Nat)) loc) "strands" =some (.ref 0):=(oR rfl).trans h2;have l2:lz (put "k" (.int (j*2:Nat)) loc) "k" =some (.int<|2*j):=by rw[kS];exact oX
 generalize put "k" (.int (j*2:Nat)) loc=t7 at*;have q8:=tq tA ps j p hp;have hlen:(zV tA (ps.take<|2*j)++ps.drop (2*j)).length=ps.length:=by rw[aG,Wq,<-aG,lF]
 have hl2:((zV tA (ps.take<|2*j)++ps.drop (2*j)).map tx).length=ps.length:=by simp only[aF,hlen]
 have hx:((zV tA (ps.take<|2*j)++ps.drop (2*j)).map tx)[2*j]?=some (tx p):=by simp only[bD,q8.2];rfl
 have hs:((zV tA (ps.take<|2*j)++ps.drop (2*j)).map tx).set (2*j) (tx<|tA p)=(zV tA (ps.take<|2*(j+1))++ps.drop (2*(j+1))).map tx:=by simp only[<-q8.1,List.map_set]
 generalize(zV tA (ps.take<|2*j)++ps.drop (2*j)).map tx=xs at*;have i1:sb (lo "strands") (lo "k") ⟨.list xs::M,t7⟩=some (.ok<|tx p,⟨.list xs::M,t7⟩):=wR (oB l1) (oB l2) (uA rfl)<|Mk rfl (by omega) hx;have t1:=pJ (oH (v:=tx [34])) i1 YH;by_cases R5:34∈p
 .rw[b7 R5]at t1;exact⟨_,_,Ah<|v9 t1<|uQ oH,.inr ⟨_,rfl,rfl,R5⟩⟩
 .rw[cQ R5]at t1;refine⟨_,_,oQ (sQ t1 rfl)<|IC (show rpl (sb (lo "strands")<|lo "k") " " "\n" ⟨.list xs::M,t7⟩=_ by unfold rpl;rw[IW (c:=32) (zs:=[10]) i1 (by decide+kernel) (by decide+kernel) rfl (by show p.length+(p.length+1)*1<=_;exact lk<|aC wz wz)];rfl) (oB l1) (oB l2)<|OO rfl (place_lt hx)<|by omega,.inl ⟨.inl rfl,?_,l1,λi hi q hq=>?_⟩⟩
  .show AO.list (xs.set (2*j)<|tx<|tA p)::M=_;rw[hs]
  .by_cases e:i=j
   .obtain rfl:=e.symm;replace hq:=hp▸hq;obtain rfl:=aA hq;exact R5
   .exact hf i (by lia) q hq
theorem CW:oG (oL fu<|n+1) fu 915 [u] [] H=pN (Ny fu n ⟨H,[("line",u)]⟩):=
 Au OR (by rfl')
inductive S3(o:pO):Option (List<|List Nat)->Prop
 |bad {G:Hp} (h:o=some (.ok .none,G)):S3 o none
 |good {ws:List (List Nat)} {G:Hp} {i:Nat} (h:o=some (.ok<|.ref i,G)) (hi:G[i]?=some (.list<|ws.map tx)):S3 o<|some ws
theorem Yw{loc:Loc}{ps:List (List Nat)}(hz:ps.length<1000)(hs:(ps.map List.length).sum<2000)(hl:∀p∈ps,∀c∈p,c<128)(h1:lz loc "strands" =some (.ref 0)):
 ∃M' i,Tt fu n ⟨.list (ps.map tx)::M,loc⟩=some (.ok<|.ret<|.ref i,⟨M',loc⟩)/\M'[i]?=some (.list<|(((rS 10<|jn [39] ps).filter λp=>!p.isEmpty).map<|wE 39 []).map tx):=by
 exists fu,n,M,loc,ps,_;have kb2:100000<big:=by decide
 have hj:=DR 39 ps;have hsp:=Mo 10<|jn [39] ps;have KB:=Ml 10<|jn [39] ps;have e2:=Fx (x:= "split") (Fx (x:= "join") (oH (v:=tx [39]) (st:=⟨.list (ps.map tx)::M,loc⟩)) (C7 rfl) (tF<|oB h1) rfl<|ud rfl (lk<|aC kb2 hz) (by show _+_*1<_;exact lk<|aC kb2<|aC hs hz)) (C7 rfl) (tF<|oH (v:=tx [10])) rfl<|Xl (lk<|aC hj<|aC kb2<|aC hs hz);have zE:∀p∈rS 10 (jn [39] ps),∀c∈p,c<128:=λp hp c hc=>by
  have:∀qs,(∀p∈qs,∀c∈p,c<128)->∀c∈jn [39] qs,c<128:=by
   intro qs;induction qs with
   |nil=>intro _ c hc;cases hc
   |cons a qs ih=>
    intro h c hc;rcases qs with _|⟨b,r⟩
    .exact h a (.head _) c hc
    .rcases aO.mp (hc)with h3|h3
     .rcases aO.mp h3 with h3|h3
      .exact h a (.head _) c h3
      .rw[aE.mp h3];decide
     .exact ih (λp hp=>h p<|.tail _ hp) c h3
  exact this ps hl c<|W1 hp c hc
 have e3:=Of (rs:=Xj) (e:=rp (lo "part") "'" "") (p:=λp=>!p.isEmpty) (g:=λp=>tx<|wE 39 [] p) e2 (λL=>sF<|oJ pR) (by lia) (λp hp L loc' hc du=>by have wz:=Xk hp;refine⟨(pJ (oB du) (oH) (Ks (m:=[]) (zE p hp) nofun).2).trans ?_,λU=>IW (oB du) (by decide+kernel) (by decide+kernel) rfl (by show p.length+(p.length+1)*0<=_;lia)⟩;rcases p with _|_<;>rfl)
 refine⟨_,_,uQ e3,?_⟩;rw[bX];exact pR
theorem RV{n:Nat}{l:List Nat}(hl:∀c∈l,c<128)(hz:l.length<900):S3 (oG (oL fu<|n+1) fu 915 [tx l] [] [])<|yU l:=by
 exists fu,n,l,_;have kb:=wO;have KB:=Ml 39 l;have hss:=Mo 39 l;have zE:∀p∈rS 39 l,∀c∈p,c<128:=λp hp c hc=>hl c<|W1 hp c hc;have e0:sP (ml fu n (lo "line") "split" [ct<|.str "'"]) (tP "strands") ⟨[],[("line",tx l)]⟩=some (.ok .next,⟨[.list<|(rS 39 l).map tx],[("line",tx l),("strands",.ref 0)]⟩):=pE<|rB (oB rfl) (C7 rfl) (tF<|oH) rfl<|pK<|Xl (lk<|aC kb hz);rw[CW];unfold yU;generalize rS 39 l=ps at*;have el:cl fu n (ct<|.bi "len") [lo "strands"] ⟨[.list<|ps.map tx],[("line",tx l),("strands",.ref 0)]⟩=some (.ok<|.int ps.length,⟨[.list<|ps.map tx],[("line",tx l),("strands",.ref 0)]⟩):=by have:=rO (fu:=fu) (n:=n) (oH (st:=⟨[.list<|ps.map tx],[("line",tx l),("strands",.ref 0)]⟩)) (tF<|oB (x:= "strands") rfl) rfl<|pK<|J7 rfl (by rw[aF];exact lk<|aC KB<|aC kb hz);rwa[aF]at this
 have t0:tc (bn (cl fu n (ct<|.bi "len") [lo "strands"]) (ct<|.int 2) .Mod) (ct<|.int 0) .Eq ⟨[.list<|ps.map tx],[("line",tx l),("strands",.ref 0)]⟩=some (.ok<|((ps.length:Int).fmod 2)==0,⟨[.list<|ps.map tx],[("line",tx l),("strands",.ref 0)]⟩):=pJ (y8 el oH rfl) oH Tk;by_cases YB:ps.length%2=0
 .rw[aH YB];rw[show(((ps.length:Int).fmod 2)==0)=true by rw[a5,eG _ (by simp)];exact mH.mp YB]at t0;have e:Ny fu n ⟨[],[("line",tx l)]⟩=_:=oQ e0<|Ah<|v9 t0<|uQ oH;exact e▸(.bad rfl)
 .rw[aL YB];exists _;rw[show(((ps.length:Int).fmod 2)==0)=false by rw[a7,eG _<|Int.zero_le_ofNat 2];exact mI.mp YB]at t0;obtain⟨f,oE,ef,hf⟩:=CY (s:=Mm fu n) (I:=λdone st=>done=List.range done.length/\WI ps [.range 0 ps.length 2] done.length st) (R:=λz st=>z=.none/\(pA ps).any (λp=>decide<|34∈p)=true) (rO (oH) (ed (oH)<|ed el<|tF<|oH) rfl<|pK<|show qL (.ty "range") [.int 0,.int ps.length,.int 2] [] [AO.list<|ps.map tx]=some (.ok<|.ref 1,[.list<|ps.map tx,.range 0 ps.length 2])from by rfl')
   ⟨rfl,by simp only[jY];rfl,rfl,λi hi=>absurd hi<|kY i⟩
   (λd st qq=>by obtain⟨_,W⟩:=qq;simp only[W.hH];exact Ls rfl (by grind) (dM _)<|dM _)
   (λdone w rest st hd qq=>by
    obtain⟨hr,W⟩:=qq;exists done,w,rest,st,_;have hw:(List.range<|(ps.length+2-1)/2)[done.length]?=some w:=by rw[hd,aS<|aI _,cD];rfl
    have vO:done.length<(ps.length+2-1)/2:=by have:=(aU.mp hw).1;rwa[cG]at this
    replace hw:=(eT vO)▸hw;obtain rfl:=aA hw;have hp:ps[2*done.length]?=some (ps[2*done.length]'(by omega)):=aP (by omega);obtain⟨f,oE,qV⟩:=U0 (by grind) (by have:=Xk<|aR hp;exact lk<|aC this<|aC hss hz) W hp;refine⟨f,oE,qV.1,qV.2.imp (λqq=>⟨qq.1,?_,by rw[aG];exact qq.2⟩) λq9=>by exists z,(q_:q9);obtain⟨h1,h2,h3⟩:=q_;exact⟨z,h1,h2,iW.mpr ⟨_,aR<|Jm ps _|>.trans hp,b7 h3⟩⟩⟩;simp only[aG,fB,kT,<-hr])
  have e:∀z,sq (fr (cl fu n (ct<|.ty "range") [ct<|.int 0,cl fu n (ct<|.bi "len") [lo "strands"],ct<|.int 2]) "k"<|Mm fu n) (Tt fu n) ⟨[.list<|ps.map tx],[("line",tx l),("strands",.ref 0)]⟩=z->Ny fu n ⟨[],[("line",tx l)]⟩=z:=λz hz=>oQ e0<|oQ (sQ t0 rfl) hz;rcases hf with⟨rfl,hr,W⟩|⟨z,rfl,rfl,XB⟩
  .replace W:=cG▸W;refine k9 ?_;refine(aL λXB=>by obtain⟨p,o5⟩:=iW.mp XB;exists i,(hi:cE o5.1);have hil:=(aU.mp hi).1;rw[Zs]at hil;rw[Jm]at hi;exact W.hf i (by grind) p hi<|f0 o5.2)▸?_
   obtain⟨H',loc'⟩:=oE;have hH:=W.hH;have hl':=W.hl;rw[ny<|by lia]at hH;subst hH;obtain⟨M',i,q8⟩:=Yw (ps:=zV tA ps) (by rw[Wq];grind) (by rw[GA];exact lk<|aC hss hz) (zw (λp hp=>S6 (by decide) hp) ps zE) hl';exact(e _<|oQ ef q8.1)▸(.good rfl q8.2)
  .refine k9 ?_;rw[aH XB,e _<|Ah ef];exact .bad rfl
def SB6:SF:=sP (ct .none)<|tP "open_pos"
def SB5:SF:=sq (sP (bn (lo "pos") (ct<|.int 1) .Add)<|tP "start") SB6
def SB4:SF:=xp<|mq (lo "result") "append" [sl (lo "addr") (lo "start") (lo "open_pos")<|ct .none]
def SB3:SF:=sq (fi (tc (lo "start") (lo "open_pos") .NotEq) SB4 nx) SB5
def SB2:SF:=sP (lo "pos")<|tP "open_pos"
def SB1:SF:=fi (tc (lo "open_pos") (ct .none) .Is) SB2 SB3
def SB0:SF:=fi (tc (lo "ch") (ct<|.str "\"") .Eq) SB1 nx
theorem ig(st):rA vK 0 true Ee qK st=SB0 st:=by rfl'
theorem NZ(v)(st):p0 Ee "pos" v st=tP "pos" v st:=by rfl'
theorem ZH(v)(st):p0 Ee "ch" v st=tP "ch" v st:=by rfl'
def yB(l:List Nat)(a i c:Nat)(o:Option Nat)(rs:List<|List Nat):List (List Nat)×Nat×Option Nat:=if c=34 then match o with
 |none=>(rs,a,some i)
 |some k=>(if a=k then rs else rs++[(l.drop a).take<|k-a],i+1,none)
 else(rs,a,o)
def opV:Option Nat->V
 |none=>.none
 |some k=>.int (k:Int)
theorem nv{i c:Nat}{rest:List Nat}(h:l.drop i=c::rest):(items<|oP l).drop i=((i:Int),c)::(items<|oP l).drop (i+1):=by
 have hi:i<l.length:=by have:=aV List.length h;simp only[eX]at this;exact c5 this
 have hc:l[i]=c:=by have:=aV (λl=>l[0]?) h;simp only[j1]at this;exact(aU.mp this).2
 refine a6 (dZ (by simp only[(by simp[items]:(items<|oP l).length=l.length)];exact hi)) ?_;congr 1
 simp only[items];congr 1
 simp[hi,hc]
theorem Za(h:l.drop i=[]):(items<|oP l).drop i=[]:=by
 have hlen:(items<|oP l).length=l.length:=by simp[items]
 rw[fG]at h⊢;exact le_of_eq_of_le hlen h
theorem si{l:List Nat}{a i c:Nat}{rest:List Nat}(HW:a<=i)(h:l.drop i=c::rest):(l.drop a).take (i+1-a)=(l.drop a).take (i-a)++[c]:=by
 have hc:(l.drop a)[i-a]?=some c:=by rw[j1,Nat.add_sub_cancel' HW];exact(j1).symm.trans<|aV (·[0]?) h
 rw[Nat.sub_add_comm HW,mX,hc];rfl
theorem FS{l:List Nat}(hi:i<=l.length)(HW:a<=i):((l.drop a).take<|i-a).length=i-a:=by rw[fQ,eX];exact jE<|Nat.sub_le_sub_right hi a
theorem Yb(rs)(p):jn [] (rs++[p])=jn [] rs++p:=by simp only[F6];simp
structure SL(l:List Nat)(a:Nat)(o:Option Nat)(loc:Loc):Prop where
 addr:lz loc "addr" =some (tx l)
 start:lz loc "start" =some (.int (a:Int))
 opn:lz loc "open_pos" =some (opV o)
 res:lz loc "result" =some (.ref 0)
theorem OI{a b:Nat}:sZ .NotEq (.int (a:Int)) (.int (b:Int)) H=some (.bool (!(a==b))):=by
 refine a6 lh ?_;congr 3
 rw[eO,a5,a5];exact j8
abbrev Jf(rs:List<|List Nat):Hp:=[.list<|rs.map tx]
theorem aay{b:Nat}(Jb:a<=b)(hb:b<=l.length)(hz:l.length<big):rJ (tx l) (.int (a:Int)) (.int (b:Int)) .none H=some (tx<|(l.drop a).take<|b-a,H):=by have e:=Mz l Jb hb;exact(iz rfl rfl (by rw[e];simp[rF];lia)).trans<|by rw[e]
theorem QS{a:Nat}{H:Hp}(ha:a<=l.length)(hz:l.length<big):rJ (tx l) (.int (a:Int)) .none .none H=some (tx<|l.drop a,H):=by have e:=tf l ha;exact(iz rfl rfl (by rw[e];simp[rF];exact Nat.sub_lt_of_lt hz)).trans<|by rw[e]
theorem U4{a i c:Nat}{o:Option Nat}{loc:Loc}(S:SL l a o loc)(h1:lz loc "pos" =some (.int (i:Int)))(h2:lz loc "ch" =some (tx [c]))(hc:c<128)(hz:l.length<1000)(Rz:rs.length<1000)(hil:i<l.length)(ho:∀k,o=some k->a<=k/\k<i):
 ∃loc',SB0 ⟨Jf rs,loc⟩=some (.ok .next,⟨Jf (yB l a i c o rs).1,loc'⟩)/\SL l (yB l a i c o rs).2.1 (yB l a i c o rs).2.2 loc':=by
 exists l,rs,a,i,c,o,loc,_;have kb:=wO;have t1:=pJ (oB (st:=⟨Jf rs,loc⟩) h2) (oH (v:=tx [34])) (Ks (by exists d;intro hd;rw[aE.mp hd];exact hc) (by simp)).1;by_cases R5:c=34
 .subst R5;have mv:∀s(v:V),SL l s none<|put "open_pos" .none<|put "start" (.int s) loc:=λs v=>⟨(oR rfl).trans<|(oR rfl).trans S.addr,(oR rfl).trans oX,oX,(oR rfl).trans<|(oR rfl).trans S.res⟩;rcases o with _|k
  .exact⟨_,v9 t1<|v9 (pJ (oB S.opn) (oH) rfl)<|pE<|oB h1,(oR rfl).trans S.addr,(oR rfl).trans S.start,oX,(oR rfl).trans S.res⟩
  .exists k,_;have q8:=ho k rfl;have hop:=S.opn;have t2:=pJ (oB (st:=⟨Jf rs,loc⟩) hop) (oH) (rfl:sZ .Is (.int k) .none (Jf rs)=some (.bool false));have t3:=pJ (oB (st:=⟨Jf rs,loc⟩) S.start) (oB hop) OI;have e5:∀H,SB5 ⟨H,loc⟩=some (.ok .next,⟨H,put "open_pos" .none<|put "start" (.int<|i+1) loc⟩):=λH=>oQ (pE<|y8 (oB h1) oH rfl)<|pE oH;by_cases hk:a=k
   .rw[show yB l a i 34 (some k) rs=(rs,i+1,none)from by unfold yB;rw[aH rfl];dsimp only;rw[aH hk]];rw[a5.mpr hk]at t3;exact⟨_,v9 t1<|sQ t2<|oQ (sQ t3 rfl)<|e5 _,mv (i+1) .none⟩
   .rw[show yB l a i 34 (some k) rs=(rs++[(l.drop a).take<|k-a],i+1,none)from by unfold yB;rw[aH rfl];dsimp only;rw[aL hk]];rw[a7.mpr hk]at t3;have e6:SB4 ⟨Jf rs,loc⟩=_:=tL<|Fx (oB S.res) (qS rfl rfl) (tF<|Jy (oB S.addr) (oB S.start) (oB hop) oH rfl<|aay q8.1 (lk<|aC q8.2 hil)<|cK ‹_› ‹_›) rfl<|rT rfl (by rw[aF];exact cK ‹_› ‹_›);have e7:(Jf rs).set 0 (.list<|rs.map tx++[tx<|(l.drop a).take<|k-a])=Jf (rs++[(l.drop a).take<|k-a]):=by show[AO.list _]=[AO.list _];rw[bE];rfl
    rw[e7]at e6;exact⟨_,v9 t1<|sQ t2<|oQ (v9 t3 e6)<|e5 _,mv (i+1) .none⟩
 .refine(show yB l a i c o rs=(rs,a,o)from aL R5)▸?_;rw[show([c]==[34])=false from a7.mpr λe=>R5 (b0 e).1]at t1;exact⟨_,sQ t1 rfl,S⟩
theorem Zf:tW (λst=>rA vK 0 true Ee qK st) ((i,c)::r) ⟨H,loc⟩=(F9<|SB0 ⟨H,put "ch" (tx [c])<|put "pos" (.int i) loc⟩).then λf st=>match f with
 |.next=>tW (λst=>rA vK 0 true Ee qK st) r st
 |_=>none:=by
 conv=>lhs;dsimp only[tW]
 rw[NZ];refine(oM.at rfl).trans ?_;rw[ZH];refine(oM.at rfl).trans ?_;rw[ig];try rfl
set_option tactic.hygienic true in
theorem Sh(hl:∀c∈l,c<128)(hz:l.length<900):∀rest i rs a o loc,l.drop i=rest->i+rest.length=l.length->a<=i->(∀k,o=some k->a<=k/\k<i)->rs.length+rest.length<1000->SL l a o loc->
 ∃R6 a' o' loc',tW (λst=>rA vK 0 true Ee qK st) ((items<|oP l).drop i) ⟨Jf rs,loc⟩=some (.ok (),⟨Jf R6,loc'⟩)/\SL l a' o' loc'/\a'<=l.length/\R6.length<1000/\
  jn [] R6++l.drop a'=uV (jn [] rs) ((l.drop a).take<|i-a) (o.map (· -a)) rest:=by
 exists l,[hl,hz];exists zr;induction zr with
 |nil=>
  exists i,rs,a,o,loc;intro hd hn HW ho Rz hS;refine⟨rs,a,o,loc,?_,hS,?_,by simpa using Rz,?_⟩
  .rw[Za hd];rfl
  .simp only[fW]at hn;exact le_of_le_of_eq HW hn
  .have hi:i=l.length:=by simpa using hn
   rw[hi,eV<|by simp];induction o<;>rfl
 |cons c rest pD=>
  exists c,rest,[pD];exists i,rs,a,o,loc;intro hd hn HW ho Rz hS;simp only[bA]at hn Rz;have tI:l.drop (i+1)=rest:=by have:=aV List.tail hd;simpa using this
  obtain⟨loc',T,HX⟩:=U4 (⟨(oR rfl).trans<|(oR rfl).trans hS.addr,(oR rfl).trans<|(oR rfl).trans hS.start,(oR rfl).trans<|(oR rfl).trans hS.opn,(oR rfl).trans<|(oR rfl).trans hS.res⟩) ((oR rfl).trans oX) oX (hl c<|gJ<|hd▸cN) (lk hz) (bP Rz) (lk<|aN hn) ho;exists loc',_;have Ii:=FS (Nat.le.intro hn) HW;have WZ:=si HW hd;have e0:tW (λst=>rA vK 0 true Ee qK st) ((items<|oP l).drop i) ⟨Jf rs,loc⟩=tW (λst=>rA vK 0 true Ee qK st) ((items<|oP l).drop<|i+1) ⟨Jf (yB l a i c o rs).1,loc'⟩:=by rw[nv hd,Zf,T];rfl
  rw[e0];by_cases R5:c=34
  .subst R5;rcases o with _|k
   .exists _;obtain⟨R6,a',o',Rr,o5⟩:=pD (i+1) rs a (some i) loc' tI (by lia) (by omega) (λk hk=>by obtain rfl:=aA hk;exact⟨lk HW,by simp+arith only⟩) (by grind) HX;refine k9 ⟨R6,a',o',Rr,o5.1,o5.2.1,o5.2.2.1,o5.2.2.2.1,o5.2.2.2.2.trans ?_⟩;rw[WZ];simp[ft,Ii]
   .exists k,_;have hq:=pD (i+1) (yB l a i 34 (some k) rs).1 (i+1) none loc' tI (by lia) (aI _) (λk hk=>nn hk) (by
     show(if a=k then rs else rs++[(l.drop a).take<|k-a]).length+rest.length<1000;split
     .grind
     .simp only[aG,fB];exact lk Rz) HX
    exists R6,a',o',Rr,(q9:hq);refine⟨R6,a',o',Rr,q9.1,q9.2.1,q9.2.2.1,q9.2.2.2.1,q9.2.2.2.2.trans ?_⟩;rw[cD];show uV (jn []<|if a=k then rs else rs++[(l.drop a).take<|k-a]) [] none rest=uV _ _ (some<|k-a) (34::rest);rw[ow,List.take_take,jE<|by grind];split
    .rename_i h;simp[h]
    .rw[Yb]
  .have e1:yB l a i c o rs=(rs,a,o):=aL R5;rw[e1]at HX⊢;obtain⟨R6,a',o',Rr,q8⟩:=pD (i+1) rs a o loc' tI (by lia) (by omega) (λk hk=>by have:=ho k hk;exact⟨lk this.1,lk this.2⟩) (bS ‹_›) HX;refine⟨R6,a',o',Rr,q8.1,q8.2.1,q8.2.2.1,q8.2.2.2.1,q8.2.2.2.2.trans ?_⟩;rw[WZ,ff _ _ _ _ R5]
theorem qj(h1:lz st.loc "addr" =some (.str x))(h2:w9 x=true/\x.length<big):Jh Ee vC st=tW (λst=>rA vK 0 true Ee qK st) (items x) st:=by unfold Jh;rw[(by rfl':Li vC=true),aH ⟨rfl,rfl⟩,show List.lookup ("addr" :Str) st.loc=some (.str x)from h1];exact aH h2
theorem MN:oG (oL fu<|n+1) fu 58 [u] [] H=pN (Ys fu n ⟨H,[("addr",u)]⟩):=
 Au ZC (by rfl')
theorem TP(hz:l.length<big):qL (.bi "len") [tx l] [] H=some (.ok<|.int l.length,H):=by refine(by rfl':_=gv ((oP l).length<big) (.int (oP l).length) H).trans ?_;unfold gv;rw[rF,aH hz]
theorem aco{n:Nat}{l:List Nat}(hl:∀c∈l,c<128)(hnb:∀c∈l,c≠92)(hz:l.length<900):∃G,oG (oL fu<|n+1) fu 58 [tx l] [] []=some (.ok<|tx<|pI l,G):=by
 exists fu,n,l,_;have kb:=wO;refine MN▸?_;have t0:∀b,decide (34∈l)=b->tc (ct<|.str "\"") (lo "addr") .NotIn ⟨[],[("addr",tx l)]⟩=some (.ok (!b),⟨[],[("addr",tx l)]⟩):=λb hb=>pJ (oH) (oB rfl) (by show some (V.bool (!Fw (oP l) (oP [34])))=_;rw[Dm,hb])
 by_cases R5:34∈l
 .exists _;have S0:SL l 0 none [("addr",tx l),("start",.int 0),("open_pos",.none),("result",.ref 0)]:=⟨rfl,rfl,rfl,rfl⟩;obtain⟨R6,a',o',loc',q1,S,q3,q4,q5⟩:=Sh hl hz l 0 [] 0 none _ rfl (iH _ _) (aI _) (λk hk=>nn hk) (by simp;exact lk hz) S0;simp only[cD,nN,show jn [] []=[]from rfl]at q5;simp only[show none.map (· -0)=none from rfl,Kd l.length l []<|aI _]at q5;have VW:w9 (oP l)=true/\(oP l).length<big:=by refine⟨?_,by rw[rF];omega⟩;unfold w9;rw[<-iX,wT,aX];intro c hc;simp[hl c hc,hnb c hc]
  have hsh:(pI l).length<=l.length:=by have h2:=CJ l [] [] none;rw[Kd l.length l []<|aI _]at h2;simpa using h2
  have hq:=aV List.length q5;rw[aG,Sv]at hq;have t6:=pJ (op:=.Lt) (oB (st:=⟨Jf R6,loc'⟩) S.start) (rO (fu:=fu) (n:=n) (oH) (tF<|oB S.addr) rfl<|pK<|TP<|by omega) (rfl:_=some (V.bool<|decide<|(a':Int)<l.length));have e8:∀ws:List<|List Nat,jn [] ws=pI l->ws.length<big->IX fu n ⟨Jf ws,loc'⟩=some (.ok<|.ret<|tx<|pI l,⟨Jf ws,loc'⟩):=λws h1 h2=>by have hlw:=Sv ws;rw[h1]at hlw;have:=uQ<|rB (fu:=fu) (n:=n) (x:= "join") (oH (v:=tx []) (st:=⟨Jf ws,loc'⟩)) (C7 rfl) (tF<|oB S.res) rfl<|pK<|ud rfl h2 (by show _+_*0<_;exact lk<|aC (aN hlw.symm)<|aC hsh<|aC kb hz);rw[h1]at this;exact this
  have e:∀z,JA fu n ⟨Jf R6,loc'⟩=z->Ys fu n ⟨[],[("addr",tx l)]⟩=z:=λz hz=>oQ (sQ (t0 true<|b7 R5) rfl)<|oQ (pE oH)<|oQ (pE oH)<|oQ (pE<|vG C3<|by decide)<|oQ (oM.at<|(qj S0.addr VW).trans q1) hz;by_cases ha:a'<l.length
  .rw[b7<|show(a':Int)<l.length by exact iM.mpr ha]at t6;have e7:JD fu n ⟨Jf R6,loc'⟩=_:=tL<|rB (oB S.res) (qS rfl rfl) (tF<|Jy (oB S.addr) (oB S.start) oH oH rfl<|QS q3<|by omega) rfl<|pK<|rT rfl (by rw[aF];exact cK q4 kb);rw[(by show[AO.list _]=[AO.list _];rw[bE];rfl:(Jf R6).set 0 (.list<|R6.map tx++[tx<|l.drop a'])=Jf (R6++[l.drop a']))]at e7;refine k9 ?_;exact(e _<|oQ (v9 t6 e7)<|e8 _ (by simp[Yb,q5]) (by simp only[aG];exact bW q4 kb))▸(⟨_,rfl⟩)
  .rw[cQ<|show ¬(a':Int)<l.length by simp_all]at t6;simp only[show a'=l.length by exact cM (lk q3)<|lk<|dU ha,List.drop_length,bF]at q5;refine k9 ?_;simp[e _<|oQ (sQ t6 rfl)<|e8 _ q5<|cK q4 kb];exact⟨_,rfl⟩
 .rw[sG R5];have e:Ys fu n ⟨[],[("addr",tx l)]⟩=_:=Ah<|v9 (t0 false<|cQ R5)<|uQ<|oB rfl;exact e▸(⟨_,rfl⟩)
theorem zm:oG (oL fu<|n+1) fu 885 [u] [] H=pN (Vq fu n ⟨H,[("split_command",u)]⟩):=
 Au PM (by rfl')
theorem RE{n:Nat}{H:Hp}{i:Nat}{ws:List (List Nat)}(hi:H[i]?=some (.list<|ws.map tx))(hw:∀w∈ws,sW.contains (oP w)=true/\w.length<=2)(hn:ws.length<=3):oG (oL fu<|n+1) fu 885 [.ref i] [] H=some (.ok<|tx<|pV ws,H):=by
 exists fu,n,H,i,ws,_;have kb:=wO;have hq:(ws.map oP).map tR=(ws.map uZ).map oP:=by simp only[bX];exact dN λw U=>aj w
 have hs:=vk (f:=λw=>(uZ w).length) (g:=λU=>12) λw h=>by have:=Bc w;have:=(hw w h).2;lia
 rw[show(ws.map λU=>12).sum=12*ws.length by simp only[nJ,List.sum_replicate_nat,kS]]at hs;have e:Jg mf Kb ⟨H,[("split_command",.ref i)]⟩=some (.ok<|tx<|pV ws,⟨H,[("split_command",.ref i)]⟩):=by
  dsimp only[Jg];rw[(by rfl':vm Kb=true),aH ⟨rfl,rfl⟩];show((IT H<|.ref i).bind λl=>(uU l.2).bind _)=_;rw[show IT H (.ref i)=some (i,ws.map tx)by show(lE _ _).map _=_;rw[uE hi];rfl];show(uU<|ws.map tx).bind _=_;rw[Dj];refine(aH<|And.intro ?a<|And.intro ?b ?d).trans ?c;case a=>exact aX.mpr λx hx=>by obtain⟨w,h,rfl⟩:=cA.mp hx;exact(hw w h).1
  case b=>exact hq▸(Dh (by simp only[bX,aF];show(ws.map λw=>(uZ w).length).sum+_*1<_;lia))
  case d=>rw[aF];exact lk hn
  case c=>exact hq▸(aV (λx=>some (r8.ok<|V.str x,St.mk H [("split_command",.ref i)]))<|Di [32] _)
 have e2:Vq fu n ⟨H,[("split_command",.ref i)]⟩=_:=uQ e;simp[zm,e2];rfl
theorem ET:oG (oL fu<|n+1) fu 898 [u] [] H=pN (Vr fu n ⟨H,[("script",u)]⟩):=
 Au LH (by rfl')
structure Rws(j:Nat)(RS:List<|Nat×List (List Nat))(H:Hp):Prop where
 hl:H[j]?=some (.list<|RS.map λq=>.ref q.1)
 hr:∀q∈RS,H[q.1]?=some (.list<|q.2.map tx)
theorem VK{n:Nat}{H:Hp}{i:Nat}{zs:List Int}{ob:Obj}(hi:H[i]?=some (.r5 zs ob))(hz:zs.length<1000):∃G j RS,oG (oL fu<|n+1) fu 898 [.ref i] [] H=some (.ok<|.ref j,H++G)/\Rws j RS (H++G)/\H.length<=j/\RS.map (·.2)=Jn (sV zs):=by
 exists fu,n,H,i,zs,ob,_;have kb:=wO;have e0:sP (ls [ct<|.str "a",ct<|.str "b",ct<|.str "'",ct<|.str "\"",ct<|.str " ",ct<|.str ""]) (tP "pieces") ⟨H,[("script",.ref i)]⟩=some (.ok .next,⟨H++[.list<|r6.map tx],[("script",.ref i),("pieces",.ref H.length)]⟩):=by rfl'
 have gp:=pR (H:=H) (a:=.list<|r6.map tx);have gi:=oJ (L:=[.list<|r6.map tx]) hi;have hG:∃G,H++[AO.list<|r6.map tx]=H++G:=⟨_,rfl⟩;generalize H++[AO.list<|r6.map tx]=Y at*;have es:rJ (.ref i) .none (.int 12) .none Y=some (.ref Y.length,Y++[.list<|(zs.take 12).map V.int]):=by rw[G8 (xs:=zs.map V.int) (lo:=none) (hi:=some 12) (st:=none) (by rw[gi];rfl) (by rw[aF];exact cK hz kb) rfl rfl rfl<|by simp,show pick (zs.map V.int) none (some 12) none=(zs.map V.int).take 12 from ar (zs.map V.int) 12,<-nY]
 have e1:=Jy (oB (x:= "script") (st:=⟨Y,[("script",.ref i),("pieces",.ref H.length)]⟩) rfl) oH oH oH (kz gi rfl) es;have KJ:(zs.take 12).length<=12:=by rw[fQ];exact fV _ _
 have e2:=Pf (rs:=V9) (y:= "x") (e:=bn (sb (lo "pieces")<|bn (lo "x") (ct<|.int 6) .Mod) (sb (lo "pieces")<|bn (bn (lo "x") (ct<|.int 6) .FloorDiv) (ct<|.int 6) .Mod) .Add) (g:=λz=>tx<|wordOf z) e1 (λL=>sF<|oJ pR) (lk<|aC KJ kb) (λz U L loc' hc du=>by
  have gp:(Y++[.list<|(zs.take 12).map V.int]++L)[H.length]?=some (.list<|r6.map tx):=oJ<|oJ gp;generalize Y++[.list<|(zs.take 12).map V.int]++L=Y at*;have pc:∀y e,e ⟨Y,loc'⟩=some (.ok<|.int<|y.fmod 6,⟨Y,loc'⟩)->sb (lo "pieces") e ⟨Y,loc'⟩=some (.ok<|tx<|Ep y,⟨Y,loc'⟩):=λy e he=>by exists m,(q8:yo y);rw[q8.2]at he;exact wR (oB<|hc _ rfl rfl) he (uA gp)<|Mk gp (by show 6<big;exact c5 rfl) (by simp only[bD,Db y q8.1 q8.2];rfl)
  have p1:=(zO z).1;have p2:=(zO<|z.fdiv 6).1;exact y8 (pc z _<|y8 (oB du) oH rfl) (pc (z.fdiv 6) _<|y8 (y8 (oB du) oH rfl) oH rfl)<|Pb (lk<|aC p2<|aC p1 kb))
 have e3:=pE (x:= "words") e2;have hWl:(sV zs).length<=12:=by unfold sV;rw[aF];exact KJ
 simp only[show(zs.take 12).map (λz=>tx<|wordOf z)=(sV zs).map tx by unfold sV;simp only[bX];rfl]at e3;have gw:=pR (H:=Y++[.list<|(zs.take 12).map V.int]) (a:=.list<|(sV zs).map tx);exists G,(q_:hG);obtain rfl:=q_;have hG:∃G',H++G++[.list<|(zs.take 12).map V.int]++[.list<|(sV zs).map tx]=H++G':=⟨_,by rw[aJ,aJ]⟩;have lw:lz (put "words" (.ref (H++G++[AO.list<|(zs.take 12).map V.int]).length) [("script",.ref i),("pieces",.ref H.length)]) "words" =some (.ref (H++G++[AO.list<|(zs.take 12).map V.int]).length):=oX;unfold Jn;generalize sV zs=ws at*;have hb:(ws.map tx).length<big:=by rw[aF];exact lk<|aC hWl kb
 generalize put "words" (.ref (H++G++[AO.list<|(zs.take 12).map V.int]).length) [("script",.ref i),("pieces",.ref H.length)]=t7 at*;generalize H++G++[.list<|(zs.take 12).map V.int]++[.list<|ws.map tx]=Z at*;have e4:=Oy (oH (v:=.ty "range")) (ed (oH (v:=.int 0))<|ed (Oy (oH (v:=.bi "len")) (tF<|oB (st:=⟨Z,t7⟩) lw) rfl<|J7 gw hb)<|tF<|oH (v:=.int 3)) rfl (show qL (.ty "range") [.int 0,.int (((ws.map tx).length:Nat):Int),.int 3] [] Z=some (.ok<|.ref Z.length,Z++[.range 0 (((ws.map tx).length:Nat):Int) 3])from by rfl');rw[aF]at e4;have e5:=Oa (rs:=V6) (y:= "k") (e:=sl (lo "words") (lo "k") (bn (lo "k") (ct<|.int 3) .Add)<|ct .none) (O:=λj=>AO.list<|(Pw ws j).map tx) (r:=List.range<|(ws.length+3-1)/3) (f:=λj=>V.int ((j*3:Nat):Int)) (ks:=[3]) e4 (λL=>Ls (c:=3) (oJ pR) (lk hWl) (by decide)<|aI _) (by rw[cG];lia) (λj U L loc' hc du=>by have gw2:=oJ (L:=L)<|oJ (L:=[AO.range 0 (ws.length:Int) 3]) gw;refine(Jy (oB<|(hc _ rfl rfl).trans lw) (oB du) (y8 (oB du) oH rfl) oH (uA gw2)<|G8 (xs:=ws.map tx) (lo:=some ((j*3:Nat):Int)) (hi:=some<|((j*3:Nat):Int)+3) (st:=none) (by rw[gw2];rfl) hb rfl rfl rfl<|by simp).trans ?_;rw[oj,<-List.map_drop,<-nY,kS];rfl)
 have e6:Vr fu n ⟨H,[("script",.ref i)]⟩=_:=oQ e0<|oQ e3<|uQ e5;exists G',(q_:hG);obtain rfl:=q_;simp only[ET,e6,cG,bX];generalize(ws.length+3-1)/3=m at*;refine⟨G'++([.range 0 ws.length 3]++(.list ((List.range m).map<|V.ref∘λi=>(H++G'++[AO.range 0 ws.length 3]).length+1+i)::(List.range m).map λj=>AO.list<|(Pw ws j).map tx)),(H++G'++[AO.range 0 ws.length 3]).length,(List.range m).map λj=>((H++G'++[AO.range 0 ws.length 3]).length+1+j,Pw ws j),?_,?_,by simp only[aG];exact by simp+arith only,by rw[bX];rfl⟩
 .rw[<-aJ,<-aJ];rfl
 .rw[<-aJ,<-aJ];generalize H++G'++[AO.range 0 ws.length 3]=Y at*;refine⟨by rw[bX];exact Hx,?_⟩;exists q;intro hq;exists j,(q_:cA.mp hq);obtain⟨hj,rfl⟩:=q_;rw[aS<|by lia,show Y.length+1+j-Y.length=j+1 by exact cM (lk<|aN<|aY<|show List.length Y<=List.length Y+1+j from(by simp+arith only))<|lk<|aN (aY<|show List.length Y<=List.length Y+1+j from(by simp+arith only)).symm,kJ,bD,eT<|cJ.mp hj];rfl
theorem Vx{sc:Str->List Str}(R:tJ b A none rv po nf ns p sc H)(hx:(tO A.m rv po nf).lookup x=none)(hf:Ht x=some f)(hf2:f=124\/f=157)(h1:lz loc "sorter" =some (.ref A.s))(h2:lz loc y=some (.ref a))(h3:H[a]?=some (.list xs))(hz:xs.length<big)
 (h:uT (oL fu n) fu f (.ref A.s::xs) (H++[.bound f<|.ref A.s])=some (e,H')):ko fu n (lo "sorter") (lo y) x ⟨H,loc⟩=some (e,⟨H',loc⟩):=by
  have hS:Bd x H (.ref A.s)=some A.s:=by show(iE H A.s).bind _=_;rw[Gu R.hs R.hd,bY,aH rfl];exact aH hx
  have hb:ZX (H++[.bound f<|.ref A.s]) (.ref H.length)=some (H.length,f,.ref A.s):=by show(boE _ _).map _=_;delta boE;rw[pR];rfl
  have hl:IT (H++[.bound f<|.ref A.s]) (.ref a)=some (a,xs):=by show(lE _ _).map _=_;rw[uE<|oJ h3];rfl
  show((lo "sorter" ⟨H,loc⟩).then _).or none=_;rw[oM.at<|oB h1];rw[hS];rw[hf];show((lo y ⟨H++[.bound f<|.ref A.s],loc⟩).then _).or none=_;rw[oM.at<|oB h2];rw[hl];rw[hb];dsimp only[Option.bind_some];rw[aH ⟨hz,hf2⟩,h];rfl
theorem TG{S:Bool->oY}(hz:r.length<1000):uT S fu 124 (v0::v1::r) H=sH S fu 124 [("self",v0),("node",v1),("predecessors",.ref H.length)] (H++[.tuple r]):=
 (show uT S fu 124 (v0::v1::r) H=if r.length<1000 then sH S fu 124 [("self",v0),("node",v1),("predecessors",.ref H.length)] (H++[.tuple r])else none by rfl').trans (aH hz)
theorem NM{S:Bool->oY}(hz:r.length<1000):uT S fu 157 (v0::r) H=sH S fu 157 [("self",v0),("nodes",.ref H.length)] (H++[.tuple r]):=
 (show uT S fu 157 (v0::r) H=if r.length<1000 then sH S fu 157 [("self",v0),("nodes",.ref H.length)] (H++[.tuple r])else none by rfl').trans (aH hz)
abbrev VH(rws:List x4)(y:Str):Int:=(x6 (pL rws) y:Int)
abbrev bo(rws:List x4)(y:Str):List Str:=tG (pL rws) y
theorem Ft{w:x4}:pL (d++[w])=pL d++w.2.2.map λz=>(w.2.1,z):=by unfold pL;refine a6 gV ?_;simp
theorem RJ{w:x4}{y:Str}:(if y=w.2.1 then VH d w.2.1+w.2.2.length else VH d y)=VH (d++[w]) y:=by
 revert d w y;exists d,w,y;delta VH x6;simp only[Ft,dR,aG];by_cases h:y=w.2.1
 .rw[aH h,h];have:(w.2.2.map λz=>(w.2.1,z)).filter (λe=>e.1==w.2.1)=w.2.2.map λz=>(w.2.1,z):=jH.mpr λe he=>by obtain⟨z,_,rfl⟩:=cA.mp he;exact bM _
  simp only[this,aF];push_cast;rfl
 .rw[aL h];have:(w.2.2.map λz=>(w.2.1,z)).filter (λe=>e.1==y)=[]:=b8.mpr λe he q=>by obtain⟨z,_,rfl⟩:=cA.mp he;exact h (eq_of_beq q).symm
  simp[this]
theorem OY{w:x4}:bo d y++(w.2.2.filter (· ==y)).map (λU=>w.2.1)=bo (d++[w]) y:=by delta bo tG;simp only[Ft,dR,bE,List.filter_map,bX];rfl
theorem aab(hy:y∉sT d):VH d y=0/\bo d y=[]:=by
 have h0:∀e∈pL d,e.1≠y/\e.2≠y:=λe he=>⟨λq=>hy<|q▸(zQ he).1,λq=>hy<|q▸(zQ he).2⟩;constructor
 .simp only[show VH d y=x6 (pL d) y from rfl,w6.mpr λe he=>(h0 e he).1];rfl
 .delta bo tG;rw[b8.mpr λe he q=>(h0 e he).2<|eq_of_beq q];rfl
theorem Dc:(tG E y).length<=E.length:=by unfold tG;rw[aF];exact cU _ _
structure ZY(b:Nat)(A:E3)(H0:Hp)(d:List x4)(t:Nat)(x5:Loc)(st:St):Prop where
 rep:∃A',A'.s=A.s/\tJ b A' none .none 0 0 (sT d) (VH d) (bo d) st.H
 same:qW b H0 st.H
 lc:∀z:Str,(z== "rule")=false->lz st.loc z=lz x5 z
theorem yr{n b:Nat}{A:E3}{H:Hp}{loc:Loc}{H0:Hp}{t:Nat}{rws:List x4}(RL:XG t rws H0)(hb:b=H0.length)(hz:xV rws<64)(R:tJ b A none .none 0 0 [] (λU=>0) (λU=>[]) H)(S:qW b H0 H)(h1:lz loc "sorter" =some (.ref A.s))(h2:lz loc "told" =some (.ref t)):
 ∃oE,fr (lo "told") "rule" (W9 fu<|n+3) ⟨H,loc⟩=some (.ok .next,oE)/\ZY b A H0 rws t loc oE:=by
 exists fu,n,b,A,H,loc,H0,t,rws,_;have kb:=wO;exact Do (I:=λd st=>ZY b A H0 d t loc st) (oB h2) ⟨⟨A,rfl,R.congr (λU h=>nomatch h) λU h=>nomatch h⟩,S,λU U=>rfl⟩
  (λd st T=>sF<|(T.same t (by rw[hb];exact qM RL.hl)).trans RL.hl)
  (λdone w rest st hd T=>by
   exists done,w,rest,st,_;exists A1,(q_:T.rep);obtain⟨es,R1⟩:=q_;have hw:w∈rws:=by exact hd▸(aW _<|.head _)
   have Nm:xV rws=xV done+(w.2.2.length+1+xV rest):=by simp only[hd,wV];rfl
   have HB:=Bv (d:=done);have YD:=Dn (d:=done);obtain⟨A2,H2,q8⟩:=NC (r:=w.2.2) (R1.app [.bound 124<|.ref A1.s]) (lk<|aC HB<|aC (aN Nm.symm) hz) (λy=>by have:=Dc (E:=pL done) (y:=y);lia) λy hy=>aab hy;refine⟨_,_,tL<|Vx R1 rfl rfl (.inl rfl) (((oR rfl).trans<|T.lc "sorter" rfl).trans<|es▸h1) oX ((T.same _<|(λq hq=>by rw[hb];exact qM (RL.hr q hq):∀q∈rws,q.1<b) w hw).trans<|RL.hr w hw) (by simp only[aF,bA];exact lk<|aC (aN Nm.symm)<|aC kb hz)<|(TG (by rw[aF];exact lk<|aC (aN Nm.symm) hz)).trans q8.1,.inl rfl,⟨A2,q8.2.1.trans es,?_⟩,λj hj=>(q8.2.2.2 j hj).trans<|(bO<|bJ hj R1.len).trans<|T.same j hj,λz hz=>(oR hz).trans<|T.lc z hz⟩;exact wL▸(q8.2.2.1.congr (λy U=>RJ) λy U=>OY))
theorem Ke(h:oG (oL fu n) fu a [u] [] H=some q)(hk:∀S:Bool->oY,yV S fu (.top a) [u] [] H=oG S fu a [u] [] H):oZ (oL fu n) fu (.top a) [u] [] H=some q:=vB<|(hk _).trans h
theorem Dk{sc:Str->List Str}{rd:List Str}(R:tJ b A none (.ref r) po nf ns p sc H)(hr:H[r]?=some (.list<|rd.map .str))(hz:rd.length<big)(h1:lz loc "sorter" =some (.ref A.s))(hq:(decide (nf<po)||!rd.isEmpty)=q):ml fu (n+1) (lo "sorter") "is_active" [] ⟨H,loc⟩=some (.ok<|.bool q,⟨H,loc⟩):=by have e:=LO (fu:=fu) (n:=n) R hr (by rw[aF];exact hz);simp only[kK,hq]at e;exact rB (oB h1) (Ds R.hs R.hd rfl rfl) C3 rfl<|Ke e λS=>by rfl'
theorem Sy{xs:List Str}(hi:H[i]?=some (.tuple<|xs.map .str))(hj:H[j]?=some (.tuple<|xs.map .str))(hs:∀x∈xs,PyData.strOk x=true):sZ .Eq (.ref i) (.ref j) H=some (.bool true)/\sZ .NotEq (.ref i) (.ref j) H=some (.bool false):=by
 have hc:(PyData.tuple<|xs.map .str).canLay0=true:=Bi λx hx=>by exact hs x hx
 have:=Eg (Bg hi<|tY λU U=>rfl) (Bg hj<|tY λU U=>rfl) hc hc;rw[i9 _ hc]at this;exact this
theorem Df{sc:Str->List Str}{loc:Loc}{r:Nat}{rd:List Str}(R:tJ b A none (.ref r) po nf ns p sc H)(hr:H[r]?=some (.list<|rd.map .str))(sJ:∀x∈ns,A.ld x≠r)(hb:b<=r)(Ro:∀x∈rd,x∈ns)(hz:rd.length<big)(h1:lz loc "sorter" =some (.ref A.s)):
 ∃H',ml fu (n+1) (lo "sorter") "get_ready" [] ⟨H,loc⟩=some (.ok<|.ref H.length,⟨H',loc⟩)/\tJ b A none (.ref r) (po+rd.length) nf ns (λy=>if y∈rd then-1 else p y) sc H'/\H'[r]?=some (.list [])/\H'[H.length]?=some (.tuple<|rd.map .str)/\qW b H H':=by
 exists H',(q8:WS (fu:=fu) (n:=n) R hr sJ hb Ro hz);exact⟨H',rB (oB h1) (Ds R.hs R.hd rfl rfl) C3 rfl<|Ke q8.1 λS=>by rfl',q8.2⟩
structure Rd(b s:Nat)(H0:Hp)(x5:Loc)(E:rE)(ns O Rc:List Str)(st:St):Prop where
 rep:∃A r p,A.s=s/\tJ b A none (.ref r) (O.length:Int) (O.length:Int) ns p (tG E) st.H/\st.H[r]?=some (.list<|Rc.map .str)/\(∀x∈ns,A.ld x≠r)/\b<=r/\Hl E O Rc p
 same:qW b H0 st.H
 lc:∀z:Str,(z== "due")=false->lz st.loc z=lz x5 z
theorem Ub{n b:Nat}{ns:List Str}{s a:Nat}{H0:Hp}{x5:Loc}{E:rE}{O R Rc:List Str}{st:St}(hn:ns.Nodup)(hE:∀e∈E,e.1∈ns/\e.2∈ns)(hz:E.length<100)(hN:ns.length<100)(hs:∀x∈ns,PyData.strOk x=true)(T:Rd b s H0 x5 E ns O Rc st)(h1:lz x5 "sorter" =some (.ref s))(ha:H0[a]?=some (.list<|R.map .str))(Jb:a<b)
 (sJ:R≠[])(hR:qR E ns O R)(YE:qR E ns O Rc):∃oE R',Fh fu (n+1) ⟨st.H,put "due" (.ref a) st.loc⟩=some (.ok .next,oE)/\Rd b s H0 x5 E ns (O++R) R' oE/\qR E ns (O++R) R':=by
 exists fu,n,b,ns,s,a,H0,x5,E,O,R,Rc,st,_;exists _;exists g9,_;have kb:=wO;obtain rfl:=YE.uniq hn hR;obtain⟨⟨A,r,p,rfl,Q,hr,YF,YG,S⟩,same,lc⟩:=T;exists A,r,p,_;have hRn:∀x∈Rc,x∈ns:=λx hx=>(hR.mem.mp hx).1;have hlen:=uS (cH.mp S.nd).2.1 hRn;have hg:∀H,qW b H0 H->H[a]?=some (.list<|Rc.map .str):=λH h=>(h a Jb).trans ha;have l1:lz (put "due" (.ref a) st.loc) "sorter" =some (.ref A.s):=(oR rfl).trans<|(lc "sorter" rfl).trans h1;have l2:lz (put "due" (.ref a) st.loc) "due" =some (.ref a):=oX;have lc':∀z:Str,(z== "due")=false->lz (put "due" (.ref a) st.loc) z=lz x5 z:=λz hz=>(oR hz).trans<|lc z hz;have Rq:Rc.isEmpty=false:=by(rcases Rc with _|⟨_,_⟩;(exact absurd rfl sJ);(rfl))
 obtain⟨H1,g1,Q1,qV⟩:=Df Q hr YF YG hRn (by omega) l1;exists H1,_;have S1:=same.trans qV.2.2;have a2:=pJ g1 (rO (fu:=fu) (n:=n+1) (oH) (tF<|oB l2) rfl<|pK<|X9 (hg H1 S1) (by rw[aF];omega)) (Sy (oJ qV.2.1) pR λx hx=>hs x<|hRn x hx).2;have Q2:=Q1.app [.tuple<|Rc.map .str];have r2:=oJ (L:=[.tuple<|Rc.map .str]) qV.1;have S2:=S1.app (L:=[.tuple<|Rc.map .str]) Q1.len;generalize H1++[AO.tuple<|Rc.map .str]=H2 at*;have a3:=pJ (Dk (fu:=fu) (n:=n) (rd:=[]) Q2 r2 (by show 0<_;omega) l1 (by
  have:(O.length:Int)<O.length+Rc.length:=by have:=jI.mpr sJ;lia
  rw[b7 this];rfl)) (oH) (rfl:sZ .IsNot (.bool true) (.bool true) H2=some (.bool false))
 obtain⟨H3,g3,Q3,o5⟩:=Df (rd:=[]) Q2 r2 YF YG (bH _) (by show 0<_;omega) l1;exists H3,_;have a4:=pJ g3 (He C3<|show 0<1000 by decide) (Sy (oJ o5.2.1) pR<|bH _).2;have Q4:=Q3.app [.tuple []];have r4:=oJ (L:=[.tuple []]) o5.1;have S4:=(S2.trans o5.2.2).app (L:=[.tuple []]) Q3.len;generalize H3++[AO.tuple []]=H4 at*;obtain⟨d1,J⟩:=ip S (p1:=λy=>if y∈[]then-1 else if y∈Rc then-1 else p y) (λy hy=>by rw[aL bG,aL hy]) (λy hy=>by rw[aL bG,aH hy]);obtain⟨H5,q9⟩:=RB (rd:=[]) (Q4.app [.bound 157<|.ref A.s]) (oJ r4) YF YG hRn (λx y hy=>(hE _<|zR.mp hy).1) (λdone w rest hd=>by have:=d1 done w rest hd;have:=Dc (E:=E) (y:=w);exact⟨(d1 done w rest hd).1,by lia⟩)
 have q8:=Uj hn hE S hR J;refine k9 ⟨_,_,oQ (sQ (K0 (pJ (Dk Q hr (by omega) l1<|Rq▸(n5 _)) (oH) (rfl:sZ .IsNot (.bool true) (.bool true) st.H=some (.bool false)))<|K0 a2 Ye) rfl)<|oQ (sQ (K0 a3<|K0 a4 Ye) rfl)<|tL<|Vx Q4 rfl rfl (.inr rfl) l1 l2 (hg H4 S4) (by rw[aF];omega)<|(NM (by rw[aF];exact lk<|aC hlen hN)).trans q9.1,⟨⟨A,r,_,rfl,?_,q9.2.2.1,YF,YG,q8.1⟩,λj hj=>(q9.2.2.2 j hj).trans<|(bO<|bJ hj Q4.len).trans<|S4 j hj,lc'⟩,q8.2⟩;rw[(by rw[aG];rfl:((O++Rc).length:Int)=O.length+Rc.length)];have:=q9.2.1;rw[show((O.length:Int)+Rc.length+[].length)=O.length+Rc.length from Int.add_zero _]at this;exact this
theorem DB{v w:V}(h:H[i]?=some (.tuple [v,w])):zi QM ["rounds","stuck"] 2 (.ref i) ⟨H,loc⟩=some (.ok (),⟨H,put "stuck" w<|put "rounds" v loc⟩):=by unfold zi;rw[show t9 (.ref i) 2 (St.mk H loc).H=some [v,w]from jz h rfl];rfl'
theorem Tu{n b:Nat}{ns:List Str}{s t:Nat}{H0:Hp}{x5:Loc}{E:rE}{O':List Str}{RS:List (Nat×List Str)}{st:St}(hn:ns.Nodup)(hE:∀e∈E,e.1∈ns/\e.2∈ns)(hz:E.length<100)(hN:ns.length<100)(hs:∀x∈ns,PyData.strOk x=true)(h1:lz x5 "sorter" =some (.ref s))(h2:lz x5 "rounds" =some (.ref t))(ht:t<b)
 (hl:H0[t]?=some (.list<|RS.map λq=>.ref q.1))(hr:∀q∈RS,H0[q.1]?=some (.list<|q.2.map .str)/\q.1<b)(LE:wC E ns [] (RS.map (·.2)) O'){Rc:List Str}(T:Rd b s H0 x5 E ns [] Rc st)(YE:qR E ns [] Rc):
 ∃oE,fr (lo "rounds") "due" (Fh fu<|n+1) st=some (.ok .next,oE)/\∃O,Rd b s H0 x5 E ns O [] oE:=by
 exists fu,n,b,ns,s,t,H0,x5,E,O',RS,st,Rc,[hn,hE,hz,hN,hs,h1,h2,ht,hl,hr,LE,T,YE];obtain⟨oE,e,O,Rc',rest,hd,hR,q9⟩:=Do (s:=Fh fu<|n+1)
  (I:=λdone st=>∃O Rc rest,RS=done++rest/\wC E ns O (rest.map (·.2)) O'/\Rd b s H0 x5 E ns O Rc st/\qR E ns O Rc) (oB<|(T.lc "rounds" rfl).trans h2) ⟨[],Rc,RS,rfl,LE,T,YE⟩
  (λd st qq=>by exists d,st,[qq];exists x7,Rt,xc,(q_:qq);obtain⟨HE,XW,T,z6_⟩:=q_;exact sF<|(T.same t ht).trans hl)
  (λdone w rest st hd qq=>by
   exists done,w,rest,st,[hd,qq];exists O,Rc,acp,(q_:qq);obtain⟨tI,hR,T,YE⟩:=q_;obtain rfl:acp=w::rest:=List.append_cancel_left<|tI.symm.trans hd;have hw:=hr w<|hd▸(aW _<|.head _);cases hR with
   |cons sJ hR1 hR2=> obtain⟨oE,R',q8⟩:=Ub hn hE hz hN hs T h1 hw.1 hw.2 sJ hR1 YE;exact⟨_,oE,q8.1,.inl rfl,_,R',rest,by simp only[hd,aJ];rfl,hR2,q8.2.1,q8.2.2⟩)
 have hr0:rest=[]:=by have:=aV List.length hd;simp only[aG]at this;exact cC.mp<|nK<|lS this
 obtain rfl:=hr0.symm;cases hR with
 |nil h0=>
  have:Rc'=[]:=List.Perm.eq_nil (by have:=q9.2.perm;rwa[b8.mpr λx hx q=>by replace q:=(h0 x hx)▸q;cases q]at this)
  subst this;exact⟨oE,e,_,q9.1⟩
theorem yt{s:Nat}(T:Rd b s H0 x5 E ns O [] st)(h1:lz x5 "sorter" =some (.ref s)):∃oE,W2 fu (n+1) st=some (.ok<|.ret<|.bool true,oE)/\qW b H0 oE.H:=by exists _;have kb:=wO;obtain⟨H,loc⟩:=st;obtain⟨⟨A,r,p,rfl,Q,hr,YF,YG,S⟩,same,lc⟩:=T;have l1:=(lc "sorter" rfl).trans h1;obtain⟨H3,q8⟩:=Df Q hr YF YG (bH _) (by show 0<_;omega) ((oR rfl).trans l1:lz (put "last" (.bool false) loc) "sorter" =some (.ref A.s));refine k9 ⟨_,oQ (pE<|Dk Q hr (by show 0<_;omega) l1 (by rw[cQ<|lY _];rfl))<|uQ<|JQ (Pu (oB oX) (oH)<|show _=some (V.bool true)from rfl) rfl<|Pu q8.1 (He C3<|show 0<1000 by decide) (Sy (oJ q8.2.2.2.1) pR<|bH _).1,(same.trans q8.2.2.2.2).app q8.2.1.len⟩
theorem tz{n t:Nat}{H:Hp}{loc:Loc}{rws:List x4}(R:XG t rws H)(hs:∀q∈rws,∀x∈q.2.1::q.2.2,PyData.strOk x=true)(hz:xV rws<64)(Dy:5000<fu)(h2:lz loc "told" =some (.ref t)):
 ∃oE,lf fu (n+3) ⟨H,loc⟩=some (.ok<|.ret<|.bool true,oE)/\qW H.length H oE.H:=by
 exists fu,n,t,H,loc,rws,_;exists _;exists g9,_;have HB:=Bv (d:=rws);have YD:=Dn (d:=rws);have Fp:=Hw (d:=rws);have hE:∀e∈pL rws,e.1∈sT rws/\e.2∈sT rws:=λe he=>zQ he;obtain⟨T,u,rI,RS,O',e1,ht,hR,hl,Rz⟩:=TU rfl R hs hz<|eH Dy;exists T,u,rI,RS,O',_;have st:=Ze hR Fp hE;have e2:sP (cl fu (n+3) (ct<|.top 927) [lo "told"]) (zi QM ["rounds","stuck"] 2) ⟨H,loc⟩=some (.ok .next,⟨H++T,put "stuck" (.bool<|decide<|O'.length<(sT rws).length)<|put "rounds" (.ref<|H.length+rI) loc⟩):=
  (oM.at<|rO oH (tF<|oB h2) rfl<|Ke e1 λS=>by rfl').trans ((oM.at<|DB<|rX rfl ht).trans rfl)
 have R1:XG t rws<|H++T:=⟨oJ R.hl,λq hq=>oJ<|R.hr q hq⟩;have hl1:(H++T)[H.length+rI]?=some (.list<|(RS.map λq=>(H.length+q.1,q.2)).map λq=>.ref q.1):=by rw[bX];exact rX rfl hl
 have hr1:∀q∈RS.map λq=>(H.length+q.1,q.2),(H++T)[q.1]?=some (.list<|q.2.map .str)/\q.1<(H++T).length:=λq hq=>by exists q,_;exists q,(q_:cA.mp hq);obtain⟨h,rfl⟩:=q_;have:=rX (H:=H) rfl<|Rz q h;exact⟨this,qM this⟩
 rw[show RS.map (·.2)=(RS.map λq=>(H.length+q.1,q.2)).map (·.2)by rw[bX];rfl]at hR;have S0:qW H.length H<|H++T:=qW.refl.app<|aI _;have hb0:H.length<=(H++T).length:=by rw[aG];exact aT (List.length H)<|List.length T
 have l1:∀z:Str,(z== "stuck")=false->(z== "rounds")=false->lz (put "stuck" (.bool<|decide<|O'.length<(sT rws).length)<|put "rounds" (.ref<|H.length+rI) loc) z=lz loc z:=λz h h'=>(oR h).trans<|oR h';have l2:lz (put "stuck" (.bool<|decide<|O'.length<(sT rws).length)<|put "rounds" (.ref<|H.length+rI) loc) "rounds" =some (.ref<|H.length+rI):=(oR rfl).trans oX;have l3:lz (put "stuck" (.bool<|decide<|O'.length<(sT rws).length)<|put "rounds" (.ref<|H.length+rI) loc) "stuck" =some (.bool<|decide<|O'.length<(sT rws).length):=oX;generalize hH1:H++T=H1 at*;exists A,H2,(C4:HR (fu:=fu) (n:=n+2) (b:=H1.length)<|aI _);exists st5,(vH:yr (fu:=fu) (n:=n) R1 rfl hz C4.2.1 C4.2.2 oX<|(oR rfl).trans<|(l1 "told" rfl rfl).trans h2);obtain⟨H5,HY⟩:=st5;exists H5,HY,_;exists A5,(q_:vH.2.rep);obtain⟨es5,Q5⟩:=q_;have s5:=vH.2.same;have lc5:=vH.2.lc;obtain⟨r,rr,H6,qV⟩:=RT (fu:=fu) (K:=64) Q5 (lk<|aC HB hz) (λx y hy=>(hE _<|zR.mp hy).1) (λx=>bC (Dc) (lk<|aC YD hz)) (by have:(sT rws).length*(64+1)<=64*65:=Nat.mul_le_mul (lk<|aC HB hz)<|aI _;exact lk<|aC this Dy)
 exists r,rr,H6,_;have e7:=rB (x:= "prepare") (oB (st:=⟨H5,put "held" (.bool false) HY⟩)<|(oR rfl).trans<|(lc5 _ rfl).trans<|oX.trans<|by rw[es5]) (Ds Q5.hs Q5.hd rfl rfl) C3 rfl qV.1;have e8:∃dw,Sq (Yh fu<|n+3) "CycleError" (Wc fu<|n+3) ⟨H5,put "held" (.bool false) HY⟩=some (.ok .next,⟨H6,dw⟩)/\lz dw "held" =some (.bool<|decide<|O'.length<(sT rws).length)/\∀z:Str,(z== "held")=false->lz dw z=lz HY z:=by
  rcases qV.2.2.2.2.2.2 with⟨rfl,hF⟩|⟨rfl,hC⟩
  .rw[cQ<|st.1 hF];exact⟨_,jk<|tL e7,oX,λz hz=>oR hz⟩
  .rw[b7<|st.2 hC];exact⟨_,Xa (TC e7) (by decide+kernel)<|pE oH,oX,λz hz=>(oR hz).trans<|oR hz⟩
 exists dw,(o5:e8);have hq:=λq=>by have:=(Eg (H:=H6) (a:=.bool q) (c:=.bool q) rfl rfl rfl rfl).2;rwa[i9 _ rfl]at this
 have lzq:=λz h1 h2 h3=>(o5.2.2 z h1).trans<|(lc5 z h2).trans<|oR h3;have q9:=OM (E:=pL rws) Fp λx=>rfl;have l9:lz dw "sorter" =some (.ref A5.s):=(o5.2.2 _ rfl).trans<|(lc5 _ rfl).trans<|oX.trans (by rw[es5]);obtain⟨ajh,e10,O,T10⟩:=Tu (st:=⟨H6,dw⟩) Fp hE (lk<|aC YD hz) (lk<|aC HB hz) (λx hx=>by exists q,(q_:wS.mp hx);obtain⟨hq,h⟩:=q_;exact hs q hq x h) l9 ((lzq "rounds" rfl rfl rfl).trans l2) (qM hl1) hl1 hr1 hR ⟨⟨A5,rr,_,rfl,qV.2.1,qV.2.2.1,qV.2.2.2.1,qV.2.2.2.2.1,q9.1⟩,s5.trans qV.2.2.2.2.2.1,λU U=>rfl⟩ q9.2;exists afu,(q8:yt (fu:=fu) (n:=n+2) T10 l9);refine k9 ⟨afu,oQ e2<|oQ (pE<|rO (oH) C3 rfl C4.1)<|oQ vH.1<|oQ (pE oH)<|oQ o5.1<|oQ (sQ (pJ (oB o5.2.1) (oB<|(lzq "stuck" rfl rfl rfl).trans l3)<|hq _) rfl)<|oQ e10 q8.1,λj hj=>(q8.2 j<|bJ hj hb0).trans<|S0 j hj⟩
def xJ(c:Nat)(l:List Nat):Nat:=(l.filter (· ==c)).length
theorem Bl:xJ c (d::l)=(if d=c then 1 else 0)+xJ c l:=by
 unfold xJ;by_cases h:d=c
 .rw[aH h,bR (p:=(· ==c))<|a5.mpr h,bA,iH]
 .rw[aL h,bN (p:=(· ==c)) λq=>h<|eq_of_beq q,dF]
theorem Si:xJ c (l++m)=xJ c l+xJ c m:=by unfold xJ;simp only[dR,aG]
theorem PT:∀T cur,(Y8 cur T).length<=1+xJ 10 T:=by
 intro zr;induction zr with
 |nil=> intro cur;dsimp only[Gg];split<;>simp
 |cons c r pD=>
  intro cur;have h2:=pD<|cur++[c];rw[Bl];dsimp only[Gg,P9];by_cases h:c=10
  .rw[aH h,aH h];split
   .exact Nat.le_add_left_of_le (pD [])
   .simp only[bA];exact Nat.sub_le_iff_le_add'.mp<|pD []
  .rw[aL h,aL h];exact lk h2
theorem ZM:∀T cur,cur≠[]->Y8 cur T≠[]:=by
 intro zr;induction zr with
 |nil=> intro cur h;dsimp only[Gg];rw[aL λq=>h<|cI.mp q];exact eL _ _
 |cons c r pD=>
  intro cur h;dsimp only[Gg,P9];by_cases h':c=10
  .rw[aH h',aL λq=>h<|cI.mp q];exact eL _ _
  .rw[aL h'];exact pD _<|by simp
theorem fy(h:c∈z0 l):c∈l:=by
 obtain⟨d,hd,h⟩:=iY.mp h;by_cases e:d=39
 .replace h:=(aH e)▸h;simp at h
 .rw[aL e,aE]at h;rw[h];exact hd
theorem SU:∀T cur{x:List Nat}{d:Nat},x∈Y8 cur T->d∈x->d∈cur\/d∈T:=by
 intro zr;induction zr with
 |nil=>
  intro cur x d hx hd;dsimp only[Gg]at hx;split at hx
  .simp at hx
  .rw[aE.mp hx]at hd;exact .inl<|fy hd
 |cons c r pD=>
  intro cur x d hx hd;dsimp only[Gg,P9]at hx;by_cases h:c=10
  .replace hx:=(aH h)▸hx;split at hx
   .exact(pD [] hx hd).elim (λq=>nomatch q) λq=>.inr<|.tail _ q
   .rcases aK.mp hx with rfl|hx
    .exact .inl (fy hd)
    .exact(pD [] hx hd).elim (λq=>nomatch q) λq=>.inr<|.tail _ q
  .rw[aL h]at hx;exact(pD _ hx hd).elim (λq=>(aO.mp q).elim .inl λq=>.inr (by rw[aE.mp q];exact .head _)) λq=>.inr<|.tail _ q
theorem PB:∀l b,10∉l->xJ 10 (Sr b l)<=xJ 32 l:=by
 intro zr;induction zr with
 |nil=> intro _ _;exact aI _
 |cons c r pD=>
  intro b h;have h1:=pD (!b) λq=>h<|.tail _ q;have h2:=pD b λq=>h<|.tail _ q;rw[Bl];dsimp only[Jk,Kc];by_cases Ix:c=39
  .rw[aH Ix,Bl,aL<|by decide];exact lk h1
  .rw[aL Ix];by_cases yq:b=false/\c=32
   .rw[aH yq,Bl,aH rfl,aH yq.2];exact Nat.add_le_add_iff_left.mpr h2
   .rw[aL yq,Bl,aL (λe=>h (e▸.head _):¬c=10)];exact lk h2
theorem GB:∀l b{d:Nat},d∈Sr b l->d∈l\/d=10:=by
 intro zr;induction zr with
 |nil=> intro _ d h;exact absurd h<|bG
 |cons c r pD=>
  intro b d h;dsimp only[Jk,Kc]at h;by_cases Ix:c=39
  .rw[aH Ix]at h;rcases aK.mp h with h|h
   .exact .inl (h▸Ix▸(.head _))
   .exact(pD _ h).imp_left (.tail _)
  .replace h:=(aL Ix)▸h;by_cases yq:b=false/\c=32
   .rw[aH yq]at h;rcases aK.mp h with h|h
    .exact .inr h
    .exact(pD _ h).imp_left (.tail _)
   .rw[aL yq]at h;rcases aK.mp h with h|h
    .exact .inl (by rw[h];exact .head _)
    .exact(pD _ h).imp_left (.tail _)
theorem Y3(N):∀l,l.length<=N->(pI l).Sublist l:=by
 induction N with
 |zero=>exact λl h=>by rw[cC.mp<|Nat.le_zero.mp h];decide
 |succ N ih=>
  intro l h;rcases v7 l with hf|⟨p,r,hp,rfl⟩
  .rw[sG hf];exact .refl _
  .rcases v7 r with hf|⟨q,r',hq,rfl⟩
   .rw[w0 hp hf];exact .refl _
   .rw[xC hp hq];refine(List.append_sublist_append_left p).mpr<|.cons _<|(ih r' ?_).trans<|(List.sublist_cons_self 34 r').trans<|List.sublist_append_right _ _;simp only[aG,bA]at h;exact lk h
theorem T8(hc:c≠34):∃r',pI (c::r)=c::r':=by
 exists c,r,_;rcases v7 (c::r)with hf|⟨p,s,hp,e⟩
 .exact⟨r,sG hf⟩
 .exists p,s,_;have:∃p',p=c::p':=by
   rcases p with _|⟨d,p'⟩
   .exact absurd (b0 e).1 hc
   .exact⟨p',by rw[(b0 e).1]⟩
  exists p',(q_:this);obtain rfl:=q_;refine e▸?_;rcases v7 s with hf|⟨q,r',hq,rfl⟩
  .rw[w0 hp hf];exact⟨_,rfl⟩
  .exact(xC hp hq)▸(⟨_,rfl⟩)
theorem yu{w:List Nat}(ps):∃c r,pV (w::ps)=c::r/\(c=97\/c=98\/c=39):=by
 exists w,ps,[];have key:∃c r,uZ w=c::r/\(c=97\/c=98\/c=39):=by
  unfold uZ;by_cases h:w.isEmpty=false/\D7 w=true
  .rw[aH h];rcases w with _|⟨c,r⟩
   .rcases h.1 with _|_
   .have h3:=(aQ _ _▸(h.2)).1;unfold Gs at h3;simp only[d8,a5]at h3;exact⟨c,r,rfl,h3.elim .inl λq=>.inr<|.inl q⟩
  .rw[aL h];exact⟨39,_,rfl,.inr<|.inr rfl⟩
 exists c,r,(q8:key);rcases ps with _|⟨p,ps⟩
 .exact⟨c,r,q8.1,q8.2⟩
 .refine⟨c,r++[32]++jn [32] ((p::ps).map uZ),?_,q8.2⟩;show uZ w++[32]++_=_;exact q8.1▸rfl
theorem q5:∀c∈[39,34,39,34,39],c∈pM:=by decide
theorem fc{w:List Nat}:xJ 32 (uZ w)<=w.length/\((∀c∈w,c∈pM)->∀c∈uZ w,c∈pM):=by
 revert w;exists w;have h1:∀w:List Nat,xJ 32 (wE 39 [39,34,39,34,39] w)<=w.length:=λw=>by
  induction w with
  |nil=>exact aI _
  |cons c w ih=>
   have e:wE 39 [39,34,39,34,39] (c::w)=(if c=39 then[39,34,39,34,39]else[c])++wE 39 [39,34,39,34,39] w:=rfl;simp only[e,Si,bA];have:xJ 32 (if c=39 then[39,34,39,34,39]else[c])<=1:=by
    by_cases h:c=39
    .rw[aH h];decide+kernel
    .rw[aL h];exact cU _ _
   exact lk<|aC this ih
 unfold uZ;by_cases h:w.isEmpty=false/\D7 w=true
 .rw[aH h];exact⟨cU _ _,id⟩
 .rw[aL h];refine⟨?_,λhw c hc=>?_⟩
  .simp only[Si];have:=h1 w;have e:xJ 32 [39]=0:=by decide+kernel
   exact lk<|aC (aN e)<|aC (aN e) this
  .rcases aO.mp hc with hc|hc
   .rcases aO.mp hc with hc|hc
    .rw[aE.mp hc];decide
    .obtain⟨d,hd,hc⟩:=iY.mp hc;by_cases e:d=39
     .rw[aH e]at hc;exact q5 c hc
     .rw[aL e,aE]at hc;exact hc▸(hw d hd)
   .rw[aE.mp hc];decide
theorem CA:(∀w∈ws,(∀c∈w,c∈pM)/\w.length<=2)->xJ 32 (pV ws)<=3*ws.length-1/\(pV ws).length<=13*ws.length/\∀c∈pV ws,c∈pM:=by
 induction ws using li with
 |h0=>exact λU=>⟨aI _,aI _,bH _⟩
 |h1 w=> intro h;have h1:=h w<|.head _;have h2:=fc (w:=w);have h3:=Bc w;exact(⟨by lia,by lia,h2.2 h1.1⟩:xJ 32 (uZ w)<=3*1-1/\(uZ w).length<=13*1/\_)
 |h2 w v r ih=>
  intro h;have h1:=h w<|.head _;have h2:=fc (w:=w);have h3:=Bc w;obtain⟨i1,q8⟩:=ih λx hx=>h x<|.tail _ hx;have e:pV (w::v::r)=uZ w++[32]++pV (v::r):=rfl;simp only[e,Si,aG];have e2:xJ 32 [32]=1:=by decide+kernel
  rw[bA];refine⟨by simp only[bA]at*;lia,by show _+1+_<=_;lia,λc hc=>?_⟩;rcases aO.mp hc with hc|hc
  .rcases aO.mp hc with hc|hc
   .exact h2.2 h1.1 c hc
   .rw[aE.mp hc];decide
  .exact q8.2 c hc
theorem J8(h:c∈pM):c<128/\c≠92/\c≠10:=by revert c;decide
structure JS(ws:List<|List Nat):Prop where
 l1:∀c∈pV ws,c∈pM
 l2:(pV ws).length<900
 s1:∀c∈pI (pV ws),c∈pM
 s2:(pI<|pV ws).length<900
 rd:rU .bl [] (pI<|pV ws)=yU (pI<|pV ws)
 wd:∀xs,yU (pI<|pV ws)=some xs->xs≠[]/\xs.length<=9/\∀x∈xs,∀c∈x,c<128
theorem ZR(sJ:ws≠[])(hl:∀w∈ws,(∀c∈w,c∈pM)/\w.length<=2)(hn:ws.length<=3):JS ws:=by
 exists ws,_;obtain⟨a1,a2,a3⟩:=CA hl;have hs:=Y3 _ (pV ws)<|aI _;have hc:=(bf _ (pV ws)<|aI _).1;have s1:=λc h=>a3 c<|hs.subset h;have hr:=pq s1 hc;refine⟨a3,by lia,s1,by have:=hs.length_le;lia,hr,?_⟩;exists xs;intro hx;simp only[<-hr,(Xf _ s1 hc).1]at hx;exists w,ps,(q_:gH sJ);obtain rfl:=q_;exists c,r,(q_:yu (w:=w) ps);obtain⟨e,hh⟩:=q_;obtain⟨r',e'⟩:=T8 (c:=c) (by rcases hh with h|h|h<;>rw[h]<;>decide)
 exists r',_;have hcn:xJ 32 (pI<|pV (w::ps))<=xJ 32 (pV (w::ps)):=(hs.filter _).length_le;rw[<-e]at e';generalize pI (pV (w::ps))=l at*;unfold wf at hx;split at hx
 .exact nn hx
 split at hx
 .exact nn hx
 obtain rfl:=aA hx;have t1:=PB l false λq=>(J8<|s1 10 q).2.2 rfl;refine⟨?_,?_,λx hx d hd=>?_⟩
 .subst e';have e2:∃b,Sr false (c::r')=c::Sr b r':=by
   rcases hh with rfl|rfl|rfl
   .exact⟨false,rfl⟩
   .exact⟨false,rfl⟩
   .exact⟨true,rfl⟩
  exists b,(e2:e2);rw[e2];dsimp only[Gg,P9];rw[aL (by rcases hh with h|h|h<;>rw[h]<;>decide)]
  exact ZM _ _<|by simp
 .have:=PT (Sr false l) [];grind
 .rcases SU _ _ hx hd with h|h
  .exact nomatch h
  .rcases GB _ _ h with h|h
   .exact(J8<|s1 d h).1
   .rw[h];decide
section
variable{fu n t q:Nat}{H:Hp}{loc:Loc}{ws:List (List Nat)}{l:List Nat}{d:List x4}
theorem wM{a:Addr}{o:r8 V}{G:Hp}(h:oG (oL fu n) fu a [tx l] [] []=some (o,G))(hk:∀S:Bool->oY,yV S fu (.top a) [tx l] [] H=(oG S fu a [tx l] [] []).map λp=>(Bz H.length p.1,H++p.2.map (AO.sh H.length))):oZ (oL fu n) fu (.top a) [tx l] [] H=some (Bz H.length o,H++G.map (AO.sh H.length)):=
 vB ((hk _).trans (by simp only[h];rfl))
theorem ZG{k:Nat}:∀ws:List<|List Nat,(ws.map tx).map (V.sh k)=ws.map tx:=λws=>by refine a6 bX ?_;rfl
theorem Wr{G:Hp}{i k:Nat}{ws:List (List Nat)}(h:G[i]?=some (.list<|ws.map tx)):(G.map<|AO.sh k)[i]?=some (.list<|ws.map tx):=by simp only[bD,h];show some (AO.list<|(ws.map tx).map<|V.sh k)=_;rw[ZG]
inductive CB(o:r8 V)(W:Hp)(k:Nat):Option (List<|List Nat)->Prop
 |bad (h:o=.ok .none):CB o W k none
 |good {xs j} (h:o=.ok (.ref j)) (hj:k<=j) (hi:W[j]?=some (.list<|xs.map tx)):CB o W k<|some xs
theorem CB.app{o:r8 V}{W:Hp}{k:Nat}{r:Option (List<|List Nat)}(h:CB o W k r)(L):CB o (W++L) k r:=by
 induction h with
 |bad h=>exact .bad h
 |good h hj hi=>exact .good h hj<|oJ hi
set_option tactic.hygienic true in
theorem XC{o o':r8 V}{W:Hp}{k k':Nat}{r:Option (List<|List Nat)}(h:CB o W k r)(h':CB o' W k' r)(hr:∀xs,r=some xs->∀x∈xs,∀c∈x,c<128):∃v v',o=.ok v/\o'=.ok v'/\sZ .NotEq v v' W=some (.bool false):=by
 exists _;induction h with
 |bad h=>
  cases h' with
  |bad h'=> have:=(Eg (H:=W) (a:=.none) (c:=.none) rfl rfl rfl rfl).2;exact k9 ⟨_,_,h,h',this⟩
 |good h hj hi=>
  refine k9<|fo λg9 k9=>?_;rename_i xs j;cases h' with
  |good h' hj' wx=>
   have hc:(PyData.list<|xs.map λx=>.str<|oP x).canLay0=true:=Bi λx hx=>by exact uH<|hr xs rfl x hx
   have:=(Eg (vP hi<|tY λU U=>rfl) (vP wx<|tY λU U=>rfl) hc hc).2;rw[i9 _ hc]at this;exact k9 ⟨_,_,h,h',this⟩
set_option tactic.hygienic true in
theorem HZ(Dy:1000<=fu)(hl:∀c∈l,c∈pM)(hz:l.length<900):∃o G,oZ (oL fu<|n+7) fu (.top 922) [tx l] [] H=some (o,H++G)/\CB o (H++G) H.length (rU .bl [] l):=by
 exists fu,n,H,l,_;have W:=zp (n:=n) (H:=[]) Dy hl hz;generalize rU .bl [] l=r at*;induction W with
 |bad h=>exact⟨_,_,wM h λS=>by rfl',.bad rfl⟩
 |good h hi=>rename_i ws G i;exact⟨_,_,wM h λS=>by rfl',.good (by show r8.ok (V.ref _)=_;rw[show[].length+i=i from dF i]) (aT _ _)<|rX rfl<|Wr hi⟩
theorem IA(hl:∀c∈l,c<128)(hz:l.length<900):∃o G,oZ (oL fu<|n+1) fu (.top 915) [tx l] [] H=some (o,H++G)/\CB o (H++G) H.length (yU l):=by
 exists fu,n,H,l,_;have W:=RV (fu:=fu) (n:=n) hl hz;generalize yU l=r at*;induction W with
 |bad h=>exact⟨_,_,wM h λS=>by rfl',.bad rfl⟩
 |good h hi=>exact⟨_,_,wM h λS=>by rfl',.good rfl (aT _ _)<|rX rfl<|Wr hi⟩
structure Lw(b t:Nat)(H0:Hp)(m:Nat)(d:List x4)(st:St):Prop where
 told:lz st.loc "told" =some (.ref t)
 rls:XG t d st.H
 ne:∀q∈d,q.1≠t
 same:∀j<b,j≠t->st.H[j]?=H0[j]?
 sg:∀q∈d,∀x∈q.2.1::q.2.2,PyData.strOk x=true
 sz:xV d<=9*m
 ln:d.length<=m
 bl:b<=st.H.length
set_option tactic.hygienic true in
theorem kr{b m:Nat}{H0:Hp}{st:St}(Dy:1000<=fu)(L:Lw b t H0 m d st)(hm:m<100)(hq:H0[q]?=some (.list<|ws.map tx))(hqb:q<b)(hqt:q≠t)(F:JS ws)(hw:∀w∈ws,sW.contains (oP w)=true/\(∀c∈w,c<128)/\w.length<=2)(hn:ws.length<=3):
 ∃oE d',Mw fu (n+7) ⟨st.H,put "words" (.ref q) st.loc⟩=some (.ok .next,oE)/\Lw b t H0 (m+1) d' oE:=by
 exists fu,n,t,q,ws,d,b,m,H0,st,_;exists _;exists g9,_;have kb:=wO;obtain⟨H,loc⟩:=st;exists H,loc,_;obtain⟨l0,R,sJ,same,sg,sz,ln,bl⟩:=L;have g0:H[q]?=some (.list<|ws.map tx):=(same q hqb hqt).trans hq;have a1:∀c∈pV ws,c<128:=λc h=>(J8<|F.l1 c h).1;have a2:∀c∈pI (pV ws),c<128:=λc h=>(J8<|F.s1 c h).1;have lw:lz (put "words" (.ref q) loc) "words" =some (.ref q):=oX;have lt:lz (put "words" (.ref q) loc) "told" =some (.ref t):=(oR rfl).trans l0;generalize put "words" (.ref q) loc=loc at*;have e1:=pE (x:= "line")<|rO (oH (v:=.top 885) (st:=⟨H,loc⟩)) (tF<|oB lw) rfl (Ke (RE (fu:=fu) (n:=n+6) g0 (λw h=>⟨(hw w h).1,(hw w h).2.2⟩) hn) λS=>by rfl');have lw1:lz (put "line" (tx<|pV ws) loc) "words" =some (.ref q):=(oR rfl).trans lw;have lt1:lz (put "line" (tx<|pV ws) loc) "told" =some (.ref t):=(oR rfl).trans lt;have ll1:lz (put "line" (tx<|pV ws) loc) "line" =some (tx<|pV ws):=oX;generalize put "line" (tx<|pV ws) loc=t7 at*;exists G2,(e2:aco (fu:=fu) (n:=n+6) a1 (λc h=>(J8<|F.l1 c h).2.1) F.l2);have lw2:lz (put "shorn" (tx<|pI<|pV ws) t7) "words" =some (.ref q):=(oR rfl).trans lw1;have lt2:lz (put "shorn" (tx<|pI<|pV ws) t7) "told" =some (.ref t):=(oR rfl).trans lt1;have ll2:lz (put "shorn" (tx<|pI<|pV ws) t7) "line" =some (tx<|pV ws):=(oR rfl).trans ll1;have ls2:lz (put "shorn" (tx<|pI<|pV ws) t7) "shorn" =some (tx<|pI<|pV ws):=oX;have zc:sP (cl fu (n+7) (ct<|.top 58) [lo "line"]) (tP "shorn") ⟨H,t7⟩=some (.ok .next,⟨H++G2.map (AO.sh H.length),put "shorn" (tx<|pI<|pV ws) t7⟩):=pE (x:= "shorn")<|rO (oH (v:=.top 58) (st:=⟨H,t7⟩)) (tF<|oB ll1) rfl (wM e2 λS=>by rfl');generalize put "shorn" (tx<|pI<|pV ws) t7=uK at*;generalize G2.map (AO.sh H.length)=G2 at*;exists o3,G3,(q_:HZ (fu:=fu) (n:=n) (H:=H++G2) Dy F.s1 F.s2);obtain⟨e3,A3⟩:=q_;have hk3:H.length<=(H++G2).length:=by simp only[aG];exact by simp+arith only
 have hH3:∃G,(H++G2)++G3=H++G:=⟨_,aJ _ _ _⟩;generalize(H++G2)++G3=H3 at*;exists G,(q_:hH3);obtain rfl:=q_;exists G4,(e4:XA (fu:=fu) (n:=n+6) (H:=H++G) (i:=q) (oJ g0) (λw h=>(hw w h).2.1) (λw h=>(hw w h).2.2) hn);exists G5,(e5:yn (fu:=fu) (n:=n+6)<|cK F.l2<|cR _ _);have e5':=wM (H:=H++G++G4) e5 λS=>by rfl'
 generalize G5.map (AO.sh (H++G++G4).length)=G6 at*;exists o7,G7,(q_:IA (fu:=fu) (n:=n+6) (H:=H++G++G4++G6) a2 F.s2);obtain⟨e7,A7⟩:=q_;simp only[<-F.rd]at A7;exists v,v',(q_:XC (((A3.app G4).app G6).app G7) A7 λxs hx=>(F.wd xs<|F.rd.symm.trans hx).2.2);obtain⟨rfl,rfl,hv⟩:=q_;have e3':=pE (x:= "row")<|rO (oH (st:=⟨H++G2,uK⟩)) (tF<|oB ls2) rfl e3;have lw3:lz (put "row" v uK) "words" =some (.ref q):=(oR rfl).trans lw2;have lt3:lz (put "row" v uK) "told" =some (.ref t):=(oR rfl).trans lt2;have ll3:lz (put "row" v uK) "line" =some (tx<|pV ws):=(oR rfl).trans ll2;have ls3:lz (put "row" v uK) "shorn" =some (tx<|pI<|pV ws):=(oR rfl).trans ls2;have eu:lz (put "row" v uK) "row" =some v:=oX;generalize put "row" v uK=XD at*;have t1:=pJ (oB (st:=⟨H++G,XD⟩) ll3) (rO oH (tF<|oB lw3) rfl<|Ke e4 λS=>by rfl') (Ks a1 a1).2;have t2:=pJ (oB (st:=⟨H++G++G4,XD⟩) ls3) (rO oH (tF<|oB ll3) rfl e5') (Ks a2 a2).2;simp only[bM]at t1 t2;have hW:∃G',H++G++G4++G6++G7=H++G':=⟨_,by rw[aJ,aJ,aJ]⟩;have A8:=((A3.app G4).app G6).app G7;generalize H++G++G4++G6++G7=W at*;exists G',(q_:hW);obtain rfl:=q_;have go:∀z,uq fu (n+7) ⟨H++G',XD⟩=z->Mw fu (n+7) ⟨H,loc⟩=z:=λz hz=>oQ e1<|oQ zc<|oQ (e3')<|oQ (sQ (K0 t1<|K0 t2<|K0 (pJ (oB eu) (rO oH (tF<|oB ls3) rfl e7) hv) Ye) rfl) hz;have gt:(H++G')[t]?=some (.list<|d.map λq=>.ref q.1):=oJ R.hl;have htl:=qM R.hl;generalize hr:rU .bl [] (pI<|pV ws)=r at*;induction A8 with
 |bad h=> refine k9<|fo λg9 k9=>?_;rcases h with _|_;refine k9 ?_;refine⟨_,d,go _<|sQ (pJ (oB eu) oH<|show sZ .IsNot .none .none (H++G')=some (.bool false)from rfl) rfl,⟨lt3,⟨gt,λq hq=>oJ<|R.hr q hq⟩,sJ,λj hj XE=>?_,sg,(lk sz),dG ln,by simp[aG];lia⟩⟩;exact(bO<|bJ hj bl).trans<|same j hj XE
 |good h hj hi=>
  refine k9<|fo λg9 k9=>?_;rename_i xs j;obtain rfl:=r8.ok.inj h;obtain⟨x1,x2,x3⟩:=F.wd xs<|F.rd.symm.trans hr;exists x,r,(q_:gH x1);obtain rfl:=q_;have XE:j≠t:=(cX<|lk<|aC hj<|aC htl hk3);refine k9 ?_;refine⟨_,d++[(j,oP x,r.map oP)],go _<|v9 (pJ (oB eu) oH<|show sZ .IsNot (.ref j) .none (H++G')=some (.bool true)from rfl)<|tL<|rB (oB lt3) (qS gt rfl) (tF<|oB eu) rfl<|pK<|rT gt (by rw[aF];exact lk<|aC ln<|aC kb hm),⟨lt3,⟨?_,λq hq=>?_⟩,λq hq=>?_,λj hj XE=>?_,λq hq=>?_,?_,?_,by simp[eQ];lia⟩⟩
  .rw[bE];exact rD gt
  .rcases aO.mp hq with hq|hq
   .exact qI (sJ q hq).symm (oJ<|R.hr q hq)
   .rw[aE.mp hq];exact(qI XE.symm hi).trans<|bX▸rfl
  .rcases aO.mp hq with hq|hq
   .exact sJ q hq
   .rw[aE.mp hq];exact XE
  .exact((dB<|dQ XE).trans<|bO<|bJ hj bl).trans (same j hj XE)
  .rcases aO.mp hq with hq|hq
   .exact sg q hq
   .rw[aE.mp hq];exists y;intro hy;have:y∈(x::r).map oP:=hy;exists z,(q_:cA.mp this);obtain⟨hz,rfl⟩:=q_;exact uH<|x3 z hz
  .rw[wV];show _+((r.map oP).length+1+0)<=_;rw[aF];simp only[bA]at x2;exact lk<|aC x2 sz
  .simp only[aG,fB];exact lk ln
end
theorem cc:((pC 934).names.all λx=>x.2 !=.cell&&x.2 !=.free)=true:=by rfl'
set_option tactic.hygienic true in
theorem sf:∀{vs:List Value}{zs:List Int},IntsAre vs zs->oN (VC []) (zs.map V.int) vs:=by
 intro vs zs h;induction h with
 |nil=>exact .nil
 |cons=>rename_i ih;exact .cons ⟨_,rfl⟩ ih
theorem VJ(P):((qE P).all λp=>match p.2.cls with|.type T=>T != "list" |_=>true)=true:=by rfl'
theorem UA{l:List (Addr×Obj)}{a:Addr}(h:l.lookup a=some o):(a,o)∈l:=by
 induction l with
 |nil=>exact nn h
 |cons p l ih=>
  rw[cP]at h;rcases e:a==p.1 with _|_
  .have h:=e▸h;exact .tail _<|ih h
  .replace h:=e▸h;obtain rfl:=aA h;obtain rfl:=a5.mp e;exact .head _
theorem rC.but(T:rC w h)(k:∀b o,h.get? b=some o->o≠⟨.type "list",none,.seq vs n,#[]⟩->h'.get? b=some o):rC w h':=by
 have WM:∀{a m},h.Ns a m->h'.Ns a m:=λq9=>by obtain⟨o,es,ep,ho,hd,r⟩:=q9;exact⟨o,es,ep,k _ _ ho (λq=>by replace hd:=q▸hd;injection hd),hd,r⟩
 obtain⟨h1,⟨mg,h2⟩,⟨mb,h3,h3'⟩,⟨mc,h4,h4'⟩,⟨ob,h5,h5',afw⟩,⟨ps,h6,h6'⟩⟩:=T;refine⟨λa o e=>k _ _ (h1 a o e) λq=>?_,⟨mg,WM h2⟩,⟨mb,WM h3,h3'⟩,⟨mc,WM h4,h4'⟩,⟨ob,k _ _ h5 (λq=>by rw[q]at h5';exact absurd (Value.type.inj h5')<|by decide),h5',afw⟩,⟨ps,k _ _ h6 (λq=>by injection q with q_ p_;injection q_),h6'⟩⟩;have:=aX.mp (VJ w.params) _<|UA e;rw[q]at this;exact absurd this<|show ¬("list" != "list")=true by decide
theorem Th{H:Hp}(h:pN o=some (.ok<|.bool true,H)):∃st,o=some (.ok<|.ret<|.bool true,st)/\st.H=H:=by
 exists o,H,_;rcases o with _|p
 .exact nn h
 .obtain⟨q,st⟩:=p;exists q,st,_;rcases q with f|c
  .induction f with
   |ret v=>cases aA h;exact⟨st,rfl,rfl⟩
   |_=>cases h
  .injection(bQ<|aA h).1
theorem aaL(S)(fu)(H):oG S fu 934 [.ref 0] [] H=pN (rA S fu false (pC 934) (oW 934) ⟨H,[("script",.ref 0)]⟩):=by rfl'
theorem CS(T:rC w h):isCodeTable h 880:=⟨884,_,_,T.K _ _<|Yg w.params,rfl,rfl,rfl⟩
theorem tm{s:Shared}{a:Addr}{vs:List Value}{zs:List Int}{n:Nat}{R:Result->Shared->Prop}(T:rC w s.heap)(hg:s.gens= #[])(ho:s.heap.get? a=some ⟨.type "list",none,.seq vs.toArray n,#[]⟩)(hI:IntsAre vs zs)(xa:a≠1){fu:Nat}{N:Nat}(hN:N<=20)
 (run:∀ob,∃G,oG (oL fu N) fu 934 [.ref 0] [] [.r5 zs ob]=some (.ok<|.bool true,.r5 zs ob::G))
  (hR:∀s',OldK s.heap s'.heap->s'.os=s.os->AllBare s'.gens->R (.ok<|.ret<|.bool true) s'):codeAny (model PG w) callerA (.call (.ref 934) ⟨[.ref a],[]⟩) R s:=by
  exists w,s,a,vs,zs,n,R,fu,N,[T,hg,ho,hI,xa,hN,run,hR];have ha0:a≠0:=by
   rintro rfl
   obtain⟨mb,⟨o,es,ep,e,hd,_⟩,_⟩:=T.bi;simp only[show builtinsNs=0 from rfl,ho]at e;injection e with q_;subst q_;injection hd
  have sJ:∀b o,s.heap.get? b=some o->o≠⟨.type "list",none,.seq vs.toArray n,#[]⟩->(hideAll s.heap [a]).get? b=some o:=λb o e q=>dL _ e (λhm=>by rw[aE]at hm;obtain rfl:=hm.symm;replace e:=ho▸e;injection e with q_;subst q_;exact q rfl)
  have XF:=T.but sJ;obtain⟨hc,bs,hb,hl,xP⟩:=zK (ρ:=[a]) (a:=934) (vs:=[.ref 0]) rfl (.cons ⟨a,rfl,rfl⟩ .nil) .nil;exists fd,(q_:Ih (w:=w) hc);obtain⟨Ym,F,hs⟩:=q_;replace hb:=Ym▸hb;obtain⟨o,qV⟩:=F.obj;have nm:∀y∈fd.scope.names,y.2≠.cell/\y.2≠.free:=by have:=cc;rw[<-hs]at this;simpa[aX]using this
  rw[<-hs]at xP;refine e9 (by decide) (T.K _ _ qV.1) qV.2 F.co F.gen F.body (tU T.K F.code) ?_;refine(cZ (M:=model PG w) T.K<|aA hb).here ?_;refine fF (λy hy=>(nm y hy).1) xP (λh' hn Iw=>?_) F.kind;have keep:∀b o,s.heap.get? b=some o->h'.get? b=some o:=λb o eb=>(Iw.2 b<|bI<|b9 eb).trans<|aZ _ eb;refine⟨T.lim.keeps keep,kM ?_⟩;generalize he:newEnv fd.scope s.heap.objs.size fd.globals fd.closure (fd.qualname++ ".<locals>.") (some 934) fd.code none fd.builtins=env;have hkd:env.scope.kind=.function:=by exact he▸F.kind
  have Ii:∀y:Str,env.cells.lookup y=none:=λy=>by rw[<-he];rw[F.clo];rfl
  have Rw:env.locals=s.heap.objs.size:=by exact he▸rfl
  have Af:935<=env.locals:=by simp[Rw];exact v5 T.K
  let uY:Cx:={w:=w,A:=callerA.deeper env,env:=env,ajU:=hideAll s.heap [a],F:=[builtinsNs]}
  have B:oF (2+4*N) uY:=by
   refine⟨XF,λf hf=>?_,λf hf=>?_,?_,?_,hkd,by show env.globals=_/\env.builtins=_;exact he▸F.gl⟩
   .rw[aE]at hf;subst hf;exact aaW w.params
   .rw[aE]at hf;obtain rfl:=hf.symm;obtain⟨mb,⟨o,es,ep,e,hd,_⟩,_⟩:=XF.bi;exact⟨o,es,ep,e,hd⟩
   .show 1+300+1+(2+4*N)<1000;exact lk<|aC hN<|aC hN<|aC hN hN
   .show 4+3+20*(2+4*N)<9000;lia
  exists Gr,(dg:run ⟨.type "list",none,.seq vs.toArray n,#[]⟩);rw[aaL]at dg;obtain⟨sK,o5⟩:=Th dg;have o8:oD uY [a] ⟨[.r5 zs ⟨.type "list",none,.seq vs.toArray n,#[]⟩],[("script",.ref 0)]⟩ {s with heap:=h',toks:=s.toks+bs.length}:=by
   refine⟨⟨rfl,by simp,λi b ao e1 e2=>?_,λb hb=>?_,⟨λb o e=>⟨o,keep _ _<|dS _ e,.refl _ _⟩,λf hf o e=>?_⟩⟩,⟨⟨_,by rw[show uY.env.locals=s.heap.objs.size from Rw];exact hn,λy hy=>?_⟩,?_,λhm=>?_,(λy a hy=>by rw[show uY.env.cells.lookup y=none from Ii y]at hy;exact nn hy),(λy a hy=>by rw[show uY.env.cells.lookup y=none from Ii y]at hy;exact nn hy),λy hy=>?_,(λy a hy=>by rw[show uY.env.cells.lookup y=none from Ii y]at hy;exact nn hy),Af⟩,by have:1=bs.length:=hl.length;lia⟩
   .induction i with
    |zero=>obtain rfl:=aA e1;injection e2 with q_;subst q_;exact⟨_,keep _ _ ho,rfl,vs.toArray,n,rfl,sf hI⟩
    |succ i=>exact nn e1
   .rw[aE]at hb;obtain rfl:=hb.symm;exact⟨eM _<|.head _,gY (Nat.one_le_iff_ne_zero.mpr ha0)<|dQ xa⟩
   .rw[aE]at hf;subst hf;obtain⟨mb,⟨o',es,ep,e',hd,_⟩,_⟩:=XF.bi;replace e:=e'▸e;obtain rfl:=aA e;exact⟨es,ep,hd⟩
   .exact s6 (tC hl) y
   .rw[show uY.env.locals=s.heap.objs.size from Rw];rcases q:uY.ajU.get? s.heap.objs.size with _|o
    .rfl
    .exact absurd (b9<|dS _ q) (dJ _)
   .rw[aE]at hm;exact bI (b9 ho)<|hm.symm.trans Rw
   .have hk:∀kd,env.kindOf y=some kd->kd≠.cell/\kd≠.free:=λkd q=>by exact nm _ (cF (by simp[<-q,<-he];rfl))
    rcases hy with hy|hy
    .exact absurd rfl (hk _ hy).1
    .exact absurd rfl (hk _ hy).2
  refine bL (yG (SQ So ez N) (oW 934) false uY B (λU=>⟨rfl,.head _,by show env.scope.names.lookup _≠none->env.code=_;exact he▸F.cd,Af,[],lM rfl,by show env.frame=some env.locals;exact he▸rfl,(λq=>by replace q:=hkd▸q;injection q),λe he=>absurd he<|bG⟩) [a] _ ⟨[.r5 zs ⟨.type "list",none,.seq vs.toArray n,#[]⟩],[("script",.ref 0)]⟩ o8 _ sK (by rw[<-o5.1];rw[(he▸hs:env.scope=pC 934)])) (λf pS P=>?_) λU U P=>by induction P;contradiction
  obtain⟨fl,pF,e2,qT,hr,qC,rM⟩:=P;obtain rfl:=r8.ok.inj e2;obtain⟨y,rfl,rfl⟩:=hr;have main:∀b o,s.heap.get? b=some o->pS.heap.get? b=some o\/(b=880/\o.cls=.none/\∃vs more,o.data=.fields vs/\pS.heap.get? b=some {o with data:=.fields (vs++more)}):=λb o e=>by
   by_cases hb:o=⟨.type "list",none,.seq vs.toArray n,#[]⟩/\b=a
   .obtain⟨rfl,rfl⟩:=hb;obtain⟨o',uI,rfl,_⟩:=qC.sim.obj 0 b _ (pT qT rfl) (by rw[o5.2];rfl);exact .inl uI
   .have e':uY.ajU.get? b=some o:=dL _ e λhm=>by rw[aE]at hm;obtain rfl:=hm.symm;replace e:=ho▸e;obtain rfl:=aA e;exact hb ⟨rfl,rfl⟩
    obtain⟨o',q9⟩:=qC.sim.keep.1 b o e';rcases q9.2 with rfl|⟨hm,hm2,_⟩|⟨hc,hb8,_,us,more,⟨hd,_⟩,rfl⟩
    .exact .inl q9.1
    .exact absurd (aE.mp hm) hm2
    .exact .inr ⟨hb8,hc,us,more,hd,q9.1⟩
  obtain⟨lg,q8⟩:=rM.gn;refine hR pS ⟨λb o e=>?_,λb o e=>?_⟩ rM.os λy hy=>?_
  .rcases main b o e with h|⟨rfl,hc,us,more,hd,h⟩
   .exact .inl h
   .exact .inr (.inl ⟨CS T,hc,us,more,hd,h⟩)
  .rcases main b o e with h|⟨rfl,hc,us,more,hd,h⟩
   .exact⟨_,h⟩
   .exact⟨_,h⟩
  .simp only[q8.1,hg]at hy;exact q8.2.1 y<|by simpa using hy
theorem Ag{K:Frag}{h:Heap}{N:Addr}{mg:Str->Option Value}{n:Str}{v:Value}(X:K.In h)(G:h.Ns N mg)(e:nsIn K N n=some (some v)):mg n=some v:=by
 exists K,h,N,mg,n,v,_;obtain⟨o,es,ep,ho,hd,q8⟩:=G;unfold nsIn at e;rcases q:K.lookup N with _|⟨c,d,dt,sl⟩
 .rw[q]at e;exact nn e
 have:=X _ _ q;obtain rfl:=aA<|ho.symm.trans this;obtain rfl:dt=_:=hd;rw[q]at e;dsimp only at e;rcases he:es.toList.find? (·.key.isStr n)with _|u
 .rw[he]at e;rcases hb:es.toList.any (·.refKey)with _|_
  .rw[hb]at e;injection e with e;injection e
  .rw[hb]at e;injection e
 .rw[he]at e;obtain rfl:=aA<|aA e;rw[<-q8.2];dsimp only[nsFind,findBy];exact Array.find?_toList▸he▸rfl
theorem ox(P):nsIn (qE P) mainGlobals "law" =some (some<|.ref 934):=by rfl'
theorem Y0(P):nsIn (qE P) mainGlobals "join" =some (some<|.ref 885):=by rfl'
theorem GI(P):nsIn (qE P) mainGlobals "__builtins__" =some (some<|.ref 4):=by rfl'
theorem AN:((recsOf vw).any λd=>d.name== "join")=true:=by rfl'
def Kl(o:Obj):Option Value:=match o.data with
 |.func fd=>some fd.code
 |.fields vs=>vs[11]?
 |_=>none
theorem VA(P):((qE P).lookup 885).bind Kl=some (.ref 884):=by rfl'
theorem SV(P):((qE P).lookup 884).bind Kl=some (.ref 880):=by rfl'
theorem Xr(K:(KF w).In h)(e:((qE w.params).lookup a).bind Kl=some v)(g:h.get? a=some o):Kl o=some v:=by
 rcases hl:(qE w.params).lookup a with _|o'
 .replace e:=hl▸e;exact nn e
 .rw[hl]at e;replace g:=(K _ _ hl)▸g;obtain rfl:=aA g;exact e
theorem MD(K:(KF w).In h)(T:Top vw l me mg mb h):∃ps,h.get? 880=some {cls:=.none,data:=.fields ps}/\TriplesOk ps.toList:=by
 exists w,mg,mb,l,me,h,_;obtain⟨d,hd,hn⟩:=iW.mp AN;obtain⟨a,o,fd,c,P,e,g,k,q,i,t⟩:=T.tab d hd;simp only[LawfulBEq.eq_of_beq hn,Ag K T.g<|Y0 _]at e;cases e;have h5:=Xr K (VA _) g;simp only[Kl,k]at h5;replace q:=(aA h5)▸q;injection q with q_;subst q_
 obtain⟨⟨o1,vs1,g1,_,k1,z1⟩,z2⟩:=t;have h4:=Xr K (SV _) g1;simp only[Kl,k1]at h4;replace z1:=h4▸z1;cases z1;obtain⟨o2,vs2,_,_,_,_,_,_,_,op,_,_,_,_,_,_,_,g3,q8⟩:=i;exact⟨_,z2,q8.2.1⟩
theorem MF(K:(KF w).In h)(T:Top vw l me mg mb h):rC w h where
 K:=K
 glob:=⟨mg,T.g⟩
 bi:=⟨mb,T.b,T.builtins⟩
 lim:=T.nolimit
 bm:=by
  obtain⟨bm,ob,e,q8⟩:=T.bmain;replace e:=(Ag K T.g<|GI _)▸e;rcases e with _|_
  exact⟨ob,q8.2.1,q8.2.2⟩
 tab:=MD K T
theorem zl{vs:List Value}{zs:List Int}(hL:h.IsList a vs.toArray)(hW:Well P h (.ref a)<|ofPy<|.list<|zs.map PyData.int)(hR:Reads h (.ref a) (.list<|zs.map PyData.int) as)(hl:∀x∈as,(x==sysModules)=false):(∃n,h.get? a=some ⟨.type "list",none,.seq vs.toArray n,#[]⟩)/\a≠1:=by
 exists P,h,a,vs,zs,as,_;exists o,(q_:hL);obtain⟨g,c,n,d⟩:=q_;exists n,_;refine⟨⟨n,?_⟩,?_⟩
 .cases hW with
  |list e _=>rw[e]at g;injection g with q_;subst q_;cases d;exact e
 .rintro rfl
  cases hR with
  |list=>exact Bool.noConfusion<|hl 1<|.head _
theorem adg(hN:N<=20)(run:∀zs:List Int,zs.length<=63->∀ob,∃G,oG (oL fu N) fu 934 [.ref 0] [] [.r5 zs ob]=some (.ok<|.bool true,.r5 zs ob::G)):PySem.Challenge.rw_ny0438_01.Holds:=head (by
 intro w o6 oK mg mb G Y fa o pm cd doc dV kV ho hd cy hD hmg hg args vals as afx afy hrd hwl Af;have TT:=G.T;have afz:=Af;refine Ground.open G ?_;intro T B D TE TW;wrow_args afx afy hrd hwl Af
 all_goals(first|refine enter_call ?_|refine enter_callW ?_)
 rename IntsAre _ _=>hI
 rename Heap.IsList _ _ _=>hL
 rename Well _ _ _ _=>w1
 rename Reads _ _ _ _=>r0
 rename ¬(_<_)=>hlen
 rcases((Ag Y TT.g<|ox _).symm.trans hmg)with _|_;obtain⟨⟨n,ho1⟩,xa⟩:=zl hL w1 r0 λx hx=>afz x<|b6 _ hx;exact tm (MF Y TT) hg ho1 hI xa hN (run _<|by lia) λs' hK XZ VZ=>⟨.inl ⟨.bool true,.bool true,[],rfl,raisesW_false<|by wrow_none_raised,.bool true,by wrow_post,unshared_nil⟩,hK,XZ,VZ⟩)
theorem DH(h:ws∈Jn (sV zs)):ws≠[]/\ws.length<=3/\∀w∈ws,sW.contains (oP w)=true/\(∀c∈w,c∈pM)/\w.length<=2:=by
 exists zs,ws,_;exists k,(q_:cA.mp h);obtain⟨hk,rfl⟩:=q_;have hk:=(Nat.le_div_iff_mul_le<|c6 2).mp<|cJ.mp hk;refine⟨λe=>?_,by unfold Pw;rw[fQ];exact fV _ _,λw hw=>?_⟩
 .have:=fG.mp<|(List.take_eq_nil_iff.mp e).resolve_left nofun;lia
 .have:=gJ<|List.mem_of_mem_take hw;obtain⟨z,_,rfl⟩:=cA.mp this;exact⟨MC z,GT z,(To z).1⟩
theorem uz:(Jn<|sV zs).length<=4:=by delta Jn sV;rw[aF,cG,aF,fQ];exact Nat.div_le_div_right<|i6 (fV 12 _) 2
theorem AP{fu n:Nat}(Dy:5000<fu)(zs)(hz:zs.length<=63)(ob):∃G,oG (oL fu<|n+8) fu 934 [.ref 0] [] [.r5 zs ob]=some (.ok<|.bool true,.r5 zs ob::G):=by
 exists fu,n,zs,ob,[Dy,hz];obtain⟨G,j,RS,e1,W,hj,LE⟩:=VK (H:=[AO.r5 zs ob,.list []]) (i:=0) rfl (lk hz);have g1:([AO.r5 zs ob,.list []]++G)[1]?=some (.list []):=rfl;have g0:([AO.r5 zs ob,.list []]++G)[0]?=some (.r5 zs ob):=rfl;generalize[AO.r5 zs ob,.list []]++G=H0 at*;have hl:RS.length<=4:=by have:=aV List.length LE;rw[aF]at this;exact this▸uz
 obtain⟨oE,e2,d,L⟩:=Do (g:=λq:Nat×List (List Nat)=>V.ref q.1) (s:=Mw fu<|n+7) (I:=λdone st=>∃d,Lw H0.length 1 H0 done.length d st) (rO (oH (st:=⟨[AO.r5 zs ob,.list []],[("script",.ref 0),("told",.ref 1)]⟩)) (tF<|oB (x:= "script") rfl) rfl<|Ke e1 λS=>by rfl')
  ⟨[],rfl,⟨g1,bH _⟩,bH _,λU U U=>rfl,bH _,aI _,aI _,aI _⟩
  (λdone st qq=>by obtain⟨d,L⟩:=qq;exact sF<|(L.same j (qM W.hl) (by have:=hj;exact dQ<|bI hj)).trans W.hl)
  (λdone w rest st hd qq=>by
   obtain⟨d,L⟩:=qq;have hw:w∈RS:=by rw[hd];exact aW _<|.head _
   have q9:=DH<|(λq hq=>by exact LE▸fL hq:∀q∈RS,q.2∈Jn (sV zs)) w hw;have gw:=W.hr w hw;have WV:=aV List.length hd;simp only[aG]at WV;obtain⟨oE,d',e,L'⟩:=kr (lH Dy) L (lk<|aC (aN WV.symm) hl) gw (qM gw) (λe=>by simp only[e,g1]at gw;have:=liI<|aA gw;exact q9.1<|lX.mp this.symm) (ZR q9.1 (λw h=>(q9.2.2 w h).2) q9.2.1) (λw h=>⟨(q9.2.2 w h).1,λc hc=>(J8<|(q9.2.2 w h).2.1 c hc).1,(q9.2.2 w h).2.2⟩) q9.2.1
   exact⟨_,oE,e,.inl rfl,d',by exact aG▸L'⟩)
 obtain⟨HO,q8⟩:=tz L.rls L.sg (by have:=L.sz;lia) Dy L.told;have e4:yk fu (n+7) ⟨[.r5 zs ob],[("script",.ref 0)]⟩=_:=oQ (pE<|vG C3<|by decide)<|oQ e2 q8.1;have h0:=qM g0;have g3:=((q8.2 0<|bJ h0 L.bl).trans<|L.same 0 h0<|by decide).trans g0;simp[aaL,PF,e4];obtain⟨H3,l3⟩:=HO;rcases H3 with _|⟨a,G⟩
 .exact nn g3
 .obtain rfl:a=.r5 zs ob:=aA g3;exact⟨G,rfl⟩
theorem law_holds:PySem.Challenge.rw_ny0438_01.Holds:=adg (fu:=10000) (N:=8) (cR _ _) λzs hz ob=>AP (by simp) zs hz ob
end
end Mine
theorem PySem.Challenge.cw_ny0438_01_holds : PySem.Challenge.rw_ny0438_01.Holds := by
  exact Mine.law_holds
