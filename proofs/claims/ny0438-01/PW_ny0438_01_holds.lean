import PyProof.Rows.All
import Wide.All
import OpenK.AllK
import Wide.FinOn
import Lean
import PySem.Challenge.RW_ny0438_01
set_option Elab.async false
set_option maxRecDepth 100000
set_option maxHeartbeats 0
set_option linter.all false
set_option compiler.extract_closed false
set_option tactic.hygienic false
set_option backward.match.sparseCases false
open PySem PySem.W PyProof.Rows
namespace YO
def aA:=@Option.some.inj
def aB:=@Option.bind_eq_some_iff
def aC:=@Nat.add_le_add
def aD:=@PySem.wpAny_bind
def aE:=@List.mem_singleton
def aF:=@List.length_map
def aG:=@List.length_append
def aH:=@if_pos
def aI:=@Nat.le_refl
def aJ:=@List.append_assoc
def aK:=@List.mem_cons
def aL:=@if_neg
def aM:=@PySem.wpAny_pure
def aN:=@Nat.le_of_eq
def aO:=@List.mem_append
def aP:=@List.getElem?_eq_getElem
def aQ:=@Bool.and_eq_true
def aR:=@List.mem_of_getElem?
def aS:=@List.getElem?_append_right
def aT:=@Nat.le_add_right
def aU:=@List.getElem?_eq_some_iff
def aV:=@congrArg
def aW:=@List.mem_append_right
def aX:=@List.all_eq_true
def aY:=@Nat.sub_add_cancel
def aZ:=@PySem.Heap.get?_push_of_some
def a5:=@beq_iff_eq
def a6:=@Eq.trans
def a7:=@beq_eq_false_iff_ne
def a8:=@List.prefix_refl
def a9:=@Option.map_eq_some_iff
def bA:=@List.length_cons
def bB:=@List.contains_iff_mem
def bC:=@Nat.le_trans
def bD:=@List.getElem?_map
def bE:=@List.map_append
def bF:=@List.append_nil
def bG:=@List.not_mem_nil
def bH:=@List.forall_mem_nil
def bI:=@Nat.ne_of_lt
def bJ:=@Nat.lt_of_lt_of_le
def bL:=@PySem.wpAny_mono
def bM:=@beq_self_eq_true
def bN:=@List.filter_cons_of_neg
def bO:=@List.getElem?_append_left
def bP:=@Nat.lt_of_add_right_lt
def bQ:=@Prod.mk.inj
def bR:=@List.filter_cons_of_pos
def bS:=@Nat.le_of_lt
def bT:=@PySem.Heap.get?_push_size
def bU:=@Array.getElem?_toList
def bV:=@Bool.false_ne_true
def bW:=@Nat.lt_of_le_of_lt
def bX:=@List.map_map
def bY:=@Option.bind_some
def bZ:=@List.getElem?_eq_none_iff
def b0:=@List.cons.inj
def b5:=@Nat.add_sub_cancel_left
def b6:=@List.mem_append_left
def b7:=@decide_eq_true
def b8:=@List.filter_eq_nil_iff
def b9:=@PySem.Heap.lt_size
def cA:=@List.mem_map
def cB:=@PySem.Heap.get?_none_of_le
def cC:=@List.length_eq_zero_iff
def cD:=@Nat.sub_self
def cE:=@List.getElem?_of_mem
def cF:=@PySem.mem_of_lookup
def cG:=@List.length_range
def cH:=@List.nodup_append
def cI:=@List.isEmpty_iff
def cJ:=@List.mem_range
def cK:=@Nat.lt_trans
def cL:=@PySem.wpAny_holding
def cM:=@Nat.le_antisymm
def cN:=@List.mem_cons_self
def cO:=@List.mem_cons_of_mem
def cP:=@List.lookup_cons
def cQ:=@decide_eq_false
def cR:=@Nat.le_add_left
def cS:=@PySem.builtinLookup_eq_fast
def cT:=@PySem.Heap.get?_update_self
def cU:=@List.length_filter_le
def cV:=@Nat.zero_le
def cW:=@List.map_cons
def cX:=@Nat.ne_of_gt
def cY:=@List.reverse_cons
def cZ:=@PySem.W.Looks.of_peek
def c0:=@List.idxOf_lt_length_iff
def c5:=@Nat.lt_of_sub_eq_succ
def c6:=@Nat.succ_pos
def c7:=@List.nodup_cons
def c8:=@Array.getElem?_eq_some_iff
def c9:=@List.getD_eq_getElem?_getD
def dA:=@Bool.not_eq_true'
def dB:=@List.getElem?_set_ne
def dC:=@List.pairwise_iff_getElem
def dD:=@Classical.epsilon_spec
def dF:=@Nat.zero_add
def dG:=@Nat.le_add_right_of_le
def dH:=@PySem.isSubtype_type
def dI:=@PySem.Heap.size_push
def dJ:=@Nat.lt_irrefl
def dK:=@PySem.wpAny_standAt
def dL:=@PySem.W.hideAll_get
def dM:=@Nat.le_succ
def dN:=@List.map_congr_left
def dO:=@List.set_append_right
def dP:=@PySem.codeAny_mono
def dQ:=@Ne.symm
def dR:=@List.filter_append
def dS:=@PySem.W.of_hideAll
def dT:=@List.mem_filter
def dU:=@Nat.le_of_not_lt
def dW:=@PySem.Heap.get?_update_other
def dX:=@Nat.lt_succ_self
def dY:=@Classical.byContradiction
def dZ:=@List.drop_eq_getElem_cons
def d5:=@List.length_reverse
def d6:=@decide_eq_true_eq
def d7:=@PySem.typeLookup_type
def d8:=@Bool.or_eq_true
def d9:=@List.forall_mem_cons
def eB:=@PySem.Around.under_plainId
def eC:=@PySem.Calls.Name_function_global
def eD:=@PySem.wpAny_newObj_type
def eE:=@Nat.le_succ_of_le
def eF:=@Bool.eq_false_iff
def eG:=@Int.fmod_eq_emod_of_nonneg
def eH:=@Nat.lt_of_add_left_lt
def eJ:=@PySem.wpAny_call
def eK:=@Int.natCast_nonneg
def eL:=@List.cons_ne_nil
def eM:=@PySem.W.hideAll_none
def eN:=@PySem.Sem.bind_eq_wrap'
def eO:=@Bool.eq_iff_iff
def eP:=@PySem.codeAny_builtin
def eQ:=@List.length_set
def eS:=@Array.length_toList
def eT:=@List.getElem?_range
def eU:=@List.getElem?_set_self
def eV:=@List.take_of_length_le
def eW:=@PySem.F.plain_max_loop
def eX:=@List.length_drop
def eY:=@Nat.add_right_comm
def eZ:=@Nat.sub_eq_iff_eq_add
def e9:=@PySem.codeAny_call_function
def fA:=@Option.or_eq_some_iff
def fB:=@List.length_singleton
def fC:=@PySem.wpAny_with_toks
def fD:=@PySem.wpAny_loadName_local
def fF:=@PySem.wpAny_newFunctionEnv
def fG:=@List.drop_eq_nil_iff
def fH:=@Option.isSome_iff_exists
def fJ:=@Nat.add_le_add_left
def fK:=@PySem.Heap.SameBut.update
def fL:=@List.mem_map_of_mem
def fM:=@Prod.ext
def fN:=@PySem.entryFor_of_tree
def fO:=@Array.eq_empty_of_size_eq_zero
def fP:=@PySem.seg_execs_cons
def fQ:=@List.length_take
def fR:=@PySem.wpAny_field
def fS:=@Array.append_assoc
def fT:=@PySem.typeIs_str
def fU:=@List.forIn_cons
def fV:=@Nat.min_le_left
def fW:=@List.length_nil
def fX:=@PySem.Sem.wrap_wrap
def fY:=@PySem.Value.ref.inj
def fZ:=@Array.getD_eq_getD_getElem?
def f0:=@of_decide_eq_true
def f9:=@Nat.le_of_succ_le
def gA:=@List.map_inj_left
def gC:=@Nat.lt_succ_of_lt
def gD:=@List.foldl_append
def gE:=@List.pairwise_append
def gF:=@Nat.not_lt
def gG:=@PySem.wpAny_seqItems
def gH:=@List.exists_cons_of_ne_nil
def gJ:=@List.mem_of_mem_drop
def gK:=@List.set_append_left
def gM:=@List.getElem_mem
def gN:=@PySem.wpAny_eqBool_int
def gP:=@PySem.wpAny_call_entry
def gQ:=@Nat.succ_le_succ
def gT:=@Array.getElem?_eq_getElem
def gU:=@List.filterMap_cons
def gV:=@List.flatMap_append
def gW:=@PySem.plainId_quiet
def gX:=@List.Pairwise.imp_of_mem
def gY:=@Nat.lt_of_le_of_ne
def gZ:=@PySem.wpAny_tupleItemsOf
def hV:=@bne_iff_ne
def hZ:=@PySem.strKind_is
def iA:=@PySem.Code.quiet_builtin
def iB:=@PySem.F.slot_dict_values
def iC:=@PySem.call_meets
def iD:=@PySem.Calls.spliced_cons
def iF:=@List.pairwise_singleton
def iG:=@Nat.le_of_lt_succ
def iH:=@Nat.add_comm
def iI:=@PySem.wpAny_setField
def iJ:=@List.drop_eq_nil_of_le
def iK:=@PySem.wpAny_pyNext_list_item
def iL:=@PySem.wpAny_pyIter_list
def iM:=@Int.ofNat_lt
def iN:=@PySem.getMethod_builtin
def iO:=@PySem.Calls.spliced_nil
def iP:=@List.pairwise_map
def iQ:=@PySem.wpAny_isInstance
def iR:=@PySem.wpAny_rule
def iS:=@PySem.wpAny_Name
def iT:=@Bool.not_eq_true
def iU:=@PySem.F.slot_str_ascii_iterator_iter
def iV:=@PySem.F.slot_str_split
def iW:=@List.any_eq_true
def iX:=@Array.all_toList
def iY:=@List.mem_flatMap
def iZ:=@List.all_cons
def i5:=@Bool.and_eq_true_iff
def i6:=@Nat.add_le_add_right
def i7:=@PySem.wpAny_letGo
def i8:=@List.eq_nil_of_length_eq_zero
def i9:=@PySem.SeqAt.eqv_refl
def jA:=@List.find?_cons
def jB:=@PySem.codeAny_of_tree
def jC:=@PySem.wpAny_specialOf
def jD:=@PySem.wpAny_updateSeq
def jE:=@Nat.min_eq_left
def jF:=@PySem.Value.isStrOf_shape
def jG:=@PySem.F.plain_extend_loop
def jH:=@ne_true_of_eq_false
def jI:=@List.filter_eq_self
def jJ:=@List.length_pos_iff
def jK:=@Nat.eq_of_lt_succ_of_not_lt
def jL:=@PySem.W.looks_findIn
def jM:=@List.set_set
def jN:=@Array.perm_iff_toList_perm
def jO:=@List.mem_filterMap
def jP:=@Bool.not_eq_false'
def jQ:=@Array.isEmpty_eq_false_iff
def jR:=@PySem.wpAny_load
def jS:=@PySem.W.looks_nsIn
def jT:=@PySem.F.slot_str_replace
def jU:=@PySem.wpAny_tryCatch
def jV:=@PySem.F.args_str_split_2
def jW:=@PySem.wpAny_fieldsOf
def jX:=@List.drop_zero
def jY:=@Nat.add_sub_cancel
def jZ:=@List.getElem_idxOf
def j0:=@decide_eq_true_iff
def j1:=@List.getElem?_drop
def j2:=@List.mem_of_find?_eq_some
def j3:=@PySem.F.entry_str_split
def j4:=@Nat.add_div_right
def j5:=@List.getElem?_inj
def j6:=@Nat.succ_add_eq_add_succ
def j7:=@PySem.wpAny_newList
def j8:=@Int.ofNat_inj
def j9:=@PySem.seg_wrap
def kA:=@PySem.F.plainAttrs_str
def kB:=@List.cons_append
def kC:=@PySem.Heap.size_update
def kD:=@PySem.F.entry_max_loop
def kF:=@Nat.succ_ne_self
def kG:=@List.getElem?_cons_succ
def kH:=@List.isEmpty_map
def kI:=@Nat.sub_le
def kJ:=@PySem.codeAny_func
def kK:=@PySem.call_meetsIn
def kL:=@Nat.mul_comm
def kM:=@List.range_succ
def kN:=@Nat.not_lt_zero
def kO:=@Array.size_push
def kP:=@Bool.not_false
def kR:=@PySem.W.Looks.ld
def kS:=@PySem.wpAny_of_eq
def kT:=@Int.lt_irrefl
def kU:=@Bool.true_and
def kW:=@List.sum_cons
def kX:=@or_false
noncomputable section
local macro_rules |`(command|def $n:declId $s:optDeclSig $v:declVal)=>`(command|noncomputable def $n:declId $s:optDeclSig $v:declVal)
theorem lk{L R A B:Nat}(h:L<=R)(e:A+R<=B+L:=by simp+arith only):A<=B:=Nat.le_of_add_le_add_right<|bC e<|fJ h B
theorem fo{P:Prop}(h:∀G:Prop,(P->G)->G):P:=h P id
def xpp.{u}{A:Type u}(n:Nonempty A)(P:A->Prop):A:=@Classical.epsilon A n λx=>¬P x
theorem xI.{u}{A:Type u}{n:Nonempty A}{P:A->Prop}(h:P<|xpp n P)(x:A):P x:=dY λq=>dD (p:=λx=>¬P x) ⟨x,q⟩ h
theorem xN.{u}{A B:Type u}(a:Nonempty A)(b:Nonempty B):Nonempty<|A×B:=a.elim λa=>b.elim λb=>⟨(a,b)⟩
def wt1.{u}{A:Type u}(n:Nonempty<|A)(S:A->Prop):A:=@Classical.epsilon _ n λp=>¬S p
theorem we1.{u}{A:Type u}(n:Nonempty<|A){S:A->Prop}(z:S<|wt1 n S)(a:A):S a:=xI (P:=λp=>S p) z<|a
def wu1.{u}{A:Type u}(n:Nonempty<|A)(S:A->Prop):A:=@Classical.epsilon _ n λp=>S p
theorem ws1.{u}{A:Type u}(n:Nonempty<|A){S:A->Prop}(h:∃a,S a):S<|wu1 n S:=@dD _ (λp=>S p)<|h.elim λa z=>⟨a,z⟩
def wt2.{u}{A B:Type u}(n:Nonempty<|A×B)(S:A->B->Prop):A×B:=@Classical.epsilon _ n λp=>¬S p.1 p.2
theorem we2.{u}{A B:Type u}(n:Nonempty<|A×B){S:A->B->Prop}(z:S (wt2 n S).1 (wt2 n S).2)(a:A)(b:B):S a b:=xI (P:=λp=>S p.1 p.2) z (a,b)
def wu2.{u}{A B:Type u}(n:Nonempty<|A×B)(S:A->B->Prop):A×B:=@Classical.epsilon _ n λp=>S p.1 p.2
theorem ws2.{u}{A B:Type u}(n:Nonempty<|A×B){S:A->B->Prop}(h:∃a b,S a b):S (wu2 n S).1 (wu2 n S).2:=@dD _ (λp=>S p.1 p.2)<|h.elim λa z=>z.elim λb z=>⟨(a,b),z⟩
def wt3.{u}{A B C:Type u}(n:Nonempty<|A×B×C)(S:A->B->C->Prop):A×B×C:=@Classical.epsilon _ n λp=>¬S p.1 p.2.1 p.2.2
theorem we3.{u}{A B C:Type u}(n:Nonempty<|A×B×C){S:A->B->C->Prop}(z:S (wt3 n S).1 (wt3 n S).2.1 (wt3 n S).2.2)(a:A)(b:B)(c:C):S a b c:=xI (P:=λp=>S p.1 p.2.1 p.2.2) z (a,b,c)
def wu3.{u}{A B C:Type u}(n:Nonempty<|A×B×C)(S:A->B->C->Prop):A×B×C:=@Classical.epsilon _ n λp=>S p.1 p.2.1 p.2.2
theorem ws3.{u}{A B C:Type u}(n:Nonempty<|A×B×C){S:A->B->C->Prop}(h:∃a b c,S a b c):S (wu3 n S).1 (wu3 n S).2.1 (wu3 n S).2.2:=@dD _ (λp=>S p.1 p.2.1 p.2.2)<|h.elim λa z=>z.elim λb z=>z.elim λc z=>⟨(a,b,c),z⟩
def wt4.{u}{A B C D:Type u}(n:Nonempty<|A×B×C×D)(S:A->B->C->D->Prop):A×B×C×D:=@Classical.epsilon _ n λp=>¬S p.1 p.2.1 p.2.2.1 p.2.2.2
theorem we4.{u}{A B C D:Type u}(n:Nonempty<|A×B×C×D){S:A->B->C->D->Prop}(z:S (wt4 n S).1 (wt4 n S).2.1 (wt4 n S).2.2.1 (wt4 n S).2.2.2)(a:A)(b:B)(c:C)(d:D):S a b c d:=xI (P:=λp=>S p.1 p.2.1 p.2.2.1 p.2.2.2) z (a,b,c,d)
def wu4.{u}{A B C D:Type u}(n:Nonempty<|A×B×C×D)(S:A->B->C->D->Prop):A×B×C×D:=@Classical.epsilon _ n λp=>S p.1 p.2.1 p.2.2.1 p.2.2.2
theorem ws4.{u}{A B C D:Type u}(n:Nonempty<|A×B×C×D){S:A->B->C->D->Prop}(h:∃a b c d,S a b c d):S (wu4 n S).1 (wu4 n S).2.1 (wu4 n S).2.2.1 (wu4 n S).2.2.2:=@dD _ (λp=>S p.1 p.2.1 p.2.2.1 p.2.2.2)<|h.elim λa z=>z.elim λb z=>z.elim λc z=>z.elim λd z=>⟨(a,b,c,d),z⟩
def wt5.{u}{A B C D E:Type u}(n:Nonempty<|A×B×C×D×E)(S:A->B->C->D->E->Prop):A×B×C×D×E:=@Classical.epsilon _ n λp=>¬S p.1 p.2.1 p.2.2.1 p.2.2.2.1 p.2.2.2.2
theorem we5.{u}{A B C D E:Type u}(n:Nonempty<|A×B×C×D×E){S:A->B->C->D->E->Prop}(z:S (wt5 n S).1 (wt5 n S).2.1 (wt5 n S).2.2.1 (wt5 n S).2.2.2.1 (wt5 n S).2.2.2.2)(a:A)(b:B)(c:C)(d:D)(e:E):S a b c d e:=xI (P:=λp=>S p.1 p.2.1 p.2.2.1 p.2.2.2.1 p.2.2.2.2) z (a,b,c,d,e)
def wu5.{u}{A B C D E:Type u}(n:Nonempty<|A×B×C×D×E)(S:A->B->C->D->E->Prop):A×B×C×D×E:=@Classical.epsilon _ n λp=>S p.1 p.2.1 p.2.2.1 p.2.2.2.1 p.2.2.2.2
theorem ws5.{u}{A B C D E:Type u}(n:Nonempty<|A×B×C×D×E){S:A->B->C->D->E->Prop}(h:∃a b c d e,S a b c d e):S (wu5 n S).1 (wu5 n S).2.1 (wu5 n S).2.2.1 (wu5 n S).2.2.2.1 (wu5 n S).2.2.2.2:=@dD _ (λp=>S p.1 p.2.1 p.2.2.1 p.2.2.2.1 p.2.2.2.2)<|h.elim λa z=>z.elim λb z=>z.elim λc z=>z.elim λd z=>z.elim λe z=>⟨(a,b,c,d,e),z⟩
def wt6.{u}{A B C D E F:Type u}(n:Nonempty<|A×B×C×D×E×F)(S:A->B->C->D->E->F->Prop):A×B×C×D×E×F:=@Classical.epsilon _ n λp=>¬S p.1 p.2.1 p.2.2.1 p.2.2.2.1 p.2.2.2.2.1 p.2.2.2.2.2
theorem we6.{u}{A B C D E F:Type u}(n:Nonempty<|A×B×C×D×E×F){S:A->B->C->D->E->F->Prop}(z:S (wt6 n S).1 (wt6 n S).2.1 (wt6 n S).2.2.1 (wt6 n S).2.2.2.1 (wt6 n S).2.2.2.2.1 (wt6 n S).2.2.2.2.2)(a:A)(b:B)(c:C)(d:D)(e:E)(f:F):S a b c d e f:=xI (P:=λp=>S p.1 p.2.1 p.2.2.1 p.2.2.2.1 p.2.2.2.2.1 p.2.2.2.2.2) z (a,b,c,d,e,f)
def wt7.{u}{A B C D E F G:Type u}(n:Nonempty<|A×B×C×D×E×F×G)(S:A->B->C->D->E->F->G->Prop):A×B×C×D×E×F×G:=@Classical.epsilon _ n λp=>¬S p.1 p.2.1 p.2.2.1 p.2.2.2.1 p.2.2.2.2.1 p.2.2.2.2.2.1 p.2.2.2.2.2.2
theorem we7.{u}{A B C D E F G:Type u}(n:Nonempty<|A×B×C×D×E×F×G){S:A->B->C->D->E->F->G->Prop}(z:S (wt7 n S).1 (wt7 n S).2.1 (wt7 n S).2.2.1 (wt7 n S).2.2.2.1 (wt7 n S).2.2.2.2.1 (wt7 n S).2.2.2.2.2.1 (wt7 n S).2.2.2.2.2.2)(a:A)(b:B)(c:C)(d:D)(e:E)(f:F)(g:G):S a b c d e f g:=xI (P:=λp=>S p.1 p.2.1 p.2.2.1 p.2.2.2.1 p.2.2.2.2.1 p.2.2.2.2.2.1 p.2.2.2.2.2.2) z (a,b,c,d,e,f,g)
def wt8.{u}{A B C D E F G H:Type u}(n:Nonempty<|A×B×C×D×E×F×G×H)(S:A->B->C->D->E->F->G->H->Prop):A×B×C×D×E×F×G×H:=@Classical.epsilon _ n λp=>¬S p.1 p.2.1 p.2.2.1 p.2.2.2.1 p.2.2.2.2.1 p.2.2.2.2.2.1 p.2.2.2.2.2.2.1 p.2.2.2.2.2.2.2
theorem we8.{u}{A B C D E F G H:Type u}(n:Nonempty<|A×B×C×D×E×F×G×H){S:A->B->C->D->E->F->G->H->Prop}(z:S (wt8 n S).1 (wt8 n S).2.1 (wt8 n S).2.2.1 (wt8 n S).2.2.2.1 (wt8 n S).2.2.2.2.1 (wt8 n S).2.2.2.2.2.1 (wt8 n S).2.2.2.2.2.2.1 (wt8 n S).2.2.2.2.2.2.2)(a:A)(b:B)(c:C)(d:D)(e:E)(f:F)(g:G)(h:H):S a b c d e f g h:=xI (P:=λp=>S p.1 p.2.1 p.2.2.1 p.2.2.2.1 p.2.2.2.2.1 p.2.2.2.2.2.1 p.2.2.2.2.2.2.1 p.2.2.2.2.2.2.2) z (a,b,c,d,e,f,g,h)
def wt9.{u}{A B C D E F G H I:Type u}(n:Nonempty<|A×B×C×D×E×F×G×H×I)(S:A->B->C->D->E->F->G->H->I->Prop):A×B×C×D×E×F×G×H×I:=@Classical.epsilon _ n λp=>¬S p.1 p.2.1 p.2.2.1 p.2.2.2.1 p.2.2.2.2.1 p.2.2.2.2.2.1 p.2.2.2.2.2.2.1 p.2.2.2.2.2.2.2.1 p.2.2.2.2.2.2.2.2
theorem we9.{u}{A B C D E F G H I:Type u}(n:Nonempty<|A×B×C×D×E×F×G×H×I){S:A->B->C->D->E->F->G->H->I->Prop}(z:S (wt9 n S).1 (wt9 n S).2.1 (wt9 n S).2.2.1 (wt9 n S).2.2.2.1 (wt9 n S).2.2.2.2.1 (wt9 n S).2.2.2.2.2.1 (wt9 n S).2.2.2.2.2.2.1 (wt9 n S).2.2.2.2.2.2.2.1 (wt9 n S).2.2.2.2.2.2.2.2)(a:A)(b:B)(c:C)(d:D)(e:E)(f:F)(g:G)(h:H)(i:I):S a b c d e f g h i:=xI (P:=λp=>S p.1 p.2.1 p.2.2.1 p.2.2.2.1 p.2.2.2.2.1 p.2.2.2.2.2.1 p.2.2.2.2.2.2.1 p.2.2.2.2.2.2.2.1 p.2.2.2.2.2.2.2.2) z (a,b,c,d,e,f,g,h,i)
theorem yI.{u}{A:Type u}[n:Nonempty A]:Nonempty A:=n
theorem yH:Nonempty PySem.Shared:=⟨{}⟩
theorem yP:Nonempty PySem.Params:=⟨{strHash:=λU=>0,shareClass:=λU=>0,mergeTok:=λU=>0,idOf:=λU=>0,idOfShared:=λU U=>0,followText:=λU=>false,idOfImm:=λU=>0}⟩
theorem yW:Nonempty PySem.World:=yP.elim λp=>⟨⟨λU U=>0,p⟩⟩
theorem yA:Nonempty PySem.Around:=⟨{}⟩
open Lean in
set_option hygiene false in
local macro_rules
 | `(tactic| exists $xs,*) => do
  let mut a := xs.getElems
  let l := a.back!
  let mut r ← `(tactic| skip)
  let mut z := "t"
  let mut o := none
  let mut e := r
  unless l.raw.isIdent do
   a := a.pop
   if let `([$ps,*]) := l then
    let ps : Array (TSyntax `ident) := ps.getElems.map fun x => ⟨x.raw⟩
    let d : Array (TSyntax `ident) := a.map fun x => ⟨x.raw⟩
    r ← `(tactic| revert $d*)
    unless ps.isEmpty do
     e ← `(tactic| intro $ps*)
     let q := ps.filter (·.raw.isIdent)
     unless q.isEmpty do r ← `(tactic| (revert $q*; $r))
   else if let `(_) := l then
    let d : Array (TSyntax `ident) := a.map fun x => ⟨x.raw⟩
    r ← `(tactic| revert $d*)
    e ← `(tactic| set_option tactic.hygienic false in intros)
   else if let `(($y : $h)) := l then
    z := "u"
    o ← `(Parser.Tactic.location| at $(⟨y.raw⟩):ident)
    r ← `(tactic| have $(⟨y.raw⟩):ident := $(mkIdent (.mkSimple s!"ws{a.size}")) (by trivial) $h)
  let n := a.size
  if n == 0 then return ← `(tactic| refine fo fun g9 k9 => ?_)
  if n > 9 then
   let b := a[:9].toArray
   let c := a[9:].toArray
   return ← `(tactic| ($r; exists $[$b],*; exists $[$c],*; $e))
  if z == "t" then r ← `(tactic| ($r; refine no_implicit_lambda% ($(mkIdent (.mkSimple s!"we{n}")) (by trivial) ?_)))
  let mut p ← `($(mkIdent (.mkSimple s!"w{z}{n}")) _ _)
  for i in [0:n] do
   let q ← if i+1 < n then `(($p).1) else pure p
   r ← `(tactic| ($r; generalize $q = $(⟨a[i]!.raw⟩) $[$o]?))
   p ← `(($p).2)
  `(tactic| ($r; $e))
set_option hygiene false in
local macro_rules
 | `(tactic| trivial) => `(tactic| first | exact yI | exact yH | exact yP | exact yW | exact yA | exact yT | exact yC | exact ySm | exact yO | exact yFl | exact yBs | exact yAd | exact yEn | exact yGk | exact yLm | exact yLx | (refine xN ?_ ?_ <;> trivial))
local macro_rules |`(tactic|rfl')=>`(tactic|kernel_rfl)
set_option bootstrap.genMatcherCode false
set_option genSizeOf false
set_option genSizeOfSpec false
open PySem PySem.W
noncomputable section
variable{R:Type}
def rJ(n:Nat)(k:Nat->R):R:=Nat.rec (k 0) (λm U=>k<|Nat.succ m) n
theorem nJ(n:Nat)(k:Nat->R):rJ n k=k n:=by cases n<;>rfl
def Ep{α:Type}(f:α->(α->R)->R)(l:List α):(List α->R)->R:=
 List.rec (motive:=λU=>(List α->R)->R) (λk=>k []) (λa U ih k=>f a λa'=>ih λl'=>k (a'::l')) l
theorem tQ{α:Type}{f:α->(α->R)->R}(hf:∀a k,f a k=k a):∀(l:List α)(k:List α->R),Ep f l k=k l:=by
 intro zr;induction zr with
 |nil=> intro _;exact rfl
 |cons a l mB=> intro k;exact(hf a _).trans<|mB _
def Xr{α:Type}(f:α->(α->R)->R)(x:Array α)(k:Array α->R):R:=Array.rec (motive:=λU=>R) (λl=>Ep f l λl'=>k ⟨l'⟩) x
theorem yU{α:Type}{f:α->(α->R)->R}(hf:∀a k,f a k=k a):∀(x:Array α)(k:Array α->R),Xr f x k=k x
 |⟨l⟩,k=>tQ hf l λl'=>k ⟨l'⟩
def Yj{α:Type}(f:α->(α->R)->R)(x:Option α)(k:Option α->R):R:=Option.rec (motive:=λU=>R) (k none) (λa=>f a λa'=>k<|some a') x
theorem yS{α:Type}{f:α->(α->R)->R}(hf:∀a k,f a k=k a):∀(x:Option α)(k:Option α->R),Yj f x k=k x
 |none,_=>rfl
 |some a,k=>hf a λa'=>k<|some a'
def Gi(x:Bool)(k:Bool->R):R:=Bool.rec (motive:=λU=>R) (k false) (k true) x
theorem vU(x:Bool)(k:Bool->R):Gi x k=k x:=by cases x<;>rfl
def Lk(x:Str)(k:Str->R):R:=Str.rec (motive:=λU=>R) (λa=>Xr rJ a λa'=>k ⟨a'⟩) x
theorem tZ:∀(x:Str)(k:Str->R),Lk x k=k x
 |⟨a⟩,k=>yU nJ a λa'=>k ⟨a'⟩
def UT(x:Int)(k:Int->R):R:=Int.rec (motive:=λU=>R) (λn=>rJ n λn'=>k<|.ofNat n') (λn=>rJ n λn'=>k<|.negSucc n') x
theorem uo:∀(x:Int)(k:Int->R),UT x k=k x
 |.ofNat n,k=>nJ n λn=>k<|.ofNat n
 |.negSucc n,k=>nJ n λn=>k<|.negSucc n
def uR(v:Value)(k:Value->R):R:=Value.rec (motive:=λU=>R) (k .none) (k .ellipsis) (k .notImplemented) (λb=>Gi b λb'=>k<|.bool b') (λi t=>UT i λi'=>rJ t λt'=>k<|.int i' t')
 (λb t=>k<|.float b t) (λs t=>Lk s λs'=>rJ t λt'=>k<|.str s' t') (λb t=>k<|.bytes b t) (λn=>k<|.type n) (λn=>k<|.builtin n) (λa=>rJ a λa'=>k<|.ref a') v
theorem nP(v:Value)(k:Value->R):uR v k=k v:=by
 cases v with
 |bool b=>exact vU b λb=>k<|.bool b
 |int i t=>exact(uo i λi=>rJ t λt=>k<|.int i t).trans<|nJ t λt=>k<|.int i t
 |str s t=>exact(tZ s λs=>rJ t λt=>k<|.str s t).trans<|nJ t λt=>k<|.str s t
 |ref a=>exact nJ a λa=>k<|.ref a
 |_=>rfl
def af{α β:Type}(f:α->(α->R)->R)(g:β->(β->R)->R)(x:α×β)(k:α×β->R):R:=Prod.rec (motive:=λU=>R) (λa b=>f a λa=>g b λb=>k (a,b)) x
theorem Mz{α β:Type}{f:α->(α->R)->R}{g:β->(β->R)->R}(hf:∀a k,f a k=k a)(hg:∀a k,g a k=k a)(x:α×β)(k:α×β->R):af f g x k=k x:=(hf _ _).trans<|hg _ _
def VI(e:DictEntry)(k:DictEntry->R):R:=af uR uR (e.key,e.val) λx=>k ⟨e.hash,x.1,x.2⟩
theorem xn(e:DictEntry)(k:DictEntry->R):VI e k=k e:=Mz nP nP _ _
def fFn(e:FuncData)(k:FuncData->R):R:=FuncData.rec (motive:=λU=>R) (λnm qn ps bd sc g cl df kd dc pm an cd ct bi=>
 Lk nm λnm=>Lk qn λqn=>rJ g λg=>Ep (af Lk rJ) cl λcl=>uR df λdf=>uR kd λkd=>uR dc λdc=>uR pm λpm=>Yj rJ an λan=>uR cd λcd=>uR ct λct=>rJ bi λbi=>
 k ⟨nm,qn,ps,bd,sc,g,cl,df,kd,dc,pm,an,cd,ct,bi⟩) e
theorem PF(e:FuncData)(k:FuncData->R):fFn e k=k e:=by cases e;dsimp only[fFn];rw[tZ,tZ,nJ,tQ<|Mz tZ nJ,nP,nP,nP,nP,yS nJ,nP,nP,nJ]
def HD(e:ClassData)(k:ClassData->R):R:=ClassData.rec (motive:=λU=>R) (λnm bs mr ns qn hd sl sb ab co dl=>
 Lk nm λnm=>Ep uR bs λbs=>Ep uR mr λmr=>rJ ns λns=>Lk qn λqn=>Gi hd λhd=>Ep Lk sl λsl=>Ep uR sb λsb=>Gi ab λab=>Yj Gi co λco=>Gi dl λdl=>
 k ⟨nm,bs,mr,ns,qn,hd,sl,sb,ab,co,dl⟩) e
theorem yg(e:ClassData)(k:ClassData->R):HD e k=k e:=by cases e;dsimp only[HD];rw[tZ,tQ nP,tQ nP,nJ,tZ,vU,tQ tZ,tQ nP,vU,yS vU,vU]
def EI(d:Data)(k:Data->R):R:=Data.rec (motive:=λU=>R) (k .plain) (λv=>uR v λv=>k<|.prim v) (λxs n=>Xr uR xs λxs=>rJ n λn=>k<|.seq xs n) (λes n=>Xr VI es λes=>rJ n λn=>k<|.dict es n)
 (λes n t=>k<|.set es n t) (λb n=>k<|.bytearray b n) (λv=>Yj uR v λv=>k<|.cell v) (λf=>fFn f λf=>k<|.func f) (λc=>HD c λc=>k<|.cls c) (λvs=>Xr uR vs λvs=>k<|.fields vs) (k .freed) d
theorem mx(d:Data)(k:Data->R):EI d k=k d:=by
 cases d with
 |prim v=>exact nP v λv=>k<|.prim v
 |seq xs n=>exact(yU nP xs λxs=>rJ n λn=>k<|.seq xs n).trans<|nJ n λn=>k<|.seq xs n
 |dict xs n=>exact(yU xn xs λxs=>rJ n λn=>k<|.dict xs n).trans<|nJ n λn=>k<|.dict xs n
 |cell v=>exact yS nP v λv=>k<|.cell v
 |func f=>exact PF f λf=>k<|.func f
 |cls c=>exact yg c λc=>k<|.cls c
 |fields vs=>exact yU nP vs λvs=>k<|.fields vs
 |_=>rfl
def Yk(o:Obj)(k:Obj->R):R:=Obj.rec (motive:=λU=>R) (λc d dt sl=>uR c λc=>Yj rJ d λd=>EI dt λdt=>Xr (Yj uR) sl λsl=>k ⟨c,d,dt,sl⟩) o
theorem I9(o:Obj)(k:Obj->R):Yk o k=k o:=by cases o;dsimp only[Yk];rw[nP,yS nJ,mx,yU<|yS nP]
def wo(t:BT):Nat->Obj->(BT->R)->R:=BT.rec (motive:=λU=>Nat->Obj->(BT->R)->R) (λU o k=>k<|.node o .nil .nil)
 (λv l r il ir i o k=>Bool.rec (motive:=λU=>R) (Bool.rec (motive:=λU=>R) (ir (i/2-1) o λr'=>k<|.node v l r') (il (i/2) o λl'=>k<|.node v l' r)<|Nat.beq (i%2) 1) (k<|.node o l r)<|Nat.beq i 0) t
theorem bK{α:Type}{A B:R}{c d:α}{k:α->R}{b:Bool}(h:A=k c)(q:B=k d):Bool.rec (motive:=λU=>R) A B b=k (Bool.rec (motive:=λU=>α) c d b):=by cases b;exact h;exact q
theorem Ue(t:BT):∀(i:Nat)(o:Obj)(k:BT->R),wo t i o k=k (t.ins i o):=by
 induction t with
 |nil=>exact λU U U=>rfl
 |node v l r il ir=> exact λi o k=>(bK (b:=Nat.beq i 0) (k:=k) (bK (b:=Nat.beq (i%2) 1) (k:=k) (ir (i/2-1) o λr'=>k<|.node v l r')<|il (i/2) o λl'=>k<|.node v l' r) rfl).trans<|aV k<|by rfl'
def UO(t:BT):Nat->(Obj->Obj)->(BT->R)->R:=BT.rec (motive:=λU=>Nat->(Obj->Obj)->(BT->R)->R) (λU U k=>k .nil)
 (λv l r il ir i f k=>Bool.rec (motive:=λU=>R) (Bool.rec (motive:=λU=>R) (ir (i/2-1) f λr'=>k<|.node v l r') (il (i/2) f λl'=>k<|.node v l' r)<|Nat.beq (i%2) 1) (Yk (f v) λv'=>k<|.node v' l r)<|Nat.beq i 0) t
theorem uz(t:BT):∀(i:Nat)(f:Obj->Obj)(k:BT->R),UO t i f k=k (t.set i f):=by
 induction t with
 |nil=>exact λU U U=>rfl
 |node v l r il ir=> exact λi f k=>(bK (b:=Nat.beq i 0) (k:=k) (bK (b:=Nat.beq (i%2) 1) (k:=k) (ir (i/2-1) f λr'=>k<|.node v l r')<|il (i/2) f λl'=>k<|.node v l' r)<|I9 (f v) λv'=>k<|.node v' l r).trans<|aV k<|by rfl'
def wU(FS:(Code->Sem Fin)->Program->World->Shared->Thread->Step)(den:Code->Sem Fin)(p:Program)(w:World)(s:SharedT)(t:Thread)(K:SharedT->Thread->Option R):Option R:=match s,t with
 |⟨T,n,life,gens,drawn,toks,os⟩,⟨cur,code,pos,stack⟩=>match cur with
  |.load a _ k=>match Nat.blt a n with
   |true=>match T.get a with
    |some o=>match alive o with
     |some o'=>K ⟨T,n,life,gens,drawn,toks,os⟩ ⟨k o',code,pos,stack⟩
     |none=>none
    |none=>none
   |false=>none
  |.update a _ f k=>match Nat.blt a n with
   |true=>match T.get a with
    |some o=>match alive o with
     |some _=>UO T a f λT'=>K ⟨T',n,life,gens,drawn,toks,os⟩ ⟨k (),code,pos,stack⟩
     |none=>none
    |none=>none
   |false=>none
  |.alloc o k=>Yk o λo'=>wo T n o' λT'=>match(T'.get n).isSome with
   |true=>rJ (n+1) λn'=>K ⟨T',n',life,gens,drawn,toks,os⟩ ⟨k n,code,pos,stack⟩
   |false=>none
  |.loadIfAlive a k=>match Nat.blt a n with
   |true=>match T.get a with
    |some o=>K ⟨T,n,life,gens,drawn,toks,os⟩ ⟨k<|alive o,code,pos,stack⟩
    |none=>none
   |false=>K ⟨T,n,life,gens,drawn,toks,os⟩ ⟨k none,code,pos,stack⟩
  |c=>match FS den p w ⟨{},gens,drawn,toks,os⟩ ⟨c,code,pos,stack⟩with
   |.go s' t'=>rJ s'.toks λtk=>K ⟨T,n,life,s'.gens,s'.drawn,tk,s'.os⟩ t'
   |.halt _ _=>none
theorem Mn{den:Code->Sem Fin}{p:Program}{w:World}{s:SharedT}{t:Thread}{K:SharedT->Thread->Option R}:wU step den p w s t K=match stepT den p w s t with|some (s',t')=>K s' t'|none=>none:=by
 obtain⟨T,n,life,gens,drawn,toks,os⟩:=s;obtain⟨cur,code,pos,stack⟩:=t;have rest:∀r:Step,(match r with|.go s' t'=>rJ s'.toks λtk=>K ⟨T,n,life,s'.gens,s'.drawn,tk,s'.os⟩ t'|.halt _ _=>none)=(match(match r with|.go s' t'=>some (⟨T,n,life,s'.gens,s'.drawn,s'.toks,s'.os⟩,t')|.halt _ _=>none)with|some (s',t')=>K s' t'|none=>none):=by
  intro r;induction r with
  |go s' t'=>exact nJ _ _
  |halt=>rfl
 cases cur with
 |load a _ k=>
  dsimp only[wU,stepT];cases Nat.blt a n with
  |false=>rfl
  |true=>cases T.get a with
   |none=>rfl
   |some o=>dsimp only;cases alive o<;>rfl
 |update a _ f k=>
  dsimp only[wU,stepT];cases Nat.blt a n with
  |false=>rfl
  |true=>cases T.get a with
   |none=>rfl
   |some o=>dsimp only;cases alive o with
    |none=>rfl
    |some _=>exact uz _ _ _ _
 |alloc o k=>
  dsimp only[wU,stepT];rw[I9,Ue];cases((T.ins n o).get n).isSome with
  |false=>rfl
  |true=>exact nJ _ _
 |loadIfAlive a k=>
  dsimp only[wU,stepT];cases Nat.blt a n with
  |false=>rfl
  |true=>cases T.get a<;>rfl
 |_=> dsimp only[wU,stepT];generalize step den p w _ _=r;exact rest r
def KJ(FS:(Code->Sem Fin)->Program->World->Shared->Thread->Step)(den:Code->Sem Fin)(ok:Nat->Option Value->Thread->Bool)(thr:Thread->Bool)(p:Program)(w:World)(R5:Nat)(ann:Option Value)(n:Nat):SharedT->Thread->(SharedT->Option R)->Option R:=
 Nat.rec (motive:=λU=>SharedT->Thread->(SharedT->Option R)->Option R) (λU U U=>none)
  (λU ih s t K=>Bool.rec (motive:=λU=>Option R) (Bool.rec (motive:=λU=>Option R) none (wU FS den p w s t λs' t'=>ih s' t' K)<|ok R5 ann t) (K s)<|thr t) n
theorem Wn{tb:String->Option Builtin}{p:Program}{w:World}{R5:Nat}{ann:Option Value}{K:SharedT->Option R}{r:R}:∀(n:Nat)(s:SharedT)(t:Thread),KJ step (denote tb) stepOk through p w R5 ann n s t K=some r->∃s',topRun tb p w R5 ann n s.abs t=some s'.abs/\K s'=some r:=by
 intro zr;induction zr with
 |zero=> intro _ _ h;exact nomatch h
 |succ n mB=>
  intro s t h;replace h:Bool.rec (motive:=λU=>Option R) (Bool.rec (motive:=λU=>Option R) none (wU step (denote tb) p w s t λs' t'=>KJ step (denote tb) stepOk through p w R5 ann n s' t' K)<|stepOk R5 ann t) (K s) (through t)=some r:=h;unfold topRun;cases e:through t with
  |true=>have h:=e▸h;exact⟨s,rfl,h⟩
  |false=>
   rw[e]at h;cases e1:stepOk R5 ann t with
   |false=>rw[e1]at h;exact nomatch h
   |true=>
    rw[e1]at h;dsimp only at h⊢;have h:=Mn▸h;cases e2:stepT (denote tb) p w s t with
    |none=>rw[e2]at h;exact nomatch h
    |some x=>rw[e2]at h;rw[stepT_spec e2];exact mB x.1 x.2 h
def PC(FS:(Code->Sem Fin)->Program->World->Shared->Thread->Step)(den:Code->Sem Fin)(p:Program)(w:World)(n:Nat):SharedT->Thread->(SharedT->Option R)->Option R:=
 Nat.rec (motive:=λU=>SharedT->Thread->(SharedT->Option R)->Option R) (λU U U=>none)
  (λU ih s t K=>match t.atExitBegin with
   |some l=>match l with|[]=>K s|_::_=>none
   |none=>wU FS den p w s t λs' t'=>ih s' t' K) n
theorem Xu{tb:String->Option Builtin}{p:Program}{w:World}{K:SharedT->Option R}{r:R}:∀(n:Nat)(s:SharedT)(t:Thread),PC step (denote tb) p w n s t K=some r->∃s',importEnds tb p w n s.abs t=some s'.abs/\K s'=some r:=by
 intro zr;induction zr with
 |zero=> intro _ _ h;exact nomatch h
 |succ n mB=>
  intro s t h;replace h:(match t.atExitBegin with
   |some l=>match l with|[]=>K s|_::_=>none
   |none=>wU step (denote tb) p w s t λs' t'=>PC step (denote tb) p w n s' t' K)=some r:=h
  unfold importEnds;cases e:t.atExitBegin with
  |some l=>cases l with
   |nil=>rw[e]at h;exact⟨s,rfl,h⟩
   |cons=>rw[e]at h;exact nomatch h
  |none=>
   rw[e]at h;dsimp only at h⊢;rw[Mn]at h;cases e2:stepT (denote tb) p w s t with
   |none=>rw[e2]at h;exact nomatch h
   |some x=>rw[e2]at h;rw[stepT_spec e2];exact mB x.1 x.2 h
def jt(l:List Obj):Nat->BT->(BT->Option R)->Option R:=List.rec (motive:=λU=>Nat->BT->(BT->Option R)->Option R) (λU t k=>k t)
 (λo U ih i t k=>Yk o λo=>wo t i o λt=>Bool.rec (motive:=λU=>Option R) none (rJ (i+1) λi=>ih i t k) (t.get i).isSome) l
theorem O8{k:BT->Option R}{r:R}{life:Life}:∀(l:List Obj)(i:Nat)(t:BT),jt l i t k=some r->∃T,absHeap T (i+l.length) life=⟨(absHeap t i life).objs++l.toArray,life⟩/\k T=some r:=by
 intro zr;induction zr with
 |nil=> intro i t h;exact⟨t,by rw[Array.append_empty];rfl,h⟩
 |cons o l mB=>
  intro i t h;replace h:Yk o (λo=>wo t i o λt=>Bool.rec (motive:=λU=>Option R) none (rJ (i+1) λi=>jt l i t k) (t.get i).isSome)=some r:=h;rw[I9,Ue]at h;cases e:((t.ins i o).get i).isSome with
  |false=>rw[e]at h;exact nomatch h
  |true=> rw[e]at h;dsimp only at h;rw[nJ]at h;obtain⟨T,a,b⟩:=mB (i+1) _ h;refine⟨T,?_,b⟩;rw[absHeap_ins e]at a;rw[bA,show i+(l.length+1)=i+1+l.length by omega,a];show Heap.mk ((absHeap t i life).objs.push o++l.toArray) life=_;rw[<-Array.append_singleton,fS];simp
def F5(T:BT)(i:Nat):List Obj->(List Obj->Option R)->Option R:=
 Nat.rec (motive:=λU=>List Obj->(List Obj->Option R)->Option R) (λacc K=>K acc) (λi ih acc K=>Option.rec (motive:=λU=>Option R) (ih (default::acc) K) (λo=>ih (o::acc) K)<|T.get i) i
theorem Cz(T:BT)(K:List Obj->Option R):∀(i:Nat)(acc:List Obj),F5 T i acc K=K (T.list i++acc):=by
 intro zr;induction zr with
 |zero=> intro _;exact rfl
 |succ i mB=>
  intro acc;have e:T.list (i+1)=T.list i++[(T.get i).getD default]:=by unfold BT.list;rw[kM,bE];rfl
  rw[e,aJ];show Option.rec (motive:=λU=>Option R) (F5 T i (default::acc) K) (λo=>F5 T i (o::acc) K) (T.get i)=_;cases T.get i<;>exact mB _
def Ry(FS:(Code->Sem Fin)->Program->World->Shared->Thread->Step)(den:Code->Sem Fin)(ok:Nat->Option Value->Thread->Bool)(fen:Program->Shared->Option Shared)(N:Nat)(p:Program)(w:World)(obs:Shared->Shared->R):Option R:=
 PC FS den (opening p) w N ⟨.nil,0,{},#[],{},(start<|opening p).1.toks,(start<|opening p).1.os⟩ (start<|opening p).2 λs=>F5 s.tree s.n [] λl=>
  match fen p ⟨⟨⟨l⟩,s.life⟩,s.gens,s.drawn,s.toks,s.os⟩with
  |none=>none
  |some lX=>jt lX.heap.objs.toList 0 .nil λT=>rJ lX.heap.objs.size λm=>F5 T m [] λacE=>
   KJ FS den ok through p w m (lX.heap.nsMap mainGlobals "__annotations__") N ⟨T,m,lX.heap.life,lX.gens,lX.drawn,lX.toks,lX.os⟩ (topStub p) λlD=>
   F5 lD.tree lD.n [] λl=>some<|obs ⟨⟨⟨acE⟩,lX.heap.life⟩,lX.gens,lX.drawn,lX.toks,lX.os⟩ ⟨⟨⟨l⟩,lD.life⟩,lD.gens,lD.drawn,lD.toks,lD.os⟩
theorem V7(p:Program):SharedT.abs ⟨.nil,0,{},#[],{},(start p).1.toks,(start p).1.os⟩=(start p).1:=by unfold SharedT.abs absHeap BT.list start;simp
theorem Nw{N:Nat}{p:Program}{w:World}{obs:Shared->Shared->R}{r:R}(h:Ry step (denote treeTable) stepOk fenceModules? N p w obs=some r):
 ∃lX lD,fencedOpening treeTable p w N=some lX/\topRun treeTable p w lX.heap.objs.size (lX.heap.nsMap mainGlobals "__annotations__") N lX (topStub p)=some lD/\obs lX lD=r:=by
 obtain⟨s,a,h⟩:=Xu _ _ _ h;rw[Cz,bF]at h;have ha:(⟨⟨⟨s.tree.list s.n⟩,s.life⟩,s.gens,s.drawn,s.toks,s.os⟩:Shared)=s.abs:=rfl;rw[ha]at h;cases e:fenceModules? p s.abs with
 |none=>rw[e]at h;exact nomatch h
 |some lX=>
  rw[e]at h;obtain⟨T,b,h⟩:=O8 (life:=lX.heap.life) _ _ _ h;rw[nJ,Cz,bF]at h;obtain⟨lD,c,h⟩:=Wn _ _ _ h;rw[Cz,bF]at h;have b':absHeap T lX.heap.objs.size lX.heap.life=lX.heap:=by rw[dF]at b;refine a6 (b.trans ?_) rfl;show Heap.mk (#[]++lX.heap.objs.toList.toArray) _=_;rw[Array.empty_append]
  have hb:SharedT.abs ⟨T,lX.heap.objs.size,lX.heap.life,lX.gens,lX.drawn,lX.toks,lX.os⟩=lX:=by show Shared.mk (absHeap T lX.heap.objs.size lX.heap.life) _ _ _ _=_;rw[b']
  rw[hb]at c;refine⟨lX,lD.abs,?_,c,?_⟩
  .unfold fencedOpening;have a':importEnds treeTable (opening p) w N (start<|opening p).1 (start<|opening p).2=some s.abs:=by rw[<-V7 (opening p)];exact a
   rw[a'];exact e
  .refine a6 ?_ (aA h);have:(⟨⟨⟨T.list lX.heap.objs.size⟩,lX.heap.life⟩,lX.gens,lX.drawn,lX.toks,lX.os⟩:Shared)=lX:=hb;rw[this];rfl
theorem CE{N:Nat}{p q:Program}{loose:List Str}{Xt:Shared->Bool}{α:Type}{Yf:Shared->α}{Ya:World->α}{g0:Bool}
 (h:∀w,Ry step (denote treeTable) stepOk fenceModules? N p w (λlX lD=>(lX.heap.isNs mainGlobals&&lX.gens.size==0&&(staticsOk (importedModules p.main.body) lX.heap lD.heap&&namesBound p lD.heap&&gensDone lD&&laidKept lX.heap lD.heap),
  openSeen q loose (importedModules p.main.body) Xt g0 lD,Yf lD))=some (true,openGood q loose,Ya w)):LeftO p q loose Xt Yf Ya N g0:=λw=>by
 obtain⟨lX,lD,a,b,c⟩:=Nw<|h w;obtain⟨c1,c2⟩:=bQ c;obtain⟨c3,c4⟩:=i5.mp c1;unfold openEnds;rw[a];show(topFrom treeTable p w N lX).map _=_;unfold topFrom;rw[c3,b];show(match staticsOk (importedModules p.main.body) lX.heap lD.heap&&namesBound p lD.heap&&gensDone lD&&laidKept lX.heap lD.heap with|true=>some lD|false=>none).map _=_;rw[c4];exact aV some c2
end
abbrev PG:Program:=PySem.Challenge.pw_ny0438_01
def wN(i:Nat):Stmt:=(PG.main.body[i]?).getD<|.Pass ⟨0,0,0,0⟩
def fnB:Stmt->List Stmt
 |.FunctionDef _ _ b ..=>b
 |_=>[]
def fnS:Stmt->Scope
 |.FunctionDef _ _ _ _ _ _ s ..=>s
 |_=>⟨.module,[],false,false,[]⟩
def fnP:Stmt->Arguments
 |.FunctionDef _ a ..=>a
 |_=>⟨[],[],none,[],[],none,[]⟩
def clB:Stmt->List Stmt
 |.ClassDef _ _ _ b ..=>b
 |_=>[]
def m1(i j:Nat):Stmt:=((clB<|wN i)[j]?).getD<|.Pass ⟨0,0,0,0⟩
def S(x:String)(t:Nat):Value:=.str (Str.ofString x) t
def D(P:Params)(l:List<|String×Nat×Value)(n:Nat):Data:=.dict (l.map λe=>⟨PyData.keyHash P<|Str.ofString e.1,.str (Str.ofString e.1) e.2.1,e.2.2⟩).toArray n
def F(st:Stmt)(nm qn:String)(g:Nat)(cl:List<|String×Nat)(df kd dc pm:Value)(an:Option Nat)(cd ct:Value)(bi:Nat):Data:=
 .func ⟨Str.ofString nm,Str.ofString qn,fnP st,.stmts<|fnB st,fnS st,g,cl.map λe=>(Str.ofString e.1,e.2),df,kd,dc,pm,an,cd,ct,bi⟩
def asK:List Addr:=[2,3,43,44,50,51,57,58,72,73,76,77,78,79,80,91,92,93,103,109,110,116,117,123,124,128,129,135,136,142,143,156,157,163,164,173,174,175,176,182,183,196,197,223,224,226,227,228,229,230,253,254,293,484,494,500,501,507,508,514,515,537,545,553,561,569,670,676,677,730,731,783,789,790,796,797,798,826,827,833,834,855,856,862,863,865,866,867,868,871,877,878,884,885,886,892,893,897,898,902,903,909,910,914,915,921,922,926,927,933,934]
def cf(st:Stmt)(nm qn:String)(a t l n k f e:Nat)(b:Bool)(df md:Value):Frag:=
 let q i:Value:=cond b (.ref i) .none
 [(a,⟨.type "code",none,.fields [S nm t,S qn<|t+1,S "/claim/cut.py"<|t+2,.int l 0,.int n 0,.int k 0,.int 0 0,.int f 0,.ref<|cond b (a-5)<|a-3,.bool true,.int 318 0,.ref<|cond b (a-4)<|a-2,.none,q<|a-3,q<|a-2,.ref<|a-1,.int e 0,.int l 0,S "/claim/cut.py"<|e+1].toArray,#[]⟩),
  (a+1,⟨.type "function",none,F st nm qn 3 [] df .none .none md none (.ref a) .none 0,#[]⟩)]
def m5(P:Params):Frag:=List.flatten [
 [(2,⟨.none,none,D P [("impor\x74.loaded._sre",183,.bool true),("class._frozen_impor\x74lib.BuiltinImporter",185,.ref 14),("watched.impor\x74",206,.ref 18),("class._frozen_impor\x74lib.ModuleSpec",216,.ref 22),("sys.modules.booked-epoch",245,.int 4 0),("impor\x74.later-laid._sre",270,.bool true),("watched.library",272,.ref 27),("watched.library-objects",0,S "\x0c\x1e" 0),("watched.library-deep._sre",273,S "\x04\x00\x00\x0b\x04\x00\x00\x0b\x04\x00\x00\x03\x04\x00\x00\x0b\x08\x04dict\x02" 0),("impor\x74.loaded._collections",280,.bool true),("sys.modules.landed._collections",294,.bool true),("impor\x74.later-laid._collections",309,.bool true),("watched.library-deep._collections",311,S "\x04\x00\x00\x1d\x04\x00\x00\x1d\x04\x00\x00\x03\x04\x00\x00\x1d\x08\x04dict\x02" 0),("type.__subclasses__.OSError.0",613,.int 207 0),("type.__subclasses__.OSError.n",614,.int 1 0)] 15,#[]⟩),
  (3,⟨.type "dict",none,D P [("__name__",165,S "law_ny0438_01" 1461),("__doc__",166,.none),("__package__",167,.none),("__loader__",168,.builtin "__main__.__loader__#opaque"),("__spec__",169,.none),("__annotations__",170,.ref 6),("__builtins__",171,.ref 4),("__file__",173,S "/claim/cut.py" 172),("__cached__",174,.none),("_sre",275,.ref 12),("deque",317,.type "collections.deque"),("_wall",330,.ref 44),("_iter_escaped_chars",342,.ref 51),("_strip_quoted_realnames",354,.ref 58),("_NODE_OUT",359,.int (-(0)-1) 358),("_NODE_DONE",362,.int (-(1)-1) 361),("_NodeInfo",399,.ref 77),("CycleError",417,.ref 92),("TopologicalSorter",536,.ref 174),("_twin_re_1",576,.ref 183),("_whence",586,.ref 190),("_index",594,.ref 197),("UnsupportedOperation",616,.ref 207),("IOBase",648,.ref 227),("BufferedIOBase",666,.ref 242),("TextIOBase",684,.ref 254),("BytesIO",946,.ref 484),("StringIO",1233,.ref 731),("_kind",1244,.ref 740),("_fspath",1253,.ref 747),("_check_arg_types",1263,.ref 754),("isabs",1270,.ref 761),("join",1281,.ref 885),("join_path",1282,.ref 768),("dirname",1292,.ref 775),("shlex",1433,.ref 866),("split",1443,.ref 878),("join_shlex",1451,.ref 885),("_find_unsafe",1453,.ref 886),("quote",1460,.ref 893),("_law_rows",1468,.ref 898),("_law_line",1474,.ref 903),("_law_shorn",1482,.ref 910),("_law_words",1488,.ref 915),("_law_read",1495,.ref 922),("_law_rounds",1501,.ref 927),("law",1520,.ref 934)] 47,#[]⟩)],
 cf (wN 2) "_wall" "_wall" 43 324 3 1 0 3 328 true .none (S "__main__" 164),
 cf (wN 4) "_iter_escaped_chars" "_iter_escaped_chars" 50 333 7 1 0 35 340 true .none (S "cpy313.email.utils" 331),
 cf (wN 5) "_strip_quoted_realnames" "_strip_quoted_realnames" 57 343 20 1 0 3 352 true .none (S "cpy313.email.utils" 331),
 cf (m1 9 1) "__init__" "_NodeInfo.__init__" 72 379 44 2 0 3 384 true .none (S "cpy313.graphlib" 355),
 [(76,⟨.type "dict",none,D P [("__module__",370,S "cpy313.graphlib" 355),("__firstlineno__",374,.int 41 373),("__slots__",378,.ref 66),("__init__",386,.ref 73),("__static_attributes__",390,.ref 74),("node",392,.ref 78),("npredecessors",394,.ref 79),("successors",396,.ref 80),("__doc__",397,.none)] 5,#[]⟩),
  (77,⟨.type "type",none,.cls ⟨"_NodeInfo",[.type "object"],[.ref 77,.type "object"],76,"_NodeInfo",false,["node","npredecessors","successors"],[],false,none,false⟩,[none,none,some<|S "_NodeInfo" 363,some<|S "_NodeInfo" 371,some<|.builtin "object.__new__",some<|.bool false].toArray⟩),
   (78,⟨.type "member_descriptor",none,.fields [S "node" 391,.ref 77,.builtin "proto.slot",.builtin "proto.slot#set",.int 2 0].toArray,#[]⟩),
   (79,⟨.type "member_descriptor",none,.fields [S "npredecessors" 393,.ref 77,.builtin "proto.slot",.builtin "proto.slot#set",.int 1 0].toArray,#[]⟩),
   (80,⟨.type "member_descriptor",none,.fields [S "successors" 395,.ref 77,.builtin "proto.slot",.builtin "proto.slot#set",.int 0 0].toArray,#[]⟩),
   (91,⟨.type "dict",none,D P [("__module__",407,S "cpy313.graphlib" 355),("__firstlineno__",411,.int 48 410),("__static_attributes__",412,.ref 90),("__weakref__",414,.ref 93),("__doc__",415,.none)] 3,#[]⟩),
   (92,⟨.type "type",none,.cls ⟨"CycleError",[.type "ValueError"],[.ref 92,.type "ValueError",.type "Exception",.type "BaseException",.type "object"],91,"CycleError",true,[],[],false,none,false⟩,[some<|.ref 83,none,some<|S "CycleError" 400,some<|S "CycleError" 408,some<|.builtin "ValueError.__new__",some<|.bool true].toArray⟩),
   (93,⟨.type "getset_descriptor",none,.fields [S "__weakref__" 413,.ref 92,.builtin "ExceptionGroup.__weakref__",.none].toArray,#[]⟩),
   (103,⟨.type "tuple",none,.seq [.none].toArray 0,#[]⟩)],
 cf (m1 11 0) "__init__" "TopologicalSorter.__init__" 109 430 52 2 0 3 437 true (.ref 103) (S "cpy313.graphlib" 355),
 cf (m1 11 1) "_get_nodeinfo" "TopologicalSorter._get_nodeinfo" 116 440 61 2 0 3 446 true .none (S "cpy313.graphlib" 355),
 cf (m1 11 2) "add" "TopologicalSorter.add" 123 449 66 2 0 7 458 true .none (S "cpy313.graphlib" 355),
 cf (m1 11 3) "prepare" "TopologicalSorter.prepare" 128 461 75 1 0 3 464 false .none (S "cpy313.graphlib" 355),
 cf (m1 11 4) "get_ready" "TopologicalSorter.get_ready" 135 467 83 1 0 3 474 true .none (S "cpy313.graphlib" 355),
 cf (m1 11 5) "is_active" "TopologicalSorter.is_active" 142 477 94 1 0 3 481 true .none (S "cpy313.graphlib" 355),
 cf (m1 11 7) "done" "TopologicalSorter.done" 156 491 102 1 0 7 502 true .none (S "cpy313.graphlib" 355),
 cf (m1 11 8) "_find_cycle" "TopologicalSorter._find_cycle" 163 505 125 1 0 3 515 true .none (S "cpy313.graphlib" 355),
 [(173,⟨.type "dict",none,D P [("__module__",425,S "cpy313.graphlib" 355),("__firstlineno__",429,.int 50 428),("__init__",439,.ref 110),("_get_nodeinfo",448,.ref 117),("add",460,.ref 124),("prepare",466,.ref 129),("get_ready",476,.ref 136),("is_active",483,.ref 143),("__bool__",490,.ref 150),("done",504,.ref 157),("_find_cycle",517,.ref 164),("static_order",524,.ref 171),("__static_attributes__",529,.ref 172),("__dict__",531,.ref 175),("__weakref__",533,.ref 176),("__doc__",534,.none)] 4,#[]⟩),
  (174,⟨.type "type",none,.cls ⟨"TopologicalSorter",[.type "object"],[.ref 174,.type "object"],173,"TopologicalSorter",true,[],[],false,none,false⟩,[none,none,some<|S "TopologicalSorter" 418,some<|S "TopologicalSorter" 426,some<|.builtin "object.__new__",some<|.bool true].toArray⟩),
   (175,⟨.type "getset_descriptor",none,.fields [S "__dict__" 530,.ref 174,.builtin "function.__dict__",.builtin "function.__dict__#set"].toArray,#[]⟩),
   (176,⟨.type "getset_descriptor",none,.fields [S "__weakref__" 532,.ref 174,.builtin "ExceptionGroup.__weakref__",.none].toArray,#[]⟩),
   (182,⟨.type "tuple",none,.seq [.int 14 0,.int 17 0,.int 4 0,.int 1 0,.int 1 0,.int 21 0,.int 9 0,.int 0 0,.int 604043296 0,.int 1 0,.int 0 0,.int 0 0,.int 0 0,.int 0 0,.int 0 0,.int 8 0,.int 4 0,.int 0 0,.int 13 0,.int 14 0,.int 21 0,.int 9 0,.int 0 0,.int 604043296 0,.int 1 0,.int 0 0,.int 0 0,.int 0 0,.int 0 0,.int 0 0,.int 8 0,.int 4 0,.int 0 0,.int 1 0].toArray 0,#[]⟩),
   (183,⟨.type "re.Pattern",none,.fields [S "[^\\w@%+=:,./-]" 538,.int 256 575,.int 0 0,.none,.none,.ref 182,.int 0 0].toArray,#[]⟩)],
 cf (wN 15) "_index" "_index" 196 587 163 2 0 3 592 true .none (S "io" 577),
 cf (m1 17 1) "__new__" "IOBase.__new__" 223 631 175 1 1 15 637 true .none (S "io" 577),
 [(226,⟨.type "dict",none,D P [("__module__",624,S "io" 629),("__firstlineno__",628,.int 172 627),("__new__",639,.ref 228),("__static_attributes__",640,.ref 225),("__dict__",643,.ref 229),("__weakref__",645,.ref 230),("__doc__",646,.none)] 4,#[]⟩),
  (227,⟨.type "type",none,.cls ⟨"IOBase",[.type "object"],[.ref 227,.type "object"],226,"IOBase",true,[],[.ref 242,.ref 254],false,none,false⟩,[none,none,some<|S "IOBase" 617,some<|S "IOBase" 625,some .none,some<|.bool true].toArray⟩),
   (228,⟨.type "staticmethod",none,.fields [.ref 224].toArray,#[]⟩),
   (229,⟨.type "getset_descriptor",none,.fields [S "__dict__" 642,.ref 227,.builtin "function.__dict__",.builtin "function.__dict__#set"].toArray,#[]⟩),
   (230,⟨.type "getset_descriptor",none,.fields [S "__weakref__" 644,.ref 227,.builtin "ExceptionGroup.__weakref__",.none].toArray,#[]⟩),
   (253,⟨.type "dict",none,D P [("__module__",674,S "io" 679),("__firstlineno__",678,.int 181 677),("__static_attributes__",681,.ref 252),("__doc__",682,.none)] 2,#[]⟩),
   (254,⟨.type "type",none,.cls ⟨"TextIOBase",[.ref 227],[.ref 254,.ref 227,.type "object"],253,"TextIOBase",true,[],[.ref 731],false,none,false⟩,[some<|.ref 245,none,some<|S "TextIOBase" 667,some<|S "TextIOBase" 675,some .none,some<|.bool true].toArray⟩),
   (293,⟨.type "property",none,.fields [.ref 292,.none,.none,.none,S "closed" 732,.bool false].toArray,#[]⟩),
   (484,⟨.type "type",none,.cls ⟨"BytesIO",[.ref 242],[.ref 484,.ref 242,.ref 227,.type "object"],483,"BytesIO",true,[],[],false,none,false⟩,[some<|.ref 257,none,some<|S "BytesIO" 685,some<|S "BytesIO" 693,some .none,some<|.bool true].toArray⟩),
   (494,⟨.type "tuple",none,.seq [S "" 961,S "\n" 962].toArray 0,#[]⟩)],
 cf (m1 21 1) "__init__" "StringIO.__init__" 500 963 356 3 0 3 969 true (.ref 494) (S "io" 577),
 cf (m1 21 2) "__translated" "StringIO.__translated" 507 972 369 2 0 3 978 true .none (S "io" 577),
 cf (m1 21 3) "__check" "StringIO.__check" 514 981 377 1 0 3 985 true .none (S "io" 577),
 [(537,⟨.type "property",none,.fields [.ref 536,.none,.none,.none,S "closed" 1017,.bool false].toArray,#[]⟩),
  (545,⟨.type "property",none,.fields [.ref 544,.none,.none,.none,S "line_buffering" 1025,.bool false].toArray,#[]⟩),
   (553,⟨.type "property",none,.fields [.ref 552,.none,.none,.none,S "newlines" 1033,.bool false].toArray,#[]⟩),
   (561,⟨.type "property",none,.fields [.ref 560,.none,.none,.none,S "encoding" 1041,.bool false].toArray,#[]⟩),
   (569,⟨.type "property",none,.fields [.ref 568,.none,.none,.none,S "errors" 1049,.bool false].toArray,#[]⟩),
   (670,⟨.type "tuple",none,.seq [.int (-(0)-1) 1154].toArray 0,#[]⟩)],
 cf (m1 21 25) "read" "StringIO.read" 676 1155 499 2 2 3 1162 true (.ref 670) (S "io" 577),
 [(730,⟨.type "dict",none,D P [("__module__",954,S "_io" 959),("__firstlineno__",958,.int 353 957),("__init__",971,.ref 501),("_StringIO__translated",980,.ref 508),("_StringIO__check",987,.ref 515),("_StringIO__check_dot",994,.ref 522),("_StringIO__line",1009,.ref 529),("closed",1017,.ref 537),("line_buffering",1025,.ref 545),("newlines",1033,.ref 553),("encoding",1041,.ref 561),("errors",1049,.ref 569),("close",1056,.ref 576),("__enter__",1063,.ref 583),("__exit__",1071,.ref 590),("readable",1078,.ref 597),("writable",1085,.ref 604),("seekable",1092,.ref 611),("isatty",1099,.ref 618),("flush",1106,.ref 625),("fileno",1113,.ref 632),("detach",1120,.ref 639),("getvalue",1127,.ref 646),("tell",1134,.ref 653),("seek",1144,.ref 661),("truncate",1152,.ref 669),("read",1164,.ref 677),("readline",1174,.ref 685),("readlines",1184,.ref 693),("__iter__",1191,.ref 700),("__next__",1199,.ref 707),("write",1211,.ref 714),("writelines",1219,.ref 721),("__repr__",1226,.ref 728),("__static_attributes__",1230,.ref 729),("__doc__",1231,.none)] 2,#[]⟩),
  (731,⟨.type "type",none,.cls ⟨"StringIO",[.ref 254],[.ref 731,.ref 254,.ref 227,.type "object"],730,"StringIO",true,[],[],false,none,false⟩,[some<|.ref 487,none,some<|S "StringIO" 947,some<|S "StringIO" 955,some .none,some<|.bool true].toArray⟩),
   (783,⟨.type "tuple",none,.seq [.none,.none,.bool false,.bool false].toArray 0,#[]⟩)],
 cf (m1 31 0) "__init__" "shlex.__init__" 789 1307 625 5 0 3 1316 true (.ref 783) (S "cpy313.shlex" 1293),
 cf (m1 31 1) "punctuation_chars" "shlex.punctuation_chars" 796 1319 666 1 0 3 1323 true .none (S "cpy313.shlex" 1293),
 [(798,⟨.type "property",none,.fields [.ref 797,.none,.none,.none,S "punctuation_chars" 1326,.bool false].toArray,#[]⟩)],
 cf (m1 31 5) "get_token" "shlex.get_token" 826 1351 693 1 0 3 1360 true .none (S "cpy313.shlex" 1293),
 cf (m1 31 6) "read_token" "shlex.read_token" 833 1363 720 1 0 3 1371 true .none (S "cpy313.shlex" 1293),
 cf (m1 31 9) "__iter__" "shlex.__iter__" 855 1391 867 1 0 3 1395 true .none (S "cpy313.shlex" 1293),
 cf (m1 31 10) "__next__" "shlex.__next__" 862 1398 870 1 0 3 1403 true .none (S "cpy313.shlex" 1293),
 [(865,⟨.type "dict",none,D P [("__module__",1302,S "cpy313.shlex" 1293),("__firstlineno__",1306,.int 623 1305),("__init__",1318,.ref 790),("punctuation_chars",1326,.ref 798),("push_token",1334,.ref 805),("push_source",1343,.ref 813),("pop_source",1350,.ref 820),("get_token",1362,.ref 827),("read_token",1373,.ref 834),("sourcehook",1381,.ref 841),("error_leader",1390,.ref 849),("__iter__",1397,.ref 856),("__next__",1405,.ref 863),("__static_attributes__",1426,.ref 864),("__dict__",1428,.ref 867),("__weakref__",1430,.ref 868),("__doc__",1431,.none)] 4,#[]⟩),
  (866,⟨.type "type",none,.cls ⟨"shlex",[.type "object"],[.ref 866,.type "object"],865,"shlex",true,[],[],false,none,false⟩,[none,none,some<|S "shlex" 1295,some<|S "shlex" 1303,some<|.builtin "object.__new__",some<|.bool true].toArray⟩),
   (867,⟨.type "getset_descriptor",none,.fields [S "__dict__" 1427,.ref 866,.builtin "function.__dict__",.builtin "function.__dict__#set"].toArray,#[]⟩),
   (868,⟨.type "getset_descriptor",none,.fields [S "__weakref__" 1429,.ref 866,.builtin "ExceptionGroup.__weakref__",.none].toArray,#[]⟩),
   (871,⟨.type "tuple",none,.seq [.bool false,.bool true].toArray 0,#[]⟩)],
 cf (wN 32) "split" "split" 877 1434 875 3 0 3 1441 true (.ref 871) (S "cpy313.shlex" 1293),
 cf (wN 33) "join" "join" 884 1444 883 1 0 3 1448 true .none (S "cpy313.shlex" 1293),
 [(886,⟨.type "builtin_function_or_method",none,.fields [.builtin "re.Pattern.search",.ref 183].toArray,#[]⟩)],
 cf (wN 36) "quote" "quote" 892 1454 887 1 0 3 1458 true .none (S "cpy313.shlex" 1293),
 cf (wN 38) "_law_rows" "_law_rows" 897 1463 894 1 0 3 1466 false .none (S "law_ny0438_01" 1461),
 cf (wN 39) "_law_line" "_law_line" 902 1469 898 1 0 3 1472 false .none (S "law_ny0438_01" 1461),
 cf (wN 40) "_law_shorn" "_law_shorn" 909 1475 907 1 0 3 1480 true .none (S "law_ny0438_01" 1461),
 cf (wN 41) "_law_words" "_law_words" 914 1483 912 1 0 3 1486 false .none (S "law_ny0438_01" 1461),
 cf (wN 42) "_law_read" "_law_read" 921 1489 921 1 0 3 1493 true .none (S "law_ny0438_01" 1461),
 cf (wN 43) "_law_rounds" "_law_rounds" 926 1496 926 1 0 3 1499 false .none (S "law_ny0438_01" 1461),
 cf (wN 44) "law" "law" 933 1502 947 1 0 3 1518 true .none (S "law_ny0438_01" 1461)]
def VG:List Nat:=[0,1,2,4,5,7,8,9,10,11,12,14,15,16,17,18,19,20,21,23,24,25,26,28,29,31,33,34,35,36,38,39,40,41,42,43,44]
def vw:Program:=view PG VG
def loose:List Str:=["_NodeInfo","_twin_re_1","UnsupportedOperation","IOBase","BufferedIOBase","TextIOBase","BytesIO","StringIO","join_path","shlex","split","join_shlex","_find_unsafe"]
theorem HG(P:Params):asK=(m5 P).map (·.1):=by rfl'
abbrev mn:=PySem.Challenge.rw_ny0438_01.row.toRowW
theorem whole:∀w:World,Ry step (denote treeTable) stepOk fenceModules? 12600 PG w (λlX lD=>(lX.heap.isNs mainGlobals&&lX.gens.size==0&&(staticsOk (importedModules PG.main.body) lX.heap lD.heap&&namesBound PG lD.heap&&gensDone lD&&laidKept lX.heap lD.heap),
 openSeen vw loose (importedModules PG.main.body) (λs=>xlAt vw [] s&&recOk (RowW.records mn) s) true lD,asK.map lD.heap.get?))=some (true,openGood vw loose,(m5 w.params).map λp=>some p.2):=by
 rw[PySem.W.Fast.te8437177126325714943,PySem.W.Fast.te11892475500146522536,PySem.W.Fast.te14364793385576792824,PySem.W.Fast.te6613529449190102663,PySem.W.Fast.te4187177175401517315,PySem.W.Fast.te5923862056798008813];exact λw=>by rfl'
def XY:Stmt->Pos
 |.FunctionDef _ _ _ _ _ _ _ _ _ p=>p
 |_=>⟨0,0,0,0⟩
def Ld:DefRec:={name:= "law",params:=fnP<|wN 44,body:=fnB<|wN 44,scope:=fnS<|wN 44,pos:=XY (wN 44)}
abbrev zG:OpenRow:=PySem.Challenge.rw_ny0438_01.row
theorem YA:LeftO zG.prog vw loose (λs=>xlAt vw [] s&&recOk (RowW.records mn) s) (λs=>asK.map s.heap.get?) (λw=>(m5 w.params).map λp=>some p.2) 12600:=CE whole
theorem h1:defOf vw zG.name=some (Ld,[]):=by rfl'
theorem h2:zG.prog.theDef zG.name=some (Ld.params,Ld.body,Ld.scope):=by rfl'
theorem h3k:kwWritten? Ld.params.kwonlyargs Ld.params.kw_defaults=some []:=by rfl'
theorem h4:(!zG.writes||zG.records.isEmpty)=true:=by rfl'
theorem h5a:chainsOk vw=true:=by rfl'
theorem h5c:(frees zG.toRowW&&zG.within.isEmpty)=true:=by rfl'
theorem h6:zG.prog.bare:=⟨rfl,rfl,rfl,rfl,rfl,by decide+kernel⟩
theorem h7:zG.toRowW.promised:=⟨[.list []],by decide+kernel,by decide+kernel⟩
theorem h5b:opensWell zG.prog=true:=by rfl'
theorem VP(RG:zG.wellSaid=true)(call:WalkO vw loose (XL vw []) (InK m5) mn Ld [] λf vs=>PySem.call f vs):zG.Holds:=
 PySem.W.holds_open (r:=zG) (q:=vw) (loose:=loose) (Xt:=λs=>xlAt vw [] s&&recOk (RowW.records mn) s) (XP:=XL vw []) (Yf:=λs=>asK.map s.heap.get?) (Ya:=λw=>(m5 w.params).map λp=>some p.2) (YP:=InK m5) (N:=12600)
  YA (InK.of HG) InK.keeps (λs e=>xl_of s (i5.mp e).1) XL.keeps h1 h2 h3k (λs e=>recFacts_of (i5.mp e).2) h4 RG (by rw[h5a,h5b,h5c];rfl)
  h6 h7 call
theorem w2:namesResolve PySem.Challenge.rw_ny0438_01.row.prog=true:=by rfl'
theorem w4:noRoadLSs {strict:=!(importedModules PySem.Challenge.rw_ny0438_01.row.prog.main.body).all cThrough.contains,foot:=none,bare:=(["vars","dir","locals"]:List Str).filter (readsOut PySem.Challenge.rw_ny0438_01.row.prog PySem.Challenge.rw_ny0438_01.row.prog.main.body)} PySem.Challenge.rw_ny0438_01.row.prog.main.body=true:=by rfl'
theorem w5:(namesMeet PySem.Challenge.rw_ny0438_01.row.prog PySem.Challenge.rw_ny0438_01.row.prog.main.body λU n=>attrL n)=true:=by rfl'
theorem w37:(namesMeet PySem.Challenge.rw_ny0438_01.prog PySem.Challenge.rw_ny0438_01.above λU n=>!PySem.Challenge.rw_ny0438_01.own.contains n)=true:=by rfl'
theorem RG:PySem.Challenge.rw_ny0438_01.wellSaid=true:=by
 unfold OpenLaw.wellSaid OpenRow.wellSaid OpenRow.partSaid looksOpen;repeat' (with_reducible refine look_both ?_ ?_)
 all_goals first|with_reducible exact w2|with_reducible exact w4|with_reducible exact w5|with_reducible exact w37|rfl'
theorem head(call:WalkO vw loose (XL vw []) (InK m5) mn Ld [] λf vs=>PySem.call f vs):PySem.Challenge.rw_ny0438_01.Holds:=
 holds_law RG λs=>VP s call
section
variable{k n fu i j:Nat}{ρ lI:List Addr}{s s':Shared}{h h' ail:Heap}{w:World}{env:Env}
def pQ{α:Type}(o:Nat->Nat->Bool):KasT α->α
 |.ret a=>a
 |.ask i j k=>pQ o<|k<|o i j
theorem tO{α β:Type}{f:α->KasT β}(t):pQ o (t.bind f)=pQ o (f<|pQ o t):=by
 induction t with
 |ret _=>rfl
 |ask i j k ih=>exact ih _
structure Y8(n:Nat)(o:Nat->Nat->Bool):Prop where
 tr:∀a b c,o a b=true->o b c=true->o a c=true
 ir:∀a,o a a=false
 uY:∀a b,a<n->b<n->a≠b->o a b=true\/o b a=true
def Pm(n:Nat)(p:Array Nat):Prop:=p.toList.Perm<|List.range n
def oU(p:Array Nat)(i:Nat):Nat:=p.getD i 0
def Jt(o:Nat->Nat->Bool)(p:Array Nat)(k:Nat):Prop:=∀i j,i<j->j<k->o (oU p i) (oU p j)=true
def cz(o:Nat->Nat->Bool)(p:Array Nat)(k:Nat):Prop:=∀i j,i<j->j<k->o (oU p j) (oU p i)=true
theorem Pm.size(h:Pm n p):p.size=n:=by have:=h.length_eq;rwa[eS,cG]at this
theorem U3(h:i<p.size):oU p i=p.toList[i]'(by simp only[eS];exact h):=by unfold oU;simp[h]
theorem Pm.lt(h:Pm n p)(hi:i<n):oU p i<n:=by rw[U3 (by rw[h.size];exact hi)];exact cJ.mp<|h.mem_iff.mp<|gM _
theorem Pm.ne(h:Pm n p)(hi:i<n)(hj:j<n)(o9:i≠j):oU p i≠oU p j:=by
 rw[U3 (by simp[h.size];exact hi),U3 (by simp[h.size];exact hj)];have hn:=h.nodup_iff.mpr List.nodup_range;intro e;rcases Nat.lt_or_gt_of_ne o9 with q|q
 .exact dC.mp hn i j _ _ q e
 .exact dC.mp hn j i _ _ q e.symm
theorem Pm.uY(h:Pm n p)(O:Y8 n o)(hi:i<n)(hj:j<n)(o9:i≠j)(hf:o (oU p i) (oU p j)=false):o (oU p j) (oU p i)=true:=by
 rcases O.uY _ _ (h.lt hi) (h.lt hj) (h.ne hi hj o9)with q|q
 .replace q:=hf▸q;rcases q with _|_
 .exact q
theorem Jt.one:Jt o p 1:=λi j h1 h2=>by simp_all
theorem cz.one:cz o p 1:=λi j h1 h2=>by simp_all
theorem Jt.grow(O:Y8 n o)(h:Jt o p<|k+1)(h1:o (oU p k) (oU p<|k+1)=true):Jt o p<|k+2:=λi j Kh hj=>by
 by_cases e:j=k+1
 .subst e;by_cases e2:i=k
  .obtain rfl:=e2.symm;exact h1
  .exact O.tr _ _ _ (h i k (by lia)<|aI _) h1
 .exact h i j Kh (by lia)
theorem cz.grow(O:Y8 n o)(h:cz o p<|k+1)(h1:o (oU p<|k+1) (oU p k)=true):cz o p<|k+2:=λi j Kh hj=>by
 by_cases e:j=k+1
 .subst e;by_cases e2:i=k
  .obtain rfl:=e2.symm;exact h1
  .exact O.tr _ _ _ h1 (h i k (by lia)<|aI _)
 .exact h i j Kh (by lia)
theorem Nx(O:Y8 n o)(P:Pm n p):∀f m,1<=m->m+f<=n->Jt o p m->(let r:=pQ o<|kas_asc p f m;m<=r/\r<=m+f/\Jt o p r/\(r<m+f->o (oU p r) (oU p<|r-1)=true)):=by
 exists zr;induction zr with
 |zero=> intro m h1 hn hs;exact⟨aI _,aI _,hs,λh=>absurd h<|dJ m⟩
 |succ f mB=>
  intro m h1 hn hs;show(let r:=pQ o<|if o (oU p m) (oU p<|m-1)=true then KasT.ret m else kas_asc p f<|m+1;m<=r/\r<=m+(f+1)/\Jt o p r/\(r<m+(f+1)->o (oU p r) (oU p<|r-1)=true));by_cases hc:o (oU p m) (oU p<|m-1)=true
  .rw[aH hc];exact⟨aI _,by exact aT _ _,hs,λU=>hc⟩
  .rw[aL hc];obtain⟨m',rfl⟩:∃m',m=m'+1:=⟨m-1,(eZ h1).mp rfl⟩;have q8:=mB (m'+1+1) (c6 _) (lk hn)<|hs.grow O<|P.uY O (bP hn) (lk hn) (by simp) (by simpa using hc);exact⟨by omega,by omega,q8.2.2.1,λh=>q8.2.2.2<|by omega⟩
theorem Ws(O:Y8 n o)(P:Pm n p):∀f m,1<=m->m+f<=n->cz o p m->∃r,pQ o (kas_desc f p m 0)=(p,r,0)/\m<=r/\r<=m+f/\cz o p r:=by
 intro zr;induction zr with
 |zero=> intro m h1 hn hs;exact⟨m,rfl,aI _,aI _,hs⟩
 |succ f mB=>
  intro m h1 hn hs;obtain⟨m',rfl⟩:∃m',m=m'+1:=⟨m-1,(eZ h1).mp rfl⟩;by_cases hc:o (oU p<|m'+1) (oU p m')=true
  .obtain⟨r,e,q8⟩:=mB (m'+1+1) (c6 _) (lk hn)<|hs.grow O hc;refine⟨r,?_,(lk q8.1),(lk q8.2.1),q8.2.2⟩;rw[<-e];show pQ o (if o (oU p<|m'+1) (oU p m')=true then _ else _)=_;rw[aH hc];rfl
  .have ht:=P.uY O (j:=m') (bP hn) (lk hn) (by simp) (by simpa using hc);refine⟨m'+1,?_,aI _,by exact aT _ _,hs⟩;show pQ o (if o (oU p<|m'+1) (oU p m')=true then _ else _)=_;rw[aL hc];show pQ o (if o (oU p m') (oU p<|m'+1)=true then _ else _)=_;rw[aH ht];rfl
theorem xG(P:Pm n p)(i j):Pm n<|kas_rev p i j:=(jN.mp<|mirror_perm p i j _).trans P
theorem ig(P:Pm n p)(hj:j<=n)(hk:k<j):oU (kas_rev p 0 j) k=oU p (j-1-k):=by have:=getElem?_mirror_all (i:=0) (by rw[P.size];exact hj) k;rw[aH ⟨cV _,hk⟩,dF]at this;delta oU kas_rev;simp only[fZ,this]
theorem cz.rev(P:Pm n p)(hj:j<=n)(h:cz o p j):Jt o (kas_rev p 0 j) j:=λa b Fs hb=>by rw[ig P hj<|cK ‹_› ‹_›,ig P hj hb];exact h _ _ (by omega) (lk<|aC (aN<|aY ((lk hb):1<=j))<|kI (j-1)<|a)
theorem Yl(O:Y8 n o)(P:Pm n p)(h1:1<=m)(hm:m<=n)(hs:cz o p m):(let r:=pQ o<|kas_tail3 m n p;Pm n r.2/\1<=r.1/\r.1<=n/\Jt o r.2 r.1):=by exists n,o,p,m,[O,P,h1,hm,hs];unfold kas_tail3;rw[tO];obtain⟨a,b,q8⟩:=Nx O (xG P 0 m) (n-m) m h1 (lk<|aN<|aY ((lk hm):m<=n))<|hs.rev P hm;exact⟨xG P 0 m,by exact bC ‹_› ‹_›,by show pQ o _<=n;exact lk<|aC (aN<|aY ((lk hm):m<=n)) b,q8.1⟩
theorem Fo(O:Y8 n o)(P:Pm n p)(h2:2<=n)(hs:o (oU p 1) (oU p 0)=true):(let r:=pQ o<|kas_descPart 1 n p;Pm n r.2/\1<=r.1/\r.1<=n/\Jt o r.2 r.1):=by exists n,o,p,[O,P,h2,hs];unfold kas_descPart;rw[tO];obtain⟨r,e,a,q8⟩:=Ws O P (n-(1+1)) (1+1) (c6 _) (lk<|aN<|aY ((lk h2):1+1<=n))<|cz.one.grow O hs;exact e▸(Yl O P (bS ‹_›) (lk<|aC (aN<|aY ((lk h2):1+1<=n)) q8.1) q8.2)
theorem Qw(O:Y8 n o)(P:Pm n p)(h2:2<=n):(let r:=pQ o<|kas_count n p;Pm n r.2/\1<=r.1/\r.1<=n/\Jt o r.2 r.1):=by
 exists n,o,p,[O,P,h2];unfold kas_count;rw[tO];obtain⟨a,b,c,d⟩:=Nx O P (n-1) 1 (aI _) (by omega) Jt.one;generalize pQ o (kas_asc p (n-1) 1)=m at a b c d;by_cases e1:(m==n)=true
 .rw[aH e1];exact⟨P,a,by show m<=n;exact lk<|aC (aN<|aY ((lk h2):1<=n)) b,c⟩
 .rw[aL e1];by_cases e2:m>1
  .rw[aH e2];show(let r:Nat×Array Nat:=pQ o<|if o (oU p 0) (oU p<|m-1)=true then _ else _;Pm n r.2/\1<=r.1/\r.1<=n/\Jt o r.2 r.1);rw[aH<|c 0 (m-1) (Nat.zero_lt_sub_of_lt e2)<|Nat.sub_one_lt_of_lt a];exact⟨P,a,by show m<=n;exact lk<|aC (aN<|aY ((lk h2):1<=n)) b,c⟩
  .rw[aL e2];obtain rfl:m=1:=by lia
   exact Fo O P h2<|d (lk<|aC (aN (aY ((lk h2):1<=n)).symm) h2)
theorem Qe(O:Y8 n o)(P:Pm n p){k:Nat}(hk:k<n)(hs:Jt o p k):∀f l r,r-l<=f->l<=r->r<=k->(∀i,i<l->o (oU p i) (oU p k)=true)->(∀i,r<=i->i<k->o (oU p k) (oU p i)=true)->
 (let m:=pQ o<|kas_place p k f l r;m<=k/\(∀i,i<m->o (oU p i) (oU p k)=true)/\∀i,m<=i->i<k->o (oU p k) (oU p i)=true):=by
 exists n,o,p,k,[O,P,hk,hs];intro zr;induction zr with
 |zero=>
  intro l r hf hlr hrk h1 h2;obtain rfl:l=r:=by grind
  exact⟨hrk,h1,h2⟩
 |succ f mB=>
  intro l r hf hlr hrk h1 h2;show(let m:=pQ o<|if l >=r then KasT.ret l else .ask (oU p k) (oU p<|(l+r)/2) λc=>if c=true then kas_place p k f l ((l+r)/2)else kas_place p k f ((l+r)/2+1) r;m<=k/\(∀i,i<m->o (oU p i) (oU p k)=true)/\∀i,m<=i->i<k->o (oU p k) (oU p i)=true);by_cases CV:l >=r
  .rw[aH CV];obtain rfl:l=r:=cM hlr CV;exact⟨hrk,h1,h2⟩
  .rw[aL CV];show(let m:=pQ o<|if o (oU p k) (oU p<|(l+r)/2)=true then kas_place p k f l ((l+r)/2)else kas_place p k f ((l+r)/2+1) r;m<=k/\(∀i,i<m->o (oU p i) (oU p k)=true)/\∀i,m<=i->i<k->o (oU p k) (oU p i)=true);by_cases hc:o (oU p k) (oU p<|(l+r)/2)=true
   .rw[aH hc];refine mB l _ (by omega) (by omega) (by omega) h1 λi hi hik=>?_;by_cases e:i=(l+r)/2
    .exact e▸hc
    .exact O.tr _ _ _ hc (hs _ _ (gY hi λa=>e<|id<|Eq.symm a) hik)
   .rw[aL hc];have ht:=P.uY O (j:=(l+r)/2) hk (by lia) (by omega) (by simpa using hc);refine mB _ r (by omega) (by omega) hrk (λi hi=>?_) h2;by_cases e:i=(l+r)/2
    .exact e▸ht
    .exact O.tr _ _ _ (hs i _ (by lia)<|by lia) ht
theorem Fy(P:Pm n p)(k d):Pm n<|bubble p k d:=(jN.mp<|bubble_perm p k d).trans P
theorem Yb(P:Pm n p)(hk:k<n)(hl:l<=k):oU (bubble p k<|k-l) i=if i=l then oU p k else if l<i/\i<=k then oU p (i-1)else oU p i:=by
 have:=getElem?_bubble (by rw[P.size];exact hk) (k-l) (by grind) i;rw[show k-(k-l)=l by exact Nat.sub_sub_self hl]at this;unfold oU;refine a6 fZ ?_;rw[this];repeat' split
 all_goals simp[fZ]
theorem ba(O:Y8 n o):∀f p k,Pm n p->k+f=n->Jt o p k->Pm n (pQ o<|kas_bin f p k)/\Jt o (pQ o<|kas_bin f p k) n:=by
 exists n,o,[O];exists zr;induction zr with
 |zero=>
  exists p,k;intro P hk hs;obtain rfl:k=n:=by omega
  exact⟨P,hs⟩
 |succ f mB=>
  exists f,[mB];exists p,k;intro P hk hs;show Pm n (pQ o<|(kas_place p k k 0 k).bind _)/\Jt o (pQ o<|(kas_place p k k 0 k).bind _) n;rw[tO];obtain⟨h1,h2,h3⟩:=Qe O P (by lia) hs k 0 k (aI _) (cV _) (aI _) (λi hi=>absurd hi (by simp)) λi h1 h2=>absurd h1<|Nat.not_le_of_lt h2;generalize pQ o (kas_place p k k 0 k)=l at h1 h2 h3;refine mB _ (k+1) (Fy P _ _) (cM (lk<|aN hk)<|lk<|aN hk.symm) ?_;exists i,j;intro Kh hj;simp[Yb P (by lia) h1];by_cases a1:i=l
  .rw[aH a1,aL (cX<|lk<|aC (aN a1.symm) Kh),aH ⟨lt_of_eq_of_lt (id<|Eq.symm a1) Kh,iG ‹_›⟩];exact h3 _ (lk<|aC (aN (aY ((lk Kh):1<=j)).symm)<|aC (aN a1.symm) Kh) (lk<|aC (aN<|aY ((lk Kh):1<=j)) hj)
  .rw[aL a1];by_cases a2:l<i/\i<=k
   .rw[aH a2,aL (cX<|lk<|aC a2.1 Kh),aH ⟨(lk<|aC a2.1 Kh),iG ‹_›⟩];exact hs _ _ (lk<|aC (aN (aY ((lk Kh):1<=j)).symm)<|aC (aN<|aY ((lk a2.1):1<=i)) Kh)<|by omega
   .rw[aL a2];by_cases b1:j=l
    .rw[aH b1];exact h2 _<|Nat.lt_of_lt_of_eq Kh b1
    .rw[aL b1];by_cases b2:l<j/\j<=k
     .rw[aH b2];by_cases b3:i=j-1
      .lia
      .exact hs _ _ (by lia) (by omega)
     .rw[aL b2];exact hs _ _ Kh<|by lia
theorem Xl(O:Y8 n o)(h2:2<=n):Pm n (pQ o<|kas_sort n)/\Jt o (pQ o<|kas_sort n) n:=by
 exists n,o,_;unfold kas_sort;rw[tO];obtain⟨a,b,c,d⟩:=Qw O (p:=List.toArray<|List.range n) (.refl _) h2;by_cases e:(pQ o<|kas_count n<|List.toArray<|List.range n).1<n
 .rw[aH e];exact ba O _ _ _ a (by simp_all) (by simp only[Nat.max_eq_left b];exact d)
 .rw[aL e];have:(pQ o<|kas_count n<|List.toArray<|List.range n).1=n:=(cM (lk c)<|lk<|dU e);simp only[this]at d;exact⟨a,d⟩
end
section
variable{k n fu i j:Nat}{ρ lI:List Addr}{s s':Shared}{h h' ail:Heap}{w:World}{env:Env}
def nV(h:Heap)(a:Addr)(x y:Int):Prop:=∃t u n,h.get? a=some ⟨.type "tuple",none,.seq #[.int x t,.int y u] n,#[]⟩
theorem nV.ty(h:nV s.heap a x y):s.TypeIs (.ref a) "tuple" :=by exists t,u,n,(ho:h);exact⟨_,ho,rfl⟩
structure TO{α:Type}(l:α->α->Bool):Prop where
 tr:∀{a b c},l a b=true->l b c=true->l a c=true
 ir:∀a,l a a=false
 uY:∀{a b},a≠b->l a b=true\/l b a=true
def OS{α β:Type}[BEq α](l:α->α->Bool)(g:β->β->Bool)(a b:α×β):Bool:=if a.1==b.1 then g a.2 b.2 else l a.1 b.1
theorem TO.CW{α:Type}{l:α->α->Bool}(h:TO l){a b:α}(h1:l a b=true)(h2:l b a=true):False:=bV<|(h.ir a).symm.trans<|h.tr h1 h2
theorem TO.lex{α β:Type}[BEq α][LawfulBEq α]{l:α->α->Bool}{g:β->β->Bool}(h:TO l)(k:TO g):TO (OS l g)where
 tr {a b c} h1 h2:=by
  unfold OS at*;by_cases e:(a.1==b.1)=true
  .rw[aH e]at h1;rw[eq_of_beq e];by_cases e':(b.1==c.1)=true
   .rw[aH e']at h2⊢;exact k.tr h1 h2
   .rw[aL e']at h2⊢;exact h2
  .rw[aL e]at h1;by_cases e':(b.1==c.1)=true
   .rw[<-eq_of_beq e',aL e];exact h1
   .rw[aL e']at h2;rw[aL λq=>h.CW h1 (by rw[eq_of_beq q];exact h2)];exact h.tr h1 h2
 ir a:=(aH<|bM _).trans<|k.ir _
 uY {a b} n:=by
  unfold OS;by_cases e:a.1=b.1
  .rw[e,aH<|bM _,aH<|bM _];exact k.uY λq=>n<|fM e q
  .rw[aL λq=>e<|eq_of_beq q,aL λq=>e (eq_of_beq q).symm];exact h.uY e
theorem TO.int:TO (λa b:Int=>decide<|a<b):=⟨λh1 h2=>b7<|Int.lt_trans (f0 h1)<|f0 h2,λa=>cQ<|kT a,λn=>(Int.lt_or_gt_of_ne n).imp b7 b7⟩
theorem TO.YQ:TO (λa b:Int=>decide<|a>b):=⟨λh1 h2=>b7<|Int.lt_trans (f0 h2)<|f0 h1,λa=>cQ<|kT a,λn=>(Int.lt_or_gt_of_ne n).symm.imp b7 b7⟩
def Hu(p q:Int×Int):Bool:=if p.1==q.1 then decide (p.2<q.2)else decide<|p.1<q.1
def n9(p q:Int×Int):Bool:=if p.1==q.1 then decide (p.2>q.2)else decide<|p.1>q.1
theorem Zg:TO n9:=TO.YQ.lex TO.YQ
theorem Il{s:Shared}{a b:Addr}{x y x' y':Int}{R:PySem.Fin->Shared->Prop}(ha:nV s.heap a x y)(hb:nV s.heap b x' y')(h:R (.done<|.ret<|.bool<|Hu (x,y) (x',y')) s):
 wpAny (model PG w) A (Builtin.«tuple.__lt__» ⟨[.ref a,.ref b],[]⟩) R E s:=by
 exists w,A,E,s,a,b,x,y,x',y',R,_;have hT:=hb.ty;exists t,u,n,(CX:ha);exists t',u',n',(hob:hb);refine(aD (iQ hT isSubtype_tuple_tuple ?_):wpAny _ _ (isInstance (.ref b) (.type "tuple")>>=_) _ _ s);refine aD<|gZ CX rfl ?_;refine aD<|gZ hob rfl ?_;refine aD ?_;rw[show(#[Value.int x t,.int y u].toList.zip #[Value.int x' t',.int y' u'].toList)=[(.int x t,.int x' t'),(.int y u,.int y' u')]from rfl,fU];refine aD<|aD<|gN ?_;dsimp only[Hu]at h;rcases hx:(x==x')with _|_
 .replace h:=hx▸h;exact aD<|iR<|aD<|P.lt_int<|aM<|aM<|aM h
 .replace h:=hx▸h;refine aM ?_;dsimp only;rw[fU];refine aD<|aD<|gN ?_;rcases hy:(y==y')with _|_
  .dsimp only[Bool.not_false];exact aD<|iR<|aD<|P.lt_int<|aM<|aM<|aM h
  .dsimp only[Bool.not_true];refine aM ?_;refine aM ?_;refine aM ?_;have:y=y':=by simpa using hy
   subst this;exact(by simpa using h:R (.done<|.ret<|.bool false) s)
theorem xg(hu:A.units<cLine)(ha:nV s.heap a x y)(hb:nV s.heap b x' y')(h:Q (.bool<|Hu (x,y) (x',y')) s):
 wpAny (model PG w) A (compareOp .Lt (.ref a)<|.ref b) Q E s:=
 wpAny_richCompare_same_room (op:=.Lt) ha.ty hb.ty F.slot_tuple_lt
  (gP F.slot_tuple_lt ha.ty F.entry_tuple_lt (Il ha hb ⟨_,rfl,λe=>by injection e,h⟩)<|F.args_tuple_lt_2 _ _) hu
theorem Jl{s:Shared}{a b:Addr}{x y x' y':Int}{R:PySem.Fin->Shared->Prop}(ha:nV s.heap a x y)(hb:nV s.heap b x' y')(h:R (.done<|.ret<|.bool<|n9 (x,y) (x',y')) s):
 wpAny (model PG w) A (Builtin.«tuple.__gt__» ⟨[.ref a,.ref b],[]⟩) R E s:=by
 exists w,A,E,s,a,b,x,y,x',y',R,_;have hT:=hb.ty;exists t,u,n,(CX:ha);exists t',u',n',(hob:hb);refine(aD (iQ hT isSubtype_tuple_tuple ?_):wpAny _ _ (isInstance (.ref b) (.type "tuple")>>=_) _ _ s);refine aD<|gZ CX rfl ?_;refine aD<|gZ hob rfl ?_;refine aD ?_;rw[show(#[Value.int x t,.int y u].toList.zip #[Value.int x' t',.int y' u'].toList)=[(.int x t,.int x' t'),(.int y u,.int y' u')]from rfl,fU];refine aD<|aD<|gN ?_;dsimp only[n9]at h;rcases hx:(x==x')with _|_
 .replace h:=hx▸h;exact aD<|iR<|aD<|P.gt_int<|aM<|aM<|aM h
 .replace h:=hx▸h;refine aM ?_;dsimp only;rw[fU];refine aD<|aD<|gN ?_;rcases hy:(y==y')with _|_
  .dsimp only[Bool.not_false];exact aD<|iR<|aD<|P.gt_int<|aM<|aM<|aM h
  .dsimp only[Bool.not_true];refine aM ?_;refine aM ?_;refine aM ?_;have:y=y':=by simpa using hy
   subst this;exact(by simpa using h:R (.done<|.ret<|.bool false) s)
theorem BA(hu:A.units<cLine)(ha:nV s.heap a x y)(hb:nV s.heap b x' y')(h:Q (.bool<|n9 (x,y) (x',y')) s):
 wpAny (model PG w) A (compareOp .Gt (.ref a)<|.ref b) Q E s:=
 wpAny_richCompare_same_room (op:=.Gt) ha.ty hb.ty F.slot_tuple_gt
  (gP F.slot_tuple_gt ha.ty F.entry_tuple_gt (Jl ha hb ⟨_,rfl,λe=>by injection e,h⟩)<|F.args_tuple_gt_2 _ _) hu
end
def uT(n:Nat){α:Type}(Q:α->Prop):KasT α->Prop
 |.ret a=>Q a
 |.ask i j k=>(i<n/\j<n/\i≠j)/\∀b,uT n Q<|k b
theorem tP{n:Nat}{α β:Type}{Q:α->Prop}{R:β->Prop}{f:α->KasT β}(hf:∀a,Q a->uT n R (f a))(t)(h:uT n Q t):uT n R<|t.bind f:=by
 induction t with
 |ret a=>exact hf a h
 |ask i j k ih=>exact⟨h.1,λb=>ih b<|h.2 b⟩
theorem o0{n:Nat}{α:Type}{Q:α->Prop}{c:Prop}[Decidable c]{t u:KasT α}(h1:c->uT n Q t)(h2:¬c->uT n Q u):uT n Q<|if c then t else u:=by
 refine iteInduction (λU=>?_) λU=>?_
 .exact h1 ‹_›
 .exact h2 ‹_›
section
variable{n:Nat}{p:Array Nat}
theorem Pm.ask(P:Pm n p){i j:Nat}(hi:i<n)(hj:j<n)(h:i≠j):oU p i<n/\oU p j<n/\oU p i≠oU p j:=⟨P.lt hi,P.lt hj,P.ne hi hj h⟩
theorem V8{Q R:Nat->Prop}(h:∀r,Q r->R r)(t)(q:uT n Q t):uT n R t:=by
 induction t with
 |ret a=>exact h a q
 |ask i j k ih=>exact⟨q.1,λb=>ih b<|q.2 b⟩
theorem Lu(P:Pm n p)(f):∀m,1<=m->m+f<=n->uT n (λr=>m<=r/\r<=m+f) (kas_asc p f m):=by
 induction f with
 |zero=>exact λm U U=>⟨aI _,aI _⟩
 |succ f ih=> intro m h1 h2;have h2:=(eY m 1 f).symm▸h2;have h3:=bC (aT _ f) h2;exact⟨P.ask h3 (bW (kI _ _) h3) (cX<|lk<|aN<|aY ((lk h1):1<=m)),λb=>o0 (λU=>⟨aI _,aT _ _⟩) λU=>V8 (λr hr=>⟨f9 hr.1,eY m 1 f▸hr.2⟩) _<|ih (m+1) (c6 _) h2⟩
theorem Wi:∀f p m q,Pm n p->1<=m->m+f<=n->uT n (λr=>Pm n r.1/\1<=r.2.1/\r.2.1<=n) (kas_desc f p m q):=by
 exists zr;induction zr with
 |zero=> intro p m q P h1 h2;exact⟨P,h1,by omega⟩
 |succ f mB=>
  intro p m q P h1 h2;exact⟨P.ask (bP h2) (by omega) (cX<|lk<|aN<|aY ((lk h1):1<=m)),λb=>o0
  (λU=>o0 (λU=>mB _ (m+1) 0 (xG P _ _) (by lia)<|by omega) λU=>mB _ (m+1) 0 P (by lia)<|by omega)
  λU=>⟨P.ask (by omega) (bP h2)<|by omega,λc=>o0 (λU=>⟨P,h1,by exact Nat.le_of_add_right_le h2⟩) λU=>mB _ (m+1) (q+1) P (by lia) (lk h2)⟩⟩
theorem Gb(P:Pm n p){m:Nat}(h1:1<=m)(hm:m<=n):uT n (λr=>Pm n r.2/\1<=r.1/\r.1<=n)<|kas_tail3 m n p:=by refine tP (λa h=>?_) _<|Lu (xG P 0 m) (n-m) m h1 (lk<|aN<|aY ((lk hm):m<=n));exact⟨xG P _ _,by exact lk<|aC h.1 h1,by exact lk<|aC (aN<|aY ((lk hm):m<=n)) h.2⟩
theorem wZ(P:Pm n p){m:Nat}(hm:m<n):uT n (λr=>Pm n r.2/\1<=r.1/\r.1<=n)<|kas_descPart m n p:=
 tP (λr h=>o0 (λU=>Gb (xG h.1 _ _) h.2.1 h.2.2) λU=>Gb h.1 h.2.1 h.2.2) _ (Wi (n-(m+1)) p (m+1) 0 P (c6 _) (lk<|aN<|aY ((lk hm):m+1<=n)))
theorem Qu(P:Pm n p)(h2:2<=n):uT n (λr=>Pm n r.2/\1<=r.1/\r.1<=n)<|kas_count n p:=by
 refine tP (λm h=>?_) _<|Lu P (n-1) 1 (aI _) (lk<|aN<|aY ((lk h2):1<=n));refine o0 (λU=>⟨P,h.1,by exact lk<|aC (aN<|aY ((lk h2):1<=n)) h.2⟩) λhe=>?_;have hmn:m≠n:=by simpa using he
 exact o0 (λh1=>⟨P.ask (bS ‹_›) (lk<|aC (aN<|aY ((lk h2):1<=n))<|aC (aN<|aY ((lk h.1):1<=m)) h.2)<|dQ<|(λ{n m}=>Nat.sub_ne_zero_iff_lt.mpr) h1,λb=>o0 (λU=>⟨P,h.1,by show m<=n;omega⟩) λU=>wZ (xG P _ _)<|by omega⟩) λU=>wZ P<|by omega
theorem Rp(P:Pm n p){k:Nat}(hk:k<n):∀f l r,r<=k->l<=k->uT n (λm=>m<=k) (kas_place p k f l r):=by
 exists zr;induction zr with
 |zero=> intro l r hr hl;exact hl
 |succ f mB=> intro l r hr hl;exact o0 (λU=>hl) λh=>⟨P.ask (by omega) (by lia)<|by omega,λb=>o0 (λU=>mB l _ (by lia) hl) λU=>mB _ r hr<|by omega⟩
theorem Zt:∀f p k,Pm n p->k+f<=n->uT n (λU=>True) (kas_bin f p k):=by
 exists zr;induction zr with
 |zero=> intro p k P hk;exact trivial
 |succ f mB=> intro p k P hk;exact tP (λl h=>mB _ (k+1) (Fy P _ _) (lk hk)) _<|Rp P (bP hk) k 0 k (aI _)<|cV _
theorem We(h2:2<=n):uT n (λU=>True)<|kas_sort n:=by refine tP (λr h=>?_) _<|Qu (.refl _) h2;exact o0 (λU=>Zt _ _ _ h.1<|by simp_all) λU=>trivial
theorem Yg{α:Type}{cmp:Nat->Nat->(Bool->Shared->Prop)->Shared->Prop}{o:Nat->Nat->Bool}{s:Shared}(hc:∀i j C,i<n->j<n->i≠j->C (o i j) s->cmp i j C s){Q:α->Shared->Prop}{R:α->Prop}
 (t)(ha:uT n R t)(h:Q (pQ o t) s):t.kasWp cmp Q s:=by
 induction t with
 |ret a=>exact h
 |ask i j k ih=>exact hc i j _ ha.1.1 ha.1.2.1 ha.1.2.2<|ih (o i j) (ha.2 _) h
end
def xS(h:Heap)(a:Addr)(k:(Int×Int)×Int):Prop:=∃p t nm u n,h.get? a=some ⟨.type "tuple",none,.seq #[.ref p,.int k.2 t,.str nm u] n,#[]⟩/\nV h p k.1.1 k.1.2
def qR(k k':(Int×Int)×Int):Bool:=if k.1==k'.1 then decide (k.2<k'.2)else Hu k.1 k'.1
section
variable{w:World}{A:Around}{E:Value->Shared->Prop}{s:Shared}{a b:Addr}{x y x' y':Int}
theorem nV.key{h:Heap}(q:nV h a x y):IsTupleKey (intKind PG w) h [x,y] a:=by exists w,a,x,y,h,_;exists t,u,n,(ho:q);exact⟨_,_,_,ho,rfl,rfl,.cons (by simp[intKind,Value.isInt])<|.cons (by simp[intKind,Value.isInt]) .nil⟩
theorem AA{Q:Bool->Shared->Prop}(hu:A.units<cLine)(ha:nV s.heap a x y)(hb:nV s.heap b x' y')(h:Q ((x,y)==(x',y')) s):wpAny (model PG w) A (eqBool (.ref a)<|.ref b) Q E s:=by
 refine wpAny_eqBool_tuple hu (ha.key) (hb.key) ?_;have:decide ([x,y]=[x',y'])=((x,y)==(x',y')):=by rw[eO];simp
 exact this▸h
theorem AU{Q:Bool->Shared->Prop}{k k':(Int×Int)×Int}(hu:A.units<cLine)(ha:xS s.heap a k)(hb:xS s.heap b k')(o9:k≠k')(h:Q (qR k k') s):wpAny (model PG w) A (keyLt' (tuples' false) (.ref a)<|.ref b) Q E s:=by
 exists w,A,E,s,a,b,Q,k,k',_;exists p,t,nm,u,n,(q9:ha);exists p',t',TM,u',n',(q8:hb);refine kat_lt q9.1 rfl q8.1 rfl ?_;refine kat_cons<|AA hu q9.2 q8.2 ?_;unfold qR at h;rcases he:(k.1==k'.1)with _|_
 .replace h:=he▸h;exact kat_no<|kat_one _ _<|xg hu q9.2 q8.2 h
 .have h:=he▸h;refine kat_yes<|kat_cons<|gN ?_;have hn:(k.2==k'.2)=false:=by rw[a7];intro e;exact o9 (fM (by simpa using he) e)
  simp only[hn];exact kat_no<|kat_one _ _<|P.lt_int h
end
section
variable{k n fu i j:Nat}{ρ lI:List Addr}{s s':Shared}{h h' ail:Heap}{w:World}{env:Env}
theorem xm:typeLookup (.type "list_iterator") "__next__" =pure (some<|.builtin "list_iterator.__next__"):=by rw[d7,cS];rfl'
theorem EG:typeOf (.builtin "list_iterator.__next__")=pure (.type "wrapper_descriptor"):=by show builtinType _=_;rw[builtinType_eq_fast];rfl'
theorem LP:typeLookup (.type "wrapper_descriptor") "__get__" =pure (some<|.builtin "wrapper_descriptor.__get__"):=by rw[d7,cS];rfl'
theorem JE:typeLookup (.type "wrapper_descriptor") "__set__" =pure none:=by rw[d7,cS];rfl'
theorem RC:typeLookup (.type "wrapper_descriptor") "__delete__" =pure none:=by rw[d7,cS];rfl'
theorem Tp:Slot "wrapper_descriptor" "__get__" "wrapper_descriptor.__get__" :=
 .of (owner:= "wrapper_descriptor") (n:= "__get__") (by rw[d7,cS];rfl') (by decide+kernel) (by decide+kernel) (by decide+kernel)
  (by first|exact .inl (by decide+kernel)|exact .inr<|by decide+kernel) (by rw[dH];rfl')
theorem Z8:entryFor table "wrapper_descriptor.__get__" =some Builtin.«wrapper_descriptor.__get__»:=fN<|by rfl'
theorem BM(a b c):argsOk "wrapper_descriptor.__get__" ⟨[a,b,c],[]⟩:=by rfl'
theorem jk: ".".intercalate ("list_iterator.__next__".cutAt '.').dropLast= "list_iterator" :=by decide+kernel
theorem AJ:isSubtype (.type "list_iterator") (.type<|".".intercalate ("list_iterator.__next__".cutAt '.').dropLast)=pure true:=by rw[jk,dH];rfl'
theorem PT{os:OsState}(hx:h.get? a=some ⟨.type "list_iterator",none,.fields #[.ref l,.int i 0],#[]⟩)(hq:R (.ok<|.ret<|.ref h.objs.size) ⟨h.push {cls:=.type "method-wrapper",data:=.fields #[.builtin "list_iterator.__next__",.ref a]},g,d,t,os⟩):
 codeAny (model PG w) A (.call (.builtin "wrapper_descriptor.__get__") ⟨[.builtin "list_iterator.__next__",.ref a,.type "list_iterator"],[]⟩) R ⟨h,g,d,t,os⟩:=by
 have hT:(⟨h,g,d,t,os⟩:Shared).TypeIs (.ref a) "list_iterator" :=⟨_,hx,rfl⟩;have f8:=AJ;refine codeAny_call_builtin Tp.plain Z8<|Tp.check _ _ _ _ _ _ _ _ (EG) (BM _ _ _) ?_;repeat(any_goals(first|assumption|wp_step))
theorem uG:Slot "list_iterator" "__getattribute__" "object.__getattribute__" :=
 .of (owner:= "object") (n:= "__getattribute__") (by rw[d7,cS];rfl') (by decide+kernel) (by decide+kernel) (by decide+kernel)
  (by first|exact .inl (by decide+kernel)|exact .inr<|by decide+kernel) (by rw[dH];rfl')
theorem my:entryFor table "object.__getattribute__" =some Builtin.«object.__getattribute__»:=fN<|by rfl'
theorem xc(a b):argsOk "object.__getattribute__" ⟨[a,b],[]⟩:=by rfl'
theorem ah{os:OsState}{a:Addr}{i:Nat}{tk:Tok}{Q:Fin->Shared->Prop}(hx:h.get? a=some ⟨.type "list_iterator",none,.fields #[.ref l,.int i 0],#[]⟩)(hq:Q (.done<|.ret<|.ref h.objs.size) ⟨h.push {cls:=.type "method-wrapper",data:=.fields #[.builtin "list_iterator.__next__",.ref a]},g,d,t,os⟩):
 wpAny (model PG w) A (Builtin.«object.__getattribute__» ⟨[.ref a,.str "__next__" tk],[]⟩) Q E ⟨h,g,d,t,os⟩:=by
 have hT:(⟨h,g,d,t,os⟩:Shared).TypeIs (.ref a) "list_iterator" :=⟨_,hx,rfl⟩;have hT5:=EG;have f4:=xm;have f6:=LP;have f7:=JE;have f8:=RC;repeat(any_goals(first|assumption|wp_step))
 refine PT hx ?_;repeat(any_goals(first|assumption|wp_step))
theorem WC{os:OsState}(hx:h.get? a=some ⟨.type "list_iterator",none,.fields #[.ref l,.int i 0],#[]⟩)(hq:Q (.ref h.objs.size) ⟨h.push {cls:=.type "method-wrapper",data:=.fields #[.builtin "list_iterator.__next__",.ref a]},g,d,t,os⟩):
 wpAny (model PG w) A (getAttrBy (.ref a) (.str "__next__" tk) true true) Q E ⟨h,g,d,t,os⟩:=by
 have hT:(⟨h,g,d,t,os⟩:Shared).TypeIs (.ref a) "list_iterator" :=⟨_,hx,rfl⟩;have f2:=uG.lookup;have f3:=uG.bind<|.ref a;repeat(any_goals(first|assumption|wp_step))
 refine codeAny_call_builtin uG.plain my<|uG.check _ _ _ _ _ _ _ _ hT (xc _ _)<|ah hx ?_;repeat(any_goals(first|assumption|wp_step))
end
section
variable{k n fu i j:Nat}{ρ lI:List Addr}{s s':Shared}{h h' ail:Heap}{w:World}{env:Env}
noncomputable abbrev n4:=List<|Str×Str
noncomputable abbrev Ev:=(Nat×Nat)×Str
def Op(a b:Nat×Nat):Prop:=a.1<b.1\/(a.1=b.1/\a.2<b.2)
theorem B6:¬Op a a:=λh=>h.elim (dJ _) λh=>dJ _ h.2
theorem Hb(h:Op a b)(h':Op b c):Op a c:=h.elim (λx=>h'.elim (λy=>.inl<|cK x y) λy=>.inl<|y.1▸x) λx=>h'.elim (λy=>.inl<|x.1▸y) λy=>.inr ⟨x.1.trans y.1,cK x.2 y.2⟩
def uY(E:n4)(y:Str):Nat:=(E.filter λe=>e.1==y).length
def Bs(E:n4)(O:List Str)(y:Str):Nat:=(E.filter λe=>e.1==y&&O.contains e.2).length
def pV(E:n4)(p:Str):List Str:=(E.filter λe=>e.2==p).map (·.1)
def Fc(i:Nat)(p:Str):Nat->n4->List Ev
 |_,[]=>[]
 |k,e::E=>if(e.2==p)=true then((i,k),e.1)::Fc i p (k+1) E else Fc i p (k+1) E
theorem ju:Fc i p k []=[]:=rfl
theorem Ti:Fc i p k (e::E)=if(e.2==p)=true then((i,k),e.1)::Fc i p (k+1) E else Fc i p (k+1) E:=rfl
def s8(E:n4):Nat->List Str->List Ev
 |_,[]=>[]
 |i,p::O=>Fc i p 0 E++s8 E (i+1) O
theorem WL:s8 E i []=[]:=rfl
theorem aef:s8 E i (p::O)=Fc i p 0 E++s8 E (i+1) O:=rfl
def Jo(ev:List Ev)(y:Str):Nat:=(ev.filter λq=>q.2==y).length
theorem Ch:Jo (ev++ev') y=Jo ev y+Jo ev' y:=by unfold Jo;simp only[dR,aG]
theorem Uu:∀{k:Nat}{E:n4},(Fc i p k E).map (·.2)=pV E p:=by
 intro k zr;induction zr generalizing k with
 |nil=> exact rfl
 |cons e E mB=>
  dsimp only[ju,Ti,pV];by_cases h:(e.2==p)=true
  .rw[aH h,bR<|by exact h,cW,cW,mB];rfl
  .rw[aL h,bN<|by exact h,mB];rfl
theorem Kf:∀{k i' k':Nat}{y:Str},((i',k'),y)∈Fc i p k E<->i'=i/\∃j,k'=k+j/\E[j]?=some (y,p):=by
 exists i,p,E,[];induction E with
 |nil=>exact⟨λh=>absurd h bG,λh=>h.2.elim λU q=>by injection q.2⟩
 |cons e E ih=>
  exists e,E,[ih];exists k,i',k',y;have up:(i'=i/\∃j,k'=k+1+j/\E[j]?=some (y,p))->i'=i/\∃j,k'=k+j/\(e::E)[j]?=some (y,p):=λq=>⟨q.1,q.2.elim λj r=>⟨j+1,r.1.trans<|eY k 1 j,r.2⟩⟩;have dn:(i'=i/\∃j,k'=k+j/\(e::E)[j]?=some (y,p))->(i'=i/\k'=k/\e=(y,p))\/((i',k'),y)∈Fc i p (k+1) E:=by
   intro q;obtain⟨q,j,r⟩:=q;rcases j with _|j
   .exact .inl ⟨q,r.1,aA r.2⟩
   .exact .inr (ih.mpr ⟨q,j,r.1.trans (eY k 1 j).symm,r.2⟩)
  rw[Ti];by_cases h:(e.2==p)=true
  .rw[aH h];refine⟨λm=>(aK.mp m).elim (λq=>?_) λq=>up<|ih.mp q,λq=>(dn q).elim (λr=>?_) λr=>.tail _ r⟩
   .obtain⟨q1,rfl⟩:=bQ q;obtain⟨rfl,rfl⟩:=bQ q1;exact⟨rfl,0,rfl,aV some<|fM rfl<|eq_of_beq h⟩
   .rw[r.1,r.2.1,r.2.2];exact .head _
  .rw[aL h];exact⟨λm=>up<|ih.mp m,λq=>(dn q).elim (λr=>absurd (r.2.2▸bM p) h) id⟩
theorem y7:∀{O O':List Str}{i:Nat},s8 E i (O++O')=s8 E i O++s8 E (i+O.length) O':=by
 intro zr;induction zr with
 |nil=> intro _ _;exact rfl
 |cons p O mB=> intro O' i;show Fc i p 0 E++s8 E (i+1) (O++O')=(Fc i p 0 E++s8 E (i+1) O)++s8 E (i+(O.length+1)) O';simp[mB,show i+1+O.length=i+(O.length+1)by exact j6 i O.length]
theorem sN:∀{O:List Str}{i i' k':Nat}{y:Str},((i',k'),y)∈s8 E i O<->∃j z,i'=i+j/\O[j]?=some z/\E[k']?=some (y,z):=by
 exists E,[];exists zr;induction zr with
 |nil=> simp[WL]
 |cons p O mB=>
  exists p,O,[mB];exists i,i',k',y;show _∈Fc i p 0 E++s8 E (i+1) O<->_;rw[aO,Kf,mB];constructor
  .rintro(⟨h1,j,h2,h3⟩|⟨j,z,h1,h2,h3⟩)
   .exact⟨0,p,h1,rfl,by rw[h2,dF];exact h3⟩
   .exact⟨j+1,z,(cM (lk<|aN h1)<|lk<|aN h1.symm),h2,h3⟩
  .rintro⟨j,z,h1,h2,h3⟩
   rcases j with _|j
   .exact .inl ⟨h1,k',(dF _).symm,by rw[aA h2];exact h3⟩
   .exact .inr ⟨j,z,(cM (lk<|aN h1)<|lk<|aN h1.symm),h2,h3⟩
theorem jm:∀{k:Nat}{E:n4},(Fc i p k E).Pairwise λa b=>Op a.1 b.1:=by
 intro k zr;induction zr generalizing k with
 |nil=> exact .nil
 |cons e E mB=>
  dsimp only[ju,Ti];by_cases h:(e.2==p)=true
  .rw[aH h];refine .cons (λb hb=>?_) mB;obtain⟨⟨i',k'⟩,y⟩:=b;obtain⟨h1,j,h2,_⟩:=Kf.mp hb;exact .inr ⟨h1.symm,by exact lk<|aN h2.symm⟩
  .rw[aL h];exact mB
theorem Z4:∀{O:List Str}{i:Nat},(s8 E i O).Pairwise λa b=>Op a.1 b.1:=by
 exists zr;induction zr with
 |nil=> intro _;exact .nil
 |cons p O mB=> intro i;refine gE.mpr ⟨jm,mB,λa ha b hb=>?_⟩;obtain⟨⟨i1,k1⟩,y1⟩:=a;obtain⟨⟨i2,k2⟩,y2⟩:=b;obtain⟨h1,_⟩:=Kf.mp ha;obtain⟨j,z,h2,_⟩:=sN.mp hb;exact .inl (lk<|aC (aN h2.symm)<|aN h1)
theorem zx:∀{k:Nat}{E:n4},Jo (Fc i p k E) y=(E.filter λe=>e.1==y&&e.2==p).length:=by
 exists k,zr;induction zr generalizing k with
 |nil=> exact rfl
 |cons e E mB=>
  have ih:=mB (k:=k+1);dsimp only[ju,Ti,Jo];by_cases h:(e.2==p)=true
  .rw[aH h];by_cases h':(e.1==y)=true
   .rw[bR<|by exact h',bR (by rw[h,h'];rfl),bA,bA];exact aV (· +1) ih
   .rw[bN<|by exact h',bN (by rw[h];simpa using h')];exact ih
  .rw[aL h,bN (by rw[aQ];exact λq=>h q.2)];exact ih
theorem Wx{E:n4}(h:∀e,¬(f e=true/\g e=true)):(E.filter λe=>f e||g e).length=(E.filter f).length+(E.filter g).length:=by
 induction E with
 |nil=>rfl
 |cons e E ih=>
  have:=h e;rcases hf:f e with _|_<;>rcases hg:g e with _|_
  .rw[bN (by rw[hf,hg];exact bV),bN (by rw[hf];exact bV),bN (by rw[hg];exact bV),ih]
  .rw[bR (by rw[hf,hg];rfl),bN (by rw[hf];exact bV),bR hg,bA,bA,ih];rfl
  .rw[bR (by rw[hf,hg];rfl),bR hf,bN (by rw[hg];exact bV),bA,bA,ih];exact eY (List.filter f E).length (List.filter g E).length 1
  .exact absurd ⟨hf,hg⟩ this
theorem I5:∀{O:List Str}{i:Nat},O.Nodup->Jo (s8 E i O) y=Bs E O y:=by
 exists zr;induction zr with
 |nil=> intro _ _;unfold Bs;rw[b8.mpr λe U=>by simp];rfl
 |cons p O mB=>
  intro i hn;show Jo (Fc i p 0 E++s8 E (i+1) O) y=_;simp[Ch,zx,mB (c7.mp hn).2];unfold Bs;rw[<-Wx]
  .congr 1
   refine List.filter_congr λe U=>?_;rw[List.contains_cons];rcases e.1==y with _|_<;>rfl
  .rintro e ⟨h1,h2⟩
   simp only[aQ]at h1 h2;exact(c7.mp hn).1 (by rw[<-eq_of_beq h1.2];exact bB.mp h2.2)
theorem Db{E:n4}:((e::E).filter f).length=(if f e=true then 1 else 0)+(E.filter f).length:=by
 by_cases h:f e=true
 .rw[bR h,aH h,bA,iH]
 .rw[bN h,aL h,dF]
theorem U1:Bs E O y<=uY E y:=by
 delta Bs uY;induction E with
 |nil=>exact aI _
 |cons e E ih=>
  simp only[Db];refine aC ?_ ih;rcases h:e.1==y with _|_
  .exact cV _
  .rw[aH rfl];by_cases q:(true&&O.contains e.2)=true
   .rw[aH q];exact aI _
   .rw[aL q];exact cV _
theorem CM:Bs E O y=uY E y<->∀e∈E,e.1=y->e.2∈O:=by
 exists E,O,y,[];induction E with
 |nil=>exact⟨by simp,λU=>rfl⟩
 |cons e E ih=>
  exists e,E,_;have hle:=U1 (E:=E) (O:=O) (y:=y);have e1:Bs (e::E) O y=(if(e.1==y&&O.contains e.2)=true then 1 else 0)+Bs E O y:=Db;have e2:uY (e::E) y=(if(e.1==y)=true then 1 else 0)+uY E y:=Db;simp only[e1,e2,d9,<-ih];rcases h:e.1==y with _|_
  .rw[Bool.false_and,aL bV,dF,dF];exact⟨λq=>⟨λx=>absurd x<|a7.mp h,q⟩,λq=>q.2⟩
  .have hy:=eq_of_beq h;rw[kU,aH rfl];by_cases q:e.2∈O
   .rw[aH<|bB.mpr q];exact⟨λx=>⟨λU=>q,Nat.add_left_cancel x⟩,λx=>by lia⟩
   .rw[aL λx=>q<|bB.mp x];exact⟨λx=>by lia,λx=>absurd (x.1 hy) q⟩
end
section
variable{k n fu i j:Nat}{ρ lI:List Addr}{s s':Shared}{h h' ail:Heap}{w:World}{env:Env}
theorem BW{K:Flow->Sem PySem.Fin}{H:Value->Sem PySem.Fin}(hs:∀x,foldedSetIterable iter env x=pure x)
 (h:wpAny M (A.over c fs) (eval iter env) (λx lD=>wpAny M (A.over c fs) (pyIter x) (λit mQ=>∀p,Seg M A R Y n lX (.forLoop target it body orelse env) (M.den<|.forLoop target it body orelse env)
  (.ret (λr=>((match r with|.ok f=>(.pure f:Sem Flow)|.error e=>.raise e).onRaise λx=>do
  if(<-field x 1)==Value.none then unsupported "frame.own-activation:exception-without-traceback"
  setFlight x env.frame).wrap K H gd lv) none (gd false) (lv []) c p []::fs) mQ) (λU U=>False) lD) (λU U=>False) s):
  Seg M A R Y n lX c ((exec (.For target iter body orelse pos) env).wrap K H gd lv) fs s:=by
  simp[exec_For];refine seg_at ?_;show Seg M A R Y n lX c ((eval iter env>>=λe=>foldedSetIterable iter env e>>=λx=>standAt iter.pos>>=λU=>holding [x] (pyIter x)>>=λit=>runOwn (.forLoop target it body orelse env) env).wrap K H gd lv) fs s;rw[eN<|eval iter env,fX];refine j9<|bL h (λx lD sI=>?_) λU U z=>z.elim;rw[hs x];refine seg_at ?_;show Seg M A R Y n lX c ((holding [x] (pyIter x)>>=λit=>runOwn (.forLoop target it body orelse env) env).wrap K H gd lv) fs lD;rw[eN,fX];refine j9<|cL<|bL sI (λit mQ Er=>?_) λU U z=>z.elim;exact seg_call Er
theorem Ay{n:Nat}{lX:Shared}{fs:List Frame}{s:Shared}{env:Env}{target:Expr}{it:Value}{body orelse:List Stmt}
 (h:wpAny (model PG w) (A.over (.forLoop target it body orelse env) fs) (pyNext it) (λo s'=>match o with
  |none=>Seg (model PG w) A R Y n lX (.block orelse env) ((model PG w).den<|.block orelse env) fs s'
  |some v=>wpAny (model PG w) (A.over (.forLoop target it body orelse env) fs) (letOwnedTupleGo target it v) (λU s1=>wpAny (model PG w) (A.over (.forLoop target it body orelse env) fs) (assign target env v) (λU zN=>
   Seg (model PG w) A R Y n lX (.forLoop target it body orelse env) ((execs body env).wrap (λf=>match f with
    |.next|.cont=>.pure<|.again<|.forLoop target it body orelse env
    |.brk=>.pure<|.done .next
    |.ret v=>.pure<|.done<|.ret v) (λe=>(do noteFrame e env;theTreesLotGoes e:Sem Unit).wrap (λU=>.raise e) .raise id id) id id) fs zN) (λU U=>False) s1) (λU U=>False) s')
  (λU U=>False) s):
 Seg (model PG w) A R Y n lX (.forLoop target it body orelse env) ((model PG w).den<|.forLoop target it body orelse env) fs s:=by
 exists w,A,R,Y,n,lX,fs,s,env,target,it,body,orelse,_;show Seg _ A R Y n lX _ ((forTurn target it body orelse env).onRaise (λx=>do noteFrame x env;theTreesLotGoes x)) fs s;rw[Sem.onRaise_eq_wrap];refine seg_at ?_;show Seg _ A R Y n lX _ ((((pyNext it).onRaise λU=>standAt {target.pos with line:=0})>>=λo=>(match o with
  |none=>again<|.block orelse env
  |some v=>letOwnedTupleGo target it v>>=λU=>assign target env v>>=λU=>execs body env>>=λf=>(match f with
   |.next=>again<|.forLoop target it body orelse env
   |.cont=>again<|.forLoop target it body orelse env
   |.brk=>pure<|.done .next
   |.ret v=>pure (.done<|.ret v):Sem PySem.Fin):Sem PySem.Fin)).wrap _ _ _ _) fs s
 rw[eN,fX];refine j9<|wpAny_onRaise<|bL h (λo s' ho=>?_) λU U z=>z.elim;rcases o with _|v
 .exact seg_again rfl ho
 .dsimp only at ho⊢;rw[eN<|letOwnedTupleGo target it v,fX];refine j9<|bL ho (λU s1 h1=>?_) λU U z=>z.elim;rw[eN<|assign target env v,fX];refine j9<|bL h1 (λU s2 h2=>?_) λU U z=>z.elim;rw[eN<|execs body env,fX];rw[Sem.wrap_congr (execs body env) _ _ (K':=λf=>match f with
   |.next|.cont=>.pure<|.again<|.forLoop target it body orelse env
   |.brk=>.pure<|.done .next
   |.ret v=>.pure<|.done<|.ret v)
   (λf=>by induction f<;>rfl)
   (λe=>by first|exact Sem.bind_eq_wrap _ _|(show do noteFrame e env;theTreesLotGoes e.bind (λU=>.raise e)=_;rw[Sem.bind_eq_wrap]))]
  exact h2
end
inductive V where
 |none|bool (b:Bool)|int (i:Int)|str (s:Str)|ref (i:Nat)|top (a:Addr)|ty (n:String)|bi (id:String)
 deriving Inhabited
def V.enc:V->Nat×Bool×Int×Str×String
 |.none=>(0,false,0,default,"")|.bool b=>(1,b,0,default,"")|.int i=>(2,false,i,default,"")|.str x=>(3,false,0,x,"")|.ref i=>(4,false,i,default,"")|.top i=>(5,false,(i:Nat),default,"")|.ty n=>(6,false,0,default,n)|.bi n=>(7,false,0,default,n)
def V.dec(p:Nat×Bool×Int×Str×String):V:=[V.none,.bool p.2.1,.int p.2.2.1,.str p.2.2.2.1,.ref p.2.2.1.toNat,.top p.2.2.1.toNat,.ty p.2.2.2.2,.bi p.2.2.2.2].getD p.1 .none
theorem V.dec_enc(v):V.dec v.enc=v:=by induction v<;>rfl
noncomputable instance (a b:V):Decidable<|a=b:=decidable_of_iff (a.enc=b.enc) ⟨λh=>a.dec_enc▸b.dec_enc▸aV V.dec h,aV V.enc⟩
set_option genInjectivity false in
inductive AO where
 |list (xs:List V)|tuple (xs:List V)|dict (es:List<|Str×V)|lT (es:List<|Str×V) (ep:Nat)|set (xs:List Str)
 |inst (C:Addr) (d:Nat) (xs:List V)|cell (v:Option V)|bound (f:Addr) (self:V)|m6 (l:Nat) (k:Nat)|lend|mw (it:Nat)|vals (d:Nat)|range (a b c:Int)|dq|other (n:String)|oR (zs:List Int) (o:Obj)
 deriving Inhabited
theorem tuI(h:AO.tuple a=AO.tuple b):a=b:=by injection h
theorem diI(h:AO.dict a=AO.dict b):a=b:=by injection h
theorem liI(h:AO.list a=AO.list b):a=b:=by injection h
theorem inI(h:AO.inst a b c=AO.inst d e f):c=f:=by injection h
noncomputable abbrev Hp:=List AO
noncomputable abbrev Loc:=List<|Str×V
def VC(ρ:List Addr):V->Value->Prop
 |.none,v=>v=.none
 |.bool b,v=>v=.bool b
 |.int i,v=>∃t,v=.int i t
 |.str x,v=>∃t,v=.str x t
 |.ref i,v=>∃a,ρ[i]?=some a/\v=.ref a
 |.top a,v=>v=.ref a
 |.ty n,v=>v=.type n
 |.bi id,v=>v=.builtin id
inductive lH{α β:Type}(R:α->β->Prop):List α->List β->Prop
 |nil:lH R [] []
 |cons {a b l m}:R a b->lH R l m->lH R (a::l) (b::m)
def EC(w:World)(ρ:List Addr)(e:Str×V)(d:DictEntry):Prop:=
 (∃t,d.key=.str e.1 t)/\d.hash=PyData.keyHash w.params e.1/\VC ρ e.2 d.val
def OC(w:World)(ρ:List Addr):AO->Obj->Prop
 |.list xs,o=>∃vs n,o=⟨.type "list",none,.seq vs n,#[]⟩/\lH (VC ρ) xs vs.toList
 |.tuple xs,o=>∃vs n,o=⟨.type "tuple",none,.seq vs n,#[]⟩/\lH (VC ρ) xs vs.toList
 |.dict es,o=>∃ds n,o=⟨.type "dict",none,.dict ds n,#[]⟩/\lH (EC w ρ) es ds.toList/\(es.map (·.1)).Nodup
 |.lT es n,o=>∃ds,o=⟨.type "dict",none,.dict ds n,#[]⟩/\lH (EC w ρ) es ds.toList/\(es.map (·.1)).Nodup
 |.set xs,o=>∃es ep t,o.ExactSet/\o.data=.set es ep t/\ElemsOf (strKind PySem.Challenge.pw_ny0438_01 w) es.toList/\(∀k,k∈xs<->∃e∈es.toList,Value.isStrOf k e.2=true)/\es.size<scanBound/\t.fits es.size=true/\es.size=xs.length
 |.inst C d xs,o=>∃(a:Addr)(vs:List Value),ρ[d]?=some a/\o=⟨.ref C,some a,.plain,(vs.map some).toArray⟩/\lH (VC ρ) xs vs
 |.cell v,o=>∃u,o=⟨.type "cell",none,.cell u,#[]⟩/\(match v,u with|none,none=>True|some x,some y=>VC ρ x y|_,_=>False)
 |.bound f v,o=>∃y,o=⟨.type "method",none,.fields #[.ref f,y],#[]⟩/\VC ρ v y
 |.m6 l k,o=>∃a,ρ[l]?=some a/\o=⟨.type "list_iterator",none,.fields #[.ref a,.int k 0],#[]⟩
 |.mw i,o=>∃(a:Addr),ρ[i]?=some a/\o=⟨.type "method-wrapper",none,.fields #[.builtin "list_iterator.__next__",.ref a],#[]⟩
 |.lend,o=>∃vs,o=⟨.type "list_iterator",none,.fields vs,#[]⟩/\vs[0]?=some .none
 |.vals d,o=>∃(a:Addr)(sl:Array<|Option Value),ρ[d]?=some a/\o=⟨.type "dict_values",none,.fields #[.ref a],sl⟩
 |.range a b c,o=>∃t u v,o=⟨.type "range",none,.fields #[.int a t,.int b u,.int c v],#[]⟩
 |.dq,o=>o={cls:=.type "collections.deque",data:=.fields #[.none,rawInt 0]}
 |.other n,o=>∃vs,o={cls:=.type n,data:=.fields vs}
 |.oR zs ob,o=>o=ob/\∃vs n,ob=⟨.type "list",none,.seq vs n,#[]⟩/\lH (VC []) (zs.map V.int) vs.toList
theorem VC.mono(h:ρ<+:lI)(c:VC ρ v x):VC lI v x:=by
 obtain⟨t,rfl⟩:=h;induction v<;>try exact c
 obtain⟨a,q8⟩:=c;refine⟨a,?_,q8.2⟩;exact a6 (bO (aU.mp q8.1).1)<|q8.1
theorem lH.imp{α β:Type}{R S:α->β->Prop}(f:∀a b,R a b->S a b){l m}(h:lH R l m):lH S l m:=by
 induction h with
 |nil=>exact .nil
 |cons h _ ih=>exact .cons (f _ _ h) ih
theorem lH.length{α β:Type}{R:α->β->Prop}{l m}(h:lH R l m):l.length=m.length:=by
 induction h with
 |nil=>rfl
 |cons _ _ ih=>exact aV (· +1) ih
theorem lH.append{α β:Type}{R:α->β->Prop}{l l':List α}{m m':List β}(h:lH R l m)(k:lH R l' m'):lH R (l++l')<|m++m':=by
 induction h with
 |nil=>exact k
 |cons a _ ih=>exact .cons a ih
theorem lH.get{α β:Type}{R:α->β->Prop}{l:List α}{m:List β}(h:lH R l m){i:Nat}{a:α}(e:l[i]?=some a):∃b,m[i]?=some b/\R a b:=by
 induction h generalizing i with
 |nil=>exact nomatch i<;>cases e
 |cons r t ih=>
  rcases i with _|i
  .obtain rfl:=aA e;exact⟨_,rfl,r⟩
  .exact ih (by simpa using e)
theorem mR(h:ρ<+:lI){i:Nat}{a:Addr}(e:ρ[i]?=some a):lI[i]?=some a:=by obtain⟨t,rfl⟩:=h;exact a6 (bO (aU.mp e).1)<|e
theorem EC.mono(h:ρ<+:lI)(c:EC w ρ e d):EC w lI e d:=⟨c.1,c.2.1,c.2.2.mono h⟩
theorem OC.mono(h:ρ<+:lI)(c:OC w ρ o x):OC w lI o x:=by
 exists w,ρ,lI,o,x,_;induction o with
 |list xs=>obtain⟨vs,n,e,a⟩:=c;exact⟨vs,n,e,a.imp λU U=>VC.mono h⟩
 |tuple xs=>obtain⟨vs,n,e,a⟩:=c;exact⟨vs,n,e,a.imp λU U=>VC.mono h⟩
 |dict es=>obtain⟨ds,n,e,a,d⟩:=c;exact⟨ds,n,e,a.imp λU U=>EC.mono h,d⟩
 |lT es n=>obtain⟨ds,e,a,d⟩:=c;exact⟨ds,e,a.imp λU U=>EC.mono h,d⟩
 |set xs=>exact c
 |inst C d xs=> obtain⟨a,vs,q8⟩:=c;exact⟨a,vs,mR h q8.1,q8.2.1,q8.2.2.imp λU U=>VC.mono h⟩
 |bound f v=>obtain⟨y,e,hv⟩:=c;exact⟨y,e,hv.mono h⟩
 |m6 l k=>obtain⟨a,ha,e⟩:=c;exact⟨a,mR h ha,e⟩
 |mw i=>obtain⟨a,ha,e⟩:=c;exact⟨a,mR h ha,e⟩
 |lend=>exact c
 |vals d=>obtain⟨a,sl,ha,e⟩:=c;exact⟨a,sl,mR h ha,e⟩
 |range a b c'=>exact c
 |cell v=> obtain⟨u,e,a⟩:=c;refine⟨u,e,?_⟩;induction v<;>induction u<;>first|exact a|exact VC.mono h a
 |dq=>exact c
 |other n=>exact c
 |oR zs ob=>exact c
def yM(F:List Addr)(b:Addr)(o o':Obj):Prop:=
 o'=o\/(b∈F/\b≠builtinsNs/\∃sl,o'={o with slots:=sl})\/(o.cls=.none/\b=880/\builtinsNs∈F/\∃vs more,(o.data=.fields vs/\(TriplesOk vs.toList->TriplesOk (vs++more).toList))/\o'={o with data:=.fields (vs++more)})
def qX(F:List Addr)(ail h:Heap):Prop:=(∀b o,ail.get? b=some o->∃o',h.get? b=some o'/\yM F b o o')/\∀f∈F,∀o,ail.get? f=some o->∃es n,o.data=.dict es n
theorem yM.refl{F:List Addr}(b)(o):yM F b o o:=.inl rfl
theorem yM.trans{F:List Addr}{o o' R6:Obj}(x:yM F b o o')(y:yM F b o' R6)(hF:b∈F->∃es n,o.data=.dict es n):yM F b o R6:=by
 exists F,b,o,o',R6,_;rcases x with rfl|⟨hc,YT,sl,rfl⟩|⟨hc,hb,hg,vs,more,hd,rfl⟩
 .exact y
 .exists sl,_;rcases y with rfl|⟨_,_,sl',rfl⟩|⟨TP,hr⟩
  .exact .inr (.inl ⟨hc,YT,sl,rfl⟩)
  .exact .inr (.inl ⟨hc,YT,sl',rfl⟩)
  .exists vs,more,(q_:hr.2.2);obtain⟨hd,uZ⟩:=q_;exists es,n,(p0:hF hc);rw[show o.data=.fields vs from hd.1]at p0;injection p0
 .exists vs,more,_;rcases y with rfl|⟨TP,_⟩|⟨_,_,_,YU,YV,p0,rfl⟩
  .exact .inr (.inr ⟨hc,hb,hg,vs,more,hd,rfl⟩)
  .exists es,n,(p0:hF TP);have p0:=hd.1▸p0;injection p0
  .obtain⟨p0,tr'⟩:=p0;injection p0 with e;subst e;exact .inr<|.inr ⟨hc,hb,hg,vs,more++YV,⟨hd.1,λh=>by exact fS▸(tr'<|hd.2 h)⟩,by rw[fS]⟩
theorem qX.exact{F:List Addr}(k:qX F ail h){b:Addr}{o:Obj}(e:ail.get? b=some o)(h1:b∉F)(h2:o.cls≠.none\/b=cStatics):h.get? b=some o:=by
 exists F,ail,h,b,o,[k,e,h1,h2];exists o',(q8:k.1 b o e);rcases q8.2 with rfl|⟨hc,_⟩|⟨hc,hb,_⟩
 .exact q8.1
 .exact absurd hc h1
 .rcases h2 with h2|h2
  .exact absurd hc h2
  .replace h2:=hb▸h2;rcases h2 with _|_
theorem qX.same{F:List Addr}(k:qX F ail h)(hs:Heap.SameBut a h h')(ha:ail.get? a=none):qX F ail h':=by refine⟨λb o e=>?_,k.2⟩;exists o',(q8:k.1 b o e);refine⟨o',(hs.2 b ?_).trans q8.1,q8.2⟩;rintro rfl;replace e:=ha▸e;injection e
theorem qX.ext{F:List Addr}(k:qX F ail h)(x:∀b o,h.get? b=some o->h'.get? b=some o):qX F ail h':=⟨λb o e=>by obtain⟨o',q8⟩:=k.1 b o e;exact⟨o',x _ _ q8.1,q8.2⟩,k.2⟩
theorem qX.push{F:List Addr}(k:qX F ail h)(o):qX F ail<|h.push o:=k.ext λU U e=>aZ o e
theorem qX.ns{F:List Addr}(k:qX F ail h){a:Addr}{m:Str->Option Value}(n:ail.Ns a m):h.Ns a m:=by
 exists F,ail,h,a,m,[k,n];exists _;exists o,es,ep,(q_:n);obtain⟨ho,hd,r⟩:=q_;exists o',(q_:k.1 a o ho);obtain⟨e',l⟩:=q_;rcases l with rfl|⟨_,_,sl,rfl⟩|⟨_,_,_,vs,more,p0,rfl⟩
 .exact k9 ⟨_,es,ep,e',hd,r⟩
 .exact k9 ⟨_,es,ep,e',hd,r⟩
 .replace p0:=hd▸p0;rcases p0.1 with _|_
structure Za(F:List Addr)(w:World)(ail:Heap)(ρ:List Addr)(H:Hp)(h:Heap):Prop where
 len:ρ.length=H.length
 nd:ρ.Nodup
 obj:∀(i:Nat)(a:Addr)(ao:AO),ρ[i]?=some a->H[i]?=some ao->∃o,h.get? a=some o/\OC w ρ ao o
 new:∀a∈ρ,ail.get? a=none/\2<=a
 keep:qX F ail h
theorem Za.lt{F:List Addr}{ρ:List Addr}{H:Hp}(S:Za F w ail ρ H h){i:Nat}{a:Addr}(e:ρ[i]?=some a):∃o,h.get? a=some o:=by obtain⟨o,q8⟩:=S.obj i _ (H[i]'(S.len▸(aU.mp e).1)) e<|aP _;exact⟨o,q8.1⟩
theorem Za.same{F:List Addr}(S:Za F w ail ρ H h)(hs:Heap.SameBut L h h')(hL:ail.get? L=none)(hρ:L∉ρ):Za F w ail ρ H h':=
 ⟨S.len,S.nd,λi a ao e1 e2=>by obtain⟨o,q8⟩:=S.obj i a ao e1 e2;refine⟨o,(hs.2 a ?_).trans q8.1,q8.2⟩;rintro rfl;exact hρ<|aR e1,S.new,S.keep.same hs hL⟩
theorem Za.ext{F:List Addr}{ρ:List Addr}{H:Hp}(S:Za F w ail ρ H h)(x:∀b o,h.get? b=some o->h'.get? b=some o):Za F w ail ρ H h':=
 ⟨S.len,S.nd,λi a ao e1 e2=>let⟨o,ho,c⟩:=S.obj i a ao e1 e2;⟨o,x _ _ ho,c⟩,S.new,S.keep.ext x⟩
theorem sB{F:List Addr}(k:qX F ail h)(ha:h.objs.size<=a):ail.get? a=none:=by
 rcases e:ail.get? a with _|o
 .rfl
 .obtain⟨o',q8⟩:=k.1 a o e;exact absurd (b9 q8.1)<|gF.mpr ha
theorem Za.push{F:List Addr}{ρ:List Addr}{H:Hp}{o:Obj}{ao:AO}(S:Za F w ail ρ H h)(w7:935<=h.objs.size)(hf:o.isFreed=false)(c:OC w (ρ++[h.objs.size]) ao o):
 Za F w ail (ρ++[h.objs.size]) (H++[ao]) (h.push o):=by
 exists F,w,ail,h,ρ,H,o,ao,_;refine⟨by simp[S.len],?_,λi a x e1 e2=>?_,λa ha=>?_,S.keep.push o⟩
 .rw[cH];refine⟨S.nd,by simp,?_⟩;intro a ha b hb;rw[aE]at hb;subst hb;obtain⟨i,hi⟩:=cE ha;exists o',(rA:S.lt hi);exact bI<|b9 rA
 .by_cases hi:i<ρ.length
  .rw[bO hi]at e1;rw[bO<|S.len▸hi]at e2;exists o',(q8:S.obj i a x e1 e2);exact⟨o',aZ _ q8.1,q8.2.mono<|⟨_,rfl⟩⟩
  .have qv:i=ρ.length:=by have:=(aU.mp e1).1;simp at this;exact jK this hi
   subst qv;rw[aS<|aI _,cD]at e1;rw[aS<|S.len▸aI _,S.len,cD]at e2;obtain rfl:=aA e1;obtain rfl:=aA e2;exact⟨o,bT _ hf,c⟩
 .rcases aO.mp ha with h'|h'
  .exact S.new a h'
  .rw[aE]at h';subst h';exact⟨sB S.keep<|aI _,bC (cR _ _) w7⟩
theorem JO{l:List Addr}(nd:l.Nodup){i j:Nat}{a:Addr}(hi:l[i]?=some a)(hj:l[j]?=some a):i=j:=by
 have q9:=aU.mp hi;have q8:=aU.mp hj;have p:=dC.mp nd;rcases Nat.lt_trichotomy i j with h|h|h
 .exact absurd (q9.2.trans q8.2.symm) (p i j q9.1 q8.1 h)
 .exact h
 .exact absurd (q8.2.trans q9.2.symm) (p j i q8.1 q9.1 h)
section
variable{k n fu i j:Nat}{ρ lI:List Addr}{s s':Shared}{h h' ail:Heap}{w:World}{env:Env}
def V.sh(n:Nat):V->V
 |.ref i=>.ref<|n+i
 |v=>v
def AO.sh(n:Nat):AO->AO
 |.list xs=>.list<|xs.map<|V.sh n
 |.tuple xs=>.tuple<|xs.map<|V.sh n
 |.dict es=>.dict<|es.map λe=>(e.1,V.sh n e.2)
 |.lT es ep=>.lT (es.map λe=>(e.1,V.sh n e.2)) ep
 |.set xs=>.set xs
 |.inst C d xs=>.inst C (n+d)<|xs.map<|V.sh n
 |.cell v=>.cell<|v.map<|V.sh n
 |.bound f v=>.bound f<|V.sh n v
 |.m6 l k=>.m6 (n+l) k
 |.lend=>.lend
 |.mw i=>.mw<|n+i
 |.vals d=>.vals<|n+d
 |.range a b c=>.range a b c
 |.dq=>.dq
 |.other n=>.other n
 |.oR zs o=>.oR zs o
theorem D7(h:lI[i]?=some a):(ρ++lI)[ρ.length+i]?=some a:=by refine a6 (aS<|aT _ _) ?_;rw[b5];exact h
theorem VC.sh(c:VC lI v x):VC (ρ++lI) (V.sh ρ.length v) x:=by
 induction v with
 |ref i=>obtain⟨a,ha,rfl⟩:=c;exact⟨a,D7 ha,rfl⟩
 |_=>exact c
theorem lH.sh(h:lH (VC lI) l m):lH (VC<|ρ++lI) (l.map<|V.sh ρ.length) m:=by
 induction h with
 |nil=>exact .nil
 |cons h _ ih=>exact .cons h.sh ih
theorem EC.sh(c:EC w lI e d):EC w (ρ++lI) (e.1,V.sh ρ.length e.2) d:=⟨c.1,c.2.1,VC.sh c.2.2⟩
theorem lH.shE(h:lH (EC w lI) l m):lH (EC w<|ρ++lI) (l.map λe=>(e.1,V.sh ρ.length e.2)) m:=by
 induction h with
 |nil=>exact .nil
 |cons h _ ih=>exact .cons h.sh ih
theorem OC.sh{ρ lI:List Addr}{ao:AO}{o:Obj}(c:OC w lI ao o):OC w (ρ++lI) (AO.sh ρ.length ao) o:=by
 exists w,ρ,lI,ao,o,_;have keys:∀es:List<|Str×V,(es.map λe=>(e.1,V.sh ρ.length e.2)).map (·.1)=es.map (·.1):=λes=>by refine a6 bX ?_;rfl
 induction ao with
 |list=>obtain⟨vs,n,e,h⟩:=c;exact⟨vs,n,e,h.sh⟩
 |tuple=>obtain⟨vs,n,e,h⟩:=c;exact⟨vs,n,e,h.sh⟩
 |dict es=>obtain⟨ds,n,e,h,hd⟩:=c;exact⟨ds,n,e,h.shE,by rw[keys];exact hd⟩
 |lT es ep=>obtain⟨ds,e,h,hd⟩:=c;exact⟨ds,e,h.shE,by rw[keys];exact hd⟩
 |set xs=>exact c
 |inst C d xs=>obtain⟨a,vs,h,e,hx⟩:=c;exact⟨a,vs,D7 h,e,hx.sh⟩
 |cell v=> obtain⟨u,e,h⟩:=c;refine⟨u,e,?_⟩;induction v<;>induction u<;>first|exact h|exact VC.sh h
 |bound f v=>obtain⟨y,e,h⟩:=c;exact⟨y,e,h.sh⟩
 |m6 l k=>obtain⟨a,h,e⟩:=c;exact⟨a,D7 h,e⟩
 |lend=>exact c
 |mw i=>obtain⟨a,h,e⟩:=c;exact⟨a,D7 h,e⟩
 |vals d=>obtain⟨a,sl,h,e⟩:=c;exact⟨a,sl,D7 h,e⟩
 |range=>exact c
 |dq=>exact c
 |other n=>exact c
 |oR zs ob=>exact c
end
abbrev KF(w:World):Frag:=m5 w.params
structure nY(w:World)(h:Heap):Prop where
 K:(KF w).In h
 glob:∃mg,h.Ns mainGlobals mg
 bi:∃mb,h.Ns builtinsNs mb/\∀x:Str,x≠ "__name__" ->mb x=bootBuiltins x
 lim:h.NoLimit
 bm:∃ob,h.get? 4=some ob/\ob.cls=.type "module" /\ob.dict=some builtinsNs/\ob.data=.plain
 tab:∃ps,h.get? 880=some {cls:=.none,data:=.fields ps}/\TriplesOk ps.toList
set_option genInjectivity false in
structure Cx where
 w:World
 A:Around
 env:Env
 ail:Heap
 F:List Addr
set_option genInjectivity false in
structure St where
 H:Hp
 loc:Loc
theorem yT:Nonempty St:=⟨⟨[],[]⟩⟩
theorem yC:Nonempty Cx:=yW.elim λw=>⟨⟨w,{},default,{},[]⟩⟩
def LR(ρ:List Addr):Option V->Option Value->Prop
 |none,none=>True
 |some v,some x=>VC ρ v x
 |_,_=>False
theorem LR.mono(h:ρ<+:lI)(c:LR ρ v x):LR lI v x:=by induction v<;>induction x<;>first|exact c|exact VC.mono h c
structure OT(ρ:List Addr)(env:Env)(ail h:Heap)(loc:Loc):Prop where
 ns:∃m,h.Ns env.locals m/\∀x,env.kindOf x=some .local->LR ρ (loc.lookup x) (m x)
 none:ail.get? env.locals=none
 out:env.locals∉ρ
 cell:∀x a,env.cells.lookup x=some a->a∉ρ/\a≠env.locals/\∃u,h.IsCell a u/\LR ρ (loc.lookup x) u
 own:∀x a,env.cells.lookup x=some a->env.kindOf x=some .cell->ail.get? a=.none/\∀y,env.cells.lookup y=some a->y=x
 has:∀x,(env.kindOf x=some .cell\/env.kindOf x=some .free)->env.cells.lookup x≠.none
 kind:∀x a,env.cells.lookup x=some a->env.kindOf x≠some .local
 lo:935<=env.locals
structure kZ(C:Cx)(ρ:List Addr)(st:St)(s:Shared):Prop where
 sim:Za C.F C.w C.ail ρ st.H s.heap
 fr:OT ρ C.env C.ail s.heap st.loc
 tk:s.toks≠0
def s7(F:List Addr)(g g':Array GenState):Prop:=∃l:List GenState,g'=g++l.toArray/\(∀x∈l,x.bare=true)/\(builtinsNs∉F->l=[])
structure mY(F:List Addr)(s s':Shared):Prop where
 os:s'.os=s.os
 dr:s'.drawn=s.drawn
 tk:s.toks<=s'.toks
 gn:s7 F s.gens s'.gens
theorem s7.refl{F:List Addr}(g):s7 F g g:=⟨[],rfl,λU h=>absurd h<|bG,λU=>rfl⟩
theorem s7.trans{F:List Addr}(x:s7 F a b)(y:s7 F b c):s7 F a c:=by
 exists F,a,b,c,_;exists l,(q_:x);obtain⟨rfl,q9⟩:=q_;exists m,(q_:y);obtain⟨rfl,q8⟩:=q_;refine⟨l++m,by simp[fS],λz hz=>?_,λq=>by simp only[q9.2 q,q8.2 q];rfl⟩;rcases aO.mp hz with q|q
 .exact q9.1 z q
 .exact q8.1 z q
theorem mY.refl{F:List Addr}(s):mY F s s:=⟨rfl,rfl,aI _,.refl _⟩
theorem mY.trans{F:List Addr}(x:mY F a b)(y:mY F b c):mY F a c:=⟨y.os.trans x.os,y.dr.trans x.dr,bC x.tk y.tk,x.gn.trans y.gn⟩
theorem nn{α:Type}{x:α}{P:Prop}(h:none=some x):P:=by rcases h with _|_
theorem Fd{α:Type}[Decidable c]{x:Option α}{q:α}(h:(if c then x else none)=some q):c/\x=some q:=by
 by_cases e:c
 .exact⟨e,(aH e).symm.trans h⟩
 .exact nn ((aL e).symm.trans h)
inductive oV(β:Type)where
 |ok (b:β)
 |exc (c:V)
theorem yO{β:Type}:Nonempty<|oV β:=⟨.exc .none⟩
inductive TbE(ail:Heap)(L:Addr)(ρ:List Addr)(vs:Array Value)(a:Addr)(h:Heap):Prop
 |mk (t:Addr) (ot:Obj) (vt:Array Value) (fl:Value) (e1:vs[1]?=some (.ref t)) (e2:h.get? t=some ot) (e3:ot.data=.fields vt) (e4:vt[3]?=some fl) (e5:t∉ρ) (e6:ail.get? t=none) (e7:t≠L) (e8:t≠a)
inductive abt(ail:Heap)(L:Addr)(ρ:List Addr)(c:V)(e:Value)(h:Heap):Prop
 |mk (a:Addr) (o:Obj) (vs:Array Value) (a0:Value) (e1:e=.ref a) (e2:h.get? a=some o) (e3:o.data=.fields vs) (e4:vs[0]?=some a0) (e5:VC [] c o.cls) (e6:a∉ρ) (e7:ail.get? a=none) (e8:a≠L) (tb:vs[1]?=some .none\/TbE ail L ρ vs a h)
structure oD(C:Cx)(ρ:List Addr)(c:V)(e:Value)(s:Shared):Prop where
 ex:abt C.ail C.env.locals ρ c e s.heap
section
variable{α β γ δ:Type}
noncomputable abbrev lG(β:Type):=Option<|oV β×St
def lG.then(o:lG β)(g:β->St->lG γ):lG γ:=match o with
 |none=>none
 |some (.exc c,st)=>some (.exc c,st)
 |some (.ok b,st)=>g b st
inductive UM(o:lG β)(g:β->St->lG γ)(r:oV γ)(k6:St):Prop
 |exc (c:V) (e:o=some (.exc c,k6)) (er:r=.exc c)
 |ok (b:β) (mS:St) (e:o=some (.ok b,mS)) (e':g b mS=some (r,k6))
theorem m9(h:o.then g=some (r,k6)):UM o g r k6:=by
 match o,h with
 |some (.exc c,_),h=>exact .exc c (by injection h with h;injection h with h1 h2;rw[h2]) (by injection h with h;injection h with h1 h2;exact h1.symm)
 |some (.ok b,mS),h=>exact .ok b mS rfl h
inductive PQ(C:Cx)(Rel:List Addr->β->α->Prop)(ρ:List Addr)(s:Shared)(r:oV β)(k6:St)(x:α)(s':Shared):Prop
 |mk (b:β) (lI:List Addr) (e:r=.ok b) (p:ρ<+:lI) (q:Rel lI b x) (g:kZ C lI k6 s') (n:mY C.F s s')
inductive PE(C:Cx)(ρ:List Addr)(s:Shared)(r:oV β)(k6:St)(e:Value)(s':Shared):Prop
 |mk (c:V) (lI:List Addr) (er:r=.exc c) (p:ρ<+:lI) (x:oD C lI c e s') (g:kZ C lI k6 s') (n:mY C.F s s')
def Sd(C:Cx)(t:Sem α)(Rel:List Addr->β->α->Prop)(ρ:List Addr)(s:Shared)(st:St)(o:lG β):Prop:=
 kZ C ρ st s->∀r k6,o=some (r,k6)->wpAny (model PG C.w) C.A t (PQ C Rel ρ s r k6) (PE C ρ s r k6) s
theorem Sd.qe{st:St}{Rel:List Addr->β->α->Prop}(h:kZ C ρ st s->∀r k6,o=some (r,k6)->∀Q E,(∀x s',PQ C Rel ρ s r k6 x s'->Q x s')->(∀x s',PE C ρ s r k6 x s'->E x s')->wpAny (model PG C.w) C.A t Q E s):Sd C t Rel ρ s st o:=
 λG r k6 e=>h G r k6 e _ _ (λU U h=>h) λU U h=>h
theorem Sd.ok{st:St}{b:β}(h:Sd C t Rel ρ s st o)(G:kZ C ρ st s)(e:o=some (.ok b,k6)){Q:α->Shared->Prop}
 (k:∀x s' lI,ρ<+:lI->Rel lI b x->kZ C lI k6 s'->mY C.F s s'->Q x s'):wpAny (model PG C.w) C.A t Q E s:=
  bL (h G _ _ e) (λx s' P=>by obtain⟨_,lI,e,p,q,g,n⟩:=P;obtain rfl:=oV.ok.inj e;exact k x s' lI p q g n) λU U P=>by induction P;contradiction
theorem Sd.ex{st:St}{o:lG β}(h:Sd C t Rel ρ s st o)(G:kZ C ρ st s)(e:o=some (.exc c,k6)){Q:α->Shared->Prop}
 (k:∀x s' lI,ρ<+:lI->oD C lI c x s'->kZ C lI k6 s'->mY C.F s s'->E x s'):wpAny (model PG C.w) C.A t Q E s:=
  bL (h G _ _ e) (λU U P=>by rcases P with⟨⟩;contradiction) λx s' P=>by obtain⟨_,lI,e,p,q,g,n⟩:=P;rcases e with _|_;exact k x s' lI p q g n
theorem Sd.bind{st:St}{Rel:List Addr->β->α->Prop}{YW:List Addr->δ->γ->Prop}
 (h:Sd C t Rel ρ s st o)(k:∀lI s' k6 b x,ρ<+:lI->Rel lI b x->Sd C (f x) YW lI s' k6 (g b k6)):Sd C (t>>=f) YW ρ s st<|o.then g:=by
  refine Sd.qe λG r k6 e Q E kQ kE=>aD ?_;obtain⟨c,e1,rfl⟩|⟨b,mS,e,e'⟩:=m9 e
  .exact h.ex G e1 λx s' lI p q g n=>kE _ _ ⟨c,lI,rfl,p,q,g,n⟩
  .refine h.ok G e λx lD mF hp hr lY n=>bL (k mF lD mS b x hp hr lY r k6 e') (λy mQ P=>?_) λv mQ P=>?_
   .obtain⟨d,mD,e2,FT,hr2,m2,n2⟩:=P;exact kQ _ _ ⟨d,mD,e2,hp.trans FT,hr2,m2,n.trans n2⟩
   .obtain⟨d,mD,e2,FT,hr2,m2,n2⟩:=P;exact kE _ _ ⟨d,mD,e2,hp.trans FT,hr2,m2,n.trans n2⟩
theorem Sd.pure{st:St}(h:Rel ρ b a):Sd C (pure a) Rel ρ s st<|some (.ok b,st):=by intro G r k6 e;obtain⟨rfl,rfl⟩:=bQ<|aA e;exact aM ⟨b,ρ,rfl,a8 _,h,G,.refl s⟩
theorem Sd.holding{st:St}{Rel:List Addr->β->α->Prop}(h:Sd C t Rel ρ s st o):Sd C (holding vs t) Rel ρ s st o:=
 λG r k6 e=>cL<|h G r k6 e
theorem Sd.standAt{st:St}{Rel:List Addr->β->α->Prop}(h:Sd C t Rel ρ s st o):Sd C (standAt p>>=λU=>t) Rel ρ s st o:=
 λG r k6 e=>aD<|dK<|h G r k6 e
theorem Sd.congr{st:St}{Rel:List Addr->β->α->Prop}(h:Sd C t Rel ρ s st o)(et:t'=t)(eo:o'=o):Sd C t' Rel ρ s st o':=by subst et eo;exact h
theorem Sd.nil{st:St}:Sd C t Rel ρ s st none:=λU U U e=>nn e
theorem Sd.of{st:St}{b:β}{k6:St}(h:kZ C ρ st s->∀Q:α->Shared->Prop,∀E,(∀x s' lI,ρ<+:lI->Rel lI b x->kZ C lI k6 s'->mY C.F s s'->Q x s')->wpAny (model PG C.w) C.A t Q E s):
 Sd C t Rel ρ s st (some (.ok b,k6)):=by
 intro G r uU e;obtain⟨rfl,rfl⟩:=bQ<|aA e;exact h G _ _ λx s' lI p q g n=>⟨b,lI,rfl,p,q,g,n⟩
end
theorem OT.mono(F:OT ρ env ail h loc)(p:ρ<+:lI)(out:env.locals∉lI)(acI:∀x a,env.cells.lookup x=some a->a∉lI):OT lI env ail h loc:=by obtain⟨⟨m,hn,hl⟩,b,uZ,c,o,hs,kd,lo⟩:=F;exact⟨⟨m,hn,λx hx=>(hl x hx).mono p⟩,b,out,λx a hm=>let⟨_,h2,u,h3,h4⟩:=c x a hm;⟨acI x a hm,h2,u,h3,h4.mono p⟩,o,hs,kd,lo⟩
theorem mY.lO{F:List Addr}(s)(h):mY F s {s with heap:=h}:=⟨rfl,rfl,aI _,.refl _⟩
theorem kZ.tok{st:St}{s:Shared}(G:kZ C ρ st s)(n):kZ C ρ st {s with toks:=s.toks+n}:=⟨G.sim,G.fr,by have:=G.tk;simp_all⟩
theorem mY.tok{F:List Addr}(s)(n):mY F s {s with toks:=s.toks+n}:=⟨rfl,rfl,aT ..,.refl _⟩
theorem mY.heap{F:List Addr}(s)(h)(n):mY F s {s with heap:=h,toks:=s.toks+n}:=⟨rfl,rfl,aT ..,.refl _⟩
variable{k n fu i j:Nat}{C:Cx}{ρ lI:List Addr}{st k6:St}{s s':Shared}{H H':Hp}{h h' ail:Heap}{w:World}{env:Env}{loc:Loc}
set_option genInjectivity false in
structure lR where
 glob:Str->Option V
 call:V->List V->List (Str×V)->Hp->Option (oV V×Hp)
 kp:V->Hp->Bool
 attr:V->Str->Hp->Option (oV V×Hp)
 m1:V->Str->Hp->Option (V×List V)
 setattr:V->Str->V->Hp->Option Hp
 cmp:CmpOp->V->V->Hp->Option V
 bin:Operator->V->V->Hp->Option (V×Hp)
 Bv:Operator->V->V->Hp->Option (V×Hp)
 FU:UnaryOp->V->Hp->Option V
 Hm:V->Hp->Option Bool
 item:V->V->Hp->Option (oV V×Hp)
 slice:V->V->V->V->Hp->Option (V×Hp)
 sX:V->V->V->Hp->Option Hp
 rP:V->V->Hp->Option Hp
 unpack:V->Nat->Hp->Option (List V)
 idx:V->Hp->Bool
 comp:Scope->Expr->St->lG V
 iter:V->Hp->Option (List Nat×List V)
 N3:V->Str->Bool
 raise:Scope->Expr->St->lG Unit
 star:Scope->Expr->St->lG V
 stmt:Scope->Stmt->St->lG Unit
theorem ySm:Nonempty lR:=⟨⟨λU=>none,λU U U U=>none,λU U=>false,λU U U=>none,λU U U=>none,λU U U U=>none,λU U U U=>none,λU U U U=>none,λU U U U=>none,λU U U=>none,λU U=>none,λU U U=>none,λU U U U U=>none,λU U U U=>none,λU U U=>none,λU U U=>none,λU U=>false,λU U U=>none,λU U=>none,λU U=>false,λU U U=>none,λU U U=>none,λU U U=>none⟩⟩
theorem yBs:Nonempty<|Bool->lR:=ySm.elim λS=>⟨λU=>S⟩
def put(x:Str)(v:V):Loc->Loc
 |[]=>[(x,v)]
 |(y,u)::r=>if y=x then(y,v)::r else(y,u)::put x v r
theorem Bc:put x v []=[(x,v)]:=rfl
theorem Li:put x v (e::r)=if e.1=x then(e.1,v)::r else e::put x v r:=rfl
theorem xL(x)(v):∀l y,(put x v l).lookup y=if y=x then some v else l.lookup y:=by
 intro zr;induction zr with
 |nil=>
  intro y;by_cases h:y=x
  .subst h;simp[Bc]
  .have hb:=a7.mpr h;simp[Bc,List.lookup,hb,h]
 |cons zh r mB=>
  obtain⟨z,u⟩:=zh;intro y;dsimp only[Bc,Li];by_cases hz:z=x
  .subst hz;rw[aH rfl];by_cases h:y=z
   .replace h:=h.symm;subst h;simp
   .have hb:=a7.mpr h;simp[List.lookup,hb,h]
  .rw[aL hz];by_cases h:y=z
   .subst h;have:=hz;simp[this]
   .have hb:=a7.mpr h;simp[List.lookup,hb,mB y]
def J6:Const->Option V
 |.none=>some .none
 |.bool b=>some<|.bool b
 |.int i=>some<|.int i
 |.str x=>some<|.str x
 |_=>none
def mV(st:St){β:Type}(o:Option<|oV β×Hp):lG β:=o.map λp=>(p.1,{st with H:=p.2})
def rD(st:St){β:Type}(o:Option<|β×Hp):lG β:=o.map λp=>(.ok p.1,{st with H:=p.2})
def pE(st:St){β:Type}(o:Option β):lG β:=o.map λb=>(.ok b,st)
def vD:Expr->Bool
 |.Set ..=>true
 |_=>false
def n6:Expr->Bool
 |.Starred ..=>true
 |_=>false
def o8(as:List Expr)(ks:List Keyword):Bool:=as.all (λa=>!n6 a)&&ks.all λk=>k.arg.isSome
def eh(x:Str):List Expr->Bool
 |[.Starred ..]=>true
 |[.GeneratorExp ..]=>true
 |[.Constant (.str _) _ _,.Constant (.str _) _ _]=>x== "replace"
 |_=>false
def t9:Expr->Bool
 |.Call (.Name id _) [] [] _=>id != "super"
 |_=>true
def YK:List Expr->Option V
 |[.Constant (.str x) _ _]=>some<|.str x
 |_=>none
def xQ(sc:Scope)(x:Str):Bool:=x != "__debug__" &&x != "__classdict__" &&sc.kind==.function
def mX(sc:Scope)(x:Str)(v:V)(st:St):lG Unit:=
 if sc.kind==.function&&(sc.names.lookup x==some .local||sc.names.lookup x==some .cell)then some (.ok (),{st with loc:=put x v st.loc})else none
def tT(ao:AO)(st:St):lG V:=some (.ok<|.ref st.H.length,{st with H:=st.H++[ao]})
section
variable(S:lR)(env:Scope)
def D0(x:Str)(st:St):lG V:=
 if xQ env x then
  match env.names.lookup x with
  |some .local|some .cell|some .free=>pE st<|st.loc.lookup x
  |some .globalImplicit=>pE st<|S.glob x
  |_=>none
 else none
def u3:Expr->Option (Expr×Str×Pos)
 |.Attribute o x p=>some (o,x,p)
 |_=>none
def oP:Expr->Option (Str×Pos)
 |.Name x p=>some (x,p)
 |_=>none
def Ap:Expr->Option (Expr×List Expr×List Keyword×Pos)
 |.Call f as ks p=>some (f,as,ks,p)
 |_=>none
def v5:Expr->Option (Option Expr×Option Expr×Option Expr)
 |.Slice l u x _=>some (l,u,x)
 |_=>none
def H9{α:Type}:List α->Option α
 |[x]=>some x
 |_=>none
def Yh:Expr->Option (Str×Nat×Pos)
 |.Constant c k p=>(match c with
  |.str a=>some (a,k,p)
  |_=>none)
 |_=>none
def vm:List Expr->Option (List Str)
 |[]=>some []
 |e::r=>(Yh e).bind λa=>(vm r).bind λl=>some (a.1::l)
def oy:Expr->Option (List Expr×Nat×Pos)
 |.Tuple es k p=>some (es,k,p)
 |_=>none
def EO(op:CmpOp)(r:Expr):Option<|List Str:=match op with
 |.In=>(oy r).bind λq=>vm q.1
 |_=>none
def P6:V->Option Str
 |.str x=>some x
 |_=>none
section
variable(ev:Expr->St->lG V)(te:Expr->St->lG Bool)
def Pb:Option Expr->St->lG V
 |none,st=>some (.ok .none,st)
 |some e,st=>ev e st
def ud(op:BoolOp)(t:Bool):Bool:=match op with
 |.And=>!t
 |.Or=>t
def Ve(op:BoolOp):List Expr->St->lG V
 |[],_=>none
 |x::r,st=>match r with
  |[]=>ev x st
  |_::_=>(ev x st).then λv st=>(pE st<|S.Hm v st.H).then λt st=>bif ud op t then some (.ok v,st)else Ve op r st
def D6(op:BoolOp):List Expr->St->lG Bool
 |[],st=>some (.ok<|op==.And,st)
 |x::r,st=>(te x st).then λb st=>bif ud op b then some (.ok b,st)else D6 op r st
def vB:List Expr->St->lG (List V)
 |[],st=>some (.ok [],st)
 |e::r,st=>if n6 e then none else(ev e st).then λv st=>(vB r st).then λvs st=>some (.ok (v::vs),st)
def vv:List Keyword->St->lG (List<|Str×V)
 |[],st=>some (.ok [],st)
 |k::r,st=>match k.arg with
  |some n=>(ev k.value st).then λv st=>(vv r st).then λvs st=>some (.ok ((n,v)::vs),st)
  |none=>none
def akE(as:List Expr)(ks:List Keyword)(st:St):lG<|List V×List (Str×V):=(vB ev as st).then λvs st=>(vv ev ks st).then λkv st=>some (.ok (vs,kv),st)
def jx(op:CmpOp)(l r:Expr)(st:St):lG V:=match EO op r with
 |some xs=>(ev l st).then λv st=>pE st<|(P6 v).bind λx=>if(PyData.strOk x&&xs.all PyData.strOk)=true/\xs.length<1000 then some (.bool<|xs.any (· ==x))else none
 |none=>(ev l st).then λa st=>(ev r st).then λb st=>pE st<|S.cmp op a b st.H
def Z2:Expr->St->lG V
 |.Constant c _ _,st=>pE st<|J6 c
 |.Name x _,st=>D0 S env x st
 |.BoolOp op vs _,st=>Ve S ev op vs st
 |.UnaryOp op x _,st=>(ev x st).then λv st=>pE st<|S.FU op v st.H
 |.BinOp l op r _,st=>(ev l st).then λa st=>(ev r st).then λb st=>rD st<|S.bin op a b st.H
 |.IfExp t b o _,st=>(te t st).then λc st=>bif c then ev b st else ev o st
 |.Compare l ops rs _,st=>(H9 ops).bind λop=>(H9 rs).bind λr=>if vD r then none else jx S ev op l r st
 |.Attribute o x _,st=>if t9 o then(ev o st).then λv st=>mV st (S.attr v x st.H)else none
 |.NamedExpr t e _,st=>(oP t).bind λx=>(ev e st).then λv st=>(mX env x.1 v st).then λU st=>some (.ok v,st)
 |.List es _,st=>(vB ev es st).then λvs st=>if vs.length<1000 then tT (.list vs) st else none
 |.Tuple es _ _,st=>(vB ev es st).then λvs st=>if vs.length<1000 then tT (.tuple vs) st else none
 |.Subscript o i _,st=>(ev o st).then λa st=>match v5 i with
  |some p=>(Pb ev p.1 st).then λvl st=>(Pb ev p.2.1 st).then λvu st=>(Pb ev p.2.2 st).then λvx st=>if S.idx a st.H then rD st (S.slice a vl vu vx st.H)else none
  |none=>(ev i st).then λb st=>if S.idx a st.H then mV st (S.item a b st.H)else none
 |.JoinedStr vs _,st=>pE st<|YK vs
 |.ListComp elt gens scope pos,st=>S.comp env (.ListComp elt gens scope pos) st
 |.Dict ks vs _,st=>if ks.isEmpty&&vs.isEmpty then tT (.dict []) st else none
 |.Call f as ks p,st=>match u3 f with
  |some q=>if eh q.2.1 as then S.star env (.Call f as ks p) st else if t9 q.1&&(as.length+ks.length+1<30&&q.2.2.endLine==p.line)&&o8 as ks then(ev q.1 st).then λv st=>(pE st<|S.m1 v q.2.1 st.H).then λf st=>(akE ev as ks st).then λa st=>if S.kp f.1 st.H then mV st (S.call f.1 (f.2++a.1) a.2 st.H)else none else none
  |none=>if o8 as ks then(ev f st).then λv st=>(akE ev as ks st).then λa st=>if S.kp v st.H then mV st (S.call v a.1 a.2 st.H)else none else none
 |_,_=>none
def FD(we:Expr->St->lG V):Expr->St->lG Bool
 |.UnaryOp op x p,st=>match op with
  |.Not=>(te x st).then λb st=>some (.ok (!b),st)
  |op=>(we (.UnaryOp op x p) st).then λv st=>pE st<|S.Hm v st.H
 |.BoolOp op vs _,st=>D6 te op vs st
 |.Compare l ops rs _,st=>(H9 ops).bind λop=>(H9 rs).bind λr=>if vD r then none else(jx S ev op l r st).then λc st=>pE st<|S.Hm c st.H
 |.IfExp ..,_=>none
 |e,st=>(we e st).then λv st=>pE st<|S.Hm v st.H
end
def EV:Nat->(Expr->St->lG V)×(Expr->St->lG Bool)
 |0=>(λU U=>none,λU U=>none)
 |n+1=>(Z2 S env (EV n).1 (EV n).2,FD S (EV n).1 (EV n).2<|Z2 S env (EV n).1 (EV n).2)
def mU:Expr->St->lG V:=(EV S env 24).1
def rT:Expr->St->lG Bool:=(EV S env 24).2
end
def KR(ρ:List Addr)(k:Str×V)(x:Str×Value):Prop:=k.1=x.1/\VC ρ k.2 x.2
abbrev gf(C:Cx)(S:lR):Prop:=∀{a x v ρ s st y z},VC ρ a y->VC ρ v z->Sd C (setAttr y x z) (λU(U:Unit)U=>True) ρ s st (rD st<|(S.setattr a x v st.H).map λh=>((),h))
abbrev Zv(C:Cx)(S:lR):Prop:=∀{a i v ρ s st x j y},VC ρ a x->VC ρ i j->VC ρ v y->Sd C (setItem x j y) (λU(U:Unit)U=>True) ρ s st (rD st<|(S.sX a i v st.H).map λh=>((),h))
abbrev kj(C:Cx)(S:lR):Prop:=∀{a i ρ s st x j},VC ρ a x->VC ρ i j->Sd C (delItem x j) (λU(U:Unit)U=>True) ρ s st (rD st<|(S.rP a i st.H).map λh=>((),h))
abbrev WT(C:Cx)(S:lR):Prop:=∀{op a b ρ s st x y},VC ρ a x->VC ρ b y->Sd C (inplaceOp op x y) VC ρ s st (rD st<|S.Bv op a b st.H)
abbrev MV(C:Cx)(S:lR):Prop:=∀{c T e ρ s st p},kZ C ρ st s->oD C ρ c e s->S.N3 c T=true->C.env.scope.kind=.function->C.env.scope.names.lookup T=some .globalImplicit->∀E:Value->Shared->Prop,
 wpAny (model PG C.w) (C.A.mark<|some e) (eval (.Name T p) C.env) (λcv lD=>lD=s/\wpAny (model PG C.w) (C.A.mark<|some e) (excMatches e cv) (λb mQ=>b=true/\mQ=s) E s) E s
abbrev VW(C:Cx)(S:lR):Prop:=∀{a x xs ρ st s},kZ C ρ st s->VC ρ a x->S.iter a st.H=some xs->∀(Q:Value->Shared->Prop)(E:Value->Shared->Prop),
 (∀(i:Addr)(P:Nat->Obj->Prop)(s':Shared)(o:Obj),kZ C ρ st s'->mY C.F s s'->s'.heap.get? i=some o->P 0 o->i∉ρ->i≠C.env.locals->C.ail.get? i=none->(∀k o,P k o->∃n vs,o.cls=.type n/\o.data=.fields vs)->
  (∀(lI:List Addr)(k6:St)(s':Shared)(k:Nat)(o:Obj),ρ<+:lI->kZ C lI k6 s'->S.iter a k6.H=some xs->s'.heap.get? i=some o->P k o->i∉lI->
   (∀v,xs.2[k]?=some v->∀(Q:Option Value->Shared->Prop)(E:Value->Shared->Prop),(∀(h':Heap)(y:Value)(o':Obj)(n:Nat),Heap.SameBut i s'.heap h'->h'.get? i=some o'->P (k+1) o'->VC lI v y->Q (some y) {s' with heap:=h',toks:=s'.toks+n})->wpAny (model PG C.w) C.A (pyNext<|.ref i) Q E s')/\
   (xs.2.length<=k->∀(Q:Option Value->Shared->Prop)(E:Value->Shared->Prop),(∀(h':Heap)(n:Nat),Heap.ExtBut i s'.heap h'->Q none {s' with heap:=h',toks:=s'.toks+n})->wpAny (model PG C.w) C.A (pyNext<|.ref i) Q E s'))->
  Q (.ref i) s')->wpAny (model PG C.w) C.A (pyIter x) Q E s
abbrev YC(C:Cx)(S:lR):Prop:=∀{f vs kv ρ s st fv xs ks},VC ρ f fv->lH (VC ρ) vs xs->lH (KR ρ) kv ks->Sd C (call fv xs ks) VC ρ s st (mV st<|S.call f vs kv st.H)
abbrev OKp(C:Cx)(S:lR):Prop:=∀{f ρ s st fv},kZ C ρ st s->VC ρ f fv->S.kp f st.H=true->∃k,∀(Q:Keeper->Shared->Prop)(E:Value->Shared->Prop),Q k s->wpAny (model PG C.w) C.A (keeperOf fv) Q E s
abbrev WM(C:Cx)(S:lR):Prop:=∀{v x ρ s st ov pl},VC ρ v ov->Sd C (getMethod ov x pl) (λρ(f:V×List V)(g:Value×List Value)=>VC ρ f.1 g.1/\lH (VC ρ) f.2 g.2) ρ s st (pE st<|S.m1 v x st.H)
abbrev act(C:Cx)(S:lR):Prop:=∀{op a b ρ s st x y},VC ρ a x->VC ρ b y->Sd C (compareOp op x y) VC ρ s st (pE st<|S.cmp op a b st.H)
abbrev abV(C:Cx)(S:lR):Prop:=∀{op a b ρ s st x y},VC ρ a x->VC ρ b y->Sd C (binaryOp op x y) VC ρ s st (rD st<|S.bin op a b st.H)
abbrev acd(C:Cx)(S:lR):Prop:=∀{a ρ s st x},kZ C ρ st s->VC ρ a x->S.idx a st.H=true->∀(Q:Bool->Shared->Prop)(E:Value->Shared->Prop),Q false s->wpAny (model PG C.w) C.A (getitemInPython x) Q E s
abbrev UZ(C:Cx)(S:lR):Prop:=∀{a b ρ s st x y},VC ρ a x->VC ρ b y->S.idx a st.H=true->Sd C (getItem x y) VC ρ s st (mV st<|S.item a b st.H)
abbrev OI(C:Cx)(S:lR):Prop:=∀{a l u k ρ s st x xl xu xk i},VC ρ a x->VC ρ l xl->VC ρ u xu->VC ρ k xk->S.idx a st.H=true->s.heap.get? i=some ⟨.type "slice",none,.fields #[xl,xu,xk],#[]⟩->i∉ρ->C.ail.get? i=none->i≠C.env.locals->Sd C (getItem x<|.ref i) VC ρ s st (rD st<|S.slice a l u k st.H)
structure lV(C:Cx)(S:lR):Prop where
 un:C.A.units+5<cLine
 comp:∀{e ρ s st},Sd C (eval e C.env) VC ρ s st<|S.comp C.env.scope e st
 Vg:∀{e use g ρ s st},(∀h' lI s' k6 b v,ρ<+:lI->VC lI b v->Sd {C with ail:=h'} (use v) (λU(U:Unit)U=>True) lI s' k6 (g b k6))->Sd C (evalThenUse e C.env use) (λU(U:Unit)U=>True) ρ s st ((S.comp C.env.scope e st).then g)
 raise:∀{e p ρ s st},Sd C (exec (.Raise (some e) none p) C.env) (λU(U:Unit)(U:Flow)=>False) ρ s st<|S.raise C.env.scope e st
 stmt:∀{t ρ s st},Sd C (exec t C.env) (λU(U:Unit)f=>f=Flow.next) ρ s st<|S.stmt C.env.scope t st
 setattr:gf C S
 sX:Zv C S
 rP:kj C S
 Bv:WT C S
 unpack:∀{a n ρ s st x},VC ρ a x->Sd C (unpackItems x n none) (λρ vs ys=>lH (VC ρ) vs ys/\vs.length=n) ρ s st (pE st<|S.unpack a n st.H)
 Ki:MV C S
 iter:VW C S
 glob:∀{x v ρ s st},S.glob x=some v->Sd C (loadGlobal C.env x) VC ρ s st (some (.ok v,st))
 call:YC C S
 kp:OKp C S
 star:∀{e ρ s st},Sd C (eval e C.env) VC ρ s st<|S.star C.env.scope e st
 attr:∀{v x ρ s st ov},VC ρ v ov->Sd C (getAttr ov x true) VC ρ s st (mV st<|S.attr v x st.H)
 m1:WM C S
 cmp:act C S
 bin:abV C S
 FU:∀{op a ρ s st x},VC ρ a x->Sd C (unaryOp op x) VC ρ s st (pE st<|S.FU op a st.H)
 Hm:∀{a ρ s st x},VC ρ a x->Sd C (truthy x) (λU b c=>b=c) ρ s st (pE st<|S.Hm a st.H)
 idx:acd C S
 item:UZ C S
 slice:OI C S
section
variable{α β γ:Type}
theorem Sd.release{o:lG β}(h:Sd C t Rel ρ s st o):Sd C (release vs keep>>=λU=>t) Rel ρ s st o:=by intro G r k6 e Γ p qw;simp[Sem.wp_bind'];exact h G r k6 e Γ p qw
theorem Sd.operate(h:Sd C t Rel ρ s st o):Sd C (operate vs t) Rel ρ s st o:=by intro G r k6 e Γ p qw;rw[Sem.wp_operate];exact h G r k6 e Γ p qw
theorem Sd.keep(h:Sd C t Rel ρ s st o):Sd C (t.keep vs) Rel ρ s st o:=by intro G r k6 e Γ p qw;rw[Sem.wp_keep];exact h G r k6 e Γ p qw
end
set_option tactic.hygienic true in
theorem yL(e:J6 c=some v):Sd C (constValue C.env c) VC ρ s st<|some (.ok v,st):=by
 induction c<;>first|exact nn e|(obtain rfl:=aA e)
 case none=>exact Sd.pure rfl
 case bool=>exact Sd.pure rfl
 case int i=>
  exact Sd.of λG Q E k=>λΓ p U=>k _ _ ρ (a8 _) ⟨s.toks,rfl⟩ (G.tok 1)<|mY.tok s 1
 case str i=>
  exact Sd.of λG Q E k=>λΓ p U=>k _ _ ρ (a8 _) ⟨s.toks,rfl⟩ (G.tok 1)<|mY.tok s 1
set_option tactic.hygienic true in
theorem Ud{S:lR}(O:lV C S){ρ:List Addr}{s:Shared}{st:St}(x)(pos):Sd C (eval (.Name x pos) C.env) VC ρ s st<|D0 S C.env.scope x st:=by
 exists C,S,ρ,s,st,x,pos,[O];refine iteInduction (λhs=>?_) λU=>?_
 .simp only[xQ,aQ,hV,a5]at hs;have hd:=a7.mpr hs.1.1;split
  .rename_i hk;cases e:st.loc.lookup x with
   |none=>exact Sd.nil
   |some v=>
    refine Sd.of λG Q E k=>?_;exists m,(q8:G.fr.ns);have h:=q8.2 x hk;rw[e]at h;rcases em:m x with _|y
    .simp only[em]at h;exact h.elim
    .simp only[em]at h;exact iS (fD hs.2 hk q8.1 em<|k y s ρ (a8 _) h G<|.refl s) hd
  .rename_i hk;cases e:st.loc.lookup x with
   |none=>exact Sd.nil
   |some v=>
    refine Sd.of λG Q E k=>iS ?_ hd;cases ec:C.env.cells.lookup x with
    |none=> exact(G.fr.has x (.inl hk) ec).elim
    |some a=>
     obtain⟨_,_,u,hu,hl⟩:=G.fr.cell x a ec;rw[e]at hl;cases u with
     |none=>exact hl.elim
     |some y=>exact wpAny_loadName_cell hs.2 hk ec hu<|k y s ρ (a8 _) hl G<|.refl s
  .rename_i hk;cases e:st.loc.lookup x with
   |none=>exact Sd.nil
   |some v=>
    refine Sd.of λG Q E k=>iS ?_ hd;cases ec:C.env.cells.lookup x with
    |none=>exact(G.fr.has x (.inr hk) ec).elim
    |some a=>
     obtain⟨_,_,u,hu,hl⟩:=G.fr.cell x a ec;rw[e]at hl;cases u with
     |none=>exact hl.elim
     |some y=>exact wpAny_loadName_free hs.2 hk ec hu (k y s ρ (a8 _) hl G<|.refl s)<|a7.mpr hs.1.2
  .rename_i hk;rcases e:S.glob x with _|v
   .exact Sd.nil
   .exact λG r k6 e'=>eC hs.2 hk (O.glob e G r k6 e') hd
  .exact Sd.nil
 .exact Sd.nil
theorem OT.ext{ail h h':Heap}{loc:Loc}(F:OT ρ env ail h loc)(x:∀b o,h.get? b=some o->h'.get? b=some o):OT ρ env ail h' loc:=by obtain⟨⟨m,hn,hl⟩,b,c,d,o,hs,kd,lo⟩:=F;exact⟨⟨m,hn.keeps x,hl⟩,b,c,λy a hm=>let⟨h1,h2,u,h3,h4⟩:=d y a hm;⟨h1,h2,u,h3.keeps x,h4⟩,o,hs,kd,lo⟩
theorem kZ.ext(G:kZ C ρ st s)(x:∀b o,s.heap.get? b=some o->h'.get? b=some o)(n):kZ C ρ st {s with heap:=h',toks:=s.toks+n}:=
 ⟨G.sim.ext x,G.fr.ext x,by have:=G.tk;simp_all⟩
theorem kZ.push(G:kZ C ρ st s)(hf:o.isFreed=false)(c:OC C.w (ρ++[s.heap.objs.size]) ao o):
 kZ C (ρ++[s.heap.objs.size]) {st with H:=st.H++[ao]} {s with heap:=s.heap.push o}:=by
 have w7:935<=s.heap.objs.size:=by obtain⟨m,lW⟩:=G.fr.ns;exact bS<|bW G.fr.lo lW.1.lt
 refine⟨G.sim.push w7 hf c,?_,G.tk⟩;refine(G.fr.ext λU U e=>aZ o e).mono (⟨_,rfl⟩) (λhm=>?_) λx a hx hm=>?_
 .rcases aO.mp hm with h|h
  .exact G.fr.out h
  .obtain⟨m,q9⟩:=G.fr.ns;rw[aE]at h;exact absurd q9.1.lt<|h▸(dJ _)
 .obtain⟨h1,_,u,q8⟩:=G.fr.cell x a hx;rcases aO.mp hm with h|h
  .exact h1 h
  .rw[aE]at h;exact absurd q8.1.lt<|h▸(dJ _)
theorem kZ.len(G:kZ C ρ st s):ρ.length=st.H.length:=G.sim.len
theorem nU(G:kZ C ρ st s):VC (ρ++[s.heap.objs.size]) (.ref st.H.length)<|.ref s.heap.objs.size:=by refine⟨_,?_,rfl⟩;rw[<-G.len,aS<|aI _,cD];rfl
theorem rW{st:St}{x:Str}{v:V}{y:Value}(hv:VC ρ v y):Sd C (bindName C.env x y) (λU U U=>True) ρ s st<|mX C.env.scope x v st:=by
 exists C,ρ,s,st,x,v,y,_;refine iteInduction (λh=>?_) λU=>?_
 .simp only[aQ,a5,d8]at h;have R7:∀z,(z≠x->∀u,LR ρ (st.loc.lookup z) u->LR ρ ((put x v st.loc).lookup z) u):=λz hz u hu=>by rw[xL,aL hz];exact hu
  have FV:LR ρ ((put x v st.loc).lookup x)<|some y:=by rw[xL,aH rfl];exact hv
  refine Sd.of λG Q E k=>wpAny_bindName ?_;exists Q,E,_;exists m,(lW:G.fr.ns);rcases h.2 with hk|hk
  .refine wpAny_storeName_local hk lW.1 (λh' Bw hs=>?_) (h.1▸rfl);exists h',_;refine k () _ ρ (a8 _) trivial ⟨G.sim.same hs G.fr.none G.fr.out,⟨⟨_,Bw,λz hz=>?_⟩,G.fr.none,G.fr.out,λz a hm=>?_,G.fr.own,G.fr.has,G.fr.kind,G.fr.lo⟩,by simp⟩ (mY.heap s h' 1)
   .by_cases e:z=x
    .rw[aH e,e];exact FV
    .rw[aL e];exact R7 z e _<|lW.2 z hz
   .exists z,a,_;obtain⟨h1,h2,u,q9⟩:=G.fr.cell z a hm;refine⟨h1,h2,u,q9.1.sameBut hs h2,R7 z ?_ _ q9.2⟩;rintro rfl
    exact absurd hk<|G.fr.kind _ _ hm
  .rcases ec:C.env.cells.lookup x with _|a
   .exact(G.fr.has x (.inl hk) ec).elim
   .exists a,_;obtain⟨h1,h2,u,q8⟩:=G.fr.cell x a ec;obtain⟨o1,o2⟩:=G.fr.own x a ec hk;refine wpAny_storeName_cell h.1 hk ec q8.1 ?_;exists h';intro hc hs;have CY:C.env.locals≠a:=λe=>h2 e.symm;refine k () _ ρ (a8 _) trivial ⟨G.sim.same hs o1 h1,⟨⟨m,lW.1.sameBut hs CY,λz hz=>R7 z ?_ _<|lW.2 z hz⟩,G.fr.none,G.fr.out,λz b hb=>?_,G.fr.own,G.fr.has,G.fr.kind,G.fr.lo⟩,G.tk⟩ (mY.lO s h')
    .rintro rfl
     rw[show C.env.kindOf z=some .cell from hk]at hz;simp at hz
    .exists z,b,_;by_cases e:b=a
     .subst e;obtain rfl:=o2 z hb;exact⟨h1,h2,some y,hc,FV⟩
     .obtain⟨g1,g2,u',g3,g4⟩:=G.fr.cell z b hb;refine⟨g1,g2,u',g3.sameBut hs e,R7 z ?_ _ g4⟩;rintro rfl
      exact e<|aA<|hb.symm.trans ec
 .exact Sd.nil
theorem Rl(h:lH (VC ρ) vs xs)(hz:vs.length<1000):Sd C (newList xs) VC ρ s st<|tT (.list vs) st:=
 Sd.of λG Q E k=>j7 (k _ _ _ ⟨_,rfl⟩ (nU G) (G.push rfl ⟨xs.toArray,0,rfl,h.imp λU U=>VC.mono ⟨_,rfl⟩⟩) ⟨rfl,rfl,aI _,.refl _⟩)<|h.length▸(bC (bS hz)<|by decide)
theorem Rb:Sd C newDict VC ρ s st<|tT (.dict []) st:=
 Sd.of λG Q E k=>eD<|k _ _ _ ⟨_,rfl⟩ (nU G) (G.push rfl ⟨#[],0,rfl,.nil,by decide⟩) ⟨rfl,rfl,aI _,.refl _⟩
theorem u4(h:lH (VC ρ) vs xs)(hz:vs.length<1000):Sd C (newTuple xs) VC ρ s st<|tT (.tuple vs) st:=
 Sd.of λG Q E k=>wpAny_newTuple (k _ _ _ ⟨_,rfl⟩ (nU G) (G.push rfl ⟨xs.toArray,0,rfl,h.imp λU U=>VC.mono ⟨_,rfl⟩⟩) ⟨rfl,rfl,aI _,.refl _⟩)<|h.length▸(bC (bS hz)<|by decide)
def Pc(env:Env):List Addr:=env.cells.filterMap λc=>if env.kindOf c.1==some .cell then env.cells.lookup c.1 else none
set_option tactic.hygienic true in
theorem L8(h:a∈Pc env):∃x,env.cells.lookup x=some a/\env.kindOf x=some .cell:=by
 exists env,a,_;exists c,(q_:jO.mp h);obtain⟨hc,e⟩:=q_;split at e
 .rename_i q;exact⟨_,e,a5.mp q⟩
 .exact nn e
theorem pj(h:env.cells.lookup x=some a)(k:env.kindOf x=some .cell):a∈Pc env:=
 jO.mpr ⟨(x,a),cF h,by refine a6 (aH (by rw[k];rfl)) ?_;exact h⟩
def Cx.tU(C:Cx)(h:Heap)(ρ:List Addr):Cx:={C with ail:=hideAll h (C.env.locals::(Pc C.env++ρ))}
theorem Nk(e:(C.tU h ρ).ail.get? b=some o):h.get? b=some o:=dS _ e
theorem wI(e:h.get? b=some o)(h1:b≠C.env.locals)(h2:b∉ρ)(h3:b∉Pc C.env):(C.tU h ρ).ail.get? b=some o:=
 dL _ e (by simp[h1,h2,h3])
theorem z5(m:b=C.env.locals\/b∈ρ\/b∈Pc C.env):(C.tU h ρ).ail.get? b=none:=eM _ (by rcases m with h|h|h<;>simp[h])
theorem kZ.kept(G:kZ C ρ st s)(e:C.ail.get? b=some o):b≠C.env.locals/\b∉ρ/\b∉Pc C.env:=by
 refine⟨?_,λhm=>?_,λhm=>?_⟩
 .rintro rfl;replace e:=G.fr.none▸e;exact nn e
 .replace e:=((G.sim.new b hm).1)▸e;exact nn e
 .obtain⟨x,h1,h2⟩:=L8 hm;replace e:=((G.fr.own x b h1 h2).1)▸e;exact nn e
theorem kZ.Kj(G:kZ C ρ st s)(e:s.heap.get? b=some o)(h:∀u,o.data≠.cell u):b∉Pc C.env:=λhm=>by obtain⟨x,q8⟩:=L8 hm;obtain⟨_,_,u,⟨o',h3,h4⟩,_⟩:=G.fr.cell x b q8.1;replace h3:=e▸h3;obtain rfl:=aA h3;exact h u h4
theorem kZ.tU(G:kZ C ρ st s)(hF:∀f∈C.F,∀o,s.heap.get? f=some o->∃es n,o.data=.dict es n):kZ (C.tU s.heap ρ) ρ st s:=by refine⟨⟨G.sim.len,G.sim.nd,G.sim.obj,λa ha=>⟨z5<|.inr<|.inl ha,(G.sim.new a ha).2⟩,⟨λb o e=>⟨o,Nk e,.refl _ _⟩,λf hf o e=>?_⟩⟩,⟨G.fr.ns,z5<|.inl rfl,G.fr.out,G.fr.cell,λx a h k=>⟨z5<|.inr<|.inr<|pj h k,(G.fr.own x a h k).2⟩,G.fr.has,G.fr.kind,G.fr.lo⟩,G.tk⟩;exact hF f hf o<|Nk e
theorem kZ.vW(G:kZ C ρ st s)(G':kZ (C.tU s.heap ρ) lI k6 s'):kZ C lI k6 s':=by
 exists C,ρ,lI,st,k6,s,s',_;have key:∀b o,C.ail.get? b=some o->∃o',s.heap.get? b=some o'/\yM C.F b o o'/\(C.tU s.heap ρ).ail.get? b=some o':=λb o e=>by obtain⟨o',nO⟩:=G.sim.keep.1 b o e;have lW:=G.kept e;exact⟨o',nO.1,nO.2,wI nO.1 lW.1 lW.2.1 lW.2.2⟩
 refine⟨⟨G'.sim.len,G'.sim.nd,G'.sim.obj,λa ha=>?_,⟨λb o e=>?_,G.sim.keep.2⟩⟩,⟨G'.fr.ns,G.fr.none,G'.fr.out,G'.fr.cell,G.fr.own,G.fr.has,G.fr.kind,G.fr.lo⟩,G'.tk⟩
 .refine⟨?_,(G'.sim.new a ha).2⟩;rcases e:C.ail.get? a with _|o
  .rfl
  .obtain⟨o',_,_,h3⟩:=key a o e;replace h3:=((G'.sim.new a ha).1)▸h3;rcases h3 with _|_
 .obtain⟨o',q9⟩:=key b o e;exists R6,(q8:G'.sim.keep.1 b o' q9.2.2);exact⟨R6,q8.1,q9.2.1.trans q8.2 λhb=>G.sim.keep.2 b hb o e⟩
theorem oD.vW(G:kZ C ρ st s)(x:oD (C.tU s.heap ρ) lI c e s'):oD C lI c e s':=by
 have key:∀a,(C.tU s.heap ρ).ail.get? a=none->C.ail.get? a=none:=λa h=>by
  rcases q:C.ail.get? a with _|o
  .rfl
  .obtain⟨o',e',_⟩:=G.sim.keep.1 a o q;replace h:=(wI e' (G.kept q).1 (G.kept q).2.1 (G.kept q).2.2)▸h;rcases h with _|_
 obtain⟨a,o,vs,a0,h1,h2,h3,h4,h5,h6,h7,h8,h9⟩:=x.ex;refine⟨a,o,vs,a0,h1,h2,h3,h4,h5,h6,key a h7,h8,?_⟩;rcases h9 with h9|⟨t,ot,vt,fl,g1,g2,g3,g4,g5,g6,g7,g8⟩
 .exact .inl h9
 .exact .inr ⟨t,ot,vt,fl,g1,g2,g3,g4,g5,key t g6,g7,g8⟩
def U9(e:Value)(s:Shared):Prop:=∃a o vs t,e=.ref a/\s.heap.get? a=some o/\o.data=.fields vs/\vs[1]?=some (.ref t)
set_option genInjectivity false in
inductive Fl where
 |next|brk|cont|ret (v:V)
theorem yFl:Nonempty Fl:=⟨.next⟩
def FR(ρ:List Addr):Fl->Flow->Prop
 |.next,f=>f=.next
 |.brk,f=>f=.brk
 |.cont,f=>f=.cont
 |.ret v,f=>∃x,f=.ret x/\VC ρ v x
def Cw(it:Hp->Option (List Nat×List V))(xs:List Nat×List V)(asg:V->St->lG Unit)(body:St->lG Fl):List V->St->lG Fl
 |[],st=>if it st.H=some xs then some (.ok .next,st)else none
 |v::r,st=>if it st.H=some xs then(asg v st).then λU st=>(body st).then λf st=>match f with
  |.next|.cont=>Cw it xs asg body r st
  |.brk=>some (.ok .next,st)
  |.ret v=>some (.ok<|.ret v,st)else none
def qP(test:St->lG Bool)(body orelse:St->lG Fl):Nat->St->lG Fl
 |0,_=>none
 |n+1,st=>(test st).then λb st=>if b then(body st).then λf st=>match f with
  |.next|.cont=>qP test body orelse n st
  |.brk=>some (.ok .next,st)
  |.ret v=>some (.ok<|.ret v,st)else orelse st
def kOk(p:Nat×Obj):Bool:=Nat.blt p.1 935&&(match p.2.cls with|.none=>Nat.beq p.1 2|_=>true)
theorem MG(P):(m5 P).all kOk=true:=by rfl'
set_option tactic.hygienic true in
theorem q6{w:World}{a:Addr}{o:Obj}(e:(KF w).lookup a=some o):a<935/\(o.cls≠.none\/a=cStatics):=by
 exists w,a,o,_;have hm:(a,o)∈KF w:=by
  have:∀(l:List<|Addr×Obj),l.lookup a=some o->(a,o)∈l:=by
   intro l;induction l with
   |nil=>intro e;exact nn e
   |cons p r ih=>
    intro e;obtain⟨b,x⟩:=p;simp only[List.lookup]at e;split at e
    .rename_i q;obtain rfl:=aA e;exact(a5.mp q)▸(.head _)
    .exact .tail _ (ih e)
  exact this _ e
 have h:=aX.mp (MG w.params) _ hm;rw[kOk,aQ]at h;refine⟨Nat.le_of_ble_eq_true h.1,?_⟩;have h2:=h.2;cases hc:o.cls with
 |none=>rw[hc]at h2;exact .inr<|Nat.eq_of_beq_eq_true h2
 |_=>exact .inl λh=>by injection h
theorem nY.keep{F:List Addr}{w:World}{ail h:Heap}(T:nY w ail)(k:qX F ail h)(hi:∀f∈F,(KF w).lookup f=none):nY w h:=by
 exists F,w,ail,h,_;refine⟨λa o e=>?_,?_,?_,?_,?_,?_⟩
 .have:=q6 e;exact k.exact (T.K a o e) (λhm=>by replace e:=(hi a hm)▸e;exact nn e) this.2
 .exists mg,(n:T.glob);exact⟨mg,k.ns n⟩
 .exists mb,(q_:T.bi);obtain⟨n,r⟩:=q_;exact⟨mb,k.ns n,r⟩
 .exists mc,(q_:T.lim);obtain⟨n,r⟩:=q_;exact⟨mc,k.ns n,r⟩
 .exists _;exists ob,(q_:T.bm);obtain⟨e,q8⟩:=q_;exists o',(q_:k.1 _ _ e);obtain⟨e',l⟩:=q_;rcases l with rfl|⟨hm,_,sl,rfl⟩|⟨hc,_⟩
  .exact k9 ⟨_,e',q8.1,q8.2.1,q8.2.2⟩
  .exact k9 ⟨_,e',q8.1,q8.2.1,q8.2.2⟩
  .replace hc:=q8.1▸hc;injection hc
 .exists _;exists ps,(q_:T.tab);obtain⟨e,tr⟩:=q_;exists o',(q_:k.1 _ _ e);obtain⟨e',l⟩:=q_;rcases l with rfl|⟨hm,_,sl,rfl⟩|⟨_,_,_,vs,more,⟨hd,tr'⟩,rfl⟩
  .exact k9 ⟨ps,e',tr⟩
  .exists es,n,(hd:k.2 _ hm _ e);injection hd
  .injection hd with q_;subst q_;exact k9 ⟨ps++more,e',tr' tr⟩
structure k7(k:Nat)(C:Cx):Prop where
 top:nY C.w C.ail
 hi:∀f∈C.F,(KF C.w).lookup f=none
 live:∀f∈C.F,∃o es n,C.ail.get? f=some o/\o.data=.dict es n
 dp:C.A.depth+k<1000
 un:C.A.units+20*k<9000
 fn:C.env.scope.kind=.function
 gl:C.env.globals=mainGlobals/\C.env.builtins=builtinsNs
noncomputable abbrev xD(env:Env):Prop:=env.scope.names.lookup ("split_command" :Str)≠none->env.code=.ref 884
structure mN(C:Cx):Prop where
 hh:C.A.handled=none
 mg:builtinsNs∈C.F
 cd:xD C.env
 lo:935<=C.env.locals
 fr:∃outer,C.A.frames=some (C.env::outer)/\C.env.frame=some C.env.locals/\C.env.scope.kind≠.module/\∀e∈outer,e.scope.kind≠.module/\∃L∈C.F,L≠builtinsNs/\e.frame=some L
theorem yM.dict{F:List Addr}{b:Addr}{o o':Obj}{es:Array DictEntry}{n:Nat}(l:yM F b o o')(hd:o.data=.dict es n):o'.data=.dict es n:=by
 exists F,b,o,o',es,n,_;rcases l with rfl|⟨_,_,sl,rfl⟩|⟨_,_,_,vs,more,hv,_⟩
 .exact hd
 .exact hd
 .replace hv:=hd▸hv;rcases hv.1 with _|_
theorem k7.cls{k:Nat}{C:Cx}(B:k7 k C){ρ:List Addr}{st:St}{s:Shared}(G:kZ C ρ st s):∀f∈C.F,∀o,s.heap.get? f=some o->∃es n,o.data=.dict es n:=λf hf o e=>by exists _;obtain⟨Kk,es,n,h0,hd⟩:=B.live f hf;obtain⟨o',e',l⟩:=G.sim.keep.1 f Kk h0;replace e':=e▸e';obtain rfl:=aA e';exact k9 ⟨es,n,l.dict hd⟩
theorem He{C:Cx}{ρ:List Addr}{st:St}{s:Shared}(G:kZ C ρ st s):qX C.F C.ail (C.tU s.heap ρ).ail:=by refine⟨λb o e=>?_,G.sim.keep.2⟩;exists o',(q8:G.sim.keep.1 b o e);exact⟨o',wI q8.1 (G.kept e).1 (G.kept e).2.1 (G.kept e).2.2,q8.2⟩
theorem k7.tU{k:Nat}{C:Cx}(B:k7 k C){ρ:List Addr}{st:St}{s:Shared}(G:kZ C ρ st s):k7 k<|C.tU s.heap ρ:=by refine⟨B.top.keep (He G) B.hi,B.hi,λf hf=>?_,B.dp,B.un,B.fn,B.gl⟩;obtain⟨Kk,es,n,q9⟩:=B.live f hf;obtain⟨o',q8⟩:=(He G).1 f Kk q9.1;exact⟨o',es,n,q8.1,q8.2.dict q9.2⟩
def Cx.at(C:Cx)(h:Heap):Cx:={C with ail:=h}
section
variable{C:Cx}{β:Type}
inductive HQ{α:Type}(C:Cx)(Rel:List Addr->β->α->Prop)(ρ:List Addr)(s:Shared)(r:oV β)(k6:St)(x:α)(s':Shared):Prop
 |mk (b:β) (lI:List Addr) (e:r=.ok b) (p:ρ<+:lI) (q:Rel lI b x) (g:kZ C lI k6 s') (n:mY C.F s s')
  (k:∀i ob n,s.heap.get? i=some ob->i∉ρ->i≠C.env.locals->i∉C.F->ob.cls=.type n->(∀u,ob.data≠.cell u)->s'.heap.get? i=some ob/\i∉lI)
theorem Sd.held{k:Nat}{α:Type}{t:Sem α}{Rel:List Addr->β->α->Prop}{o:lG β}{ρ:List Addr}{s:Shared}{st:St}(B:k7 k C)(h:∀h',k7 k (C.at h')->Sd (C.at h') t Rel ρ s st o)(G:kZ C ρ st s){r:oV β}{k6:St}(e:o=some (r,k6)):
 wpAny (model PG C.w) C.A t (HQ C Rel ρ s r k6) (PE C ρ s r k6) s:=by
 refine bL (h (C.tU s.heap ρ).ail (B.tU G) (G.tU<|B.cls G) r k6 e) (λx s' P=>?_) λx s' P=>?_
 .obtain⟨b,lI,e1,hp,hr,G',n⟩:=P;refine⟨b,lI,e1,hp,hr,G.vW G',n,λi ob m ho hi hl hf hc hu=>?_⟩;have h0:=wI ho hl hi<|G.Kj ho hu;exact⟨G'.sim.keep.exact h0 hf<|.inl<|hc▸Value.noConfusion,λhm=>by replace h0:=((G'.sim.new i hm).1)▸h0;cases h0⟩
 .obtain⟨c,lI,e1,hp,hx,G',n⟩:=P;exact⟨c,lI,e1,hp,hx.vW G,G.vW G',n⟩
theorem Sd.Kl{k:Nat}{α:Type}{t:Sem α}{Rel:List Addr->β->α->Prop}{o:lG β}{ρ:List Addr}{s:Shared}{st:St}(B:k7 k C)(h:∀h',k7 k (C.at h')->Sd (C.at h') t Rel ρ s st o)(G:kZ C ρ st s){b:β}{k6:St}(e:o=some (.ok b,k6)){Q:α->Shared->Prop}{E:Value->Shared->Prop}
 (kk:∀x s' lI,ρ<+:lI->Rel lI b x->kZ C lI k6 s'->mY C.F s s'->(∀i ob n,s.heap.get? i=some ob->i∉ρ->i≠C.env.locals->i∉C.F->ob.cls=.type n->(∀u,ob.data≠.cell u)->s'.heap.get? i=some ob/\i∉lI)->Q x s'):
 wpAny (model PG C.w) C.A t Q E s:=
 bL (Sd.held B h G e) (λx s' P=>by obtain⟨_,lI,e,p,q,g,n,k⟩:=P;obtain rfl:=oV.ok.inj e;exact kk x s' lI p q g n k) λU U P=>by induction P;contradiction
theorem Sd.RH{k:Nat}{α:Type}{t:Sem α}{Rel:List Addr->β->α->Prop}{o:lG β}{ρ:List Addr}{s:Shared}{st:St}(B:k7 k C)(h:∀h',k7 k (C.at h')->Sd (C.at h') t Rel ρ s st o)(G:kZ C ρ st s){c:V}{k6:St}(e:o=some (.exc c,k6)){Q:α->Shared->Prop}{E:Value->Shared->Prop}
 (kk:∀x s' lI,ρ<+:lI->oD C lI c x s'->kZ C lI k6 s'->mY C.F s s'->E x s'):wpAny (model PG C.w) C.A t Q E s:=
 bL (Sd.held B h G e) (λU U P=>by rcases P with⟨⟩;contradiction) λx s' P=>by obtain⟨_,lI,e,p,q,g,n⟩:=P;rcases e with _|_;exact kk x s' lI p q g n
end
def big:Nat:=1000000
theorem n8:big<=sizeLine:=by decide
def lE(H:Hp)(i:Nat):Option<|List V:=(H[i]?).bind λo=>match o with
 |.list xs=>some xs
 |_=>none
def tE(H:Hp)(i:Nat):Option<|List V:=(H[i]?).bind λo=>match o with
 |.tuple xs=>some xs
 |_=>none
def dE(H:Hp)(i:Nat):Option<|List<|Str×V:=(H[i]?).bind λo=>match o with
 |.dict es=>some es
 |_=>none
def fE(H:Hp)(i:Nat):Option<|List (Str×V)×Nat:=(H[i]?).bind λo=>match o with
 |.lT es n=>some (es,n)
 |_=>none
def sE(H:Hp)(i:Nat):Option<|List Str:=(H[i]?).bind λo=>match o with
 |.set xs=>some xs
 |_=>none
theorem nS{xs}(h:lE H i=some xs):H[i]?=some (.list xs):=by obtain⟨o,h1,h⟩:=aB.mp h;refine a6 h1 ?_;induction o<;>first|exact nn h|exact aV (λx=>some<|AO.list x)<|aA h
theorem wF{xs}(h:tE H i=some xs):H[i]?=some (.tuple xs):=by obtain⟨o,h1,h⟩:=aB.mp h;refine a6 h1 ?_;induction o<;>first|exact nn h|exact aV (λx=>some<|AO.tuple x)<|aA h
theorem qH{xs}(h:dE H i=some xs):H[i]?=some (.dict xs):=by obtain⟨o,h1,h⟩:=aB.mp h;refine a6 h1 ?_;induction o<;>first|exact nn h|exact aV (λx=>some<|AO.dict x)<|aA h
theorem zO{q}(h:fE H i=some q):H[i]?=some (.lT q.1 q.2):=by obtain⟨o,h1,h⟩:=aB.mp h;refine a6 h1 ?_;induction o<;>first|exact nn h|exact aV (λx=>some<|AO.lT x.1 x.2)<|aA h
theorem Cs{xs}(h:sE H i=some xs):H[i]?=some (.set xs):=by obtain⟨o,h1,h⟩:=aB.mp h;refine a6 h1 ?_;induction o<;>first|exact nn h|exact aV (λx=>some<|AO.set x)<|aA h
section
variable{γ:Type}
def vS(f:Str->Hp->Option γ):V->Hp->Option γ
 |.str x=>f x
 |_=>λU=>none
def vI(f:Int->Hp->Option γ):V->Hp->Option γ
 |.int x=>f x
 |_=>λU=>none
def vR(f:Nat->Hp->Option γ):V->Hp->Option γ
 |.ref i=>f i
 |_=>λU=>none
theorem B8{H:Hp}{q:γ}(h:vR f v H=some q):∃i,v=.ref i/\f i H=some q:=by induction v<;>first|exact nn h|exact⟨_,rfl,h⟩
def vL(f:Nat->List V->Hp->Option γ):V->Hp->Option γ:=vR λi H=>(lE H i).bind λxs=>if xs.length<big then f i xs H else none
end
abbrev mM:=Option<|oV V×Hp
def lU(st:St)(o:Option Hp):lG Unit:=rD st<|o.map λh=>((),h)
theorem Sd.good{α β:Type}{t:Sem α}{Rel:List Addr->β->α->Prop}{o:lG β}(h:kZ C ρ st s->Sd C t Rel ρ s st o):Sd C t Rel ρ s st o:=λG=>h G G
theorem Sd.plain{α β:Type}{t:Sem α}{Rel:List Addr->β->α->Prop}{b:β}(h:kZ C ρ st s->∀Q E,(∀x n,Rel ρ b x->Q x {s with toks:=s.toks+n})->wpAny (model PG C.w) C.A t Q E s):Sd C t Rel ρ s st<|some (.ok b,st):=
 Sd.of λG Q E kk=>h G Q E λx n hr=>kk x _ ρ (a8 _) hr (G.tok n)<|mY.tok s n
theorem Sd.oM{α β:Type}{t:Sem α}{Rel:List Addr->β->α->Prop}{b:β}(h:kZ C ρ st s->∀Q E,(∀x,Rel ρ b x->Q x s)->wpAny (model PG C.w) C.A t Q E s):Sd C t Rel ρ s st<|some (.ok b,st):=
 Sd.of λG Q E kk=>h G Q E λx hr=>kk x s ρ (a8 _) hr G<|.refl s
theorem kZ.list(G:kZ C ρ st s)(hi:st.H[i]?=some (.list xs))(hv:VC ρ (.ref i) y):
 ∃a vs n,y=.ref a/\ρ[i]?=some a/\s.heap.get? a=some ⟨.type "list",none,.seq vs n,#[]⟩/\lH (VC ρ) xs vs.toList:=by
 exists _;obtain⟨a,ha,rfl⟩:=hv;obtain⟨o,ho,vs,n,rfl,h⟩:=G.sim.obj i a _ ha hi;exact k9 ⟨a,vs,n,rfl,ha,ho,h⟩
theorem kZ.tuple(G:kZ C ρ st s)(hi:st.H[i]?=some (.tuple xs))(hv:VC ρ (.ref i) y):
 ∃a vs n,y=.ref a/\ρ[i]?=some a/\s.heap.get? a=some ⟨.type "tuple",none,.seq vs n,#[]⟩/\lH (VC ρ) xs vs.toList:=by
 exists _;obtain⟨a,ha,rfl⟩:=hv;obtain⟨o,ho,vs,n,rfl,h⟩:=G.sim.obj i a _ ha hi;exact k9 ⟨a,vs,n,rfl,ha,ho,h⟩
theorem qD{vs:Array Value}(h:lH (VC ρ) xs vs.toList):xs.length=vs.size:=h.length
theorem Dq{vs:Array Value}(h:lH (VC ρ) xs vs.toList)(hz:xs.length<big):vs.size<=sizeLine:=qD h▸bC (bS hz) n8
section
variable{α β γ δ:Type}
theorem gS{lift:Option γ->lG β}{T:Value->Sem α}(hl:lift none=none)(hv:VC ρ v y)(h:∀x t,Sd C (T<|.str x t) Rel ρ s st<|lift<|f x st.H):Sd C (T y) Rel ρ s st<|lift<|vS f v st.H:=by
 induction v<;>first|exact hl▸Sd.nil|skip
 obtain⟨t,rfl⟩:=hv;exact h _ t
theorem gI{lift:Option γ->lG β}{T:Value->Sem α}(hl:lift none=none)(hv:VC ρ v y)(h:∀x t,Sd C (T<|.int x t) Rel ρ s st<|lift<|f x st.H):Sd C (T y) Rel ρ s st<|lift<|vI f v st.H:=by
 induction v<;>first|exact hl▸Sd.nil|skip
 obtain⟨t,rfl⟩:=hv;exact h _ t
theorem gR{lift:Option γ->lG β}{T:Value->Sem α}(hl:lift none=none)(hv:VC ρ v y)(h:∀i a,ρ[i]?=some a->VC ρ (.ref i) (.ref a)->Sd C (T<|.ref a) Rel ρ s st (lift<|f i st.H)):Sd C (T y) Rel ρ s st<|lift<|vR f v st.H:=by
 induction v<;>first|exact hl▸Sd.nil|skip
 obtain⟨a,ha,rfl⟩:=hv;exact h _ a ha ⟨a,ha,rfl⟩
theorem gB{lift:Option γ->lG β}{g:δ->Option γ}(hl:lift none=none)(h:∀x,o=some x->Sd C t Rel ρ s st (lift<|g x)):Sd C t Rel ρ s st<|lift<|o.bind g:=by
 rcases o with _|x
 .exact hl▸Sd.nil
 .exact h x rfl
theorem xF{lift:Option γ->lG β}{c:Prop}[Decidable c]{o:Option γ}(hl:lift none=none)(h:c->Sd C t Rel ρ s st (lift o)):Sd C t Rel ρ s st<|lift<|if c then o else none:=by
 by_cases q:c
 .rw[aH q];exact h q
 .rw[aL q,hl];exact Sd.nil
theorem gO{lift:Option γ->lG β}(h:Sd C t Rel ρ s st<|lift o)(h':Sd C t Rel ρ s st<|lift o'):Sd C t Rel ρ s st<|lift<|o.or o':=by
 rcases o with _|_
 .exact h'
 .exact h
theorem WS{lift:Option γ->lG β}{c:Prop}[Decidable c]{o o':Option γ}(h:c->Sd C t Rel ρ s st (lift o))(h':¬c->Sd C t Rel ρ s st (lift o')):Sd C t Rel ρ s st<|lift<|if c then o else o':=by
 by_cases q:c
 .rw[aH q];exact h q
 .rw[aL q];exact h' q
theorem gL{lift:Option γ->lG β}{T:Value->Sem α}(hl:lift none=none)(hv:VC ρ v y)(h:∀i xs a vs n,ρ[i]?=some a->s.heap.get? a=some ⟨.type "list",none,.seq vs n,#[]⟩->lH (VC ρ) xs vs.toList->xs.length<big->Sd C (T<|.ref a) Rel ρ s st (lift<|f i xs st.H)):Sd C (T y) Rel ρ s st<|lift<|vL f v st.H:=
 gR hl hv λi a ha hv=>gB hl λxs hi=>xF hl λhz=>Sd.good λG=>by exists _;obtain⟨a',vs,n,e,q8⟩:=G.list (nS hi) hv;rcases e with _|_;exact k9<|h i xs a vs n ha q8.2.1 q8.2.2 hz
end
def qK(f:V->Option PyData):List V->Option (List PyData)
 |[]=>some []
 |v::r=>(f v).bind λd=>(qK f r).map (d:: ·)
def rd(n:Nat)(v:V)(H:Hp):Option PyData:=match v with
 |.none=>some .none
 |.bool b=>some<|.bool b
 |.int i=>some<|.int i
 |.str x=>some<|.str x
 |.ref i=>(match n with
  |0=>none
  |n+1=>(lE H i).elim ((tE H i).bind λxs=>(qK (λv=>rd n v H) xs).bind λds=>some<|.tuple ds) λxs=>(qK (λv=>rd n v H) xs).bind λds=>some<|.list ds)
 |_=>none
theorem u6(hf:∀v y d,VC ρ v y->f v=some d->(∃as,Reads s.heap y d as)/\d.depth<=m)(h:lH (VC ρ) xs ys)(e:qK f xs=some ds):(∃as,ReadsAll s.heap ys ds as)/\PyData.depthAll ds<=m:=by
 induction h generalizing ds with
 |nil=>obtain rfl:=aA e;exact⟨⟨[],.nil⟩,cV _⟩
 |cons h t ih=> obtain⟨d,q8⟩:=aB.mp e;obtain⟨ds',RI,rfl⟩:=a9.mp q8.2;obtain⟨⟨as,ra⟩,h1⟩:=hf _ _ d h q8.1;obtain⟨⟨bs,rb⟩,h2⟩:=ih RI;exact⟨⟨_,.cons ra rb⟩,Nat.max_le.mpr ⟨h1,h2⟩⟩
set_option tactic.hygienic true in
theorem Dk(G:kZ C ρ st s)(n):∀v y d,VC ρ v y->rd n v st.H=some d->(∃as,Reads s.heap y d as)/\d.depth<=n:=by
 exists C,ρ,st,s,n,[G];induction n with
 |zero=>
  intro v y d hv e;induction v<;>first|exact nn e|skip
  .subst hv;obtain rfl:=aA e;exact⟨⟨_,.none⟩,aI _⟩
  .subst hv;obtain rfl:=aA e;exact⟨⟨_,.bool _⟩,aI _⟩
  .obtain⟨t,rfl⟩:=hv;obtain rfl:=aA e;exact⟨⟨_,.int _ t⟩,aI _⟩
  .obtain⟨t,rfl⟩:=hv;obtain rfl:=aA e;exact⟨⟨_,.str _ t⟩,aI _⟩
 |succ n ih=>
  intro v y d hv e;induction v<;>first|exact nn e|skip
  .subst hv;obtain rfl:=aA e;exact⟨⟨_,.none⟩,cV _⟩
  .subst hv;obtain rfl:=aA e;exact⟨⟨_,.bool _⟩,cV _⟩
  .obtain⟨t,rfl⟩:=hv;obtain rfl:=aA e;exact⟨⟨_,.int _ t⟩,cV _⟩
  .obtain⟨t,rfl⟩:=hv;obtain rfl:=aA e;exact⟨⟨_,.str _ t⟩,cV _⟩
  rename_i i;rcases hl:lE st.H i with _|xs
  .replace e:((tE st.H i).bind λxs=>(qK (λv=>rd n v st.H) xs).bind λds=>some<|PyData.tuple ds)=some d:=by have e:(lE st.H i).elim _ _=_:=e;rw[hl]at e;exact e
   obtain⟨xs,hi,e⟩:=aB.mp e;obtain⟨ds,RI,e⟩:=aB.mp e;obtain rfl:=aA e;obtain⟨a,vs,m,rfl,q8⟩:=G.tuple (wF hi) hv;obtain⟨⟨as,ra⟩,hd⟩:=u6 ih q8.2.2 RI;exact⟨⟨_,.tuple q8.2.1 rfl rfl ra⟩,gQ hd⟩
  .exists _;replace e:((qK (λv=>rd n v st.H) xs).bind λds=>some<|PyData.list ds)=some d:=by have e:(lE st.H i).elim _ _=_:=e;rw[hl]at e;exact e
   obtain⟨ds,RI,e⟩:=aB.mp e;obtain rfl:=aA e;obtain⟨a,vs,m,rfl,q9⟩:=G.list (nS hl) hv;obtain⟨⟨as,ra⟩,hd⟩:=u6 ih q9.2.2 RI;exact k9 ⟨⟨_,.list q9.2.1 rfl rfl ra⟩,gQ hd⟩
theorem Es{h:Heap}{ds:List DictEntry}{n:Nat}(ho:h.get? a=some (dictOf ds n))(hal:lH (EC w ρ) es ds)(Ct:(es.map (·.1)).Nodup):
 ∃oG,h.DictOf (strKind PG w) a oG/\lH (KR ρ) es oG:=by
 exists ρ,w,h,a,es,ds,n,_;have key:∀{es:List (Str×V)}{ds:List DictEntry},lH (EC w ρ) es ds->∃oG,Pairs (strKind PG w) ds oG/\lH (KR ρ) es oG/\oG.map (·.1)=es.map (·.1)/\∀e∈ds,∃k,(strKind PG w).is k e.key=true/\e.hash=(strKind PG w).hash k:=by
  exists es,ds;intro h;induction h with
  |nil=>exact⟨[],.nil,.nil,rfl,λU h=>absurd h<|bG⟩
  |@cons e d l m hc ht ih=>
   exists e,d,l,m,_;exists oG,(lW:ih);obtain⟨⟨t,hk⟩,q9⟩:=hc;have his:(strKind PG w).is e.1 d.key=true:=by rw[hk];exact hZ PG w e.1 t
   refine⟨(e.1,d.val)::oG,.cons his rfl lW.1,.cons ⟨rfl,q9.2⟩ lW.2.1,by simp[lW.2.2.1],?_⟩;exists x;intro hx;rcases aK.mp hx with rfl|hx
   .exact⟨e.1,his,q9.1⟩
   .exact lW.2.2.2 x hx
 exists oG,(q8:key hal);exact⟨oG,⟨_,ds.toArray,n,ho,⟨rfl,rfl,rfl⟩,rfl,λe he=>q8.2.2.2 e<|by simpa using he,by simpa using q8.1,by rw[q8.2.2.1];exact Ct⟩,q8.2.1⟩
theorem Dw(hd:h.DictOf (strKind PG w) a oG)(hr:lH (KR ρ) es oG):∃o,h.get? a=some o/\OC w ρ (.dict es) o:=by
 obtain⟨o,ds,ep,ho,⟨e1,e2,e3⟩,Yr,hk,hp,Ct⟩:=hd;obtain⟨oc,q9⟩:=o;dsimp only at e1 e2 e3 Yr;subst e1 e2 e3 Yr;refine⟨_,ho,ds,ep,rfl,?_,?_⟩
 .have Ys:∀e∈ds.toList,∃k,(strKind PG w).is k e.key=true/\e.hash=(strKind PG w).hash k:=λe he=>hk e (by simpa using he);clear hk ho Ct;generalize ds.toList=l at hp Ys;induction hp generalizing es with
  |nil=>cases hr;exact .nil
  |@cons e kv es' CZ h1 h2 h3 ih=>
   cases hr with
   |@cons a _ l' _ hh ht=> refine .cons ?_<|ih ht λx hx=>Ys x<|.tail _ hx;obtain⟨k,q8⟩:=Ys e<|.head _;obtain⟨t,he⟩:=jF h1;have hkk:=(strKind PG w).inj e.key k kv.1 q8.1 h1;subst hkk;exact⟨⟨t,by exact hh.1▸he⟩,by refine hh.1▸q8.2,by rw[h2];exact hh.2⟩
 .have:es.map (·.1)=oG.map (·.1):=by
   clear hp hk ho Ct;induction hr with
   |nil=>rfl
   |cons h _ ih=>simp[h.1,ih]
  rw[this];exact Ct
theorem kZ.dict(G:kZ C ρ st s){i:Nat}{es:List (Str×V)}(hi:st.H[i]?=some (.dict es)){y:Value}(hv:VC ρ (.ref i) y):
 ∃a oG,y=.ref a/\ρ[i]?=some a/\s.heap.DictOf (strKind PG C.w) a oG/\lH (KR ρ) es oG:=by
 exists _;obtain⟨a,ha,rfl⟩:=hv;obtain⟨o,ho,ds,n,rfl,q9⟩:=G.sim.obj i a _ ha hi;exists oG,(q8:Es ho q9.1 q9.2);exact k9 ⟨a,oG,rfl,ha,q8.1,q8.2⟩
theorem kZ.lT(G:kZ C ρ st s){i ep:Nat}{es:List (Str×V)}(hi:st.H[i]?=some (.lT es ep)){y:Value}(hv:VC ρ (.ref i) y):
 ∃a oG,y=.ref a/\ρ[i]?=some a/\s.heap.DictAt (strKind PG C.w) a oG ep/\lH (KR ρ) es oG:=by
 exists C,ρ,st,s,i,ep,es,y,[G,hi,hv];exists a,(q_:hv);obtain⟨ha,rfl⟩:=q_;exists o,(q_:G.sim.obj i a _ ha hi);obtain⟨ho,ds,rfl,q8⟩:=q_;exists ds,_;exists oG,(q_:Es ho q8.1 q8.2);obtain⟨⟨o',ds',n',rA,r⟩,h2⟩:=q_;have e:=rA;replace e:=ho▸e;obtain rfl:=aA e;obtain⟨r1,r2,r3⟩:=r;rcases r2 with _|_;exact⟨a,oG,rfl,ha,⟨_,_,ho,r1,rfl,r3⟩,h2⟩
theorem sU(h:lH (KR ρ) es oG)(x):LR ρ (es.lookup x)<|valueAt oG x:=by
 unfold valueAt;induction h with
 |nil=>exact trivial
 |@cons e kv l m hh ht ih=>
  obtain⟨ek,ev⟩:=e;obtain⟨kk,kv⟩:=kv;obtain⟨h1,h2⟩:=hh;dsimp only at h1 h2;subst h1;by_cases hx:x=ek
  .subst hx;simp only[List.lookup,bM,jA,decide_true];exact h2
  .have hb:=a7.mpr hx;simp only[List.lookup,hb,jA,cQ<|dQ hx];exact ih
theorem kZ.setOf(G:kZ C ρ st s){i:Nat}{xs:List Str}(hi:st.H[i]?=some (.set xs)){y:Value}(hv:VC ρ (.ref i) y):
 ∃a,ρ[i]?=some a/\y=.ref a/\s.heap.SetOf (strKind PG C.w) a (λk=>xs.contains k) xs.length:=by
 exists C,ρ,st,s,i,xs,y,[G,hi,hv];exists a,(q9:hv);exists o,(q_:G.sim.obj i a _ q9.1 hi);obtain⟨ho,es,ep,t,q8⟩:=q_;exact⟨a,q9.1,q9.2,o,es,ep,t,ho,q8.1,q8.2.1,q8.2.2.1,λk=>by rw[bB];exact q8.2.2.2.1 k,q8.2.2.2.2.1,q8.2.2.2.2.2.1,q8.2.2.2.2.2.2⟩
def Ej(x y:Str):Bool:=!(Builtin.Str.occurrences x y 0 x.length 1).isEmpty
def VA(a b:V)(H:Hp):Option Bool:=(rd 3 a H).bind λda=>(rd 3 b H).bind λdb=>if(da.canLay0&&db.canLay0)=true then some (PyData.eqv da db)else none
def Qz(a b:V):Option Bool:=match b with
 |.none=>some<|a==.none
 |.bool b=>(match a with
  |.bool a=>some<|a==b
  |_=>none)
 |.ty b=>(match a with
  |.ty a=>some<|a==b
  |_=>none)
 |_=>none
def Ba(y:Str)(xs:List V)(H:Hp):Option Bool:=(qK (λv=>rd 2 v H) xs).bind λds=>if(PyData.canLayAll0 ds&&PyData.strOk y)=true then some (ds.any λd=>PyData.eqv d<|.str y)else none
def Jx(a b:V)(H:Hp):Option Bool:=vS (λy H=>(vS (λx U=>some<|Ej x y) b H).or<|vR (λi H=>(lE H i).bind λxs=>Ba y xs H) b H) a H
def Eg(a b:V)(H:Hp):Option Bool:=vS (λy=>vR (λi H=>((tE H i).bind λxs=>Ba y xs H).or<|((dE H i).bind λes=>some (es.lookup y).isSome).or<|(sE H i).bind λxs=>some<|xs.contains y) b) a H
def Ui(f:Int->Int->Bool)(a b:V)(H:Hp):Option V:=vI (λa=>vI (λb U=>some<|.bool<|f a b) b) a H
def y4(op:CmpOp)(a b:V)(H:Hp):Option V:=match op with
 |.Eq=>(VA a b H).bind λr=>some<|.bool r
 |.NotEq=>(VA a b H).bind λr=>some<|.bool (!r)
 |.Lt=>Ui (λa b=>decide<|a<b) a b H
 |.Gt=>Ui (λa b=>decide<|a>b) a b H
 |.GtE=>Ui (λa b=>decide<|a >=b) a b H
 |.In=>((Jx a b H).or<|Eg a b H).bind λr=>some<|.bool r
 |.NotIn=>(Jx a b H).bind λr=>some<|.bool (!r)
 |.Is=>(Qz a b).bind λr=>some<|.bool r
 |.IsNot=>(Qz a b).bind λr=>some<|.bool (!r)
 |_=>none
theorem VC.isNone(h:VC ρ a x):(x==Value.none)=(a==.none):=by induction a<;>first|(subst h;rfl)|(obtain⟨t,rfl⟩:=h;rfl)|(obtain⟨t,_,rfl⟩:=h;rfl)
inductive IsI(x y:Value)(r:Bool):Prop
 |none (e:y=.none) (h:(x==Value.none)=r)
 |plain (e:plainIs x y=true) (h:(x==y)=r)
set_option tactic.hygienic true in
theorem Tx(h:Qz a b=some r)(ha:VC ρ a x)(hb:VC ρ b y):IsI x y r:=by
 induction b<;>first|exact nn h|skip
 .subst hb;obtain rfl:=aA h;exact .none rfl ha.isNone
 .induction a<;>first|exact nn h|skip
  rcases h with _|_;subst ha;subst hb;refine .plain rfl ?_;rename_i c d;induction c<;>induction d<;>rfl
 .induction a<;>first|exact nn h|skip
  obtain rfl:=aA h;subst ha;subst hb;refine .plain rfl ?_;rename_i m n;by_cases hm:n=m
  .subst hm;simp[bM]
  .rw[a7.mpr hm,a7.mpr λq=>hm<|by injection q]
inductive EqI(C:Cx)(x y:Value)(r:Bool)(h:Heap):Prop
 |mk (da db:PyData) (as bs:List Addr) (ra:Reads h x da as) (rb:Reads h y db bs) (c1:da.canLay0=true) (c2:db.canLay0=true) (hd:C.A.units+min da.depth db.depth<cLine) (e:PyData.eqv da db=r)
theorem k7.units(B:k7 k C):C.A.units+5<cLine:=by have:=B.un;show C.A.units+5<9900;exact lk this
theorem L9(B:k7 k C)(G:kZ C ρ st s)(ha:VC ρ a x)(hb:VC ρ b y)(e:VA a b st.H=some r):EqI C x y r s.heap:=by obtain⟨da,h1,e⟩:=aB.mp e;obtain⟨db,h2,e⟩:=aB.mp e;obtain⟨hc,e⟩:=Fd e;cases e;simp only[aQ]at hc;obtain⟨⟨as,ra⟩,d1⟩:=Dk G 3 a x da ha h1;obtain⟨⟨bs,rb⟩,d2⟩:=Dk G 3 b y db hb h2;exact⟨da,db,as,bs,ra,rb,hc.1,hc.2,bW (fJ (bC (fV ..)<|bC d1<|cR _ _) _) B.units,rfl⟩
inductive abW(C:Cx)(y:Str)(ds:List PyData)(vs:List Value)(h:Heap):Prop
 |mk (as:List Addr) (ra:ReadsAll h vs ds as) (c1:PyData.canLayAll0 ds=true) (c2:(PyData.str y).canLay0=true) (hd:C.A.units+1+min (PyData.depthAll ds) (PyData.depth<|.str y)<cLine)
theorem Gh(B:k7 k C)(G:kZ C ρ st s){xs:List V}{vs:List Value}(hx:lH (VC ρ) xs vs)(e:Ba y xs st.H=some r):∃ds,abW C y ds vs s.heap/\(ds.any λd=>PyData.eqv d<|.str y)=r:=by exists k,C,ρ,st,s,y,xs,vs,r,[B,G,hx,e];exists ds,(q_:aB.mp e);obtain⟨RI,e⟩:=q_;obtain⟨hc,e⟩:=Fd e;cases e;simp only[aQ]at hc;obtain⟨⟨as,ra⟩,hd⟩:=u6 (Dk G 2) hx RI;exact⟨ds,⟨as,ra,hc.1,by simpa[PyData.canLay0]using hc.2,bW (by rw[Nat.add_assoc];exact fJ (bC (fJ (bC (fV ..) hd) 1)<|cR _ _) _) B.units⟩,rfl⟩
theorem am{T:Value->Value->Sem Value}(ha:VC ρ a x)(hb:VC ρ b y)(h:∀a b t u Q E,Q (.bool<|f a b) s->wpAny (model PG C.w) C.A (T (.int a t)<|.int b u) Q E s):Sd C (T x y) VC ρ s st<|pE st<|Ui f a b st.H:=
 gI (T:=λx=>T x y) rfl ha λa t=>gI rfl hb λb u=>Sd.oM λG Q E kk=>h a b t u Q E<|kk _ rfl
theorem S3(B:k7 k C){T:Value->Value->Sem Value}{g:Bool->V}{x y:Value}(ha:VC ρ a x)(hb:VC ρ b y)(e:Jx a b st.H=some r)
 (h1:∀u v t t' Q E,(∀z,VC ρ (g<|Ej u v) z->Q z s)->wpAny (model PG C.w) C.A (T (.str v t)<|.str u t') Q E s)
  (h2:∀v t z ds as Q E,Reads s.heap z (.list ds) as->PyData.canLayAll0 ds=true->(PyData.str v).canLay0=true->C.A.units+1+min (PyData.depthAll ds) (PyData.depth<|.str v)<cLine->(∀z,VC ρ (g<|ds.any λd=>PyData.eqv d<|.str v) z->Q z s)->wpAny (model PG C.w) C.A (T (.str v t) z) Q E s):
  Sd C (T x y) VC ρ s st (some (.ok<|g r,st)):=by
  induction a<;>first|exact nn e|skip
  obtain⟨t,rfl⟩:=ha;induction b<;>first|exact nn e|skip
  .obtain rfl:=aA e;obtain⟨u,rfl⟩:=hb;exact Sd.oM λG Q E kk=>h1 _ _ t u Q E λz hz=>kk z hz
  .obtain⟨xs,q9⟩:=aB.mp e;refine Sd.oM λG Q E kk=>?_;obtain⟨a',vs,m,rfl,q8⟩:=G.list (nS q9.1) hb;obtain⟨ds,⟨as,ra,c1,c2,hd⟩,rfl⟩:=Gh B G q8.2.2 q9.2;exact h2 _ t _ ds _ Q E (.list q8.2.1 rfl rfl ra) c1 c2 hd λz hz=>kk z hz
set_option tactic.hygienic true in
theorem X9(B:k7 k C){x y:Value}(ha:VC ρ a x)(hb:VC ρ b y):Sd C (compareOp .In x y) VC ρ s st<|pE st<|(Eg a b st.H).bind λr=>some<|.bool r:=by
 exists k,C,ρ,st,s,a,b,x,y,[B,ha,hb];refine gB rfl ?_;exists r;intro e;induction a<;>first|exact nn e|skip
 rename_i z;obtain⟨t,rfl⟩:=ha;induction b<;>first|exact nn e|skip
 rename_i i;replace e:((tE st.H i).bind _).or (((dE st.H i).bind _).or<|(sE st.H i).bind _)=some r:=e;rcases h1:tE st.H i with _|xs
 .replace e:=h1▸e;rcases h2:dE st.H i with _|es
  .rw[h2]at e;obtain⟨xs,q8⟩:=aB.mp e;injection q8.2 with q_;subst q_;refine Sd.plain λG Q E kk=>?_;obtain⟨a',N4,rfl,hS⟩:=G.setOf (Cs q8.1) hb;exact wpAny_inSet_of (hZ PG C.w _ t) rfl hS<|kk _ 1 rfl
  .replace e:=h2▸e;obtain rfl:=aA e;refine Sd.plain λG Q E kk=>?_;obtain⟨a',oG,rfl,q9⟩:=G.dict (qH h2) hb;have:=sU q9.2.2 z;refine wpAny_in_of (hZ PG C.w _ t) ?_ q9.2.1.mapOf (kk _ 1 ?_)
   .have h9:=(G.sim.new a'<|aR q9.1).2;refine a7.mpr λq=>?_;simp only[q]at h9;exact absurd h9<|by decide
   .induction h1:es.lookup z<;>rcases h2:valueAt oG z with _|_<;>rw[h1,h2]at this<;>first|exact this.elim|rfl
 .rw[h1]at e;have no:∀{q},st.H[i]?=some q->q=.tuple xs:=λh=>aA<|h.symm.trans<|wF h1;cases h2:dE st.H i with
  |some es=>injection no (qH h2)
  |none=>
  cases h3:sE st.H i with
  |some es=>injection no (Cs h3)
  |none=>
  rw[h2,h3]at e;replace e:Ba z xs st.H=some r:=by revert e;show((Ba z xs st.H).or none)=some r->_;induction Ba z xs st.H<;>exact id
  refine Sd.oM λG Q E kk=>?_;obtain⟨a',vs,m,rfl,lW⟩:=G.tuple (wF h1) hb;obtain⟨ds,⟨as,ra,c1,c2,hd⟩,rfl⟩:=Gh B G lW.2.2 e;exact SeqAt.in_tuple_reads (.tuple lW.2.1 rfl rfl ra) (.str _ t) c1 c2 hd<|kk _ rfl
theorem KA(B:k7 k C)(ha:VC ρ a x)(hb:VC ρ b y):Sd C (compareOp op x y) VC ρ s st<|pE st<|y4 op a b st.H:=by
 induction op with
 |Eq=>
  exact gB rfl λr e=>Sd.oM λG Q E kk=>by obtain⟨da,db,as,bs,ra,rb,c1,c2,hd,rfl⟩:=L9 B G ha hb e;exact SeqAt.compareEq_reads ra rb c1 c2 hd<|kk _ rfl
 |NotEq=>
  exact gB rfl λr e=>Sd.oM λG Q E kk=>by obtain⟨da,db,as,bs,ra,rb,c1,c2,hd,rfl⟩:=L9 B G ha hb e;exact SeqAt.compareNe_reads ra rb c1 c2 hd<|kk _ rfl
 |Lt=>exact am ha hb λa b t u Q E q=>P.lt_int q
 |Gt=>exact am ha hb λa b t u Q E q=>P.gt_int q
 |GtE=>exact am ha hb λa b t u Q E q=>P.ge_int q
 |LtE=>exact Sd.nil
 |Is=>
  exact gB rfl λr e=>Sd.oM λG Q E kk=>by
   rcases Tx e ha hb with⟨rfl,h⟩|⟨h1,h2⟩
   .exact is_none (h▸(kk _ rfl))
   .exact wpAny_is_plain h1 (h2▸(kk _ rfl))
 |IsNot=>
  exact gB rfl λr e=>Sd.oM λG Q E kk=>by
   rcases Tx e ha hb with⟨rfl,h⟩|⟨h1,h2⟩
   .exact isNot_none (h▸(kk _ rfl))
   .exact wpAny_isNot_plain h1 (h2▸(kk _ rfl))
 |In=>
  show Sd C _ _ _ _ _<|pE st<|((Jx a b st.H).or<|Eg a b st.H).bind λr=>some<|V.bool r;rcases e:Jx a b st.H with _|r
  .exact X9 B ha hb
  .exact S3 B ha hb e (λu v t t' Q E q=>P.in_str<|q _ rfl) λv t z ds as Q E h1 h2 h3 h4 q=>SeqAt.in_list_reads h1 (.str _ t) h2 h3 h4<|q _ rfl
 |NotIn=>exact gB rfl λr e=>S3 B (g:=λr=>V.bool (!r)) ha hb e (λu v t t' Q E q=>P.notIn_str<|q _ rfl) λv t z ds as Q E h1 h2 h3 h4 q=>SeqAt.notIn_list_reads h1 (.str _ t) h2 h3 h4<|q _ rfl
noncomputable abbrev lJ(l:List Nat):Str:=⟨l.toArray⟩
theorem n5(l):(lJ l).length=l.length:=rfl
theorem tN(l):(lJ l).cps.toList=l:=by simp[lJ]
theorem AM(x):lJ x.cps.toList=x:=by induction x;simp[lJ]
theorem Jk{l m:List Nat}:lJ l=lJ m<->l=m:=by
 constructor
 .intro h;have:=aV (λs:Str=>s.cps.toList) h;simpa using this
 .rintro rfl;rfl
theorem yN(l m):lJ l++lJ m=lJ (l++m):=by apply Str.ext';simp only[Str.cps_append];simp[lJ]
def oJ(c:Nat):List Nat->List (List Nat)
 |[]=>[[]]
 |d::r=>if d=c then[]::oJ c r else match oJ c r with
  |p::ps=>(d::p)::ps
  |[]=>[[d]]
theorem yG:oJ c []=[[]]:=rfl
theorem Da:oJ c (d::r)=if d=c then[]::oJ c r else match oJ c r with|p::ps=>(d::p)::ps|[]=>[[d]]:=rfl
theorem xO(c):∀l,oJ c l≠[]:=by
 intro zr;induction zr with
 |nil=> simp[yG]
 |cons d r mB=>
  dsimp only[yG,Da];split
  .simp
  .split<;>simp
theorem yD(c):∀p,c∉p->oJ c p=[p]:=by
 intro zr;induction zr with
 |nil=> intro _;exact rfl
 |cons d r mB=> intro h;dsimp only[yG,Da];rw[aL (λe=>h (e▸cN):d≠c),mB λm=>h<|cO _ m]
theorem yY(c):∀p r,c∉p->oJ c (p++c::r)=p::oJ c r:=by
 exists zr;induction zr with
 |nil=> intro r _;simp[yG,Da]
 |cons d q mB=>
  intro r h;show(if d=c then[]::oJ c (q++c::r)else match oJ c (q++c::r)with
  |p::ps=>(d::p)::ps
  |[]=>[[d]])=_
  rw[aL (λe=>h (e▸cN):d≠c),mB r λm=>h<|cO _ m]
set_option tactic.hygienic true in
theorem Ig(c):∀l,(oJ c l).length<=l.length+1:=by
 intro zr;induction zr with
 |nil=> simp[yG]
 |cons d r mB=>
  have ih:=mB;dsimp only[yG,Da];split
  .simp;omega
  .split
   .rename_i h;rw[h]at ih;simp at ih⊢;exact dG ih
   .simp
def jn(s:List Nat):List (List Nat)->List Nat
 |[]=>[]
 |[p]=>p
 |p::q::r=>p++s++jn s (q::r)
theorem abv{s:List Nat}:jn s []=[]:=rfl
theorem abH{s p:List Nat}:jn s [p]=p:=rfl
theorem NT{s p q:List Nat}{r}:jn s (p::q::r)=p++s++jn s (q::r):=rfl
theorem AX(s p){r:List (List Nat)}(h:r≠[]):jn s (p::r)=p++s++jn s r:=by
 rcases r with _|⟨q,r⟩
 .exact absurd rfl h
 .rfl
theorem zK(s):∀ps:List<|List Nat,Str.join (lJ s) (ps.map lJ)=lJ (jn s ps)
 |[]=>rfl
 |[p]=>rfl
 |p::q::r=>by show lJ p++lJ s++Str.join (lJ s) ((q::r).map lJ)=_;simp only[zK s (q::r),yN];rfl
theorem z0(s)(ps):Txt.join (lJ s) (ps.map lJ)=lJ (jn s ps):=by show Builtin.Str.glued _ _=_;simp[StrLaws.glued_eq_join,zK]
theorem ng{α:Type}{P:List α->Prop}(h0:P [])(h1:∀x,P [x])(h2:∀x y r,P (y::r)->P (x::y::r))(l):P l:=by
 induction l with
 |nil=>exact h0
 |cons x l ih=>
  rcases l with _|⟨y,r⟩
  .exact h1 x
  .exact h2 x y r ih
theorem Ij{α:Type}{P:List α->Prop}(h0:P [])(h1:∀x,P [x])(h2:∀x y r,P r->P (x::y::r))(l):P l:=by
 have:P l/\∀x,P (x::l):=by
  induction l with
  |nil=>exact⟨h0,h1⟩
  |cons x l ih=>exact⟨ih.2 x,λy=>h2 y x l ih.1⟩
 exact this.1
theorem KW(c)(ps):ps≠[]->(∀p∈ps,c∉p)->oJ c (jn [c] ps)=ps:=by
 induction ps using ng with
 |h0=>exact λh=>absurd rfl h
 |h1 p=>exact λU h=>yD c p<|h p cN
 |h2 p q r ih=> intro _ h;show oJ c (p++[c]++jn [c] (q::r))=_;simp[yY c _ _<|h p cN,ih (by simp) λx hx=>h x<|cO _ hx]
theorem Pp(l)(c):Txt.split (lJ l) (lJ [c])=(oJ c l).map lJ:=by
 revert l c;exists l,c;have hj:=StrLaws.join_split (lJ l)<|lJ [c];have hf:=StrLaws.split_free (lJ l) c;have o9:Txt.split (lJ l) (lJ [c])≠[]:=by have h:=split_pos (lJ l)<|lJ [c];intro h';replace h:=h'▸h;cases h
 generalize Txt.split (lJ l) (lJ [c])=ps at hj hf o9;have e:ps=(ps.map λp=>p.cps.toList).map lJ:=by rw[bX];have:(lJ∘λp:Str=>p.cps.toList)=id:=funext λp=>AM p;simp[this]
 rw[e,zK,Jk]at hj;refine a6 e ?_;rw[<-hj,KW c _ (by simpa using o9) (λp hp=>by obtain⟨q,hq,rfl⟩:=cA.mp hp;exact hf q hq)]
theorem Dz(l)(c):(Builtin.Str.partsBetween (lJ l) (Builtin.Str.occurrences (lJ l) (lJ [c]) 0 (lJ l).length<|(lJ l).length+1) (lJ [c]).length).length<=l.length+2:=by rw[len_partsBetween];have:=StrLaws.occ_length_le (lJ l) (lJ [c]) 0 (lJ l).length<|(lJ l).length+1;rw[n5]at this;rw[n5];exact i6 this 1
theorem Lp(l)(c)(z):Txt.replace (lJ l) (lJ [c]) (lJ z)=lJ (jn z<|oJ c l):=by simp[show Txt.replace (lJ l) (lJ [c]) (lJ z)=Str.join (lJ z) (Txt.split (lJ l)<|lJ [c])from StrLaws.replace_one _ _ _,Pp,zK]
def s9(c:Nat)(z:List Nat)(l:List Nat):List Nat:=l.flatMap λd=>if d=c then z else[d]
set_option tactic.hygienic true in
theorem Zq(c)(z):∀l,jn z (oJ c l)=s9 c z l:=by
 exists zr;induction zr with
 |nil=> exact rfl
 |cons d r mB=>
  have ih:=mB;dsimp only[yG,Da];by_cases h:d=c
  .rw[aH h,AX _ _<|xO c r,ih];simp[s9,h]
  .rw[aL h];split
   .rename_i p ps e;have ih:=e▸ih;have:s9 c z (d::r)=d::s9 c z r:=by simp[s9,h]
    simp[this,<-ih];rcases ps with _|_<;>rfl
   .rename_i e;exact absurd e<|xO c r
theorem Ad(l)(c):Ej (lJ l) (lJ [c])=decide (c∈l):=by
 exists l,c,[];rw[eO,d6];unfold Ej;rw[StrLaws.found_iff];constructor
 .rintro⟨i,h1,h2⟩
  have:=(StrLaws.subAt_one (lJ l) c i).mp ⟨h1,h2⟩;exact aR this
 .intro h;exists i,(hi:cE h);have:=(StrLaws.subAt_one (lJ l) c i).mpr (by simp[tN];exact hi);exact⟨i,this.1,this.2⟩
def uB:Expr->Bool
 |.ListComp ..|.SetComp ..|.DictComp ..=>true
 |_=>false
def v8:Expr->Bool
 |.Slice ..=>true
 |_=>false
def vT:Expr->Bool
 |.Tuple ..|.List ..=>true
 |_=>false
def Cb:List Expr->Option (List Str)
 |[]=>some []
 |e::r=>(oP e).bind λq=>(Cb r).bind λl=>some (q.1::l)
def Vx:Expr->Option (Expr×List Comprehension×Scope×Pos)
 |.ListComp e g s p=>some (e,g,s,p)
 |_=>none
def ER:Expr->Option (Expr×Expr×Pos)
 |.Subscript o i p=>some (o,i,p)
 |_=>none
def FL:List ExceptHandler->Option (Str×Pos×Stmt×List Stmt×Pos)
 |[.ExceptHandler (some e) none (b::r) p]=>(oP e).map λq=>(q.1,q.2,b,r,p)
 |_=>none
def Bf{β:Type}(_:β)(st:St):lG Fl:=some (.ok .next,st)
section
variable(S:lR)(sc:Scope)
def oX:List Str->List V->St->lG Unit
 |[],vs,st=>if vs.isEmpty then some (.ok (),st)else none
 |x::xs,vs,st=>match vs with
  |v::vs=>(mX sc x v st).then λU st=>oX xs vs st
  |[]=>none
def sL:Expr->V->St->lG Unit
 |.Name x _,v,st=>mX sc x v st
 |.Attribute o x _,v,st=>(mU S sc o st).then λa st=>rD st<|(S.setattr a x v st.H).map λh=>((),h)
 |.Subscript o i _,v,st=>if v8 i then none else(mU S sc o st).then λa st=>(mU S sc i st).then λb st=>rD st<|(S.sX a b v st.H).map λh=>((),h)
 |.Tuple es _ _,v,st=>(Cb es).bind λxs=>(pE st<|S.unpack v xs.length st.H).then λvs st=>oX sc xs vs st
 |_,_,_=>none
end
section
def wm(o:lG Fl)(g:V->St->lG Fl):lG Fl:=match o with
 |none=>none
 |some p=>match p.1 with
  |.ok f=>some (.ok f,p.2)
  |.exc c=>g c p.2
def Cu(o:lG Fl):lG Fl:=match o with
 |none=>none
 |some p=>match p.1 with
  |.ok f=>some (.ok f,p.2)
  |.exc _=>none
def kl(g:St->lG Fl)(f:Fl)(st:St):lG Fl:=match f with
 |.next=>g st
 |f=>some (.ok f,st)
variable(S:Bool->lR)(fu:Nat)
section
variable(ex:Bool->Scope->List Stmt->St->lG Fl)(q:Bool)(sc:Scope)
def nh(ob:St->lG Fl)(hs:List ExceptHandler)(st:St):lG Fl:=(FL hs).bind λh=>wm (ob st) λc st=>if sc.kind==.function&&sc.names.lookup h.1==some .globalImplicit&&(S false).N3 c h.1 then Cu (ex true sc (h.2.2.1::h.2.2.2.1) st)else none
def Bb:Stmt->St->lG Fl
 |.Expr e _,st=>if uB e then none else(mU (S q) sc e st).then Bf
 |.Pass _,st=>Bf () st
 |.Break _,st=>some (.ok .brk,st)
 |.Continue _,st=>some (.ok .cont,st)
 |.Return e _,st=>match e with
  |none=>some (.ok<|.ret .none,st)
  |some e=>(mU (S q) sc e st).then λv st=>some (.ok<|.ret v,st)
 |.Assign ts e _,st=>match ts with
  |[]=>none
  |t::r=>match r with
   |[]=>if vT t&&vT e||n6 t||(uB e&&(Vx e).isNone)then none else(mU (S q) sc e st).then λv st=>(sL (S q) sc t v st).then Bf
   |u::r=>if n6 t||n6 u||!r.isEmpty then none else(mU (S q) sc e st).then λv st=>(sL (S q) sc t v st).then λU st=>(sL (S q) sc u v st).then Bf
 |.AugAssign t op e _,st=>match oP t with
  |some x=>(D0 (S q) sc x.1 st).then λa st=>(mU (S q) sc e st).then λb st=>(rD st<|(S q).Bv op a b st.H).then λc st=>(mX sc x.1 c st).then Bf
  |none=>(u3 t).bind λx=>(mU (S q) sc x.1 st).then λa st=>(mV st<|(S q).attr a x.2.1 st.H).then λb st=>(mU (S q) sc e st).then λd st=>(rD st<|(S q).Bv op b d st.H).then λc st=>(rD st<|((S q).setattr a x.2.1 c st.H).map λh=>((),h)).then Bf
 |.If t b o _,st=>(rT (S q) sc t st).then λc st=>bif c then ex q sc b st else ex q sc o st
 |.While t b o _,st=>if q then none else qP (rT (S false) sc t) (ex false sc b) (ex false sc o) fu st
 |.For t it b o p,st=>if q then none else match oP t with
  |some x=>if o.isEmpty&&!vD it then(mU (S false) sc it st).then λa st=>((S false).iter a st.H).bind λxs=>Cw ((S false).iter a) xs (mX sc x.1) (ex false sc b) xs.2 st else none
  |none=>((S false).stmt sc (.For t it b o p) st).then Bf
 |.Try b hs o f _,st=>if q||!(o.isEmpty&&f.isEmpty)then none else nh S ex sc (ex false sc b) hs st
 |.Raise e c _,st=>e.bind λe=>if c.isSome then none else((S q).raise sc e st).then λU U=>none
 |.Delete ts _,st=>(H9 ts).bind λt=>(ER t).bind λx=>if v8 x.2.1 then none else(mU (S q) sc x.1 st).then λa st=>(mU (S q) sc x.2.1 st).then λb st=>(rD st<|((S q).rP a b st.H).map λh=>((),h)).then Bf
 |_,_=>none
end
def w3(f:Stmt->St->lG Fl):List Stmt->St->lG Fl
 |[],st=>Bf () st
 |s::r,st=>match r with
  |[]=>f s st
  |_::_=>(f s st).then<|kl<|w3 f r
def mW:Nat->Bool->Scope->List Stmt->St->lG Fl
 |0=>λU U U U=>none
 |n+1=>λq sc=>w3<|Bb S fu (mW n) q sc
def nZ:Bool->Scope->List Stmt->St->lG Fl:=mW S fu 40
end
def m4(k:Nat)(S:Bool->lR):Prop:=∀C,k7 k C->lV C (S true)/\(mN C->lV C (S false))
theorem m4.at{S:Bool->lR}(OK:m4 k S)(B:k7 k C)(L:q=false->mN C):lV C<|S q:=by
 induction q
 .exact(OK C B).2 (L rfl)
 .exact(OK C B).1
section
variable{C:Cx}{S:lR}
theorem lH.mono{ρ lI:List Addr}(p:ρ<+:lI){l:List V}{m:List Value}(h:lH (VC ρ) l m):lH (VC lI) l m:=h.imp λU U=>VC.mono p
theorem KR.mono{ρ lI:List Addr}(p:ρ<+:lI){l:List (Str×V)}{m:List (Str×Value)}(h:lH (KR ρ) l m):lH (KR lI) l m:=h.imp λU U q=>⟨q.1,q.2.mono p⟩
set_option tactic.hygienic true in
theorem mZ{o:Expr}{name:Str}{env:Env}{whole:Sem Value}(h:t9 o=true):attributeBase o name env whole=whole:=by
 revert h;rcases o with _|_<;>first|exact λU=>rfl|skip
 rename_i f as ks p;rcases f with _|_<;>first|exact λU=>rfl|skip
 rcases as with _|_<;>first|exact λU=>rfl|skip
 rcases ks with _|_<;>first|exact λU=>rfl|skip
 rename_i id p;intro h;exact aH (by rw[show(id != "super")=true from h];rfl)
section
variable{ρ:List Addr}{s:Shared}{st:St}
theorem Sd.iff{β:Type}{c:Prop}[Decidable c]{α:Type}{t:Sem α}{Rel:List Addr->β->α->Prop}{o:lG β}(h:c->Sd C t Rel ρ s st o):Sd C t Rel ρ s st<|if c then o else none:=by
 by_cases q:c
 .rw[aH q];exact h q
 .rw[aL q];exact Sd.nil
theorem Sd.orR{α β:Type}{t:Sem α}{Rel:List Addr->β->α->Prop}{a b:lG β}(h1:Sd C t Rel ρ s st a)(h2:Sd C t Rel ρ s st b):Sd C t Rel ρ s st<|a.or b:=by
 rcases a with _|p
 .exact h2
 .exact h1
set_option backward.match.sparseCases true in
theorem Lf(O:lV C S){f:V}{fv:Value}{first:List Value}{fs vs:List V}{xs:List Value}{kv:List (Str×V)}{ks:List (Str×Value)}{Km:Bool}{n:Nat}(hf:VC ρ f fv)(TQ:lH (VC ρ) fs first)(hv:lH (VC ρ) vs xs)(hk:lH (KR ρ) kv ks)(hs:Km=false):
 Sd C (do
  let r<-match<-keeperOf fv,Km with
   |.frame,true=>callMarked starredCall fv (first++xs) ks
   |.frame,false=>if n>30 then call fv (first++xs) ks else callMarked plainCall fv (first++xs) ks
   |.boundFrame,false=>if n>30 then call fv (first++xs) ks else callMarked callOfAMethodObject fv (first++xs) ks
   |.machine,false=>call fv (first++xs) ks
   |_,_=>operate (fv::(if Km then(first++xs).reverse else(first++xs))++ks.map (·.2))<|call fv (first++xs) ks
  holding [r] point
  pure r) VC ρ s st (if S.kp f st.H then mV st (S.call f (fs++vs) kv st.H)else none):=by
 subst hs;refine Sd.iff λhkp=>?_;intro G Yt YX acK;obtain⟨k',Ys⟩:=O.kp G hf hkp;refine aD<|Ys _ _ ?_;refine(?_:Sd C _ VC ρ s st<|mV st<|S.call f (fs++vs) kv st.H) G Yt YX acK;have key:Sd C (call fv (first++xs) ks) VC ρ s st<|mV st<|S.call f (fs++vs) kv st.H:=O.call hf (TQ.append hv) hk
 have fin:∀t:Sem Value,Sd C t VC ρ s st (mV st<|S.call f (fs++vs) kv st.H)->Sd C (t>>=λr=>do holding [r] point;pure r) VC ρ s st (mV st<|S.call f (fs++vs) kv st.H):=λt h=>by intro G r uU e;refine aD<|bL (h G r uU e) (λx lD P=>?_) λU U x=>x;exact aD<|cL λU U U=>aM P
 rcases k' with _|_|_|_
 .show Sd C (if n>30 then _ else _) _ _ _ _ _;split
  .exact fin _ key
  .exact fin _ (Sd.keep key)
 .show Sd C (if n>30 then _ else _) _ _ _ _ _;split
  .exact fin _ key
  .exact fin _ (Sd.keep key)
 .exact fin _ key
 .exact fin _ (Sd.operate key)
end
section
variable{α β γ:Type}{ρ:List Addr}{s:Shared}{st:St}
theorem Sd.uJ{vs:List Value}{t:Sem α}{f:α->Sem γ}{Rel:List Addr->β->γ->Prop}{o:lG β}(h:Sd C (t>>=f) Rel ρ s st o):Sd C (PySem.holding vs t>>=f) Rel ρ s st o:=by intro G r k6 e Γ p qw;have:=h G r k6 e Γ p qw;simp only[Sem.wp_bind']at this⊢;rw[Sem.wp_holding];exact this
theorem Sd.assoc{δ:Type}{t:Sem α}{f:α->Sem γ}{g:γ->Sem δ}{Rel:List Addr->β->δ->Prop}{o:lG β}(h:Sd C (t>>=λa=>f a>>=g) Rel ρ s st o):Sd C ((t>>=f)>>=g) Rel ρ s st o:=by rw[bind_assoc];exact h
theorem Sd.Kn{base:Expr}{ov:Value}{t:Sem Value}{o:lG V}(h:Sd C t VC ρ s st o):Sd C (t>>=λr=>letTemporaryGo base ov r>>=λU=>Pure.pure r) VC ρ s st o:=
 λG r k6 e=>aD<|bL (h G r k6 e) (λU U P=>aD<|wpAny_letTemporaryGo<|aM P) λU U y=>y
end
theorem Le{op:CmpOp}{e:Expr}(h:vD e=false):behindInMarks op e=false:=by revert h;rcases e with _|_<;>first|exact λU=>rfl|(intro h;injection h)
theorem ac(p)(env):∀as,(∀a∈as,∀x q,a≠.Starred x q)->(backTo p<|starEach as env).any (·.1)=false:=by
 intro zr;induction zr with
 |nil=> intro _;exact rfl
 |cons e r mB=>
  intro h;have:backTo p (starEach (e::r) env)=(false,eval e env)::backTo p (starEach r env):=by rcases e with _|_<;>first|rfl|exact absurd rfl<|h _ (.head _) _ _
  rw[this];exact mB λa ha=>h a<|.tail _ ha
theorem CK(p)(env)(ks)(h:∀k∈ks,k.arg.isSome=true):(backToKw p<|keywordEach ks env).all (·.1.isSome)=true/\(backToKw p<|keywordEach ks env).any (·.1.isNone)=false:=by
 induction ks with
 |nil=>exact⟨rfl,rfl⟩
 |cons k r ih=>
  have ih:=ih λa ha=>h a<|.tail _ ha;have hk:=h k<|.head _;obtain⟨_|n,e,q⟩:=k
  .injection hk
  .exact ih
theorem sT{as:List Expr}{ks:List Keyword}(h:o8 as ks=true)(p)(env):
 (backTo p<|starEach as env).any (·.1)=false/\(backToKw p<|keywordEach ks env).all (·.1.isSome)=true/\(backToKw p<|keywordEach ks env).any (·.1.isNone)=false:=by
 simp only[o8,aQ,aX]at h;refine⟨ac p env as λa ha x q e=>?_,CK p env ks h.2⟩;subst e;have:=h.1 _ ha;rcases this with _|_
theorem vE{as:List Expr}{ks:List Keyword}{p:Pos}{f:Value}{oa:St->lG (List V)}{ok:St->lG (List<|Str×V)}(h:o8 as ks=true)
 (args:∀ρ s st,Sd C (spliced<|backTo p<|starEach as C.env) (λρ vs xs=>lH (VC ρ) vs xs) ρ s st<|oa st)
 (TR:∀ρ s st,Sd C (evalAll<|(backToKw p<|keywordEach ks C.env).map (·.2)) (λρ kv xs=>lH (KR ρ) kv<|((backToKw p<|keywordEach ks C.env).filterMap (·.1)).zip xs) ρ s st<|ok st){ρ:List Addr}{s:Shared}{st:St}:
 Sd C (evalArgs f true (backTo p<|starEach as C.env)<|backToKw p<|keywordEach ks C.env) (λρ x a=>lH (VC ρ) x.1 a.pos/\lH (KR ρ) x.2 a.kw) ρ s st
  ((oa st).then λvs st=>(ok st).then λkv st=>some (.ok (vs,kv),st)):=by
 exists C,as,ks,p,f,oa,ok,ρ,s,st,[h,args,TR];obtain⟨h1,q8⟩:=sT h p C.env;generalize backTo p (starEach as C.env)=ta at*;generalize backToKw p (keywordEach ks C.env)=tk at*;have e:evalArgs f true ta tk=(do
  let pos<-spliced ta
  holding (pos++[]) (do
   let vs<-evalAll (tk.map (·.2))
   pure ⟨pos,(tk.filterMap (·.1)).zip vs⟩)):=by
  dsimp only[evalArgs];simp only[q8.1,if_true];rcases ta with _|⟨⟨b,x⟩,l⟩
  .simp only[pure_bind];rfl
  .rcases b with _|_
   .simp only[pure_bind];rfl
   .injection h1
 exact e▸(Sd.bind (args ρ s st) λlI s' k6 vs xs hp hv=>Sd.holding<|Sd.bind (TR lI s' k6) λAr zN uU kv ys rE hk=>Sd.pure ⟨hv.mono rE,hk⟩)
set_option backward.match.sparseCases true in
theorem Bg(O:lV C S){as:List Expr}{ks:List Keyword}{p p':Pos}{f:V}{fv:Value}{fs:List V}{first:List Value}{oa:St->lG (List V)}{ok:St->lG (List<|Str×V)}(h:o8 as ks=true)
 {ρ:List Addr}{s:Shared}{st:St}(hf:VC ρ f fv)(TQ:lH (VC ρ) fs first)
 (args:∀ρ s st,Sd C (spliced<|backTo p<|starEach as C.env) (λρ vs xs=>lH (VC ρ) vs xs) ρ s st<|oa st)
 (TR:∀ρ s st,Sd C (evalAll<|(backToKw p<|keywordEach ks C.env).map (·.2)) (λρ kv xs=>lH (KR ρ) kv<|((backToKw p<|keywordEach ks C.env).filterMap (·.1)).zip xs) ρ s st<|ok st):
 Sd C (callWith p' fv first (backTo p<|starEach as C.env)<|backToKw p<|keywordEach ks C.env) VC ρ s st
  (((oa st).then λvs st=>(ok st).then λkv st=>some (.ok (vs,kv),st)).then λa st=>if S.kp f st.H then mV st (S.call f (fs++a.1) a.2 st.H)else none):=by
 have q8:=sT h p C.env;refine Sd.bind (Sd.holding<|vE h args TR) λlI s' k6 a x hp ha=>Sd.standAt ?_;exact Lf O (hf.mono hp) (TQ.mono hp) ha.1 ha.2 (by simp only[q8.1,q8.2.2];rfl)
theorem Wr(O:lV C S){o:Expr}{x:Str}{ap p:Pos}{as:List Expr}{ks:List Keyword}{oa:St->lG (List V)}{ok:St->lG (List<|Str×V)}{oo:lG V}{ρ:List Addr}{s:Shared}{st:St}
 (ho:t9 o=true)(hn:as.length+ks.length+1<30)(hl:(ap.endLine==p.line)=true)(h:o8 as ks=true)(hb:Sd C (eval o C.env) VC ρ s st oo)
 (args:∀ρ s st,Sd C (spliced<|backTo p<|starEach as C.env) (λρ vs xs=>lH (VC ρ) vs xs) ρ s st<|oa st)
 (TR:∀ρ s st,Sd C (evalAll<|(backToKw p<|keywordEach ks C.env).map (·.2)) (λρ kv xs=>lH (KR ρ) kv<|((backToKw p<|keywordEach ks C.env).filterMap (·.1)).zip xs) ρ s st<|ok st):
 Sd C (eval (.Call (.Attribute o x ap) as ks p) C.env) VC ρ s st (oo.then λv st=>(pE st<|S.m1 v x st.H).then λf st=>
  ((oa st).then λvs st=>(ok st).then λkv st=>some (.ok (vs,kv),st)).then λa st=>if S.kp f.1 st.H then mV st (S.call f.1 (f.2++a.1) a.2 st.H)else none):=by
 have q8:=sT h p C.env;have few:methodCallForm (as.length+ks.length) (backTo p<|starEach as C.env) (backToKw p<|keywordEach ks C.env)=true:=by
  unfold methodCallForm;have TS:(backTo p<|starEach as C.env).all (!·.1)=true:=by refine a6 List.all_eq_not_any_not ?_;simpa using q8.1
  simp only[TS,q8.2.1];simp only[kU,d6];split<;>exact lk hn
 show Sd C (do
  let ov<-attributeBase o x C.env (eval o C.env)
  standAt ap.atName
  methodCall o x ap p C.env ov (as.length+ks.length) (backTo p<|starEach as C.env) (backToKw p<|keywordEach ks C.env)) _ _ _ _ _
 simp[mZ ho];refine Sd.bind hb λlI s' k6 v ov hp hv=>Sd.standAt ?_;dsimp only[methodCall,methodCallPos];rw[few,hl];exact Sd.bind (Sd.holding<|O.m1 hv) λAr zN uU f g rE hg=>Bg O h hg.1 hg.2 args TR
section
variable{β:Type}{α γ:Type}{ρ:List Addr}{s:Shared}{st:St}
theorem Sd.m3{t:Sem α}{Rel:List Addr->β->α->Prop}{o:Option γ}{g:γ->lG β}(h:∀x,o=some x->Sd C t Rel ρ s st (g x)):Sd C t Rel ρ s st<|o.bind g:=by
 rcases o with _|x
 .exact Sd.nil
 .exact h x rfl
theorem pY{l:List γ}{x:γ}(h:H9 l=some x):l=[x]:=by
 match l,h with
 |[y],h=>obtain rfl:=aA h;rfl
theorem sO{e:Expr}{q}(h:u3 e=some q):e=.Attribute q.1 q.2.1 q.2.2:=by revert h;rcases e with _|_<;>first|exact nn|(intro h;obtain rfl:=aA h;rfl)
theorem vK{e:Expr}{q}(h:Ap e=some q):e=.Call q.1 q.2.1 q.2.2.1 q.2.2.2:=by revert h;rcases e with _|_<;>first|exact nn|(intro h;obtain rfl:=aA h;rfl)
theorem nQ{e:Expr}{q}(h:oP e=some q):e=.Name q.1 q.2:=by revert h;rcases e with _|_<;>first|exact nn|(intro h;obtain rfl:=aA h;rfl)
theorem Jz{e:Expr}{q}(h:v5 e=some q):∃p,e=.Slice q.1 q.2.1 q.2.2 p:=by revert h;rcases e with _|_<;>first|exact nn|(intro h;obtain rfl:=aA h;exact⟨_,rfl⟩)
theorem Wo{i:Expr}{x y:Value}(h:v5 i=none):subscripted i false x y=operate [x,y] (getItem x y):=by revert h;rcases i with _|_<;>first|exact λU=>rfl|(intro h;injection h)
theorem Pl{f:Expr}{as:List Expr}{ks:List Keyword}{p:Pos}{env:Env}(h:u3 f=none):eval (.Call f as ks p) env=(do callWith p (<-eval f env) [] (backTo p<|starEach as env) (backToKw p<|keywordEach ks env)):=by revert h;rcases f with _|_<;>first|exact λU=>rfl|(intro h;injection h)
theorem ox{e:Expr}{r:List Expr}{p:Pos}{env:Env}(h:n6 e=false):spliced (backTo p<|starEach (e::r) env)=(do let v<-eval e env;return [v]++(<-holding [v] (spliced<|backTo p<|starEach r env))):=by rcases e with _|_<;>first|rfl|rcases h with _|_
end
section
variable{ev:Expr->St->lG V}{te:Expr->St->lG Bool}
theorem Jc(hE:∀e ρ s st,Sd C (eval e C.env) VC ρ s st<|ev e st)(e)(ρ)(s)(st):Sd C (valueOrNone<|evalOpt e C.env) VC ρ s st<|Pb ev e st:=by
 rcases e with _|e
 .exact Sd.pure rfl
 .exact hE e ρ s st
theorem tJ(hE:∀e ρ s st,Sd C (eval e C.env) VC ρ s st<|ev e st)(p)(as):∀ρ s st,Sd C (spliced<|backTo p<|starEach as C.env) (λρ vs xs=>lH (VC ρ) vs xs) ρ s st<|vB ev as st:=by
 induction as with
 |nil=>exact λU U U=>Sd.pure .nil
 |cons e r ih=>
  intro ρ s st;dsimp only[vB];by_cases hs:n6 e=true
  .rw[aH hs];exact Sd.nil
  .rw[aL hs,ox<|by simpa using hs];exact Sd.bind (hE e ρ s st) λlI s' k6 b v hp hv=>Sd.bind (Sd.holding<|ih lI s' k6) λAr zN uU bs vs rE Bx=>Sd.pure<|.cons (hv.mono rE) Bx
theorem Uy(hE:∀e ρ s st,Sd C (eval e C.env) VC ρ s st<|ev e st)(p)(ks):∀ρ s st,Sd C (evalAll<|(backToKw p<|keywordEach ks C.env).map (·.2)) (λρ kv xs=>lH (KR ρ) kv<|((backToKw p<|keywordEach ks C.env).filterMap (·.1)).zip xs) ρ s st<|vv ev ks st:=by
 induction ks with
 |nil=>exact λU U U=>Sd.pure .nil
 |cons k r ih=>
  intro ρ s st;obtain⟨a,e,q⟩:=k;induction a with
  |none=>exact Sd.nil
  |some n=>
  show Sd C (do let v<-(do let v<-eval e C.env;standAt p;pure v);return v::(<-holding [v] (evalAll<|(backToKw p<|keywordEach r C.env).map (·.2)))) (λρ kv xs=>lH (KR ρ) kv<|(n::(backToKw p<|keywordEach r C.env).filterMap (·.1)).zip xs) ρ s st
   ((ev e st).then λv st=>(vv ev r st).then λvs st=>some (.ok ((n,v)::vs),st))
  have h1:Sd C (do let v<-eval e C.env;standAt p;pure v) VC ρ s st<|ev e st:=λG r k6 e'=>
   aD (bL (hE e ρ s st G r k6 e') (λy lD P=>aD<|dK<|aM P) λU U y=>y)
  exact Sd.bind h1 λlI s' k6 b v hp hv=>Sd.bind (Sd.holding<|ih lI s' k6) λAr zN uU bs vs rE Bx=>Sd.pure<|.cons ⟨rfl,hv.mono rE⟩ Bx
set_option backward.match.sparseCases true in
theorem lp(O:lV C S)(hE:∀e ρ s st,Sd C (eval e C.env) VC ρ s st<|ev e st)(op)(p)(vs):∀ρ s st,Sd C (boolOp p op<|evalEach vs C.env) VC ρ s st<|Ve S ev op vs st:=by
 induction vs with
 |nil=>exact λU U U=>Sd.nil
 |cons x r ih=>
  intro ρ s st;cases r with
  |nil=>exact hE x ρ s st
  |cons y r=>
  show Sd C (do
   let v<-eval x C.env
   standAt p
   let t<-holding [v] (truthy v)
   match op,t with
   |.And,false|.Or,true=>pure v
   |_,_=>boolOp p op<|evalEach (y::r) C.env) _ _ _ _<|(ev x st).then λv st=>(pE st<|S.Hm v st.H).then λt st=>bif ud op t then some (.ok v,st)else Ve S ev op (y::r) st
  refine Sd.bind (hE x ρ s st) λlI s' k6 b v hp hv=>Sd.standAt<|Sd.bind (Sd.holding<|O.Hm hv) λAr zN uU t t' rE ht=>?_;subst ht;induction op<;>induction t<;>first|exact Sd.pure (hv.mono rE)|exact ih Ar zN uU
set_option backward.match.sparseCases true in
theorem Xj(hT:∀e ρ s st,Sd C (isTrue e C.env<|eval e C.env) (λU b c=>b=c) ρ s st<|te e st)(op)(vs):∀ρ s st,Sd C (allTrue op vs C.env) (λU b c=>b=c) ρ s st<|D6 te op vs st:=by
 induction vs with
 |nil=>exact λU U U=>Sd.pure rfl
 |cons x r ih=>
  intro ρ s st;show Sd C (do
   match op,<-isTrue x C.env (eval x C.env)with
   |.And,false=>pure false
   |.Or,true=>pure true
   |_,_=>allTrue op r C.env) _ ρ s st<|(te x st).then λb st=>bif ud op b then some (.ok b,st)else D6 te op r st
  refine Sd.bind (hT x ρ s st) λlI s' k6 b c hp hc=>?_;subst hc;induction op<;>induction b<;>first|exact Sd.pure rfl|exact ih lI s' k6
set_option tactic.hygienic true in
theorem tG{e:Expr}{q}(h:Yh e=some q):e=.Constant (.str q.1) q.2.1 q.2.2:=by
 revert h;rcases e with _|_<;>first|exact nn|skip
 rename_i c k p;induction c<;>first|exact nn|skip
 intro h;obtain rfl:=aA h;rfl
theorem Dn{e:Expr}{q}(h:oy e=some q):e=.Tuple q.1 q.2.1 q.2.2:=by revert h;rcases e with _|_<;>first|exact nn|(intro h;obtain rfl:=aA h;rfl)
def evK(e:Expr)(st:St):lG V:=(Yh e).bind λa=>some (.ok<|.str a.1,st)
theorem MU(e)(ρ)(s)(st):Sd C (eval e C.env) VC ρ s st<|evK e st:=Sd.m3 λa h=>by exact(tG h)▸(yL rfl)
theorem Wl{es:List Expr}:∀{xs:List Str}{st:St},vm es=some xs->vB evK es st=some (.ok<|xs.map .str,st):=by
 induction es with
 |nil=>intro xs st h;obtain rfl:=aA h;rfl
 |cons e r ih=> intro xs st h;obtain⟨a,q9⟩:=aB.mp h;obtain⟨l,q8⟩:=aB.mp q9.2;obtain rfl:=aA q8.2;dsimp only[vB];rw[tG q9.1,aL<|show ¬n6 (.Constant (.str a.1) a.2.1 a.2.2)=true from bV];show lG.then (vB evK r st) _=_;rw[ih q8.1];rfl
theorem Lx{h:Heap}{ρ:List Addr}{xs:List Str}:∀{vs:List Value},lH (VC ρ) (xs.map V.str) vs->∃as,ReadsAll h vs (xs.map PyData.str) as:=by
 revert h ρ xs;exists h,ρ,xs;induction xs with
 |nil=>intro vs hv;cases hv;exact⟨_,.nil⟩
 |cons x xs ih=>
  intro vs hv;cases hv with
  |cons h0 hv=> obtain⟨t,rfl⟩:=h0;exists as,(ra:ih hv);exact⟨_,.cons (.str x t) ra⟩
theorem Yc{xs:List Str}(h:xs.all PyData.strOk=true):PyData.canLayAll0 (xs.map PyData.str)=true:=by
 induction xs with
 |nil=>rfl
 |cons x xs ih=> simp only[iZ,aQ]at h;simp[PyData.canLayAll0,PyData.canLay0,h.1,ih h.2]
theorem Ym(xs:List Str)(x):((xs.map PyData.str).any λd=>PyData.eqv d<|.str x)=xs.any (· ==x):=by refine a6 List.any_map ?_;rfl
theorem K5(xs:List Str):PyData.depthAll (xs.map PyData.str)=0:=by
 induction xs with
 |nil=>rfl
 |cons x xs ih=>simp only[cW,PyData.depthAll,ih];rfl
theorem ab1{es:List Expr}{xs:List Str}{n:Nat}{p:Pos}(h:vm es=some xs)(hz:xs.length<1000){ρ:List Addr}{s:Shared}{st:St}(G:kZ C ρ st s){Q:Value->Shared->Prop}{E:Value->Shared->Prop}
 (k:∀a vs s',kZ C ρ st s'->mY C.F s s'->s'.heap.get? a=some ⟨.type "tuple",none,.seq vs 0,#[]⟩->lH (VC ρ) (xs.map V.str) vs.toList->Q (.ref a) s'):wpAny (model PG C.w) C.A (eval (.Tuple es n p) C.env) Q E s:=by
 refine aD<|dK<|aD<|(tJ MU p es ρ s st).ok G (Wl h) λvs s1 ρ1 hp hv G1 n1=>?_;obtain rfl:=hp.eq_of_length<|G.len.trans G1.len.symm;refine wpAny_newTuple ?_ (by simp[<-hv.length];exact bC (bS hz)<|by decide);exact k _ vs.toArray _ (G1.ext (λU U e=>aZ _ e) 0) (n1.trans<|mY.lO ..) (bT _ rfl) hv
set_option tactic.hygienic true in
theorem Tb(O:lV C S)(hE:∀e ρ s st,Sd C (eval e C.env) VC ρ s st<|ev e st){l r:Expr}{op:CmpOp}{p:Pos}(ρ)(s)(st):
 Sd C (do let a<-eval l C.env;let b<-holding [a] (eval r C.env);standAt p;operate [a,b] (compareOp op a b)) VC ρ s st (jx S ev op l r st):=by
 unfold jx;rcases hi:EO op r with _|xs
 .exact Sd.bind (hE l ρ s st) λlI s' k6 b v hp hv=>Sd.bind (Sd.holding<|hE r lI s' k6) λAr zN uU b' v' rE hv'=>Sd.standAt<|Sd.operate<|O.cmp (hv.mono rE) hv'
 .induction op<;>first|exact nn hi|skip
  obtain⟨q,q8⟩:=aB.mp hi;obtain rfl:=Dn q8.1;refine Sd.bind (hE l ρ s st) λlI s' k6 b v hp hv=>?_;induction b<;>first|exact Sd.nil|skip
  rename_i x;obtain⟨t,rfl⟩:=hv;by_cases hc:(PyData.strOk x&&xs.all PyData.strOk)=true/\xs.length<1000;rotate_left
  .exact Sd.nil.congr rfl (aV (pE k6)<|aL hc)
  rw[show pE k6 ((P6<|V.str x).bind λx=>if(PyData.strOk x&&xs.all PyData.strOk)=true/\xs.length<1000 then some (V.bool<|xs.any (· ==x))else none)=some (.ok<|.bool<|xs.any (· ==x),k6)from aV (pE k6)<|aH hc];obtain⟨h3,hz⟩:=hc;simp only[aQ]at h3;refine Sd.of λG Q E kk=>aD<|cL<|ab1 q8.2 hz G λa vs lD lY aim ho hv=>aD<|dK<|wpAny_operateT ?_;obtain⟨as,ra⟩:=Lx hv;exact SeqAt.in_tuple_reads (.tuple ho rfl rfl ra) (.str x t) (Yc h3.2) (by simpa[PyData.canLay0]using h3.1) (by rw[K5];have:=O.un;lia) (by rw[Ym];exact kk _ lD lI (a8 _) rfl lY aim)
theorem Zr(O:lV C S)(hE:∀e ρ s st,Sd C (eval e C.env) VC ρ s st<|ev e st){l r:Expr}{op:CmpOp}{p:Pos}(ρ)(s)(st):
 Sd C (do let a<-eval l C.env;let b<-holding [a] (eval r C.env);standAt p;let c<-operate [a,b] (compareOp op a b);holding [c] (truthy c)) (λU b c=>b=c) ρ s st ((jx S ev op l r st).then λc st=>pE st<|S.Hm c st.H):=by
 have:=Sd.bind (Tb O hE (l:=l) (r:=r) (op:=op) (p:=p) ρ s st) (f:=λc=>holding [c]<|truthy c) λlI s' k6 c c' U hc=>Sd.holding<|O.Hm hc;simpa only[bind_assoc]using this
theorem fh(O:lV C S)(hE:∀e ρ s st,Sd C (eval e C.env) VC ρ s st<|ev e st){o:Expr}{x:Str}{p:Pos}(ho:t9 o=true)(ρ)(s)(st):Sd C (eval (.Attribute o x p) C.env) VC ρ s st<|(ev o st).then λv st=>mV st<|S.attr v x st.H:=by
 show Sd C (do
  let ov<-attributeBase o x C.env (eval o C.env)
  standAt p.atName
  let r<-holding [ov] (getAttr ov x true)
  letTemporaryGo o ov r
  pure r) _ _ _ _ _
 exact(mZ ho)▸(Sd.bind (hE o ρ s st) λlI s' k6 b v hp hv=>Sd.standAt<|Sd.Kn<|Sd.holding<|O.attr hv)
theorem jg(O:lV C S)(hE:∀e ρ s st,Sd C (eval e C.env) VC ρ s st<|ev e st){o:Expr}{l u x:Option Expr}{q p:Pos}(ρ)(s)(st):
 Sd C (eval (.Subscript o (.Slice l u x q) p) C.env) VC ρ s st ((ev o st).then λa st=>(Pb ev l st).then λvl st=>(Pb ev u st).then λvu st=>(Pb ev x st).then λvx st=>
  if S.idx a st.H then rD st (S.slice a vl vu vx st.H)else none):=by
 show Sd C (do
  let ov<-eval o C.env
  let iv<-holding [ov] (do
   let l<-valueOrNone (evalOpt l C.env)
   let u<-holding [l] (valueOrNone<|evalOpt u C.env)
   let s<-holding [l,u] (valueOrNone<|evalOpt x C.env)
   newFields "slice" [l,u,s])
  standAt p
  let r<-subscripted (.Slice l u x q) (<-getitemInPython ov) ov iv
  letTemporaryGo o ov r
  pure r) _ _ _ _ _
 refine Sd.bind (hE o ρ s st) λmF lD mS a ov p1 ha=>Sd.uJ<|Sd.assoc ?_;refine Sd.bind (Jc hE l mF lD mS) λmD mQ pA vl xl p2 hvl=>Sd.assoc<|Sd.uJ ?_;refine Sd.bind (Jc hE u mD mQ pA) λnF mO m7 vu xu p3 hvu=>Sd.assoc<|Sd.uJ ?_;refine Sd.bind (Jc hE x nF mO m7) λN5 zP Et vx xx p4 hvx=>Sd.iff λhix=>?_;replace ha:=((ha.mono p2).mono p3).mono p4;replace hvl:=(hvl.mono p3).mono p4;replace hvu:=hvu.mono p4;generalize hi:zP.heap.objs.size=i;refine Sd.qe λG r Hn e Q E kQ kE=>?_;refine aD<|eD<|aD<|dK<|aD ?_;refine hi▸?_;generalize hs:{zP with heap:=zP.heap.push {cls:=.type "slice",data:=.fields #[xl,xu,xx]}}=xU;have G':=hs▸G.ext (λU U e=>aZ _ e) 0;have n':mY C.F zP xU:=hs▸mY.lO ..;refine O.idx G' ha hix _ _ ?_;have key:Sd C (getItem ov<|.ref i) VC N5 xU Et<|rD Et<|S.slice a vl vu vx Et.H:=by
  refine O.slice ha hvl hvu hvx hix (hs▸hi▸bT _ rfl) (λhm=>?_) (hi▸sB G.sim.keep (aI _)) λe=>?_
  .obtain⟨j,hj⟩:=cE hm;obtain⟨o',rA⟩:=G.sim.lt hj;exact absurd (b9 rA)<|hi▸dJ _
  .obtain⟨m,q8⟩:=G.fr.ns;exact absurd q8.1.lt (by simp only[<-e,hi];exact dJ _)
 have fin:Sd C (subscripted (.Slice l u x q) false ov (.ref i)>>=λr=>letTemporaryGo o ov r>>=λU=>pure r) VC N5 xU Et<|rD Et<|S.slice a vl vu vx Et.H:=by induction x<;>exact Sd.Kn<|Sd.operate key
 refine bL (fin G' r Hn e) (λy Ft P=>?_) λy Ft P=>?_
 .obtain⟨b,lI,e',hp,hr,m2,n⟩:=P;exact kQ _ _ ⟨b,lI,e',hp,hr,m2,n'.trans n⟩
 .obtain⟨b,lI,e',hp,hr,m2,n⟩:=P;exact kE _ _ ⟨b,lI,e',hp,hr,m2,n'.trans n⟩
theorem Zy(O:lV C S)(hE:∀e ρ s st,Sd C (eval e C.env) VC ρ s st<|ev e st){o i:Expr}{p:Pos}(hi:v5 i=none)(ρ)(s)(st):
 Sd C (eval (.Subscript o i p) C.env) VC ρ s st ((ev o st).then λa st=>(ev i st).then λb st=>if S.idx a st.H then mV st (S.item a b st.H)else none):=by
 show Sd C (do
  let ov<-eval o C.env
  let iv<-holding [ov] (eval i C.env)
  standAt p
  let r<-subscripted i (<-getitemInPython ov) ov iv
  letTemporaryGo o ov r
  pure r) _ _ _ _ _
 refine Sd.bind (hE o ρ s st) λlI s' k6 a ov hp ha=>Sd.bind (Sd.holding<|hE i lI s' k6) λAr zN uU b iv rE hb=>Sd.standAt<|Sd.iff λhx=>?_;intro G r m7 e;exact aD<|O.idx G (ha.mono rE) hx _ _<|(Wo hi)▸(Sd.Kn (Sd.operate<|O.item (ha.mono rE) hb hx) G r m7 e)
set_option tactic.hygienic true in
theorem Lb(O:lV C S)(hE:∀e ρ s st,Sd C (eval e C.env) VC ρ s st<|ev e st)(hT:∀e ρ s st,Sd C (isTrue e C.env<|eval e C.env) (λU b c=>b=c) ρ s st<|te e st)(e)(ρ)(s)(st):
 Sd C (eval e C.env) VC ρ s st (Z2 S C.env.scope ev te e st):=by
 exists C,S,ev,te,e,ρ,s,st,[O,hE,hT];cases e with
 |Constant c k p=>
  show Sd C (constValue C.env c) VC ρ s st<|pE st<|J6 c;rcases e:J6 c with _|v
  .exact Sd.nil
  .exact yL e
 |Name x p=>exact Ud O x p
 |BoolOp op vs p=>exact lp O hE op p vs ρ s st
 |UnaryOp op x p=>exact Sd.bind (hE x ρ s st) λlI s' k6 b v hp hv=>Sd.standAt<|Sd.holding<|O.FU hv
 |BinOp l op r p=>exact Sd.bind (hE l ρ s st) λlI s' k6 b v hp hv=>Sd.bind (Sd.holding<|hE r lI s' k6) λAr zN uU b' v' rE hv'=>Sd.standAt<|Sd.operate<|O.bin (hv.mono rE) hv'
 |IfExp t b o p=>
  refine Sd.bind (hT t ρ s st) λlI s' k6 c c' hp hc=>?_;subst hc;rcases c with _|_
  .exact hE o lI s' k6
  .exact hE b lI s' k6
 |Compare l ops rs p=>
  refine Sd.m3 λop h1=>Sd.m3 λr h2=>?_;obtain rfl:=pY h1;obtain rfl:=pY h2;by_cases hr:vD r=true
  .rw[aH hr];exact Sd.nil
  .rw[aL hr,eval_Compare1,markedBehindIn_of_false<|Le<|by simpa using hr];exact Tb O hE ρ s st
 |Attribute o x p=>exact Sd.iff λho=>fh O hE ho ρ s st
 |Call f as ks p=>
  show Sd C _ _ _ _ _ (match u3 f with|some q=>_|none=>_);rcases ha:u3 f with _|q
  .exact(Pl ha)▸(Sd.iff λqx=>Sd.bind (hE f ρ s st) λlI s' k6 b v hp hv=>Bg O qx hv .nil (tJ hE p as)<|Uy hE p ks)
  .obtain rfl:=sO ha;dsimp only;by_cases uK:eh q.2.1 as=true
   .rw[aH uK];exact O.star
   rw[aL uK];refine Sd.iff λhc=>?_;simp only[aQ,d6]at hc;exact Wr O hc.1.1 hc.1.2.1 hc.1.2.2 hc.2 (hE _ ρ s st) (tJ hE p as)<|Uy hE p ks
 |NamedExpr t e p=> refine Sd.m3 λx h1=>?_;obtain rfl:=nQ h1;exact Sd.bind (hE e ρ s st) λlI s' k6 b v hp hv=>Sd.bind (Sd.holding<|Sd.standAt<|rW hv) λAr zN uU U U rE U=>Sd.pure<|hv.mono rE
 |Dict ks vs p=> refine Sd.iff λh=>?_;rw[aQ,cI,cI]at h;obtain⟨rfl,rfl⟩:=h;exact Rb
 |ListComp=>exact O.comp
 |JoinedStr vs p=>
  rcases vs with _|⟨e,r⟩
  .exact Sd.nil
  .rcases e with _|_<;>first|exact Sd.nil|skip
   rename_i c k q;induction c<;>first|exact Sd.nil|skip
   rcases r with _|⟨_,_⟩
   .exact yL (c:=.str _) rfl
   .exact Sd.nil
 |Subscript o i p=>
  rcases hi:v5 i with _|q
  .have:=Zy O hE (o:=o) (p:=p) hi ρ s st;show Sd C _ _ _ _ _ ((ev o st).then λa st=>match v5 i with|some p=>_|none=>_);exact hi▸this
  .obtain⟨qp,rfl⟩:=Jz hi;exact jg O hE ρ s st
 |List es p=>exact Sd.standAt<|Sd.bind (tJ hE p es ρ s st) λlI s' k6 vs xs hp hv=>Sd.iff λhz=>Rl hv hz
 |Tuple es k p=>exact Sd.standAt<|Sd.bind (tJ hE p es ρ s st) λlI s' k6 vs xs hp hv=>Sd.iff λhz=>u4 hv hz
 |_=>exact Sd.nil
theorem Ls(O:lV C S){e:Expr}{p:Pos}{we:Expr->St->lG V}(hW:∀e ρ s st,Sd C (eval e C.env) VC ρ s st<|we e st)(ρ)(s)(st):Sd C (do let v<-eval e C.env;standAt p;holding [v] (truthy v)) (λU b c=>b=c) ρ s st<|(we e st).then λv st=>pE st<|S.Hm v st.H:=
 Sd.bind (hW e ρ s st) λlI s' k6 b v hp hv=>Sd.standAt<|Sd.holding<|O.Hm hv
theorem ae(O:lV C S){we:Expr->St->lG V}(hE:∀e ρ s st,Sd C (eval e C.env) VC ρ s st<|ev e st)(hT:∀e ρ s st,Sd C (isTrue e C.env<|eval e C.env) (λU b c=>b=c) ρ s st<|te e st)
 (hW:∀e ρ s st,Sd C (eval e C.env) VC ρ s st<|we e st)(e)(ρ)(s)(st):Sd C (isTrue e C.env<|eval e C.env) (λU b c=>b=c) ρ s st<|FD S ev te we e st:=by
 cases e with
 |UnaryOp op x p=>
  induction op with
  |Not=>exact Sd.bind (hT x ρ s st) λlI s' k6 b c hp hc=>Sd.pure<|aV (!·) hc
  |_=>exact Ls O hW ρ s st
 |BoolOp op vs p=>exact Xj hT op vs ρ s st
 |IfExp=>exact Sd.nil
 |Compare l ops rs p=>
  refine Sd.m3 λop h1=>Sd.m3 λr h2=>?_;obtain rfl:=pY h1;obtain rfl:=pY h2;by_cases hr:vD r=true
  .rw[aH hr];exact Sd.nil
  .rw[aL hr,isTrue_Compare1,markedBehindIn_of_false<|Le<|by simpa using hr];exact Zr O hE ρ s st
 |_=>exact Ls O hW ρ s st
end
theorem EY(O:lV C S)(n):(∀e ρ s st,Sd C (eval e C.env) VC ρ s st<|(EV S C.env.scope n).1 e st)/\∀e ρ s st,Sd C (isTrue e C.env<|eval e C.env) (λU b c=>b=c) ρ s st<|(EV S C.env.scope n).2 e st:=by
 induction n with
 |zero=>exact⟨λU U U U=>Sd.nil,λU U U U=>Sd.nil⟩
 |succ n ih=>exact⟨Lb O ih.1 ih.2,ae O ih.1 ih.2<|Lb O ih.1 ih.2⟩
theorem mE(O:lV C S)(e)(st)(ρ)(s):Sd C (eval e C.env) VC ρ s st<|mU S C.env.scope e st:=(EY O 24).1 e ρ s st
theorem tF(O:lV C S)(e)(st)(ρ)(s):Sd C (isTrue e C.env<|eval e C.env) (λU b c=>b=c) ρ s st<|rT S C.env.scope e st:=(EY O 24).2 e ρ s st
end
theorem k7.dict(B:k7 k C)(G:kZ C ρ st s){f:Addr}(hf:f∈C.F):∃o es n,s.heap.get? f=some o/\o.data=.dict es n:=by exists _;obtain⟨Kk,es,n,q9⟩:=B.live f hf;obtain⟨o',q8⟩:=G.sim.keep.1 f Kk q9.1;exact k9 ⟨o',es,n,q8.1,q8.2.dict q9.2⟩
theorem kZ.oH(G:kZ C ρ st s):∃o es n,s.heap.get? C.env.locals=some o/\o.data=.dict es n:=by exists _;obtain⟨m,⟨o,es,ep,ho,hd,r⟩,_⟩:=G.fr.ns;exact k9 ⟨o,es,_,ho,hd⟩
theorem k7.Ho(B:k7 k C)(L:mN C)(G:kZ C ρ st s)(hb:∀L,L=C.env.locals\/(L∈C.F/\L≠builtinsNs)->base.get? L=none):
 ∃outer,C.A.frames=some (C.env::outer)/\C.env.frame=some C.env.locals/\s.heap.FunFrames base (C.env::outer):=by
 exists k,C,ρ,st,s,base,_;exists outer,(q_:L.fr);obtain⟨h1,h2,h3,h4⟩:=q_;refine⟨outer,h1,h2,h3,?_,?_⟩
 .obtain⟨o,es,n,ho,hd⟩:=G.oH;exact⟨_,o,h2,hb _<|.inl rfl,ho,λvs q=>by rw[hd]at q;cases q⟩
 .clear h1 h2 h3;induction outer with
  |nil=>trivial
  |cons e r ih=> obtain⟨hk,L,q8⟩:=h4 e<|.head _;obtain⟨o,es,n,ho,hd⟩:=B.dict G q8.1;exact⟨hk,⟨L,o,q8.2.2,hb _<|.inr ⟨q8.1,q8.2.1⟩,ho,λvs q=>by rw[hd]at q;cases q⟩,ih λe he=>h4 e<|.tail _ he⟩
def ue(C:Cx)(x:List Addr)(h:Heap):Heap:=hideAll h (x++C.env.locals::C.F.filter λb=>b !=builtinsNs)
theorem Eu:∀L,L=C.env.locals\/(L∈C.F/\L≠builtinsNs)->(ue C x h).get? L=none:=λL hL=>eM _ (by
 rcases hL with rfl|hL
 .simp
 .simp[hL])
theorem z6:(ue C x h).StaysIn h:=λb o e=>dS _ e
theorem T7(ha:a∈x):(ue C x h).get? a=none:=eM _<|by simp[ha]
theorem Cm(e:h.get? b=some o)(h1:b∉x)(h2:b≠C.env.locals)(h3:b∈C.F->b=builtinsNs):(ue C x h).get? b=some o:=dL _ e<|by simpa[h1,h2]using h3
theorem kZ.zQ(B:k7 k C)(G:kZ C ρ st s){a:Addr}(ha:a∈ρ):a∉C.F:=λhf=>by obtain⟨o,_,_,h0,_⟩:=B.live a hf;replace h0:=((G.sim.new a ha).1)▸h0;rcases h0 with _|_
theorem kZ.xV(G:kZ C ρ st s)(ha:a∈ρ):a≠C.env.locals:=λe=>G.fr.out<|e▸ha
theorem kZ.slots(B:k7 k C)(G:kZ C ρ st s){h':Heap}(hx:∀a∈x,a∉ρ/\C.ail.get? a=none)(hs:(ue C x s.heap).StaysIn h')(up:s.heap.UpToSlots h'):kZ C ρ st {s with heap:=h'}:=by
 exists k,C,ρ,st,s,x,h',[B,G,hx,hs,up];have R8:=λa ha o e=>
  hs a o (Cm e (λhm=>(hx a hm).1 ha) (G.xV ha) λq=>absurd q<|G.zQ B ha)
 refine⟨⟨G.sim.len,G.sim.nd,λi a ao e1 e2=>?_,G.sim.new,⟨λb o e=>?_,G.sim.keep.2⟩⟩,⟨?_,G.fr.none,G.fr.out,λx a hm=>?_,G.fr.own,G.fr.has,G.fr.kind,G.fr.lo⟩,G.tk⟩
 .exists o,(q9:G.sim.obj i a ao e1 e2);exact⟨o,R8 a (aR e1) o q9.1,q9.2⟩
 .exists b,o,_;exists o',(q_:G.sim.keep.1 b o e);obtain⟨e',l⟩:=q_;by_cases hf:b∈C.F/\b≠builtinsNs
  .exists _;exists Ew,es,n,(q_:B.dict G hf.1);obtain⟨h1,hd⟩:=q_;replace h1:=e'▸h1;obtain rfl:=aA h1;obtain⟨sl,FW⟩:=up b o' e' λvs q=>by rw[hd]at q;injection q
   exact k9 ⟨_,FW,l.trans (.inr<|.inl ⟨hf.1,hf.2,sl,rfl⟩) λhb=>G.sim.keep.2 b hb o e⟩
  .refine⟨o',hs b o'<|Cm e' (λhm=>?_) ?_ λq=>Classical.not_not.mp λq2=>hf ⟨q,q2⟩,l⟩
   .replace e:=((hx b hm).2)▸e;rcases e with _|_
   .rintro rfl;replace e:=G.fr.none▸e;injection e
 .exists m,(q8:G.fr.ns);exact⟨m,up.ns q8.1,q8.2⟩
 .exists x,a,_;obtain⟨h1,h2,u,⟨o,h3,h4⟩,h5⟩:=G.fr.cell x a hm;obtain⟨sl,e⟩:=up a o h3 λvs q=>by rw[h4]at q;injection q
  exact⟨h1,h2,u,⟨_,e,h4⟩,h5⟩
theorem kZ.Vh(B:k7 k C)(G:kZ C ρ st s)(hx:∀a∈x,a∉ρ/\C.ail.get? a=none)(up:s.heap.UpToSlots h')(h0:(ue C x s.heap).get? t=none)
 (ht:h'.get? t=some o)(hd:o.data=.fields vs):t∉ρ/\C.ail.get? t=none/\t≠C.env.locals:=by
  have noDict:∀ob es n,s.heap.get? t=some ob->ob.data=.dict es n->False:=λob es n e q=>by
   obtain⟨sl,FW⟩:=up t ob e λvs q'=>by rw[q]at q';injection q'
   replace FW:=ht▸FW;obtain rfl:=aA FW;rw[show ob.data=.fields vs from hd]at q;injection q
  refine⟨λhm=>?_,?_,?_⟩
  .obtain⟨i,hi⟩:=cE hm;obtain⟨o',rA⟩:=G.sim.lt hi;replace h0:=(Cm rA (λTU=>(hx t TU).1 hm) (G.xV hm) λq=>absurd q<|G.zQ B hm)▸h0;injection h0
  .rcases q:C.ail.get? t with _|Kk
   .rfl
   .obtain⟨o',lW⟩:=G.sim.keep.1 t Kk q;by_cases hf:t∈C.F
    .exists Ew,es,n,(q9:B.dict G hf);exact(noDict _ _ _ q9.1 q9.2).elim
    .replace h0:=(Cm lW.1 (λhm=>by replace q:=((hx t hm).2)▸q;injection q) (by rintro rfl;replace q:=G.fr.none▸q;injection q) λq=>absurd q hf)▸h0;injection h0
  .rintro rfl
   exists Ew,es,n,(q8:G.oH);exact noDict _ _ _ q8.1 q8.2
theorem Te{c:V}{e:Value}{Q:Shared->Prop}{E:Value->Shared->Prop}(B:k7 k C)(L:mN C)(G:kZ C ρ st s)(X:oD C ρ c e s)
 (h:∀s',kZ C ρ st s'->oD C ρ c e s'->U9 e s'->mY C.F s s'->Q s'):wpAny (model PG C.w) C.A (noteFrame e C.env) (λU s'=>Q s') E s:=by
 exists k,C,ρ,st,s,c,e,Q,E,_;obtain⟨a,o,vs,a0,rfl,ho,hd,h0,hc,qy,TV,ha3,uf⟩:=X.ex;exists a,o,vs,a0,_;rcases uf with uf|⟨t,ot,vt,fl,h1,RJ,Yr,h3,ht1,ht2,ht3,FX⟩
 .have hx:∀b∈[a],b∉ρ/\C.ail.get? b=none:=by simp[qy,TV]
  exists outer,(q9:B.Ho L G (base:=ue C [a] s.heap) Eu);unfold noteFrame;refine q9.2.1▸?_;refine aD<|fR ho hd uf ?_;rw[aL<|by decide];refine wpAny_entryW q9.1 q9.2.2 q9.2.1 ho z6 (T7<|by simp) hd (c8.mp uf).1 h0 ?_;exists h';intro hN;obtain⟨k1,k2,⟨oe,ws,T,oT,ts,g1,⟨g2,g2'⟩,g3,g4,g5,g6,g7,g8,g9⟩,k4⟩:=hN;have fr:=G.Vh B hx k4 g5 g7 g8;refine h _ (G.slots B hx k1 k4) ⟨a,oe,ws,a0,rfl,g1,g3,g2',g2▸hc,qy,TV,ha3,.inr ⟨T,oT,ts,_,g4,g7,g8,g9,fr.1,fr.2.1,fr.2.2,g6⟩⟩ ⟨a,oe,ws,T,rfl,g1,g3,g4⟩<|mY.lO ..
 .exists t,ot,vt,fl,_;have hx:∀b∈[a,t],b∉ρ/\C.ail.get? b=none:=by simp[qy,TV,ht1,ht2]
  exists outer,(q8:(B.Ho L G (base:=ue C [a,t] s.heap) Eu));unfold noteFrame;refine q8.2.1▸?_;refine aD<|fR ho hd h1 ?_;refine(aH (by rfl:(Value.ref t !=Value.none)=true))▸?_;refine aD<|fR RJ Yr h3 ?_;by_cases hfl:(fl==rawInt C.env.locals)=true
  .rw[aH hfl];exact aM<|h _ G X ⟨a,o,vs,t,rfl,ho,hd,h1⟩<|.refl _
  .rw[aL hfl];refine aD<|iI RJ Yr (c8.mp h3).1 ?_;have other:∀b,b≠t->(s.heap.update t<|Obj.mapFields (·.setIfInBounds 3 Value.none)).get? b=s.heap.get? b:=λb hb=>dW _ _<|dQ hb;have N6:∀b o,s.heap.get? b=some o->(∀vs,o.data≠.fields vs)->b≠t:=λb o hb qz q=>by rw[q,RJ]at hb;injection hb with hb;subst hb;exact qz vt Yr
   refine wpAny_entryW q8.1 (q8.2.2.of_keeps λb o hb qz=>⟨o,(other b<|N6 b o hb qz).trans hb,rfl⟩) q8.2.1 ((other a<|dQ FX).trans ho)
    (λb o hbo=>(other b λq=>by rw[q,T7<|by simp]at hbo;injection hbo).trans<|z6 b o hbo) (T7<|by simp) hd (c8.mp h1).1 h0 ?_;exists h';intro hN
   obtain⟨k1,k2,⟨oe,ws,T,oT,ts,g1,⟨g2,g2'⟩,g3,g4,g5,g6,g7,g8,g9⟩,k4⟩:=hN;have up:=λb o hb qz=>k4 b o ((other b<|N6 b o hb qz).trans hb) qz;have fr:=G.Vh B hx up g5 g7 g8;exact h _ (G.slots B hx k1 up) ⟨a,oe,ws,a0,rfl,g1,g3,g2',g2▸hc,qy,TV,ha3,.inr ⟨T,oT,ts,_,g4,g7,g8,g9,fr.1,fr.2.1,fr.2.2,g6⟩⟩ ⟨a,oe,ws,T,rfl,g1,g3,g4⟩<|mY.lO ..
theorem C7{Q:Shared->Prop}{E:Value->Shared->Prop}(B:k7 k C)(G:kZ C ρ st s)(X:oD C ρ c e s)(hT:U9 e s)
 (h:∀s',kZ C ρ st s'->oD C ρ c e s'->U9 e s'->mY C.F s s'->Q s'):wpAny (model PG C.w) C.A (setFlight e f) (λU s'=>Q s') E s:=by
  exists k,C,ρ,st,s,c,e,f,Q,E,_;exists _;exists g9,_;obtain⟨a,o,vs,a0,rfl,ho,hd,h0,hc,qy,TV,ha3,uf⟩:=X.ex;exists a,o,vs,a0,_;exists a',o',YU,t',(q_:hT);obtain⟨e1,e2,e3,e4⟩:=q_;injection e1 with q_;subst q_;replace e2:=ho▸e2;obtain rfl:=aA e2;replace e3:=hd▸e3;injection e3 with q_;subst q_
  rcases uf with uf|⟨t,ot,vt,fl,h1,RJ,Yr,h3,ht1,ht2,ht3,FX⟩
  .replace uf:=e4▸uf;injection aA uf
  .replace h1:=e4▸h1;cases aA h1;have Ko:=(c8.mp h3).1;refine k9 ?_;refine aD<|fR ho hd e4 ?_;refine(aH (by rfl:(Value.ref t' !=Value.none)=true))▸?_;refine iI RJ Yr Ko ?_;have other:∀b,b≠t'->(s.heap.update t'<|Obj.mapFields (·.setIfInBounds 3 (f.elim .none λf=>rawInt f))).get? b=s.heap.get? b:=λb hb=>dW _ _<|dQ hb;have up:s.heap.UpToSlots<|s.heap.update t'<|Obj.mapFields (·.setIfInBounds 3 (f.elim .none λf=>rawInt f)):=λb o hb qz=>by refine⟨o.slots,(other b λq=>?_).trans hb⟩;rw[q,RJ]at hb;obtain rfl:=aA hb;exact qz vt Yr
   refine h _ (G.slots B (by simp[ht1,ht2]:∀b∈[t'],b∉ρ/\C.ail.get? b=none) (λb o e=>(other b λq=>by rw[q,T7<|by simp]at e;injection e).trans<|z6 b o e) up)
    ⟨a,o,vs,a0,rfl,(other a<|dQ FX).trans ho,hd,h0,hc,qy,TV,ha3,.inr ⟨t',_,_,_,e4,cT (Obj.mapFields (·.setIfInBounds 3 (f.elim .none λf=>rawInt f))) RJ<|Obj.isFreed_of_fields<|Obj.data_mapFields Yr _,Obj.data_mapFields Yr _,by simp[Ko];rfl,ht1,ht2,ht3,FX⟩⟩
    ⟨a,o,vs,t',rfl,(other a<|dQ FX).trans ho,hd,e4⟩ (mY.lO ..)
theorem oz(B:k7 k C)(G:kZ C ρ st s)(X:oD C ρ c e s)(hT:U9 e s)
 (h:∀s',kZ C ρ st s'->oD C ρ c e s'->mY C.F s s'->E e s'):cameBackBy (model PG C.w) C.A C.env E e s:=by obtain⟨a,o,vs,t,rfl,q8⟩:=id hT;refine aD<|fR q8.1 q8.2.1 q8.2.2 ?_;rw[aL<|by simp];exact C7 B G X hT λs' G' X' U n=>h s' G' X' n
noncomputable abbrev UR:List Addr->Unit->Unit->Prop:=λU U U=>True
section
variable{α β γ:Type}
theorem Sd.Ex{vs keep:List Value}(h:Sd C t UR ρ s st o):Sd C (t>>=λU=>PySem.release vs keep) UR ρ s st o:=
 λG r k6 e=>aD<|bL (h G r k6 e) (λU U P=>wpAny_release P) λU U y=>y
theorem kZ.extBut{n:Nat}(G:kZ C ρ st s)(x:Heap.ExtBut i s.heap h')(ho:s.heap.get? i=some o)(hd:o.data=.fields vs)(h1:i∉ρ)(h2:i≠C.env.locals)(h3:C.ail.get? i=none):
 kZ C ρ st {s with heap:=h',toks:=s.toks+n}:=by
 exists C,ρ,s,st,i,h',n,o,vs,_;refine⟨⟨G.sim.len,G.sim.nd,λj a ao e1 e2=>?_,G.sim.new,⟨λb ob e=>?_,G.sim.keep.2⟩⟩,⟨?_,G.fr.none,G.fr.out,λy a hm=>?_,G.fr.own,G.fr.has,G.fr.kind,G.fr.lo⟩,by have:=G.tk;simp_all⟩
 .exists o',(lW:G.sim.obj j a ao e1 e2);exact⟨o',x a o' (λe=>h1<|e▸aR e1) lW.1,lW.2⟩
 .exists o',(q9:G.sim.keep.1 b ob e);exact⟨o',x b o' (λq=>by simp only[q,h3]at e;injection e) q9.1,q9.2⟩
 .exists m,(q8:G.fr.ns);exact⟨m,q8.1.extBut x<|dQ h2,q8.2⟩
 .exists y,a,_;obtain⟨g1,g2,u,⟨oc,g3,g4⟩,g5⟩:=G.fr.cell y a hm;refine⟨g1,g2,u,⟨oc,x a oc (λe=>?_) g3,g4⟩,g5⟩;subst e;replace g3:=ho▸g3;obtain rfl:=aA g3;replace g4:=hd▸g4;rcases g4 with _|_
theorem zD(es):∀xs,Cb es=some xs->(assignEach es C.env).length=xs.length/\(assignEach es C.env).findIdx? (·.1)=none/\∀vs ys ρ s st,lH (VC ρ) vs ys->Sd C (assignInOrder ((assignEach es C.env).map (·.2)) ys) UR ρ s st (oX C.env.scope xs vs st):=by
 exists C,es,[];induction es with
 |nil=>
  exists xs;intro h;obtain rfl:=aA h;refine⟨rfl,rfl,?_⟩;exists vs,ys,ρ,s,st;intro hv;induction hv with
  |nil=>exact Sd.pure trivial
  |cons=>exact Sd.nil
 |cons e r ih=>
  exists e,r,[ih];exists xs;intro h;exists q,(lW:aB.mp h);exists RK,(q9:aB.mp lW.2);obtain rfl:=aA q9.2;obtain rfl:=nQ lW.1;have q8:=ih RK q9.1;refine⟨aV (· +1) q8.1,(List.findIdx?_cons ..).trans (by rw[q8.2.1];rfl),?_⟩;exists vs,ys,ρ,s,st;intro hv;induction hv with
  |nil=>exact Sd.nil
  |cons hv hr=>exact Sd.bind (Sd.holding<|Sd.standAt<|rW hv) λlI s' k6 U U hp U=>q8.2.2 _ _ lI s' k6<|hr.mono hp
theorem An{S:lR}(O:lV C S)(t){v:V}{y:Value}(hv:VC ρ v y):Sd C (assign t C.env y) UR ρ s st<|sL S C.env.scope t v st:=by
 cases t with
 |Name x p=>exact Sd.standAt<|rW hv
 |Attribute o x p=>exact Sd.bind (Sd.holding<|mE O o st ρ s) λlI s' k6 a ov hp ha=>Sd.standAt<|Sd.Ex<|Sd.holding<|O.setattr ha<|hv.mono hp
 |Subscript o i p=>
  show Sd C _ _ _ _ _<|if v8 i then none else _;by_cases hi:v8 i=true
  .rw[aH hi];exact Sd.nil
  .rw[aL hi];exact Sd.bind (Sd.holding<|mE O o st ρ s) λlI s' k6 a ov hp ha=>Sd.bind (Sd.holding<|mE O i k6 lI s') λAr zN uU b iv rE hb=>
    Sd.standAt (Sd.Ex<|Sd.holding<|O.sX (ha.mono rE) hb<|(hv.mono hp).mono rE)
 |Tuple es kk p=> refine Sd.m3 λxs hn=>?_;obtain⟨h1,q8⟩:=zD es xs hn;exact h1▸q8.1▸(Sd.standAt<|Sd.bind (Sd.holding<|O.unpack hv) λlI s' k6 vs ys hp Bx=>q8.2 vs ys lI s' k6 Bx.1)
 |_=>exact Sd.nil
theorem Ca(B:k7 k C)(L:mN C)(P:PE C ρ s r k6 e lD)(kE:∀x s',PE C ρ s r k6 x s'->E x s'):
 notedBy (model PG C.w) C.A C.env (λe s'=>cameBackBy (model PG C.w) C.A C.env E e s') e lD:=by
 obtain⟨c,lI,e',h,X,G,n⟩:=P;exact Te B L G X λs' G' X' hT n'=>oz B G' X' hT λzN G'' X'' n''=>kE _ _ ⟨c,lI,e',h,X'',G'',(n.trans n').trans n''⟩
theorem dm{st:St}(B:k7 k C)(L:mN C){test:Expr}{body orelse:List Stmt}{pos:Pos}{ot:St->lG Bool}{ob oe:St->lG Fl}
 (ht:∀ρ s st,Sd C (isTrue test C.env<|eval test C.env) (λU b c=>b=c) ρ s st<|ot st)(hb:∀ρ s st,Sd C (execs body C.env) FR ρ s st<|ob st)(he:∀ρ s st,Sd C (execs orelse C.env) FR ρ s st<|oe st)(n):
 Sd C (exec (.While test body orelse pos) C.env) FR ρ s st (qP ot ob oe n st):=by
 exists k,C,ρ,s,st,test,body,orelse,pos,ot,ob,oe,n,[B,L,ht,hb,he];refine Sd.qe λG r Fu ef Q E kQ kE=>wpAny_While ?_;exists r,Fu,Q,E,[ef,kQ,kE];refine codeAny_whileLoop (λn lD=>∃mF mS,ρ<+:mF/\kZ C mF mS lD/\mY C.F s lD/\qP ot ob oe n mS=some (r,Fu)) (λn lD hI=>?_) n ⟨ρ,st,a8 _,G,.refl s,ef⟩;exists n,lD,_;exists mF,mS,(q_:hI);obtain⟨hp,lY,aim,By⟩:=q_;cases n with
 |zero=>exact nn By
 |succ n=>
 exists n,_;obtain⟨c,h1,rfl⟩|⟨c,pA,h1,By⟩:=m9 By
 .exact(ht mF lD mS).ex lY h1 λx mQ mD p q g m=>Ca B L ⟨c,mD,rfl,hp.trans p,q,g,aim.trans m⟩ kE
 exists c,pA,[h1,By];refine(ht mF lD mS).ok lY h1 ?_;exists x,mQ,mD;intro nM hr m2 oB;subst hr;replace nM:=hp.trans nM;replace oB:=aim.trans oB;induction c with
 |false=>exact bL (he mD mQ pA m2 _ _ By) (λf mO P=>by obtain⟨b,lI,e,p,q,g,m⟩:=P;exact kQ _ _ ⟨b,lI,e,nM.trans p,q,g,oB.trans m⟩) λe mO P=>by obtain⟨b,lI,e,p,q,g,m⟩:=P;exact Ca B L ⟨b,lI,e,nM.trans p,q,g,oB.trans m⟩ kE
 |true=>
 obtain⟨c,h2,rfl⟩|⟨b,m7,h2,By⟩:=m9 By
 .exact(hb mD mQ pA).ex m2 h2 λx mQ mD p q g m=>Ca B L ⟨c,mD,rfl,nM.trans p,q,g,oB.trans m⟩ kE
 exists b,m7,[h2,By];refine(hb mD mQ pA).ok m2 h2 ?_;exists f,mO,nF;intro oN hr oA tA;replace oN:=nM.trans oN;replace tA:=oB.trans tA;induction b with
 |next|cont=>subst hr;exact⟨n,dX n,nF,m7,oN,oA,tA,By⟩
 |brk=>subst hr;obtain⟨rfl,rfl⟩:=bQ<|aA By;exact kQ _ _ ⟨.next,nF,rfl,oN,rfl,oA,tA⟩
 |ret v=>exists v,[h2,By,hr];exists y,(q_:hr);obtain⟨rfl,hv⟩:=q_;obtain⟨rfl,rfl⟩:=bQ<|aA By;exact kQ _ _ ⟨.ret v,nF,rfl,oN,⟨y,rfl,hv⟩,oA,tA⟩
end
inductive acq(C:Cx)(it:Hp->Option (List Nat×List V))(xs:List Nat×List V)(asg:V->St->lG Unit)(ob:St->lG Fl)(i:Addr)(P:Nat->Obj->Prop)(mF:List Addr)(s:Shared)(r:oV Fl)(Fu:St)(m:Nat)(mO:Shared):Prop
 |mk (nF:List Addr) (m7:St) (j:Nat) (o:Obj) (e1:m=xs.2.length-j) (e2:j<=xs.2.length) (p:mF<+:nF) (g:kZ C nF m7 mO) (n:mY C.F s mO) (ho:mO.heap.get? i=some o) (hp:P j o) (hi:i∉nF) (e:Cw it xs asg ob (xs.2.drop j) m7=some (r,Fu))
theorem wp(h:Cw it xs asg ob l st=some p):it st.H=some xs:=by
 by_cases c:it st.H=some xs
 .exact c
 .rcases l with _|_<;>exact absurd ((aL c).symm.trans h)<|nn
theorem xH(h:mX sc x v st=some (.exc c,k6)):False:=by unfold mX at h;split at h<;>simp at h
theorem RB{α:Type}(j)(l:List α):(∃u,l[j]?=some u/\l.drop j=u::l.drop (j+1)/\j<l.length)\/l.length<=j:=(Nat.lt_or_ge j l.length).imp (λh=>⟨_,aP h,dZ h,h⟩) id
theorem QA{st:St}{S:lR}(B:k7 k C)(L:mN C)(O:lV C S){x:Str}{px pos:Pos}{iter:Expr}{body:List Stmt}{ob:St->lG Fl}(DA:vD iter=false)
 (hb:∀h',k7 k (C.at h')->∀ρ s st,Sd (C.at h') (execs body C.env) FR ρ s st<|ob st):
 Sd C (exec (.For (.Name x px) iter body [] pos) C.env) FR ρ s st ((mU S C.env.scope iter st).then λa st=>(S.iter a st.H).bind λxs=>Cw (S.iter a) xs (mX C.env.scope x) ob xs.2 st):=by
 exists k,C,ρ,s,st,S,x,px,pos,iter,body,ob,[B,L,O,DA,hb];refine Sd.qe ?_;intro G;exists r,Fu;intro ef;exists Q,E;intro kQ kE;refine wpAny_For ?_ (by exists y;rcases iter with _|_<;>first|rfl|injection DA)
 obtain⟨c,h1,rfl⟩|⟨a,mS,h1,ef⟩:=m9 ef
 .exists c,_;exact(mE O iter st ρ s).ex G h1 λx mQ mD p q g m=>kE _ _ ⟨c,mD,rfl,p,q,g,m⟩
 exists a,mS,[h1,ef];refine(mE O iter st ρ s).ok G h1 ?_;exists y,lD,mF;intro pZ ha lY aim;exists xs,(sD:aB.mp ef)
 .skip;refine O.iter lY ha sD.1 _ _ ?_;exists i,P,mQ,o;intro m2 oB Fe RM hi1 hi2 TX YY YZ;have ZA:i∉C.F:=λhm=>by exists o',uZ,Os,(q_:B.live i hm);obtain⟨h0,rc⟩:=q_;replace h0:=TX▸h0;rcases h0 with _|_
  refine codeAny_forLoop (acq C (S.iter a) xs (mX C.env.scope x) ob i P mF s r Fu) (λm mO hI=>?_) xs.2.length ⟨mF,mS,0,o,rfl,cV _,a8 _,m2,aim.trans oB,Fe,RM,hi1,sD.2⟩;exists m,mO,_;obtain⟨nF,m7,j,Yu,hm,hj,oN,oA,tA,Ey,ZB,zR,pU⟩:=hI;exists nF,m7,j,Yu,_;exists nm,vs,(nO:YY j Yu ZB);have hit:=wp pU;have hs:=YZ nF m7 mO j Yu oN oA hit Ey ZB zR;rcases RB j xs.2 with⟨u,hu,hd,sJ⟩|CV
  .exists u,_;replace pU:=(aH hit).symm.trans<|hd▸pU;refine hs.1 _ hu _ _ ?_;exists h',y,o',n;intro RN rA ZC hy;exists TM,YU,(lW:YY (j+1) o' ZC);have hk:∀u,o'.data≠.cell u:=λu q=>by replace q:=lW.2▸q;injection q
   obtain⟨c,h2,DB⟩|⟨TY,Hn,h2,pU⟩:=m9 pU
   .exact(xH h2).elim
   exists TY,Hn,[h2,pU];refine Sd.Kl (o:=mX C.env.scope x u m7) B (λVi B'=>show Sd (C.at Vi) (do standAt px;bindName (C.at Vi).env x y) UR nF {mO with heap:=h',toks:=mO.toks+n} m7 (mX (C.at Vi).env.scope x u m7)from Sd.standAt<|rW hy)
    (oA.extBut RN.extBut Ey nO.2 zR hi2 TX) h2 ?_;exists z_,xU,Bn;intro N7 z_ Bz R9 Kp
   have q9:=Kp i o' TM rA zR hi2 ZA lW.1 hk;have nn:=(tA.trans<|mY.heap mO h' n).trans R9;have pp:=oN.trans N7;obtain⟨c,h3,rfl⟩|⟨b,Vj,h3,pU⟩:=m9 pU
   .exact Sd.RH B (λVi B'=>hb Vi B' Bn xU Hn) Bz h3 λx Ft vX p q g m=>Ca B L ⟨c,vX,rfl,pZ.trans<|pp.trans p,q,g,nn.trans m⟩ kE
   exists b,Vj,[h3,pU];refine Sd.Kl B (λVi B'=>hb Vi B' Bn xU Hn) Bz h3 ?_;exists f,Ft,vX;intro Hq hr Ez B3 zS;have q8:=zS i o' TM q9.1 q9.2 hi2 ZA lW.1 hk;replace pp:=pp.trans Hq;replace nn:=nn.trans B3;induction b with
   |next|cont=>subst hr;exact⟨xs.2.length-(j+1),by grind,vX,Vj,j+1,o',rfl,sJ,pp,Ez,nn,q8.1,ZC,q8.2,pU⟩
   |brk=>cases hr;rcases pU with _|_;exact kQ _ _ ⟨.next,vX,rfl,pZ.trans pp,rfl,Ez,nn⟩
   |ret v=>exists v,[h3,pU,hr];exists z,(q_:hr);obtain⟨rfl,hz⟩:=q_;cases aA pU;exact kQ _ _ ⟨.ret v,vX,rfl,pZ.trans pp,⟨z,rfl,hz⟩,Ez,nn⟩
  .exists _;replace pU:=(iJ CV)▸pU;rcases(aH hit).symm.trans pU with _|_;exact k9<|hs.2 CV _ _ λh' n RN=>wpAny_execs_nil<|kQ _ _ ⟨.next,nF,rfl,pZ.trans oN,rfl,oA.extBut RN Ey nO.2 zR hi2 TX,tA.trans<|mY.heap mO h' n⟩
def Cx.mark(C:Cx)(e:Value):Cx:={C with A:=C.A.mark (some e)}
theorem k7.mark(B:k7 k C)(e):k7 k<|C.mark e:=⟨B.top,B.hi,B.live,B.dp,B.un,B.fn,B.gl⟩
theorem kZ.mark(G:kZ C ρ st s)(e):kZ (C.mark e) ρ st s:=⟨G.sim,G.fr,G.tk⟩
theorem kZ.unmark(G:kZ (C.mark e) ρ st s):kZ C ρ st s:=⟨G.sim,G.fr,G.tk⟩
theorem Pe{h}(e:FL hs=some h):hs=[.ExceptHandler (some<|.Name h.1 h.2.1) none (h.2.2.1::h.2.2.2.1) h.2.2.2.2]:=by
 rcases hs with _|⟨⟨ty,nm,bd,p⟩,_|_⟩
 .exact nn e
 .rcases ty with _|x
  .exact nn e
  rcases nm with _|_;rotate_left
  .exact nn e
  rcases bd with _|⟨b,r⟩
  .exact nn e
  obtain⟨q,hq,rfl⟩:=a9.mp e;exact(nQ hq)▸rfl
 .induction ty<;>first|exact nn e|(induction nm<;>first|exact nn e|(rcases bd with _|_<;>exact nn e))
theorem Xk(h:wm o g=some (r,k6)):(∃f,o=some (.ok f,k6)/\r=.ok f)\/∃c mS,o=some (.exc c,mS)/\g c mS=some (r,k6):=by
 rcases o with _|⟨f|c,mS⟩
 .exact nn h
 .obtain⟨rfl,rfl⟩:=bQ<|aA h;exact .inl ⟨f,rfl,rfl⟩
 .exact .inr ⟨c,mS,rfl,h⟩
theorem N8(h:Cu o=some (r,k6)):∃f,o=some (.ok f,k6)/\r=.ok f:=by
 rcases o with _|⟨f|c,mS⟩
 .exact nn h
 .obtain⟨rfl,rfl⟩:=bQ<|aA h;exact⟨f,rfl,rfl⟩
 .exact nn h
theorem JD{S:Bool->lR}{ρ:List Addr}{s:Shared}{st:St}{ex:Bool->Scope->List Stmt->St->lG Fl}(B:k7 k C)(L:mN C)(O:lV C<|S false){body:List Stmt}{ob:St->lG Fl}{hs:List ExceptHandler}{pos:Pos}
 (hb:∀ρ s st,Sd C (execs body C.env) FR ρ s st<|ob st)(hh:∀l e ρ s st,Sd (C.mark e) (execs l C.env) FR ρ s st<|ex true C.env.scope l st):
 Sd C (exec (.Try body hs [] [] pos) C.env) FR ρ s st (nh S ex C.env.scope ob hs st):=by
 exists k,C,S,ρ,s,st,ex,body,ob,hs,pos,[B,L,O,hb,hh];refine Sd.m3 ?_;exists h;intro e0;refine(Pe e0)▸?_;refine Sd.qe λG res Fu ef Q E kQ kE=>wpAny_Try_except ?_;exists res,Fu,Q,E,[ef,kQ,kE];exists _;exists g9,_;obtain⟨f,h1,rfl⟩|⟨c,mS,h1,ef⟩:=Xk ef
 .exists f,_;refine k9<|(hb ρ s st).ok G h1 ?_;exists g,lD,mF;intro pZ hr lY aim;have fin:=kQ g lD ⟨f,mF,rfl,pZ,hr,lY,aim⟩;induction g with
  |next=>exact wpAny_execs_nil fin
  |_=>exact fin
 exists c,mS,[h1,ef];refine k9<|(hb ρ s st).ex G h1 ?_;exists e,lD,mF;intro pZ X lY aim;obtain⟨hc,ef⟩:=Fd ef;exists f,(q_:N8 ef);obtain⟨h2,rfl⟩:=q_;simp only[aQ,a5]at hc;refine Te B L lY X ?_;exists mQ;intro m2 acR ZD oB;refine C7 B m2 acR ZD ?_;exists mO;intro oA Sa N9 tA;refine wpAny_handleBy_cons (codeAny_handlers_test ?_) (by obtain⟨a,uZ,Os,rc,rfl,DB⟩:=Sa.ex;intro h;injection h);refine bL (O.Ki oA Sa hc.2 hc.1.1 hc.1.2 _) (λcv zP uV=>?_) λU U x=>x;exists cv,zP,_;obtain⟨rfl,uV⟩:=uV;refine bL uV (λbb xU DC=>?_) λU U x=>x;exists bb,xU,_;obtain⟨rfl,rfl⟩:=DC;refine codeAny_handlers_suite ?_;refine C7 (B.mark e) (oA.mark e) ⟨Sa.ex⟩ N9 ?_;exists Ft;intro Ez agm aex B3;exact(hh _ e mF Ft mS).ok Ez h2 λg RO mD nM hr Kq Oa=>kQ _ _ ⟨f,mD,rfl,pZ.trans nM,hr,Kq.unmark,(((aim.trans oB).trans tA).trans B3).trans Oa⟩
theorem Gm(h:uB e=false)(t)(l)(env):swapsWith e t l env=pure false:=by rcases e with _|_<;>first|rfl|rcases h with _|_
theorem Lc(env)(h:(vT t&&vT e)=false):swappedStores [t] e env=pure none:=by
 rcases ht:vT t with _|_
 .rcases t with _|_<;>first|rfl|exact Bool.noConfusion ht
 .replace h:=ht▸h;rcases t with _|_<;>first|exact Bool.noConfusion ht|(rcases e with _|_<;>first|rfl|exact Bool.noConfusion h)
theorem Mk(env)(h:n6 t=false):(assignEach [t] env).map (·.2)=[assign t env]:=by rcases t with _|_<;>first|rfl|rcases h with _|_
theorem fy(env)(h:n6 t=false)(h':n6 u=false):(assignEach [t,u] env).map (·.2)=[assign t env,assign u env]:=by
 have h1:assignEach [t,u] env=(false,assign t env)::assignEach [u] env:=by rcases t with _|_<;>first|rfl|rcases h with _|_
 simp[h1,Mk env h']
theorem Sd.tail(h:Sd C t UR ρ s st o):Sd C (t>>=λU=>Pure.pure Flow.next) FR ρ s st<|o.then Bf:=Sd.bind h λU U U U U U U=>Sd.pure rfl
theorem P0{β γ δ:Type}(o:lG β)(g)(h:γ->St->lG δ):(o.then λb st=>(g b st).then h)=(o.then g).then h:=by
 match o with
 |none=>rfl
 |some (.exc _,_)=>rfl
 |some (.ok _,_)=>rfl
theorem Gw{q}(h:Vx e=some q):e=.ListComp q.1 q.2.1 q.2.2.1 q.2.2.2:=by revert h;rcases e with _|_<;>first|exact nn|(intro h;obtain rfl:=aA h;rfl)
theorem Lz(h:oP t=none)(l)(env):swapsWith (.ListComp elt gs sc p) (some t) l env=pure false:=by revert h;rcases t with _|_<;>first|exact λU=>rfl|exact λh=>nn h.symm
theorem uI{S:lR}(O:lV C S)(h1:(vT t&&vT e)=false)(h2:n6 t=false)(h:swapsWithSole [t] e pos.line C.env=pure false):Sd C (exec (.Assign [t] e pos) C.env) FR ρ s st<|(mU S C.env.scope e st).then λv st=>(sL S C.env.scope t v st).then Bf:=by
 rw[exec_Assign_arm,h,Lc _ h1,Mk _ h2];show Sd C (do
  standAt pos
  let v<-eval e C.env
  assignStores C.env v none [assign t C.env]) _ _ _ _ _
 exact Sd.standAt<|Sd.bind (mE O e st ρ s) λlI s' k6 v y hp hv=>Sd.tail<|An O t hv
theorem L5{S:lR}(O:lV C S){elt:Expr}{gs:List Comprehension}(h:swapsWithSole [.Name x px] (.ListComp elt gs sc p) pos.line C.env=pure true):Sd C (exec (.Assign [.Name x px] (.ListComp elt gs sc p) pos) C.env) FR ρ s st<|(S.comp C.env.scope (.ListComp elt gs sc p) st).then λv st=>(mX C.env.scope x v st).then Bf:=by
 simp only[exec_Assign_arm,h,P0];show Sd C (do
  standAt pos
  evalThenUse _ C.env (λv=>assignAll v [assign (.Name x px) C.env])
  pure Flow.next) _ _ _ _ _
 exact Sd.standAt<|Sd.tail<|O.Vg λh' lI s' k6 b v hp hv=>Sd.standAt<|rW hv
theorem Qy(x)(px p)(elt)(gs)(sc)(l)(env):swapsWithSole [.Name x px] (.ListComp elt gs sc p) l env=pure false\/swapsWithSole [.Name x px] (.ListComp elt gs sc p) l env=pure true:=by
 show(pure _:Sem Bool)=pure false\/(pure _:Sem Bool)=pure true;generalize(_&&_)=b;induction b
 .exact .inl rfl
 .exact .inr rfl
theorem Wf{S:lR}{t e:Expr}{pos:Pos}(O:lV C S):Sd C (exec (.Assign [t] e pos) C.env) FR ρ s st<|if vT t&&vT e||n6 t||(uB e&&(Vx e).isNone)then none else(mU S C.env.scope e st).then λv st=>(sL S C.env.scope t v st).then Bf:=by
 exists C,ρ,s,st,S,t,e,pos,_;by_cases hh:(vT t&&vT e||n6 t||(uB e&&(Vx e).isNone))=true
 .rw[aH hh];exact Sd.nil
 rw[aL hh];simp only[d8,not_or,iT]at hh;rcases hc:Vx e with _|r
 .have:uB e=false:=by have:=hh.2;simp only[hc,Option.isNone_none,Bool.and_true]at this;exact this
  exact uI O hh.1.1 hh.1.2<|Gm this _ _ _
 .exists r,_;obtain rfl:=Gw hc;rcases ha:oP t with _|q
  .exact uI O hh.1.1 hh.1.2 (Lz ha _ _)
  .obtain rfl:=nQ ha;rcases Qy q.1 q.2 r.2.2.2 r.1 r.2.1 r.2.2.1 pos.line C.env with h|h
   .exact uI O hh.1.1 hh.1.2 h
   .exact L5 O h
theorem Lr{S:lR}(O:lV C S)(x):Sd C (loadName C.env x) VC ρ s st<|D0 S C.env.scope x st:=by
 by_cases hd:(x== "__debug__")=false
 .intro G r k6 e Γ p qw;have:=Ud O x p G r k6 e;rw[eval_Name C.env x _ hd]at this;have h2:=this Γ p qw;exact h2
 .have:D0 S C.env.scope x st=none:=by
   delta D0 xQ;have:x= "__debug__" :=by simpa using hd
   rw[aL<|by simp[this]]
  simp[this];exact Sd.nil
theorem mN.at(L:mN C)(h):mN<|C.at h:=⟨L.hh,L.mg,L.cd,L.lo,L.fr⟩
theorem Py{q}(h:ER e=some q):e=.Subscript q.1 q.2.1 q.2.2:=by revert h;rcases e with _|_<;>first|exact nn|(intro h;obtain rfl:=aA h;rfl)
theorem Sd.RP{o:lG Unit}(h:Sd C t (λU U f=>f=Flow.next) ρ s st o):Sd C t FR ρ s st<|o.then Bf:=by
 refine Sd.qe λG r k6 e Q E kQ kE=>?_;obtain⟨c,h1,rfl⟩|⟨_,mS,h1,e'⟩:=m9 e
 .exact h.ex G h1 λx s' lI p X g n=>kE _ _ ⟨c,lI,rfl,p,X,g,n⟩
 .rcases e' with _|_;exact h.ok G h1 λx s' lI p q g n=>kQ _ _ ⟨.next,lI,rfl,p,q,g,n⟩
theorem Md{S:lR}(O:lV C S):Sd C (exec (.AugAssign (.Name x p') op e p) C.env) FR ρ s st<|(D0 S C.env.scope x st).then λa st=>(mU S C.env.scope e st).then λb st=>(rD st<|S.Bv op a b st.H).then λc st=>(mX C.env.scope x c st).then Bf:=
 Sd.standAt (Sd.bind (Lr O x) λmF lD mS a old pZ ha=>Sd.bind (Sd.holding<|mE O e mS mF lD) λmD mQ pA b v nM hb=>Sd.standAt<|Sd.bind (Sd.operate<|O.Bv (ha.mono nM) hb) λnF mO m7 c new oN hc=>Sd.standAt<|Sd.tail<|rW hc)
theorem Mw{S:lR}(O:lV C S){o:Expr}:Sd C (exec (.AugAssign (.Attribute o x p') op e p) C.env) FR ρ s st ((mU S C.env.scope o st).then λa st=>(mV st<|S.attr a x st.H).then λb st=>(mU S C.env.scope e st).then λd st=>(rD st<|S.Bv op b d st.H).then λc st=>
 (rD st<|(S.setattr a x c st.H).map λh=>((),h)).then Bf):=Sd.standAt<|Sd.bind (mE O o st ρ s) λmF lD mS a ov pZ ha=>Sd.uJ<|Sd.assoc<|Sd.standAt<|Sd.assoc<|Sd.bind (O.attr ha) λmD mQ pA b old nM hb=>Sd.assoc<|Sd.uJ<|Sd.bind (mE O e pA mD mQ) λnF mO m7 d v oN hd=>Sd.assoc<|Sd.standAt<|Sd.bind (Sd.operate<|O.Bv (hb.mono oN) hd) λN5 zP Et c new FY hc=>Sd.standAt<|Sd.uJ<|Sd.bind (O.setattr (((ha.mono nM).mono oN).mono FY) hc) λBn xU Hn U U U U=>Sd.release<|Sd.pure rfl
theorem HF{S:lR}(O:lV C S){o i:Expr}{p p':Pos}(hi:¬v8 i=true):Sd C (exec (.Delete [.Subscript o i p'] p) C.env) FR ρ s st<|(mU S C.env.scope o st).then λa st=>(mU S C.env.scope i st).then λb st=>(rD st<|(S.rP a b st.H).map λh=>((),h)).then Bf:=by
 show Sd C (do
  standAt p
  (do
   (do
    let ov<-eval o C.env
    let iv<-holding [ov] (eval i C.env)
    standAt p'
    holding [ov,iv] (delItem ov iv)
    release [ov,iv] [])
   pure ())
  pure Flow.next) _ _ _ _ _
 exact Sd.standAt<|Sd.assoc<|Sd.assoc<|Sd.bind (mE O o st ρ s) λlI s' k6 a ov hp ha=>Sd.assoc<|Sd.uJ<|Sd.bind (mE O i k6 lI s') λAr zN uU b iv rE hb=>Sd.assoc<|Sd.standAt<|Sd.assoc<|Sd.uJ<|Sd.bind (O.rP (ha.mono rE) hb) λU U U U U U U=>Sd.release<|Sd.pure rfl
theorem Q9{S:lR}(O:lV C S){t u e:Expr}{p:Pos}(ht:n6 t=false)(hu:n6 u=false):Sd C (exec (.Assign [t,u] e p) C.env) FR ρ s st<|(mU S C.env.scope e st).then λv st=>(sL S C.env.scope t v st).then λU st=>(sL S C.env.scope u v st).then Bf:=by
 rw[exec_Assign_arm,fy _ ht hu,show swappedStores [t,u] e C.env=pure none by rcases t with _|_<;>rfl]
 refine Sd.standAt ?_;show Sd C (do
  let v<-eval e C.env
  (do holding [v] (assign t C.env v);assign u C.env v)
  pure Flow.next) _ _ _ _ _
 exact Sd.bind (mE O e st ρ s) λlI s' k6 v y hp hv=>Sd.assoc<|Sd.bind (Sd.holding<|An O t hv) λAr zN uU U U rE U=>Sd.tail<|An O u<|hv.mono rE
theorem zw{S:lR}{k:Nat}(B:k7 k C)(O:lV C S){e:Expr}(hc:uB e=false):Sd C (exec (.Expr e p) C.env) FR ρ s st<|(mU S C.env.scope e st).then Bf:=by rw[exec_Expr C.env e p (by dsimp only[interactive];refine B.fn▸?_;rfl)<|Gm hc _ _ _];exact Sd.standAt<|Sd.bind (mE O e st ρ s) λlI s' k6 b v hp hv=>Sd.of λG Q E kk=>wpAny_dropValue<|kk _ _ lI (a8 _) rfl G<|.refl _
abbrev IB(k:Nat)(ex:Bool->Scope->List Stmt->St->lG Fl):Prop:=∀(l:List Stmt)(q:Bool)(C:Cx)(_:k7 k C)(_:q=false->mN C)(ρ:List Addr)(s:Shared)(st:St),Sd C (execs l C.env) FR ρ s st<|ex q C.env.scope l st
theorem Z5{S:Bool->lR}(OK:m4 k S)(X:IB k ex)(t)(q)(C)(B:k7 k C)(L:q=false->mN C)(ρ)(s)(st):Sd C (exec t C.env) FR ρ s st<|Bb S fu ex q C.env.scope t st:=by
 exists k,fu,S,ex,t,q,C,ρ,s,st,[OK,X,B,L];have O:=OK.at B L;cases t with
 |Expr e p=>
  show Sd C _ _ _ _ _<|if uB e then none else _;by_cases hc:uB e=true
  .rw[aH hc];exact Sd.nil
  .rw[aL hc];exact zw B O<|by simpa using hc
 |Pass p|Break p|Continue p=>exact Sd.standAt<|Sd.pure rfl
 |Return e p=>
  rcases e with _|e
  .exact Sd.standAt (Sd.pure ⟨_,rfl,rfl⟩)
  .exact Sd.standAt (Sd.bind (mE O e st ρ s) λlI s' k6 b v hp hv=>Sd.pure ⟨_,rfl,hv⟩)
 |Assign ts e p=>
  rcases ts with _|⟨t,r⟩
  .exact Sd.nil
  .rcases r with _|⟨u,r⟩
   .exact Wf O
   .show Sd C _ _ _ _ _ (if n6 t||n6 u||!r.isEmpty then none else _);by_cases hh:(n6 t||n6 u||!r.isEmpty)=true
    .rw[aH hh];exact Sd.nil
    .rw[aL hh];simp only[d8,not_or,iT,jP,cI]at hh;exact hh.2▸(Q9 O hh.1.1 hh.1.2)
 |AugAssign t op e p=>
  show Sd C _ _ _ _ _ (match oP t with|some x=>_|none=>_);rcases ha:oP t with _|x
  .exact Sd.m3 λx hx=>by obtain rfl:=sO hx;exact Mw O
  .obtain rfl:=nQ ha;exact Md O
 |If t b o p=>
  refine Sd.standAt<|Sd.bind (tF O t st ρ s) λlI s' k6 c c' hp hc=>?_;subst hc;rcases c with _|_
  .exact X o q C B L lI s' k6
  .exact X b q C B L lI s' k6
 |While t b o p=>
  rcases q with _|_
  .exact dm B (L rfl) (λρ s st=>tF O t st ρ s) (X b false C B L) (X o false C B L) fu
  .exact Sd.nil
 |For t it b o p=>
  rcases q with _|_
  .show Sd C _ _ _ _ _ (match oP t with|some x=>_|none=>_);rcases ha:oP t with _|x
   .exact O.stmt.RP
   .obtain rfl:=nQ ha;refine Sd.iff λh=>?_;simp only[aQ,cI]at h;exact h.1▸(QA B (L rfl) O (by simpa using h.2) λh' B'=>X b false (C.at h') B' λU=>(L rfl).at h')
  .exact Sd.nil
 |Try b hs o f p=>
  show Sd C _ _ _ _ _<|if q||!(o.isEmpty&&f.isEmpty)then none else _;by_cases hh:(q||!(o.isEmpty&&f.isEmpty))=true
  .rw[aH hh];exact Sd.nil
  .rw[aL hh];simp only[d8,not_or,iT,jP,aQ,cI]at hh;obtain⟨rfl,rfl,rfl⟩:=hh;exact JD B (L rfl) O (X b false C B L) λl e ρ s st=>X l true (C.mark e) (B.mark e) (λq=>by injection q) ρ s st
 |Raise e c p=>
  refine Sd.m3 λe he=>?_;subst he;rcases c with _|c
  .refine Sd.qe λG r k6 e' Q E kQ kE=>?_;obtain⟨c,h1,rfl⟩|⟨_,_,_,e'⟩:=m9 e'
   .exact O.raise.ex G h1 λx s' lI p X g n=>kE _ _ ⟨c,lI,rfl,p,X,g,n⟩
   .rcases e' with _|_
  .exact Sd.nil
 |Delete ts p=>
  refine Sd.m3 λt h1=>Sd.m3 λx h2=>?_;obtain rfl:=pY h1;obtain rfl:=Py h2;by_cases hi:v8 x.2.1=true
  .rw[aH hi];exact Sd.nil
  .rw[aL hi];exact HF O hi
 |_=>exact Sd.nil
theorem JJ(x:lG Fl):x.then (kl<|Bf ())=x:=by
 match x with
 |none=>rfl
 |some (.exc _,_)=>rfl
 |some (.ok f,_)=>induction f<;>rfl
theorem lf(h:∀t ρ s st,Sd C (exec t C.env) FR ρ s st<|f t st)(l):∀ρ s st,Sd C (execs l C.env) FR ρ s st<|w3 f l st:=by
 induction l with
 |nil=>exact λU U U=>Sd.pure rfl
 |cons t r ih=>
  intro ρ s st;have key:Sd C (execs (t::r) C.env) FR ρ s st<|(f t st).then<|kl<|w3 f r:=Sd.bind (h t ρ s st) λlI s' k6 f g hp hf=>by
   induction f with
   |next=>subst hf;exact ih lI s' k6
   |brk|cont=>subst hf;exact Sd.pure rfl
   |ret v=>obtain⟨y,rfl,hv⟩:=hf;exact Sd.pure ⟨y,rfl,hv⟩
  rcases r with _|⟨_,_⟩
  .exact key.congr rfl (JJ _).symm
  .exact key
theorem qi{S:Bool->lR}(OK:m4 k S)(n):IB k<|mW S fu n:=by
 induction n with
 |zero=>exact λU U U U U U U U=>Sd.nil
 |succ n ih=>exact λl q C B L=>lf (λt ρ s st=>Z5 OK ih t q C B L ρ s st) l
theorem vQ{S:Bool->lR}(OK:m4 k S):IB k<|nZ S fu:=qi OK 40
def Cx.into(C:Cx)(h:Heap)(ρ:List Addr)(env:Env):Cx:={w:=C.w,A:=C.A.deeper env,env:=env,ail:=hideAll h ρ,F:=C.env.locals::C.F}
theorem Ih{F:List Addr}(lo:935<=L)(h:builtinsNs∈L::F):builtinsNs∈F:=by
 rcases aK.mp h with e|h
 .simp only[<-e]at lo;exact absurd lo<|by decide
 .exact h
theorem mY.out{F:List Addr}(lo:935<=L)(n:mY (L::F) s s'):mY F s s':=⟨n.os,n.dr,n.tk,let⟨l,e,b,k⟩:=n.gn;⟨l,e,b,λq=>k λm=>q<|Ih lo m⟩⟩
theorem vC(e:(C.into h ρ env).ail.get? b=some o):h.get? b=some o:=dS _ e
theorem pK(e:h.get? b=some o)(h1:b∉ρ):(C.into h ρ env).ail.get? b=some o:=dL _ e h1
theorem W8(m:b∈ρ):(C.into h ρ env).ail.get? b=none:=eM _ m
theorem tY(e:h.get? b=none):(C.into h ρ env).ail.get? b=none:=by
 rcases q:(C.into h ρ env).ail.get? b with _|o
 .rfl
 .replace e:=(vC q)▸e;rcases e with _|_
theorem kZ.live(G:kZ C ρ st s)(ha:a∈ρ):∃o,s.heap.get? a=some o:=by obtain⟨i,hi⟩:=cE ha;exact G.sim.lt hi
theorem wJ(G:kZ C ρ st s):qX C.F C.ail (C.into s.heap ρ env).ail:=by refine⟨λb o e=>?_,G.sim.keep.2⟩;exists o',(q8:G.sim.keep.1 b o e);exact⟨o',pK q8.1 (G.kept e).2.1,q8.2⟩
theorem k7.into(B:k7 (k+1) C)(G:kZ C ρ st s)(hf:env.scope.kind=.function)(Ot:env.globals=mainGlobals/\env.builtins=builtinsNs):k7 k<|C.into s.heap ρ env:=by
 exists k,C,ρ,st,s,env,_;refine⟨B.top.keep (wJ G) B.hi,λf hm=>?_,λf hm=>?_,?_,?_,hf,Ot⟩
 .rcases aK.mp hm with rfl|hm
  .show(KF C.w).lookup C.env.locals=none;rcases q:(KF C.w).lookup C.env.locals with _|o
   .rfl
   .have:=B.top.K _ _ q;replace this:=G.fr.none▸this;rcases this with _|_
  .exact B.hi f hm
 .exists f,_;rcases aK.mp hm with rfl|hm
  .exists o,es,n,(q9:G.oH);exact⟨o,es,n,pK q9.1 G.fr.out,q9.2⟩
  .exists o,es,n,(q8:B.dict G hm);exact⟨o,es,n,pK q8.1 λhr=>G.zQ B hr hm,q8.2⟩
 .have:=B.dp;exact((lk this):C.A.depth+1+k<1000)
 .have:=B.un;show C.A.units+3+20*k<9000;exact lk this
theorem mN.into(B:k7 (k+1) C)(L:mN C){h:Heap}(ug:env.frame=some env.locals)(hf:env.scope.kind=.function)(Yv:xD env)(w7:935<=env.locals):mN<|C.into h ρ env:=by
 exists k,C,ρ,env,h,[B,L,ug,hf,Yv,w7];obtain⟨hh,mg,uZ,lo,outer,q9⟩:=L;refine⟨hh,.tail _ mg,Yv,w7,C.env::outer,Around.frames_deeper q9.1,ug,?_,λe he=>?_⟩
 .refine hf▸?_;intro h;injection h
 .rcases aK.mp he with rfl|he
  .exact⟨q9.2.2.1,C.env.locals,.head _,λq=>absurd (q▸lo)<|by decide,q9.2.1⟩
  .obtain⟨g1,L,q8⟩:=q9.2.2.2 e he;exact⟨g1,L,.tail _ q8.1,q8.2⟩
theorem kZ.enter(B:k7 k C)(G:kZ C ρ st s)(keep:∀b o,s.heap.get? b=some o->h'.get? b=some o)(hL:s.heap.get? env.locals=none)
 (hn:∃m,h'.Ns env.locals m/\∀x,env.kindOf x=some .local->LR ρ (loc.lookup x) (m x))(ht:s.toks<=t)
  (hc:∀x a,env.cells.lookup x=some a->s.heap.get? a=none/\a≠env.locals/\(∃u,h'.IsCell a u/\LR ρ (loc.lookup x) u)/\(∀y,env.cells.lookup y=some a->y=x)/\env.kindOf x≠some .local)
  (hh:∀x,(env.kindOf x=some .cell\/env.kindOf x=some .free)->env.cells.lookup x≠none)(w7:935<=env.locals):kZ (C.into s.heap ρ env) ρ ⟨st.H,loc⟩ {s with heap:=h',toks:=t}:=by
  exists k,C,ρ,st,s,env,h',t,loc,_;refine⟨⟨G.sim.len,G.sim.nd,λi a ao e1 e2=>?_,λa ha=>⟨W8 ha,(G.sim.new a ha).2⟩,⟨λb o e=>⟨o,keep _ _<|vC e,.refl _ _⟩,λf hf o e=>?_⟩⟩,⟨hn,tY hL,λhm=>?_,λx a hx=>?_,λx a hx hk=>?_,hh,λx a hx=>(hc x a hx).2.2.2.2,w7⟩,?_⟩
  .exists o,(q8:G.sim.obj i a ao e1 e2);exact⟨o,keep _ _ q8.1,q8.2⟩
  .have e':=vC e;rcases aK.mp hf with rfl|hf
   .exists o',es,n,(q9:G.oH);replace e':=q9.1▸e';obtain rfl:=aA e';exact⟨es,n,q9.2⟩
   .exact B.cls G f hf o e'
  .exists o,(ho:G.live hm);exact absurd (hL.symm.trans ho)<|nn
  .exists x,a,_;obtain⟨h1,h2,⟨u,h3,h4⟩,uZ⟩:=hc x a hx;refine⟨λhm=>?_,h2,u,h3,h4⟩;exists o,(ho:G.live hm);replace ho:=h1▸ho;rcases ho with _|_
  .exact⟨tY (hc x a hx).1,(hc x a hx).2.2.2.1⟩
  .have:=G.tk;lia
theorem qX.cell{F:List Addr}{ail h:Heap}(kk:qX F ail h){a:Addr}{u:Option Value}(c:ail.IsCell a u):h.IsCell a u:=by
 exists F,ail,h,a,u,[kk,c];exists o,(q_:c);obtain⟨ho,hd⟩:=q_;exists o',(q8:kk.1 a o ho);rcases q8.2 with rfl|⟨_,_,sl,rfl⟩|⟨_,_,_,vs,more,hv,_⟩
 .exact⟨_,q8.1,hd⟩
 .exact⟨_,q8.1,hd⟩
 .have hv:=hd▸hv;rcases hv.1 with _|_
theorem kZ.back(G:kZ C ρ st s)(hp:ρ<+:lI)(G':kZ (C.into s.heap ρ env) lI k6 s'):kZ C lI ⟨k6.H,st.loc⟩ s':=by
 exists C,ρ,lI,st,k6,s,s',env,_;have E0:∀b o,(C.into s.heap ρ env).ail.get? b=some o->b∉lI:=λb o e hm=>by replace e:=((G'.sim.new b hm).1)▸e;rcases e with _|_
 refine⟨⟨G'.sim.len,G'.sim.nd,G'.sim.obj,λa ha=>?_,⟨λb o e=>?_,G.sim.keep.2⟩⟩,⟨?_,G.fr.none,?_,λx a hx=>?_,G.fr.own,G.fr.has,G.fr.kind,G.fr.lo⟩,G'.tk⟩
 .refine⟨?_,(G'.sim.new a ha).2⟩;rcases e:C.ail.get? a with _|o
  .rfl
  .exists o',(Bo:(wJ (env:=env) G).1 a o e);exact absurd ha<|E0 a o' Bo.1
 .exists b,o,_;exists o',(zY:(wJ (env:=env) G).1 b o e);exists R6,(q_:G'.sim.keep.1 b o' zY.1);obtain⟨e'',l'⟩:=q_;refine⟨R6,e'',?_⟩;have l2:yM C.F b o' R6:=by
   rcases l' with rfl|⟨hm,ZE,sl,rfl⟩|r
   .exact .inl rfl
   .rcases aK.mp hm with rfl|hm
    .exact absurd rfl (G.kept e).1
    .exact .inr (.inl ⟨hm,ZE,sl,rfl⟩)
   .exact .inr (.inr ⟨r.1,r.2.1,Ih G.fr.lo r.2.2.1,r.2.2.2⟩)
  exact zY.2.trans l2 λhb=>G.sim.keep.2 b hb o e
 .exists m,(sD:G.fr.ns);have Bw:(C.into s.heap ρ env).ail.Ns C.env.locals m:=by exists o,es,ep,(nO:sD.1);exact⟨o,es,ep,pK nO.1 G.fr.out,nO.2⟩
  exact⟨m,G'.sim.keep.ns Bw,λx hx=>(sD.2 x hx).mono hp⟩
 .exists o,uZ,Os,(lW:G.oH);exact E0 _ _<|pK lW.1 G.fr.out
 .exists x,a,_;obtain⟨h1,h2,u,q9⟩:=G.fr.cell x a hx;exists o,(q8:q9.1);have h0:=pK (C:=C) (env:=env) q8.1 h1;exact⟨E0 _ _ h0,h2,u,G'.sim.keep.cell ⟨o,h0,q8.2⟩,q9.2.mono hp⟩
theorem oD.back(G:kZ C ρ st s)(x:oD (C.into s.heap ρ env) lI c e s'):oD C lI c e s':=by
 have key:∀a,(C.into s.heap ρ env).ail.get? a=none->C.ail.get? a=none/\a≠C.env.locals:=λa h=>by
  refine⟨?_,?_⟩
  .rcases q:C.ail.get? a with _|o
   .rfl
   .obtain⟨o',e',_⟩:=(wJ G).1 a o q;replace e':=h▸e';injection e'
  .rintro rfl
   obtain⟨o,_,_,ho,_⟩:=G.oH;replace h:=(pK ho G.fr.out)▸h;injection h
 obtain⟨a,o,vs,a0,h1,h2,h3,h4,h5,h6,h7,h8,h9⟩:=x.ex;refine⟨a,o,vs,a0,h1,h2,h3,h4,h5,h6,(key a h7).1,(key a h7).2,?_⟩;rcases h9 with h9|⟨t,ot,vt,fl,g1,g2,g3,g4,g5,g6,g7,g8⟩
 .exact .inl h9
 .exact .inr ⟨t,ot,vt,fl,g1,g2,g3,g4,g5,(key t g6).1,(key t g6).2,g8⟩
def DZ:Value->Option Addr
 |.ref c=>some c
 |_=>none
def EQ:Data->Option (Array Value)
 |.fields vs=>some vs
 |_=>none
theorem Pr(h:DZ v=some c):v=.ref c:=by induction v<;>first|exact nn h|exact aV Value.ref<|aA h
theorem Qm{c}(h:EQ v=some c):v=.fields c:=by induction v<;>first|exact nn h|exact aV Data.fields<|aA h
def D1(K:Frag)(fd:FuncData):Bool:=(DZ fd.code).any λc=>(K.lookup c).any λo=>(EQ o.data).any λvs=>(vs[1]?).any λv=>Value.isStrOf fd.qualname v
theorem zt{α:Type}{o:Option α}{p:α->Bool}(h:o.any p=true):∃x,o=some x/\p x=true:=by
 induction o with
 |none=>injection h
 |some x=>exact⟨x,rfl,h⟩
theorem qO{K:Frag}(X:K.In h)(e:D1 K fd=true):h.CodeRec fd.code fd.qualname:=by obtain⟨c,hc,e⟩:=zt e;obtain⟨o,ho,e⟩:=zt e;obtain⟨vs,hd,e⟩:=zt e;obtain⟨v,hv,e⟩:=zt e;obtain⟨t,rfl⟩:=jF e;exact⟨c,o,vs,t,Pr hc,X _ _ ho,Qm hd,hv⟩
structure xi(w:World)(a:Addr)(fd:FuncData)(body:List Stmt):Prop where
 obj:∃o,(KF w).lookup a=some o/\o.data=.func fd
 body:fd.body=.stmts body
 co:fd.scope.isCoroutine=false
 gen:fd.scope.isGenerator=false
 kind:fd.scope.kind=.function
 ZF:fd.closure=[]
 code:D1 (KF w) fd=true
 gl:fd.globals=mainGlobals/\fd.builtins=builtinsNs
 cd:fd.scope.names.lookup ("split_command" :Str)≠none->fd.code=.ref 884
def mL:Option (oV Fl×St)->Option (oV V×Hp)
 |some (.ok<|.ret v,st)=>some (.ok v,st.H)
 |some (.ok .next,st)=>some (.ok .none,st.H)
 |some (.exc c,st)=>some (.exc c,st.H)
 |_=>none
def Cx.in1(C:Cx):Cx:={C with A:=C.A.in1}
theorem kZ.in1(G:kZ C ρ st s):kZ C.in1 ρ st s:=⟨G.sim,G.fr,G.tk⟩
theorem kZ.Fw(G:kZ C.in1 ρ st s):kZ C ρ st s:=⟨G.sim,G.fr,G.tk⟩
set_option backward.match.sparseCases true in
theorem S9{S:Bool->lR}{ρ:List Addr}{s:Shared}{st:St}(B:k7 (k+1) C)(LI:∀h env,env.frame=some env.locals->env.scope.kind=.function->xD env->935<=env.locals->mN (C.into h ρ env))(OK:m4 k S){fd:FuncData}{body:List Stmt}{env:Env}(vY:env.scope=fd.scope)(hk:fd.scope.kind=.function)(ug:env.frame=some env.locals)(Ot:env.globals=mainGlobals/\env.builtins=builtinsNs)(Yv:xD env)(G:kZ C ρ st s){lD:Shared}{loc:Loc}(aim:mY C.F s lD)
 (lY:kZ (C.into s.heap ρ env) ρ ⟨st.H,loc⟩ lD){r:oV V}{k6:St}(e:mV st (mL<|nZ S fu false fd.scope body ⟨st.H,loc⟩)=some (r,k6)):
 codeAny (model PG C.w) C.A (.func body env) (λr' s'=>match r' with|.ok (.ret v)=>PQ C VC ρ s r k6 v s'|.ok _=>False|.error x=>PE C ρ s r k6 x s') lD:=by
 exists k,fu,C,S,ρ,s,st,fd,body,env,lD,loc,r,k6,[B,LI,OK,vY,hk,ug,Ot,Yv,G,aim,lY,e];have ZG:env.scope.kind=.function:=by exact vY▸hk
 have B':=B.into G ZG Ot;have L':=LI s.heap env ug ZG Yv lY.fr.lo;rcases h1:nZ S fu false fd.scope body ⟨st.H,loc⟩with _|p
 .replace e:=h1▸e;exact nn e
 .obtain⟨q,pA⟩:=p;exists q,pA,_;replace e:=h1▸e;refine kJ ?_;refine bL (vQ OK body false (C.into s.heap ρ env) B' (λU=>L') ρ lD ⟨st.H,loc⟩ lY q pA (by simp[<-h1];show nZ S fu false env.scope body _=_;rw[vY])) (λf mQ P=>?_) λx mQ P=>?_
  .exists f,mQ,_;obtain⟨fl,mD,e2,nM,hr,m2,oB⟩:=P;exists fl,mD,_;subst e2;rcases fl with _|_|_|v
   .subst hr;obtain⟨rfl,rfl⟩:=bQ<|aA e;exact⟨.none,mD,rfl,nM,rfl,G.back nM m2,aim.trans<|oB.out G.fr.lo⟩
   .exact nn e
   .exact nn e
   .exists v,_;exists y,(q_:hr);obtain⟨rfl,hv⟩:=q_;obtain⟨rfl,rfl⟩:=bQ<|aA e;exact⟨v,mD,rfl,nM,hv,G.back nM m2,aim.trans<|oB.out G.fr.lo⟩
  .exists x,mQ,_;obtain⟨c,mD,e2,nM,X,m2,oB⟩:=P;exists c,mD,_;obtain rfl:=e2.symm;obtain⟨rfl,rfl⟩:=bQ<|aA e;refine aD<|Te B' L' m2 X ?_;exists mO;intro oA Sa N9 tA;exact C7 B' oA Sa N9 λzP Kr RQ U rg=>⟨c,mD,rfl,nM,RQ.back G,G.back nM Kr,aim.trans<|((oB.trans tA).trans rg).out G.fr.lo⟩
theorem JZ(P):((m5 P).lookup 934).isSome=true:=by rfl'
theorem sV(X:(KF w).In h):935<=h.objs.size:=by
 rcases q:(KF w).lookup 934 with _|o
 .have:=JZ w.params;replace this:=q▸this;rcases this with _|_
 .exact b9 (X _ _ q)
set_option backward.match.sparseCases true in
def Cd(C:Cx)(c:Code)(ρ:List Addr)(s:Shared)(st:St)(o:lG V):Prop:=
 kZ C ρ st s->∀r k6,o=some (r,k6)->codeAny (model PG C.w) C.A c (λr' s'=>match r' with|.ok (.ret v)=>PQ C VC ρ s r k6 v s'|.ok _=>False|.error x=>PE C ρ s r k6 x s') s
theorem Cd.call(h:Cd C (.call f ⟨xs,ks⟩) ρ s st o):Sd C (call f xs ks) VC ρ s st o:=λG r k6 e=>eJ<|h G r k6 e
theorem Cd.ok(h:Cd C c ρ s st o)(G:kZ C ρ st s)(e:o=some (.ok b,k6))(k:∀x s' lI,ρ<+:lI->VC lI b x->kZ C lI k6 s'->mY C.F s s'->R (.ok<|.ret x) s'):codeAny (model PG C.w) C.A c R s:=
 dP (h G _ _ e) λr' s' P=>by
  rcases r' with x|f
  .induction P;contradiction
  .induction f with
   |ret v=>obtain⟨_,lI,e,p,q,g,n⟩:=P;obtain rfl:=oV.ok.inj e;exact k _ _ lI p q g n
   |_=>exact P.elim
theorem Cd.ex(h:Cd C c ρ s st o)(G:kZ C ρ st s)(e:o=some (.exc b,k6))(k:∀x s' lI,ρ<+:lI->oD C lI b x s'->kZ C lI k6 s'->mY C.F s s'->R (.error x) s'):codeAny (model PG C.w) C.A c R s:=
 dP (h G _ _ e) λr' s' P=>by
  rcases r' with x|f
  .obtain⟨_,lI,e,p,q,g,n⟩:=P;rcases e with _|_;exact k _ _ lI p q g n
  .induction f with
   |ret v=>induction P;contradiction
   |_=>exact P.elim
theorem Ux{S:Bool->lR}{ρ:List Addr}{s:Shared}{st:St}(B:k7 (k+1) C)(L:mN C)(OK:m4 k S){a:Addr}{fd:FuncData}{body:List Stmt}(F:xi C.w a fd body)(E1:fd.scope.names.all (λx=>x.2 !=.cell&&x.2 !=.free)=true)
 {xs:List Value}{ks:List (Str×Value)}{ob:lG Loc}
 (hb:Sd C.in1 (bindArgs fd ⟨xs,ks⟩) (λρ l b=>lH (KR ρ) l b/\∀x∈b,fd.scope.names.lookup x.1=some .local) ρ s st ob)(o9:∀c k6,ob≠some (.exc c,k6)):
 Cd C (.call (.ref a) ⟨xs,ks⟩) ρ s st (ob.then λloc st=>mV st<|mL<|nZ S fu false fd.scope body ⟨st.H,loc.reverse⟩):=by
 exists k,fu,C,S,ρ,s,st,a,fd,body,xs,ks,ob,[B,L,OK,F,E1,hb,o9];intro G;exists r,k6;intro e;rcases h1:ob with _|p
 .replace e:=h1▸e;exact nn e
 .obtain⟨q,mS⟩:=p;rcases q with loc|c
  .rw[h1]at e;change mV mS (mL<|nZ S fu false fd.scope body ⟨mS.H,loc.reverse⟩)=_ at e;exists o,(q8:F.obj);have X:=(B.top.keep G.sim.keep B.hi).K;refine e9 (by have:=B.dp;exact bP this) (X _ _ q8.1) q8.2 F.co F.gen F.body (qO X F.code) ?_;refine bL (hb G.in1 _ _ h1) (λbs lD P=>?_) λx lD P=>?_;rotate_left
   .obtain⟨c,_,e',_⟩:=P;injection e'
   obtain⟨l,mF,e',pZ,⟨hl,uL⟩,ZH,aim⟩:=P;obtain rfl:=oV.ok.inj e';have lY:=ZH.Fw;have DD:=B.top.keep lY.sim.keep B.hi;simp only[aX,aQ,hV]at E1;refine fF (λx hx=>(E1 x hx).1) uL (λh' hn hs=>?_) F.kind;have keep:∀b o,lD.heap.get? b=some o->h'.get? b=some o:=λb o eb=>(hs.2 b<|bI<|b9 eb).trans<|aZ _ eb;refine⟨DD.lim.keeps keep,?_⟩;have DE:∀x:Str,(newEnv fd.scope lD.heap.objs.size fd.globals fd.closure (fd.qualname++ ".<locals>.") (some a) fd.code none fd.builtins).cells.lookup x=none:=λx=>by exact F.ZF▸rfl
   have kind:∀x:Str,fd.scope.names.lookup x≠some .cell/\fd.scope.names.lookup x≠some .free:=λx=>by
    constructor
    .intro q;exact(E1 _<|cF q).1 rfl
    .intro q;exact(E1 _<|cF q).2 rfl
   have rel:∀l bs,lH (KR mF) l bs->∀x,LR mF (l.lookup x)<|bs.lookup x:=by
    intro l bs h x;induction h with
    |nil=>exact trivial
    |@cons pa pb la lb hh ht ih=>
     obtain⟨ak,av⟩:=pa;obtain⟨bk,bv⟩:=pb;obtain⟨h1,h2⟩:=hh;subst h1;rcases hx:(x==ak)with _|_
     .simp[List.lookup,hx];exact ih
     .simp[List.lookup,hx];exact h2
   have rev:∀l bs,lH (KR mF) l bs->lH (KR mF) l.reverse bs.reverse:=by
    intro l bs h;induction h with
    |nil=>exact .nil
    |cons hh _ ih=>simp[cY];exact ih.append<|.cons hh .nil
   have m2:=lY.enter (t:=lD.toks+bs.length) B keep (cB<|aI _) ⟨_,hn,λx U=>rel _ _ (rev _ _ hl) x⟩ (aT _ _)
    (λx a' hx=>by replace hx:=(DE x)▸hx;exact nn hx) (λx hx=>by rcases hx with hx|hx;exact absurd hx (kind x).1;exact absurd hx (kind x).2) (sV DD.K)
   refine dP (S9 B (λh env=>mN.into B L) OK rfl F.kind rfl F.gl F.cd lY (mY.heap lD h' bs.length) m2 e) λr' mO P=>?_;rcases r' with x|f
   .obtain⟨b,lI,e,p,q,g,m⟩:=P;exact⟨b,lI,e,pZ.trans p,q,g,aim.trans m⟩
   .induction f with
    |ret v=>obtain⟨b,lI,e,p,q,g,m⟩:=P;exact⟨b,lI,e,pZ.trans p,q,g,aim.trans m⟩
    |_=>exact P
  .exact absurd h1 (o9 c mS)
def Mf:V->Hp->Option Bool
 |.none,_=>some false
 |.bool b,_=>some b
 |.int i,_=>some<|i !=0
 |.str x,_=>if x.length<big then some ((x.length:Int)!=0)else none
 |.ref i,H=>(lE H i).bind λxs=>if xs.length<big then some (!xs.isEmpty)else none
 |_,_=>none
def AE:UnaryOp->V->Hp->Option V
 |.Not,a,H=>(Mf a H).map λb=>.bool (!b)
 |.USub,.int i,_=>some<|.int (-i)
 |_,_,_=>none
abbrev rh:=Option<|V×Hp
def ii(x y:Str)(H:Hp):rh:=if x.length+y.length<big then some (.str<|if x.length==0 then y else if y.length==0 then x else x++y,H)else none
def arI(f:Int->Int->Int)(a b:V)(H:Hp):rh:=vI (λa=>vI (λb H=>some (.int<|f a b,H)) b) a H
def Qs(op:Operator)(a b:V)(H:Hp):rh:=match op with
 |.Add=>(arI (· + ·) a b H).or<|(vS (λx=>vS (λy=>ii x y) b) a H).or<|vL (λU xs=>vL (λU ys H=>if xs.length+ys.length<big then some (.ref H.length,H++[.list<|xs++ys])else none) b) a H
 |.Mod=>vI (λa=>vI (λb H=>if b≠0 then some (.int<|a.fmod b,H)else none) b) a H
 |.FloorDiv=>vI (λa=>vI (λb H=>if b=6 then some (.int<|a.fdiv b,H)else none) b) a H
 |_=>none
def Ge(op:Operator)(a b:V)(H:Hp):rh:=match op with
 |.Add=>(arI (· + ·) a b H).or<|vS (λx=>vS (λy=>ii x y) b) a H
 |.Sub=>arI (· - ·) a b H
 |_=>none
theorem iu(B:k7 k C)(ha:VC ρ a x):Sd C (truthy x) (λU b c=>b=c) ρ s st<|pE st<|Mf a st.H:=by
 rcases a with _|b|i|z|i|a|n|n
 .subst ha;exact Sd.oM λG Q E kk=>truthy_none<|kk _ rfl
 .subst ha;exact Sd.oM λG Q E kk=>wpAny_truthy_bool<|kk _ rfl
 .obtain⟨t,rfl⟩:=ha;exact Sd.oM λG Q E kk=>P.truthy_int<|kk _ rfl
 .obtain⟨t,rfl⟩:=ha;exact xF rfl λh=>Sd.plain λG Q E kk=>P.truthy_str (by unfold big at h;lia)<|kk _ 2 rfl
 .refine gB rfl λxs hi=>xF rfl λh=>Sd.plain λG Q E kk=>?_;obtain⟨a,vs,n,rfl,hr,ho,Sb⟩:=G.list (nS hi) ha;have hl:xs.length=vs.size:=Sb.length;refine wpAny_truthy_list ⟨_,ho,rfl,n,rfl⟩ (by unfold big at h;lia)<|kk _ 2 ?_;rcases xs with _|⟨a,l⟩
  .have:=fO hl.symm;subst this;rfl
  .simp only[List.isEmpty_cons,kP];rw[eq_comm,dA,jQ];rintro rfl;simp at hl
 .exact Sd.nil
 .exact Sd.nil
 .exact Sd.nil
theorem OF(B:k7 k C)(ha:VC ρ a x):Sd C (unaryOp op x) VC ρ s st<|pE st<|AE op a st.H:=by
 induction op with
 |Not=>
  show Sd C _ _ _ _ _<|pE st<|(Mf a st.H).map λb=>V.bool (!b);intro G r k6 e;rcases h:Mf a st.H with _|b
  .replace e:=h▸e;exact nn e
  .replace e:=h▸e;injection e with q_;injection q_ with q_ p_;subst q_ p_;refine not_of (bL (iu B ha G (.ok b) st<|h▸rfl) (λc lD P=>?_) λU U P=>by obtain⟨_,_,e,_⟩:=P;injection e);obtain⟨b',lI,e',hp,hr,G',n⟩:=P;obtain rfl:=oV.ok.inj e';subst hr;exact⟨.bool (!b),lI,rfl,hp,rfl,G',n⟩
 |USub=>
  induction a<;>first|exact Sd.nil|skip
  obtain⟨t,rfl⟩:=ha;exact Sd.plain λG Q E kk=>P.neg_int<|kk _ 1 ⟨_,rfl⟩
 |_=>exact Sd.nil
set_option tactic.hygienic true in
theorem bc(hz:x.length+y.length<big)(kk:∀v n,VC ρ (.str<|if x.length==0 then y else if y.length==0 then x else x++y) v->Q v {s with toks:=s.toks+n}):
 (if x.length==0 then Made.val (.str y u)else if y.length==0 then Made.val (.str x t)else Made.str<|x++y).post Q s:=by
  split
  .rename_i h;have:=kk (.str y u) 0 ⟨u,by rw[aH h]⟩;simpa[Made.post]using this
  .rename_i h;split
   .rename_i h';have:=kk (.str x t) 0 ⟨t,by rw[aL h,aH h']⟩;simpa[Made.post]using this
   .rename_i h';have:=kk (.str (x++y) s.toks) 1 ⟨_,by rw[aL h,aL h']⟩;refine⟨?_,this⟩;exact(Str.length_append ..)▸(bC (bS hz) n8)
theorem gb{T:Value->Value->Sem Value}{a b:V}{x y:Value}(ha:VC ρ a x)(hb:VC ρ b y)(h:∀a b t u Q E,Q (.int (f a b) s.toks) {s with toks:=s.toks+1}->wpAny (model PG C.w) C.A (T (.int a t)<|.int b u) Q E s):Sd C (T x y) VC ρ s st<|rD st<|arI f a b st.H:=
 gI (T:=λx=>T x y) rfl ha λa t=>gI rfl hb λb u=>Sd.plain λG Q E kk=>h a b t u Q E<|kk _ 1 ⟨_,rfl⟩
theorem bz{T:Value->Value->Sem Value}(ha:VC ρ a x)(hb:VC ρ b y)(h:∀a b t u Q E,(if a.length==0 then Made.val (.str b u)else if b.length==0 then Made.val (.str a t)else Made.str<|a++b).post Q s->wpAny (model PG C.w) C.A (T (.str a t)<|.str b u) Q E s):Sd C (T x y) VC ρ s st<|rD st<|vS (λx=>vS (λy=>ii x y) b) a st.H:=
 gS (T:=λx=>T x y) rfl ha λa t=>gS rfl hb λb u=>xF rfl λhz=>Sd.plain λG Q E kk=>h a b t u Q E<|bc hz kk
theorem Sd.orV{α β:Type}{t:Sem α}{Rel:List Addr->β->α->Prop}{a b:Option (β×Hp)}(h1:Sd C t Rel ρ s st<|rD st a)(h2:Sd C t Rel ρ s st<|rD st b):Sd C t Rel ρ s st<|rD st<|a.or b:=by
 rcases a with _|p
 .exact h2
 .exact h1
theorem II(B:k7 k C)(ha:VC ρ a x)(hb:VC ρ b y):Sd C (binaryOp op x y) VC ρ s st<|rD st<|Qs op a b st.H:=by
 induction op with
 |Add=> refine Sd.orV (gb ha hb λa b t u Q E q=>P.add_int q)<|Sd.orV (bz ha hb λa b t u Q E q=>P.add_str q) ?_;refine gL (T:=λx=>binaryOp .Add x y) rfl ha λi xs l vs n hr ho Sb U=>gL rfl hb λj ys l' YU n' hr' rA xW U=>xF rfl λhz=>Sd.of λG Q E kk=>?_;refine P.add_list ho rA (kk _ _ _ ⟨_,rfl⟩ (nU G) (G.push rfl ⟨vs++YU,0,rfl,by simp[Array.toList_append];exact(Sb.append xW).mono ⟨_,rfl⟩⟩)<|mY.lO ..) ?_;simp only[qD Sb,qD xW]at hz;exact bC (bS hz) n8
 |Mod=>exact gI (T:=λx=>binaryOp .Mod x y) rfl ha λa t=>gI rfl hb λb u=>xF rfl λhq=>Sd.plain λG Q E kk=>PyProof.Rows.mod_int hq<|kk _ 1 ⟨_,rfl⟩
 |FloorDiv=>
  exact gI (T:=λx=>binaryOp .FloorDiv x y) rfl ha λa t=>gI rfl hb λb u=>xF rfl λhq=>by subst hq;exact Sd.plain λG Q E kk=>PyProof.Rows.floordiv_int (by decide) (kk _ 1 ⟨_,rfl⟩)<|.inl<|by first|exact PyProof.noPylong_small (by simp)|exact PyProof.noPylong_of_log2<|by decide+kernel
 |_=>exact Sd.nil
theorem ur(B:k7 k C)(ha:VC ρ a x)(hb:VC ρ b y):Sd C (inplaceOp op x y) VC ρ s st<|rD st<|Ge op a b st.H:=by
 induction op with
 |Add=>exact Sd.orV (gb ha hb λa b t u Q E q=>P.iadd_int q)<|bz ha hb λa b t u Q E q=>P.iadd_str q
 |Sub=>exact gb ha hb λa b t u Q E q=>P.isub_int q
 |_=>exact Sd.nil
def v9(n:String):Bool:=["enumerate","zip","dict_itemiterator","dict_reverseitemiterator","odict_iterator","itertools.zip_longest","itertools.pairwise"].contains n
def K9(x:Str):List V:=x.cps.toList.map λc=>.str ⟨#[c]⟩
def qL(a b c:Int):List V:=(List.range (Builtin.Range.rangeSize a b c).toNat).map λ(k:Nat)=>V.int<|a+(k:Int)*c
def dy(H:Hp):AO->Option (List Nat×List V)
 |.list xs=>some ([1],xs)
 |.tuple xs=>some ([2],xs)
 |.lT es ep=>some ([4,ep],es.map λe=>V.str e.1)
 |.vals d=>(fE H d).map λp=>([5,d,p.2],p.1.map λe=>e.2)
 |.range a b c=>if Builtin.Range.small a b c=true/\0<=Builtin.Range.rangeSize a b c then some ([3],qL a b c)else none
 |_=>none
def lZ:V->Hp->Option (List Nat×List V)
 |.str x,_=>if x.cps.all (· <128)=true then some ([0],K9 x)else none
 |.ref i,H=>(H[i]?).bind<|dy H
 |_,_=>none
inductive wX(H:Hp):AO->List Nat×List V->Prop
 |list (xs):wX H (.list xs) ([1],xs)
 |tuple (xs):wX H (.tuple xs) ([2],xs)
 |lT (es ep):wX H (.lT es ep) ([4,ep],es.map λe=>V.str e.1)
 |vals (d es ep) (h:fE H d=some (es,ep)):wX H (.vals d) ([5,d,ep],es.map λe=>e.2)
 |range (a b c) (h:Builtin.Range.small a b c=true/\0<=Builtin.Range.rangeSize a b c):wX H (.range a b c) ([3],qL a b c)
theorem iter_inv(h:dy H ao=some xs):wX H ao xs:=by
 induction ao<;>first|exact nn h|(obtain rfl:=aA h;constructor;done)|skip
 .obtain⟨⟨es,ep⟩,h1,rfl⟩:=a9.mp h;exact .vals _ es ep h1
 .obtain⟨hc,h⟩:=Fd h;obtain rfl:=aA h;exact .range _ _ _ hc
theorem it1(h:wX H ao p)(e:p.1=[1]):ao=.list p.2:=by induction h<;>first|rfl|exact absurd (b0 e).1<|by decide
theorem it2(h:wX H ao p)(e:p.1=[2]):ao=.tuple p.2:=by induction h<;>first|rfl|exact absurd (b0 e).1<|by decide
theorem it4(h:wX H ao p)(e:p.1=[4,ep]):∃es,ao=.lT es ep/\p.2=es.map λe=>V.str e.1:=by induction h<;>first|exact⟨_,(b0 (b0 e).2).1▸rfl,rfl⟩|exact absurd (b0 e).1<|by decide
theorem it5(h:wX H ao p)(e:p.1=[5,d,ep]):∃es,fE H d=some (es,ep)/\p.2=es.map λe=>e.2:=by
 induction h with
 |vals d' es ep' h=> have e:=b0 (b0 e).2;exact⟨es,e.1▸(b0 e.2).1▸h,rfl⟩
 |_=>exact absurd (b0 e).1<|by decide
def Bd(C:Cx)(it:Hp->Option (List Nat×List V))(ρ:List Addr)(xs:List Nat×List V)(i:Addr)(P:Nat->Obj->Prop):Prop:=
 ∀(env:Env)(ail:Heap)(F:List Addr)(lI:List Addr)(k6:St)(s':Shared)(k:Nat)(o:Obj),ρ<+:lI->kZ {w:=C.w,A:=C.A,env:=env,ail:=ail,F:=F} lI k6 s'->it k6.H=some xs->s'.heap.get? i=some o->P k o->i∉lI->
  (∀v,xs.2[k]?=some v->∀(Q:Option Value->Shared->Prop)(E:Value->Shared->Prop),(∀(h':Heap)(y:Value)(o':Obj)(n:Nat),Heap.SameBut i s'.heap h'->h'.get? i=some o'->P (k+1) o'->VC lI v y->Q (some y) {s' with heap:=h',toks:=s'.toks+n})->wpAny (model PG C.w) C.A (pyNext<|.ref i) Q E s')/\
  (xs.2.length<=k->∀(Q:Option Value->Shared->Prop)(E:Value->Shared->Prop),(∀(h':Heap)(n:Nat),Heap.ExtBut i s'.heap h'->Q none {s' with heap:=h',toks:=s'.toks+n})->wpAny (model PG C.w) C.A (pyNext<|.ref i) Q E s')
def oh(w:World)(i:Addr)(P:Nat->Obj->Prop):Prop:=
 ∀(s':Shared)(k:Nat)(o:Obj),s'.heap.get? i=some o->P k o->∀(A':Around)(Q:Value->Shared->Prop)(E:Value->Shared->Prop),Q (.ref i) s'->wpAny (model PG w) A' (pyIter<|.ref i) Q E s'
theorem Br(hit:s.heap.IsStrIter it "str_ascii_iterator" x t i)(h:Q (.ref it) s):wpAny (model PG w) A (pyIter<|.ref it) Q E s:=by refine wpAny_pyIter_slot hit.typeIs iU<|gP iU hit.typeIs F.entry_str_ascii_iterator_iter ?_<|F.args_str_ascii_iterator_iter_1 _;exact aM ⟨_,rfl,"str_ascii_iterator",_,hit.typeIs,F.slot_str_ascii_iterator_next.lookup,h⟩
theorem kZ.fresh(G:kZ C ρ st s):s.heap.objs.size∉ρ/\s.heap.objs.size≠C.env.locals/\C.ail.get? s.heap.objs.size=none:=by
 refine⟨λhm=>?_,λe=>?_,sB G.sim.keep<|aI _⟩
 .exists o,(ho:G.live hm);exact absurd (b9 ho)<|dJ _
 .obtain⟨m,q8⟩:=G.fr.ns;exact absurd q8.1.lt<|e▸(dJ _)
theorem kZ.wK(G:kZ C ρ st s)(o):kZ C ρ st {s with heap:=s.heap.push o}:=by have:=G.ext (h':=s.heap.push o) (λU U e=>aZ _ e) 0;exact this
theorem kZ.notModules(G:kZ C ρ st s){i:Nat}{a:Addr}(ha:ρ[i]?=some a):(a==sysModules)=false:=by have h9:=(G.sim.new a<|aR ha).2;refine a7.mpr λq=>?_;rw[q]at h9;exact absurd h9<|by decide
theorem ri(h:lH (KR ρ) es oG)(e:(es.map λe=>V.str e.1)[k]?=some v):∃p,oG[k]?=some p/\v=.str p.1:=by rw[bD]at e;obtain⟨a,ha,rfl⟩:=a9.mp e;exists b,(q8:h.get ha);exact⟨b,q8.1,aV V.str q8.2.1⟩
theorem rj(h:lH (KR ρ) es oG)(e:(es.map (·.2))[k]?=some v):∃p,oG[k]?=some p/\VC ρ v p.2:=by rw[bD]at e;obtain⟨a,ha,rfl⟩:=a9.mp e;exists b,(q8:h.get ha);exact⟨b,q8.1,q8.2.2⟩
def IP(n:String)(vs:Nat->Array Value)(k:Nat)(o:Obj):Prop:=o.cls=.type n/\o.data=.fields (vs k)
theorem UW(hh:C.A.handled=none):Bd C (lZ<|.str z) ρ ([0],K9 z) i<|IP "str_ascii_iterator" λk=> #[.str z t,.int k 0]:=by intro env ail F lI k6 s' k o hp G' hit ho hP hi;refine⟨λv hv Q E q=>?_,λhk Q E q=>wpAny_pyNext_ascii_end hh ⟨o,ho,hP.1,hP.2⟩ (by refine a6 bU.symm ?_;rw[bZ];simpa[K9]using hk) λh' hs=>(q h' 0 hs:_)⟩;unfold K9 at hv;rw[bD]at hv;obtain⟨c,hc,rfl⟩:=a9.mp hv;exact wpAny_pyNext_ascii_item ⟨o,ho,hP.1,hP.2⟩ (bU▸hc) λh' wO hs=>wO.elim λo' q8=>q h' _ o' 1 hs q8.1 q8.2 ⟨_,rfl⟩
theorem HC(hh:C.A.handled=none)(hr:ρ[j]?=some l):Bd C (lZ<|.ref j) ρ ([1],ys) i<|IP "list_iterator" λk=> #[.ref l,.int k 0]:=by exists i,j,C,ρ,l,ys,[hh,hr];exists env,ail,F,lI,k6,s',k,o;intro hp G' hit Fe hP hi;exists ao,(q_:aB.mp hit);obtain⟨h1,h2⟩:=q_;exists l',ws,m,(q_:G'.list (it1 (iter_inv h2) rfl▸h1) ⟨l,mR hp hr,rfl⟩);obtain⟨e,uZ,rA,FZ⟩:=q_;have rA:=(fY e)▸rA;refine⟨λv hv Q E q=>?_,λhk Q E q=>wpAny_pyNext_list_end hh ⟨o,Fe,hP.1,hP.2⟩ ⟨_,rA,rfl,m,rfl⟩ (bU.symm.trans<|bZ.mpr<|FZ.length▸hk) λh' hs=>q h' 0 hs⟩;exists y,(q9:FZ.get hv);exact iK ⟨o,Fe,hP.1,hP.2⟩ ⟨_,rA,rfl,m,rfl⟩ (bU▸q9.1) λh' wO hs=>wO.elim λo' q8=>q h' _ o' 0 hs q8.1 q8.2 q9.2
theorem AT(hh:C.A.handled=none)(hr:ρ[j]?=some l):Bd C (lZ<|.ref j) ρ ([2],ys) i<|IP "tuple_iterator" λk=> #[.ref l,.int k 0]:=by exists i,j,C,ρ,l,ys,[hh,hr];exists env,ail,F,lI,k6,s',k,o;intro hp G' hit Fe hP hi;exists ao,(q_:aB.mp hit);obtain⟨h1,h2⟩:=q_;exists l',ws,m,(q_:G'.tuple (it2 (iter_inv h2) rfl▸h1) ⟨l,mR hp hr,rfl⟩);obtain⟨e,uZ,rA,FZ⟩:=q_;have rA:=(fY e)▸rA;refine⟨λv hv Q E q=>?_,λhk Q E q=>wpAny_pyNext_tuple_end hh ⟨o,Fe,hP.1,hP.2⟩ ⟨_,rA,rfl,m,rfl⟩ (bU.symm.trans<|bZ.mpr<|FZ.length▸hk) λh' hs=>q h' 0 hs⟩;exists y,(q9:FZ.get hv);exact wpAny_pyNext_tuple_item ⟨o,Fe,hP.1,hP.2⟩ ⟨_,rA,rfl,m,rfl⟩ (bU▸q9.1) λh' wO hs=>wO.elim λo' q8=>q h' _ o' 0 hs q8.1 q8.2 q9.2
theorem LA{es:List (Str×V)}{oG:List (Str×Value)}(hh:C.A.handled=none)(hr:ρ[j]?=some l)(hn:oG.length=es.length):Bd C (lZ<|.ref j) ρ ([4,ep],es.map λe=>V.str e.1) i<|IP "dict_keyiterator" λk=> #[.ref l,.int k 0,.int oG.length 0,.int ep 0]:=by
 exists i,j,C,ρ,l,ep,es,oG,[hh,hr,hn];exists env,ail,F,lI,k6,s',k,o;intro hp G' hit Fe hP hi;exists ao,(q_:aB.mp hit);obtain⟨h1,h2⟩:=q_;exists es',(q_:it4 (iter_inv h2) rfl);obtain⟨e4,e5⟩:=q_;exists d',CZ,(q_:G'.lT (e4▸h1) ⟨l,mR hp hr,rfl⟩);obtain⟨e,uZ,p0,rk⟩:=q_;have p0:=(fY e)▸p0;have hlen:CZ.length=oG.length:=by have:=aV List.length e5;rw[aF,aF]at this;exact rk.length.symm.trans<|this.symm.trans hn.symm
 rw[<-hlen]at hP⊢;refine⟨λv hv Q E q=>?_,λhk Q E q=>wpAny_pyNext_dict_end hh ⟨o,Fe,hP.1,hP.2⟩ p0 (bZ.mpr (by rw[hlen,hn];exact aF (f:=λe:Str×V=>V.str e.1)▸hk)) λh' hs=>q h' 0 hs⟩;exists v,Q,E,[hv,q];exists p,(q_:ri rk<|e5▸hv);obtain⟨hpk,rfl⟩:=q_;refine wpAny_pyNext_dict_item ⟨o,Fe,hP.1,hP.2⟩ p0 hpk ?_;exists key,h';intro acU wO hs;exists o',(q8:wO);exact q h' _ o' 0 hs q8.1 q8.2<|jF acU
theorem OB{es:List (Str×V)}{oG:List (Str×Value)}{ep:Nat}(hh:C.A.handled=none)(hr:ρ[d]?=some l)(hn:oG.length=es.length):Bd C (lZ<|.ref j) ρ ([5,d,ep],es.map λe=>e.2) i<|IP "dict_valueiterator" λk=> #[.ref l,.int k 0,.int oG.length 0,.int ep 0]:=by
 exists i,j,C,ρ,d,l,es,oG,ep,[hh,hr,hn];exists env,ail,F,lI,k6,s',k,o;intro hp G' hit Fe hP hi;exists ao,(q_:aB.mp hit);obtain⟨h1,h2⟩:=q_;exists es',(q_:it5 (iter_inv h2) rfl);obtain⟨e4,e5⟩:=q_;exists d',CZ,(q_:G'.lT (zO e4) ⟨l,mR hp hr,rfl⟩);obtain⟨e,uZ,p0,rk⟩:=q_;have p0:=(fY e)▸p0;have hlen:CZ.length=oG.length:=by have:=aV List.length e5;rw[aF,aF]at this;exact rk.length.symm.trans<|this.symm.trans hn.symm
 rw[<-hlen]at hP⊢;refine⟨λv hv Q E q=>?_,λhk Q E q=>wpAny_pyNext_values_end hh ⟨o,Fe,hP.1,hP.2⟩ p0 (bZ.mpr (by rw[hlen,hn];exact aF (f:=λe:Str×V=>e.2)▸hk)) λh' hs=>q h' 0 hs⟩;exists p,(q8:rj rk<|e5▸hv);exact wpAny_pyNext_values_item ⟨o,Fe,hP.1,hP.2⟩ p0 q8.1 λh' wO hs=>wO.elim λo' q9=>q h' _ o' 0 hs q9.1 q9.2 q8.2
theorem wg(hh:C.A.handled=none)(hc:0<=Builtin.Range.rangeSize a b c):Bd C (lZ<|.ref j) ρ ([3],qL a b c) i λk o=>o={cls:=.type "range_iterator",dict:=none,data:=.fields #[rawInt<|a+(k:Int)*c,rawInt<|Builtin.Range.rangeSize a b c-k,rawInt c],slots:= #[]}:=λenv ail F lI k6 s' k o hp G' hit Fe hP hi=>by
 subst hP;have hl:(qL a b c).length=(Builtin.Range.rangeSize a b c).toNat:=by unfold qL;simp[aF]
 refine⟨λw hw Q E q=>?_,λhk Q E q=>wpAny_pyNext_range_end hh Fe (by rw[hl]at hk;lia) λh' hs=>q h' 0 hs⟩;have sJ:=(aU.mp hw).1;replace sJ:=hl▸sJ;unfold qL at hw;rw[bD,eT sJ]at hw;obtain rfl:=aA hw;refine wpAny_pyNext_range_item Fe (by simp_all) λh' wO hs=>q h' _ _ 1 hs wO ?_ ⟨_,rfl⟩;simp only[show a+k*c+c=a+(k+1:Nat)*c by simp only[Int.natCast_add,Int.add_mul];lia,show Builtin.Range.rangeSize a b c-k-1=Builtin.Range.rangeSize a b c-(k+1:Nat)by lia]
theorem Ib(hh:C.A.handled=none)(G:kZ C ρ st s)(ha:VC ρ a x)(hx:lZ a st.H=some xs)(Q)(E)
 (h:∀P o,o.isFreed=false->P 0 o->(∀k o,P k o->∃n vs,o.cls=.type n/\o.data=.fields vs/\v9 n=false)->Bd C (lZ a) ρ xs s.heap.objs.size P->oh C.w s.heap.objs.size P->Q (.ref s.heap.objs.size) {s with heap:=s.heap.push o}):
  wpAny (model PG C.w) C.A (pyIter x) Q E s:=by
  exists C,ρ,st,s,a,x,xs,Q,E,[hh,G,ha,hx,h];exists _;have hI:∀n vs,v9 n=false->∀k o,IP n vs k o->∃n vs,o.cls=.type n/\o.data=.fields vs/\v9 n=false:=λn vs hn k o hP=>⟨_,_,hP.1,hP.2,hn⟩;induction a with
  |str z=> obtain⟨t,rfl⟩:=ha;obtain⟨RR,hx⟩:=Fd hx;cases hx;exact k9<|wpAny_pyIter_ascii RR<|h _ _ rfl ⟨rfl,rfl⟩ (hI _ _<|rfl) (UW hh) λs' k o ho hP A' Q E q=>Br ⟨o,ho,hP.1,hP.2⟩ q
  |ref j=>
   obtain⟨ao,hj,h2⟩:=aB.mp hx;induction iter_inv h2 with
   |list ys=> obtain⟨l,vs,n,rfl,hr,ho,Sb⟩:=G.list hj ha;exact k9<|iL ⟨_,ho,rfl,n,rfl⟩<|h _ _ rfl ⟨rfl,rfl⟩ (hI _ _<|rfl) (HC hh hr) λs' k o ho hP A' Q E q=>wpAny_pyIter_listiter ⟨o,ho,hP.1,hP.2⟩ q
   |tuple ys=> obtain⟨l,vs,n,rfl,hr,ho,Sb⟩:=G.tuple hj ha;exact k9<|wpAny_pyIter_tuple ⟨_,ho,rfl,n,rfl⟩<|h _ _ rfl ⟨rfl,rfl⟩ (hI _ _<|rfl) (AT hh hr) λs' k o ho hP A' Q E q=>wpAny_pyIter_tupleiter ⟨o,ho,hP.1,hP.2⟩ q
   |lT es ep=> obtain⟨d,oG,rfl,q9⟩:=G.lT hj ha;exact k9<|wpAny_pyIter_dict (G.notModules q9.1) q9.2.1<|h _ _ rfl ⟨rfl,rfl⟩ (hI _ _<|rfl) (LA hh q9.1 q9.2.2.length.symm) λs' k o ho hP A' Q E q=>wpAny_pyIter_keyiter ⟨o,ho,hP.1,hP.2⟩ q
   |vals dd es ep tC=> obtain⟨l,hr,rfl⟩:=ha;obtain⟨Kk,ho,d,sl,RT,rfl⟩:=G.sim.obj j l _ hr hj;obtain⟨d',oG,e,q8⟩:=G.lT (zO tC) ⟨d,RT,rfl⟩;injection e with q_;subst q_;exact k9<|wpAny_pyIter_values ⟨_,ho,rfl,rfl⟩ q8.2.1<|h _ _ rfl ⟨rfl,rfl⟩ (hI _ _<|rfl) (OB hh RT q8.2.2.length.symm) λs' k o ho hP A' Q E q=>wpAny_pyIter_valiter ⟨o,ho,hP.1,hP.2⟩ q
   |range a b c hc=> obtain⟨l,hr,rfl⟩:=ha;obtain⟨Kk,ho,t,u,v,rfl⟩:=G.sim.obj j l _ hr hj;refine k9 ?_;exact wpAny_pyIter_range ho hc.1<|h _ _ rfl (by simp) (λk o hP=>by subst hP;exact⟨_,_,rfl,rfl,rfl⟩) (wg hh hc.2) λs' k o ho hP A' Q E q=>wpAny_pyIter_rangeiter (by subst hP;exact ho) q
  |_=>rcases hx with _|_
theorem AF(hh:C.A.handled=none)(G:kZ C ρ st s)(ha:VC ρ a x)(hx:lZ a st.H=some xs)(Q)(E)
 (h:∀i(P:Nat->Obj->Prop)s' o,kZ C ρ st s'->mY C.F s s'->s'.heap.get? i=some o->P 0 o->i∉ρ->i≠C.env.locals->C.ail.get? i=none->(∀k o,P k o->∃n vs,o.cls=.type n/\o.data=.fields vs)->
  (∀lI k6 s' k o,ρ<+:lI->kZ C lI k6 s'->lZ a k6.H=some xs->s'.heap.get? i=some o->P k o->i∉lI->
  (∀v,xs.2[k]?=some v->∀Q E,(∀h' y o' n,Heap.SameBut i s'.heap h'->h'.get? i=some o'->P (k+1) o'->VC lI v y->Q (some y) {s' with heap:=h',toks:=s'.toks+n})->wpAny (model PG C.w) C.A (pyNext<|.ref i) Q E s')/\
  (xs.2.length<=k->∀Q E,(∀h' n,Heap.ExtBut i s'.heap h'->Q none {s' with heap:=h',toks:=s'.toks+n})->wpAny (model PG C.w) C.A (pyNext<|.ref i) Q E s'))->
  Q (.ref i) s'):wpAny (model PG C.w) C.A (pyIter x) Q E s:=by
  have q8:=G.fresh;refine Ib hh G ha hx Q E λP o hf h0 hc hk U=>h _ P _ o (G.wK _) (mY.lO ..) (bT _ hf) h0 q8.1 q8.2.1 q8.2.2 (λk o hP=>let⟨n,vs,h1,h2,_⟩:=hc k o hP;⟨n,vs,h1,h2⟩) ?_;intro lI k6 s' k o hp G';exact hk C.env C.ail C.F lI k6 s' k o hp G'
def qV(v:V)(n:Nat):Hp->Option (List V):=vR (λi H=>(tE H i).bind λxs=>if xs.length=n then some xs else none) v
theorem Hc(hh:C.A.handled=none)(ha:VC ρ a x):Sd C (unpackItems x n none) (λρ vs ys=>lH (VC ρ) vs ys/\vs.length=n) ρ s st<|pE st<|qV a n st.H:=by
 refine gR (T:=(unpackItems · n none)) rfl ha λi a N4 hr=>gB rfl λxs hi=>xF rfl λhn=>Sd.of λG Q E kk=>?_;obtain⟨_,vs,m,e,q8⟩:=G.tuple (wF hi) hr;injection e with e;subst e;have hl:n=vs.size:=by simp[<-hn,q8.2.2.length]
 subst hl;exact wpAny_unpackItems_tuple hh ⟨_,q8.2.1,rfl,m,rfl⟩ λh' hs=>kk _ _ ρ (a8 _) ⟨q8.2.2,hn⟩ (G.ext (λb o e=>hs b o (bI<|b9 e) e) 0)<|mY.lO ..
theorem ql(h:H[i]?=some (.tuple xs))(hn:xs.length=n):qV (.ref i) n H=some xs:=by show(tE H i).bind _=_;rw[show tE H i=some xs by delta tE;rw[h];rfl];exact aH hn
def fnT:List<|Addr×Stmt:=[(58,wN 5),(73,m1 9 1),(110,m1 11 0),(117,m1 11 1),(124,m1 11 2),(129,m1 11 3),(136,m1 11 4),(143,m1 11 5),(157,m1 11 7),(164,m1 11 8),(197,wN 15),(224,m1 17 1),(501,m1 21 1),(508,m1 21 2),(515,m1 21 3),(677,m1 21 25),(790,m1 31 0),(797,m1 31 1),(827,m1 31 5),(834,m1 31 6),(856,m1 31 9),(863,m1 31 10),(878,wN 32),(885,wN 33),(893,wN 36),(898,wN 38),(903,wN 39),(910,wN 40),(915,wN 41),(922,wN 42),(927,wN 43),(934,wN 44)]
def YI(a:Addr):Stmt:=(fnT.lookup a).getD<|.Pass ⟨0,0,0,0⟩
def lP(a:Addr):List Stmt:=fnB<|YI a
def mA(a:Addr):Scope:=fnS<|YI a
def Bl:Scope:=mA 58
def b58:List Stmt:=lP 58
def qg:Scope:=mA 885
def NA:Scope:=mA 934
def ach:List Stmt:=lP 885
def wW:List Addr:=[58,73,110,117,124,129,136,143,157,164,197,224,501,508,515,677,790,797,827,834,856,863,878,885,893,898,903,910,915,922,927,934]
def uS(K:Frag)(a:Addr):Option FuncData:=match K.lookup a with
 |some o=>(match o.data with|.func fd=>some fd|_=>none)
 |none=>none
def VT(K:Frag)(a:Addr):Bool:=match uS K a with
 |some fd=>fd.scope==mA a&&!fd.scope.isCoroutine&&!fd.scope.isGenerator&&fd.scope.kind==.function&&fd.closure.isEmpty&&D1 K fd&&fd.globals==mainGlobals&&fd.builtins==builtinsNs&&((fd.scope.names.lookup ("split_command" :Str)).isNone||fd.code==.ref 884)
 |none=>false
theorem MM(P):(wW.all λa=>VT (m5 P) a)=true:=by rfl'
theorem Qa(P):(wW.map λa=>(uS (m5 P) a).map (·.body))=wW.map λa=>some<|.stmts<|lP a:=by rfl'
theorem MJ(h:wW.contains a=true)(e:uS (KF w) a=some fd):fd.body=.stmts (lP a):=by have:=gA.mp (Qa w.params) a (by simpa using h);rw[e]at this;exact aA this
set_option tactic.hygienic true in
theorem E2(h:wW.contains a=true):∃fd,uS (KF w) a=some fd/\xi w a fd (lP a)/\fd.scope=mA a:=by
 exists w,a,_;have hk:=aX.mp (MM w.params) a (by simpa using h);unfold VT at hk;split at hk
 .exists _;rename_i fd Vk;simp only[aQ,a5,dA,cI]at hk;obtain⟨⟨⟨⟨⟨⟨⟨⟨h1,h2⟩,h3⟩,h4⟩,h5⟩,h6⟩,h7⟩,h8⟩,h9⟩:=hk;refine k9 ⟨fd,Vk,⟨?_,MJ h Vk,h2,h3,h4,h5,h6,⟨h7,h8⟩,λq=>(Bool.or_eq_true_iff.mp h9).elim (λh=>absurd (Option.isNone_iff_eq_none.mp h) q) a5.mp⟩,h1⟩;unfold uS at Vk;split at Vk
  .rename_i o ho;split at Vk
   .rename_i fd' hd;obtain rfl:=aA Vk;exact⟨o,ho,hd⟩
   .exact nn Vk
  .exact nn Vk
 .injection hk
section
open PySem PySem.Calls PyProof.Rows Builtin Builtin.ObjectAttr Builtin.Getset_descriptor
theorem vj(P):(match(m5 P).lookup 731 with|some ⟨_,_,.cls cd,sl⟩=>!cd.abstract&&!cd.hasDel&&!cd.mro.isEmpty|_=>false)=true:=by rfl'
theorem kz(P):peek (m5 P) ⟨PG,P⟩ (Bind.staticBase<|.ref 731)=some (.type "object"):=by rfl'
theorem lh(P):peek (m5 P) ⟨PG,P⟩ (Bind.madeBy<|.type "object")=some (some "object.__new__"):=by rfl'
theorem ci(P):peek (m5 P) ⟨PG,P⟩ (Bind.madeBy<|.ref 731)=some none:=by rfl'
theorem CU(P):peek (m5 P) ⟨PG,P⟩ (isInstance (.ref 731)<|.type "type")=some true:=by rfl'
theorem ew(P):peek (m5 P) ⟨PG,P⟩ (specialOf (.ref 731) "__call__")=some (some<|.builtin "type.__call__"):=by rfl'
theorem pg(P):peek (m5 P) ⟨PG,P⟩ (isSubtype (.ref 731)<|.ref 731)=some true:=by rfl'
theorem CA(P):peek (m5 P) ⟨PG,P⟩ (isSubtype (.ref 731)<|.type "object")=some true:=by rfl'
theorem nu(P):findIn (m5 P) (.ref 731) "__init__" =some (some<|.ref 501):=by rfl'
theorem W2(P):typeIn (m5 P) (.ref 501)=some (.type "function"):=by rfl'
theorem du(P):findCls (m5 P) (.ref 731) (.type "type") "__new__" =some (.get (.builtin "staticmethod.__get__") (.ref 228) .none<|.ref 731):=by rfl'
theorem xv(P):((recIn (m5 P) 228 "staticmethod").bind List.head?)=some (.ref 224):=by rfl'
theorem O7:handedIn (.ref a)=true:=rfl
theorem Wz(P):readsIn (m5 P) 731 (.type "type")=true:=by rfl'
set_option tactic.hygienic true in
theorem Ts{h:Heap}(X:(KF w).In h):∃oc od cd sl,h.get? 731=some ⟨oc,od,.cls cd,sl⟩/\cd.abstract=false/\cd.hasDel=false/\cd.mro.isEmpty=false:=by
 exists w,h,_;have:=vj w.params;split at this
 .rename_i oc od cd sl ho;simp only[aQ,dA]at this;exact⟨oc,od,cd,sl,X _ _ ho,this.1.1,this.1.2,this.2⟩
 .rcases this with _|_
theorem LH{os:OsState}(X:(KF w).In h)(hq:R (.ok<|.ret<|.ref<|h.objs.size+1) ⟨(h.push emptyDict).push<|instObj 731 h.objs.size,g,d,t,os⟩):
 codeAny (model PG w) A (.call (.builtin "object.__new__") ⟨[.ref 731],[]⟩) R ⟨h,g,d,t,os⟩:=by
 exists _;obtain⟨oc,od,cd,sl,hC,q8⟩:=Ts X;have F:=PySem.F.objNew;have base:Looks (model PG w) h (Bind.staticBase<|.ref 731)<|.type "object":=cZ X<|kz _;have made:Looks (model PG w) h (Bind.madeBy<|.type "object")<|some "object.__new__":=cZ X<|lh _;have top:Looks (model PG w) h (isSubtype (.ref 731)<|.type "object") true:=cZ X<|CA _;refine k9<|codeAny_call_builtin_code (iA _ F.quiet) ?_;simp only[checkBuiltinCall,F.kind,F.split,F.row];refine(by rfl':Bind.checkArgs "object.__new__" ⟨.hand,"object.__new__","__new__",.cls,[]⟩ ⟨[.ref 731],[]⟩=pure ())▸?_;repeat(first|simp only[bne_self_eq_false]|lk)
 refine eP F.entry ?_;have fin:∀A',wpAny (model PG w) A' (do
  let d<-if typeHasDict (.ref 731)then some<$>alloc {cls:=.type "dict",data:=.dict #[]}else pure none
  ret (<-newObj (.ref 731) .plain d)) (λfin s'=>match fin with|.done f=>R (.ok f) s'|.again c'=>c'.quiet=true/\codeAny (model PG w) A c' R s') (λe s'=>R (.error e) s') ⟨h,g,d,t,os⟩:=by
  intro A';refine aD<|aD<|wpAny_alloc<|aM<|aD ?_;refine aD<|wpAny_alloc<|aD<|aD<|jR (aZ _<|aZ _ hC)<|aM ?_;refine q8.2.1▸?_;refine aM<|aM ?_;rw[dI];exact hq
 repeat(first|simp only[q8.1]|exact fin _|lk)
theorem ez(X:(KF w).In s.heap)(q:Q (.ref 224) {s with toks:=s.toks+1}):wpAny (model PG w) A (getAttr (.ref 731) "__new__" expr) Q E s:=by
 have hr:=xv w.params;rcases Sc:recIn (m5 w.params) 228 "staticmethod" with _|l
 .replace hr:=Sc▸hr;exact nn hr
 .have hr:=Sc▸hr;rcases l with _|⟨f,rest⟩
  .exact nn hr
  .have e:=aA hr;subst e;exact cls_bind X (Wz _) (du _)<|eJ<|sm_get X Sc<|handed_on O7 q
theorem CF{g:Array GenState}{d:Drawn}{t:Nat}{os:OsState}{rest:List Value}(X:(KF w).In h)
 (hq:codeAny (model PG w) (A.under<|.builtin "type.__call__" ⟨.ref 731::rest,[]⟩) (.call (.ref 224) ⟨.ref 731::rest,[]⟩) (λr s'=>match r with
  |.ok (.ret v)=>∃x dx,v=.ref x/\s'.heap.get? x=some (instObj 731 dx)/\(KF w).In s'.heap/\codeAny (model PG w) (A.under<|.builtin "type.__call__" ⟨.ref 731::rest,[]⟩) (.call (.ref 501) ⟨.ref x::rest,[]⟩) (InitBack x R) s'
  |.ok _=>False
  |.error e=>R (.error e) s') ⟨h,g,d,t+1,os⟩):
 codeAny (model PG w) A (.call (.ref 731) ⟨rest,[]⟩) R ⟨h,g,d,t,os⟩:=by
 obtain⟨oc,od,cd,sl,q8⟩:=Ts X;have typ:Looks (model PG w) h (isInstance (.ref 731)<|.type "type") true:=cZ X<|CU _;have made:Looks (model PG w) h (Bind.madeBy<|.ref 731) none:=cZ X<|ci _;refine jB ?_;refine nd_load q8.1 ?_;show wpAny _ _ (callAny.viaDunder (.ref 731) _) _ _ _;dsimp only[callAny.viaDunder];refine aD<|(cZ X<|ew _).at ?_;dsimp only;rw[tc_bind];refine aD<|aM<|aD<|aM ?_;refine aM (a:=Fin.again<|.call (.builtin "type.__call__") ⟨.ref 731::rest,[]⟩)<|And.intro rfl ?_;refine codeAny_call_builtin_at (iA _<|by decide+kernel) entry_typeCall<|check_slot tc_kind tc_split typ (tc_args _ _ _) ?_;unfold Builtin.«type.__call__»;have hm:Looks (model PG w) h (mroOf<|.ref 731) cd.mro:=((kR (part:=none) q8.1).andThen .now).andThen .now;dsimp only;generalize RV:getAttr (Value.ref 731) (Str.ofString "__new__")=ga;repeat(first|simp only[q8.2.2.2,Bool.false_eq_true,if_false]|lk)
 subst RV;refine ez (s:=⟨h,g,d,t,os⟩) X ?_;refine aD<|cL<|eJ<|dP hq λr s' P=>?_;rcases r with e|(v|_|_|_)<;>first|exact P|exact P.elim|skip
 obtain⟨x,dx,rfl,q9⟩:=P;have t1:Looks (model PG w) s'.heap (typeOf<|.ref x)<|.ref 731:=(kR q9.1).andThen .now;have s1:Looks (model PG w) s'.heap (isSubtype (.ref 731)<|.ref 731) true:=cZ q9.2.1<|pg _;have i1:=jL (M:=model PG w) q9.2.1<|nu w.params;have b1:Looks (model PG w) s'.heap (bindSpecial (.ref 501)<|.ref x) (.ref 501,[.ref x]):=bind_fn q9.2.1 (.ref x)<|W2 _;repeat(first|with_reducible refine eJ ?_|lk)
 refine dP q9.2.2 λr s' z=>?_;rcases r with e|(v|_|_|_)<;>first|exact z|exact z.elim|skip
 obtain⟨rfl,z⟩:=z;exact aM<|aM z
end
def VQ(h:Heap)(L:Addr):Heap:={h with objs:=h.objs.extract 0 L}
theorem Ng(h)(L):(VQ h L).objs.size<=L:=by show(h.objs.extract 0 L).size<=L;simp;exact fV L h.objs.size
theorem Cf(hb:b<L):(VQ h L).get? b=h.get? b:=by
 unfold Heap.get? VQ;have:(h.objs.extract 0 L)[b]?=h.objs[b]? :=by
  refine a6 Array.getElem?_extract ?_;by_cases hs:b<h.objs.size
  .rw[aH (by simp[Nat.sub_zero];exact Nat.lt_min.mpr ⟨hb,hs⟩),dF]
  .rw[aL (by simp only[Nat.sub_zero];exact λq=>hs (Nat.lt_min.mp q).2),Array.getElem?_eq_none<|dU hs]
 rw[this]
theorem gm(e:(VQ h L).get? b=some o):b<L/\h.get? b=some o:=by have:=b9 e;have hb:=bJ this<|Ng h L;exact⟨hb,by exact(Cf hb)▸e⟩
def pr(h:Heap)(p:Addr->Bool):List<|Addr×Obj:=(List.range h.objs.size).filterMap λb=>if p b then(h.get? b).map λo=>(b,o)else none
set_option tactic.hygienic true in
theorem wA:(b,o)∈pr h p<->p b=true/\h.get? b=some o:=by
 exists h,p,b,o,[];unfold pr;rw[jO];constructor
 .rintro⟨c,hc,e⟩
  exists c,_;split at e
  .rename_i hp;exists o',(q_:a9.mp e);obtain⟨ho,e'⟩:=q_;obtain⟨rfl,rfl⟩:=bQ e';exact⟨hp,ho⟩
  .exact nn e
 .rintro⟨hp,ho⟩
  exact⟨b,cJ.mpr<|b9 ho,by rw[aH hp,ho];rfl⟩
def under(h:Heap)(L d:Addr):Heap:=hideAll (VQ h L) [d]
def rest(h:Heap)(L d:Addr):List<|Addr×Obj:=pr h λb=>decide (L<b)&&b !=d
theorem Ug:∀p∈rest h L d,p.1≠d:=λp hp=>by have:=(wA.mp hp).1;simp only[aQ,hV]at this;exact this.2
theorem rX(hn:h.Ns L m):Fr (under h L d) L h m:=
 ⟨hn,λb o e=>(gm<|dS _ e).2,by unfold under;rw[hideAll_size];exact Ng h L⟩
theorem xR(hd:h.get? d=some o)(o9:d≠L):News (under h L d) L h ((d,o)::rest h L d):=λp hp=>by
 rcases aK.mp hp with rfl|hp
 .exact⟨hd,o9,eM _<|.head _⟩
 .obtain⟨b,ob⟩:=p;obtain⟨h1,h2⟩:=wA.mp hp;simp only[aQ,d6]at h1;refine⟨h2,cX h1.1,?_⟩;rcases q:(under h L d).get? b with _|x
  .rfl
  .have:=(gm<|dS _ q).1;exact absurd this<|gF.mpr<|bS h1.1
theorem wE{K:Frag}(X:K.In h)(hL:∀a o,K.lookup a=some o->a<L)(hd:K.lookup d=none):K.In<|under h L d:=λa o e=>by
 refine dL _ ?_ ?_
 .exact a6 (Cf<|hL a o e) (X a o e)
 .intro hm;rw[aE]at hm;rw[hm,hd]at e;injection e
theorem xA(F:Fr (under h L d) L h' m)(N:News (under h L d) L h' ((d,o')::rest h L d)):
 (∀b ob,b≠L->b≠d->h.get? b=some ob->h'.get? b=some ob)/\h'.get? d=some o':=by
  refine⟨λb ob h1 h2 e=>?_,(N _<|.head _).1⟩;by_cases hb:b<L
  .exact F.keep b ob (dL _ (a6 (Cf hb) e)<|by simp[h2])
  .have:=gY (dU hb)<|dQ h1;exact(N (b,ob)<|.tail _<|wA.mpr ⟨by simp[this,h2],e⟩).1
theorem kZ.change(G:kZ C ρ st s){i:Nat}{d:Addr}{ao:AO}{o':Obj}{h':Heap}{t:Nat}{m:Str->Option Value}(e:ρ[i]?=some d)
 (kp:∀b ob,b≠C.env.locals->b≠d->s.heap.get? b=some ob->h'.get? b=some ob)(hd:h'.get? d=some o')(hn:s.heap.Ns C.env.locals m)(Bw:h'.Ns C.env.locals m)(c:OC C.w ρ ao o')(ht:s.toks<=t):
 kZ C ρ {st with H:=st.H.set i ao} {s with heap:=h',toks:=t}:=by
 exists C,ρ,st,s,i,d,ao,o',h',t,m,[G,e,kp,hd,hn,Bw,c,ht];have hm:=aR e;refine⟨⟨by simp[G.sim.len],G.sim.nd,λj b x e1 e2=>?_,G.sim.new,⟨λb ob eb=>?_,G.sim.keep.2⟩⟩,⟨?_,G.fr.none,G.fr.out,λy a hy=>?_,G.fr.own,G.fr.has,G.fr.kind,G.fr.lo⟩,?_⟩
 .by_cases hj:j=i
  .obtain rfl:=hj.symm;replace e1:=e▸e1;obtain rfl:=aA e1;replace e2:=(eU<|G.sim.len▸((aU.mp e).1))▸e2;obtain rfl:=aA e2;exact⟨_,hd,c⟩
  .rw[dB<|dQ hj]at e2;exists ob,(lW:G.sim.obj j b x e1 e2);refine⟨ob,kp b ob (G.xV<|aR e1) ?_ lW.1,lW.2⟩;rintro rfl
   exact hj<|JO G.sim.nd e1 e
 .exists ob',(q9:G.sim.keep.1 b ob eb);refine⟨ob',kp b ob' (G.kept eb).1 ?_ q9.1,q9.2⟩;rintro rfl
  exact(G.kept eb).2.1 hm
 .exists agt,(q8:G.fr.ns);refine⟨m,Bw,?_⟩;exists x;intro hx;rw[hn.agree q8.1 x];exact q8.2 x hx
 .exists y,a,_;obtain⟨h1,h2,u,⟨oc,h3,h4⟩,h5⟩:=G.fr.cell y a hy;exact⟨h1,h2,u,⟨oc,kp a oc h2 (λq=>h1<|q▸hm) h3,h4⟩,h5⟩
 .have:=G.tk;lia
theorem mY.to{F:List Addr}(ht:s.toks<=t):mY F s {s with heap:=h,toks:=t}:=⟨rfl,rfl,ht,.refl _⟩
theorem k7.K(B:k7 k C)(G:kZ C ρ st s):(KF C.w).In s.heap:=(B.top.keep G.sim.keep B.hi).K
theorem k7.noK(B:k7 k C)(G:kZ C ρ st s)(ha:a∈ρ):(KF C.w).lookup a=none:=by
 rcases q:(KF C.w).lookup a with _|o
 .rfl
 .have:=B.top.K _ _ q;replace this:=((G.sim.new a ha).1)▸this;injection this
theorem EC.isStr(c:EC w ρ e d)(x):d.key.isStr x=(e.1==x):=by obtain⟨⟨t,hk⟩,uZ⟩:=c;exact hk▸rfl
theorem y8(x){es:List (Str×V)}{ds:List DictEntry}(h:lH (EC w ρ) es ds):(match es.lookup x with|some v=>∃y,getL x ds=some (some y)/\VC ρ v y|none=>getL x ds=some none):=by
 exists w,ρ,x,es,ds,_;induction h with
 |nil=>rfl
 |@cons e d es ds c h ih=>
  exists e,d,es,ds,_;have hs:=c.isStr x;obtain⟨k,v⟩:=e;exists k,v,_;by_cases hx:k=x
  .subst hx;simp only[show(k==k)=true from bM k]at hs;rw[List.lookup_cons_self];exact⟨d.val,by unfold getL;simp only[jA,hs],c.2.2⟩
  .rw[cP,show(x==k)=false from a7.mpr<|dQ hx];have eq:getL x (d::ds)=getL x ds:=by unfold getL;rw[jA,hs,show((k,v).1==x)=false from a7.mpr hx,List.any_cons,show d.refKey=false by obtain⟨⟨t,hk⟩,uZ⟩:=c;unfold DictEntry.refKey;rw[hk],Bool.false_or]
   exact eq▸ih
theorem nz(x)(hv:VC ρ v y)(h:lH (EC w ρ) es ds):lH (EC w ρ) (put x v es)<|putL x (PyData.keyHash w.params x) (.str x t) y ds:=by
 induction h with
 |nil=>exact .cons ⟨⟨t,rfl⟩,rfl,hv⟩ .nil
 |@cons e d es ds c h ih=>
  have hs:=c.isStr x;dsimp only[Bc,Li,putL];by_cases hx:e.1=x
  .rw[aH hx,aH (by rw[hs];exact a5.mpr hx)];exact .cons ⟨c.1,c.2.1,hv⟩ h
  .rw[aL hx,aL (by rw[hs];simpa using hx)];exact .cons c ih
theorem bo(x)(v):∀es,(put x v es).map (·.1)=if x∈es.map (·.1)then es.map (·.1)else es.map (·.1)++[x]:=by
 exists zr;induction zr with
 |nil=> rfl
 |cons zh r mB=>
  obtain⟨k,u⟩:=zh;dsimp only[Bc,Li];by_cases hx:k=x
  .obtain rfl:=hx.symm;simp
  .rw[aL hx,cW,mB];simp only[cW,aK];by_cases hm:x∈r.map (·.1)
   .rw[aH hm,aH<|.inr hm]
   .rw[aL hm,aL<|by simp[hm,dQ hx]];rfl
theorem W7(h:(es.map (·.1)).Nodup):((put x v es).map (·.1)).Nodup:=by
 rw[bo];refine iteInduction (λU=>?_) λhm=>?_
 .exact h
 .rw[cH];exact⟨h,by simp,λa ha b hb=>by rw[aE]at hb;rintro rfl;exact hm<|hb▸ha⟩
theorem xb(x)(v):∀es,(put x v es).length<=es.length+1:=by
 exists zr;induction zr with
 |nil=> simp[Bc]
 |cons zh r mB=>
  obtain⟨k,u⟩:=zh;dsimp only[Bc,Li];split
  .simp
  .have:=mB;simp only[bA];exact i6 mB 1
structure My(K:Frag)(D:Addr):Prop where
 ga:findIn K (.ref D) "__getattribute__" =some (some<|.builtin "object.__getattribute__")
 gt:findIn K (.ref D) "__getattr__" =some none
 sa:findIn K (.ref D) "__setattr__" =some (some<|.builtin "object.__setattr__")
 pl:plainOver K D=true
def yR:V->Bool
 |.bi _=>false
 |_=>true
theorem t7(h:yR v=true)(c:VC ρ v y):handedIn y=true:=by induction v<;>first|(injection h;done)|(subst c;rfl)|(obtain⟨t,rfl⟩:=c;rfl)|(obtain⟨t,_,rfl⟩:=c;rfl)
theorem kZ.inst{i d:Nat}{D:Addr}{es:List (Str×V)}{xs:List V}(G:kZ C ρ st s)(hi:st.H[i]?=some (.inst D d xs))(hd:st.H[d]?=some (.dict es)){ov:Value}(hv:VC ρ (.ref i) ov):
 ∃a dx vs ds n,ov=.ref a/\ρ[i]?=some a/\ρ[d]?=some dx/\s.heap.get? dx=some (dictOf ds n)/\lH (EC C.w ρ) es ds/\(es.map (·.1)).Nodup/\lH (VC ρ) xs vs/\InstAt s.heap a ⟨.ref D,some dx,.plain,(vs.map some).toArray⟩ D (some<|dictOf ds n):=by
 exists C,ρ,st,s,i,d,D,es,xs,ov,[G,hi,hd,hv];exists a,(q_:hv);obtain⟨ha,rfl⟩:=q_;obtain⟨o,ho,dx,vs,hdx,rfl,Bx⟩:=G.sim.obj i a _ ha hi;obtain⟨od,hod,ds,n,rfl,q8⟩:=G.sim.obj d dx _ hdx hd;exact⟨a,dx,vs,ds.toList,n,rfl,ha,hdx,hod,q8.1,q8.2,Bx,ho,rfl,rfl,hod⟩
theorem ku{i:Nat}{D:Addr}(B:k7 k C)(K:My (KF C.w) D){x:Str}(hh:hasDictIn (KF C.w) D=true)(hf:findIn (KF C.w) (.ref D) x=some none)(hi:st.H[i]?=some (.inst D d xs))(hd:st.H[d]?=some (.dict es)){v:V}(hl:es.lookup x=some v)(hb:yR v=true){ov:Value}(hv:VC ρ (.ref i) ov):
 Sd C (getAttr ov x true) VC ρ s st (some (.ok v,st)):=by
 exists k,C,ρ,st,s,i,d,D,es,xs,x,v,ov,[B,K,hh,hf,hi,hd,hl,hb,hv];refine Sd.of λG Q E kk=>?_;exists a,dx,ws,ds,n,(q_:G.inst hi hd hv);obtain⟨rfl,q9⟩:=q_;have:=y8 x q9.2.2.2.1;simp only[hl]at this;exists y,(q8:this);exact get_value (B.K G) q9.2.2.2.2.2.2 K.ga (findObj_own hh hf rfl q8.1) (t7 hb q8.2)<|kk y _ ρ (a8 _) q8.2 (G.tok 1)<|mY.tok s 1
theorem Pg{i:Nat}{D:Addr}{es:List (Str×V)}{xs:List V}(B:k7 k C)(K:My (KF C.w) D){x:Str}(hh:hasDictIn (KF C.w) D=true)(hf:findIn (KF C.w) (.ref D) x=some none)(hi:st.H[i]?=some (.inst D d xs))(hd:st.H[d]?=some (.dict es))(hz:es.length<900){v:V}{y:Value}(K1:VC ρ v y){ov:Value}(hv:VC ρ (.ref i) ov):
 Sd C (setAttr ov x y) UR ρ s st (some (.ok (),{st with H:=st.H.set d (.dict<|put x v es)})):=by
 exists k,C,ρ,st,s,i,d,D,es,xs,x,v,y,ov,[B,K,hh,hf,hi,hd,hz,K1,hv];refine Sd.of λG Q E kk=>?_;exists a,dx,ws,ds,n,(q_:G.inst hi hd hv);obtain⟨rfl,lW⟩:=q_;exists m,(q9:G.fr.ns);have R7:=nz x (t:=s.toks+1) K1 lW.2.2.2.1;have hg:(getL x ds).isSome=true:=by
  have:=y8 x lW.2.2.2.1;rcases hl:es.lookup x with _|u
  .simp only[hl]at this;rw[this];rfl
  .simp only[hl]at this;obtain⟨z,hz,_⟩:=this;rw[hz];rfl
 refine set_dict (rX q9.1) (wE (B.K G) (λa o e=>bJ (q6 e).1 G.fr.lo)<|B.noK G<|aR lW.2.1) (xR lW.2.2.1<|G.xV<|aR lW.2.1) lW.2.2.2.2.2.2 rfl K.sa K.pl (by unfold takerIn;rw[hf];rfl) hh hg rfl (.head Ug) ?_ λh' F' N'=>?_
 .rw[<-R7.length];have:=xb x v es;exact lk<|aC this hz
 .have q8:=xA F' N';refine kk () _ ρ (a8 _) trivial (G.change lW.2.1 q8.1 q8.2 q9.1 F'.ns ⟨_,_,rfl,?_,W7 lW.2.2.2.2.1⟩<|aT _ _)<|mY.to<|aT _ _;exact R7
theorem AC{i:Nat}{D:Addr}{es:List (Str×V)}{xs:List V}(B:k7 k C)(K:My (KF C.w) D){x:Str}{f:Addr}{pl:Sem Bool}(hf:findIn (KF C.w) (.ref D) x=some (some<|.ref f))(ht:typeIn (KF C.w) (.ref f)=some (.type "function"))(hi:st.H[i]?=some (.inst D d xs))(hd:st.H[d]?=some (.dict es))(hl:es.lookup x=none){ov:Value}(hv:VC ρ (.ref i) ov):
 Sd C (getMethod ov x pl) (λρ f g=>VC ρ f.1 g.1/\lH (VC ρ) f.2 g.2) ρ s st (some (.ok (.top f,[.ref i]),st)):=by
 exists k,C,ρ,st,s,i,d,D,es,xs,x,f,pl,ov,[B,K,hf,ht,hi,hd,hl,hv];refine Sd.of λG Q E kk=>?_;exists a,dx,ws,ds,n,(q_:G.inst hi hd hv);obtain⟨rfl,q8⟩:=q_;have:=y8 x q8.2.2.2.1;simp only[hl]at this;exact method_fn (B.K G) q8.2.2.2.2.2.2 K.ga K.gt hf ht (by show(lookIn x<|dictOf ds n).map (·.isSome)=some false;simp only[lookIn_dict,this];rfl)<|kk _ _ ρ (a8 _) ⟨rfl,.cons ⟨a,q8.1,rfl⟩ .nil⟩ G<|.refl s
def KZ(K:Frag)(D:Addr):Bool:=findIn K (.ref D) "__getattribute__" ==some (some<|.builtin "object.__getattribute__")&&findIn K (.ref D) "__getattr__" ==some none&&
 findIn K (.ref D) "__setattr__" ==some (some<|.builtin "object.__setattr__")&&plainOver K D&&isClsIn K D
theorem ve{K:Frag}{D:Addr}(h:KZ K D=true):My K D/\isClsIn K D=true:=by simp only[KZ,aQ,a5]at h;exact⟨⟨h.1.1.1.1,h.1.1.1.2,h.1.1.2,h.1.2⟩,h.2⟩
def r7:List Addr:=[77,174,731,866]
theorem L7(P):(r7.all λD=>KZ (m5 P) D)=true:=by rfl'
theorem vO{D:Addr}(h:r7.contains D=true):My (KF w) D/\isClsIn (KF w) D=true:=
 ve (aX.mp (L7 w.params) D<|by simpa using h)
def sA:List<|Addr×Str:=
 ((["instream","infile","posix","eof","commenters","wordchars","whitespace","whitespace_split","quotes","escape","escapedquotes","state","pushback","lineno","debug","token","filestack","source","_punctuation_chars"]:List Str).map λx=>((866:Addr),x))++
 ((["_StringIO__newline","_StringIO__buf","_StringIO__pos"]:List Str).map λx=>((731:Addr),x))++
 ((["_node2info","_ready_nodes","_npassedout","_nfinished"]:List Str).map λx=>((174:Addr),x))
theorem Ju(P):(sA.all λp=>findIn (m5 P) (.ref p.1) p.2==some none&&hasDictIn (m5 P) p.1)=true:=by rfl'
theorem Z7{D:Addr}(h:sA.contains (D,x)=true):findIn (KF w) (.ref D) x=some none/\hasDictIn (KF w) D=true:=by have:=aX.mp (Ju w.params) (D,x) (by simpa using h);simpa using this
def G9(K:Frag)(D:Addr)(x:Str)(i:Nat):Bool:=match findIn K (.ref D) x with
 |some (some<|.ref p)=>specialIn K (.ref p) "__get__" ==some (some<|.builtin "member_descriptor.__get__")&&takesIn K (.ref p)==some true&&slotIn K p D==some i&&typeIn K (.ref p)==some (.type "member_descriptor")
 |_=>false
set_option tactic.hygienic true in
theorem Ob{K:Frag}{D:Addr}{i:Nat}(h:G9 K D x i=true):∃p,findIn K (.ref D) x=some (some<|.ref p)/\specialIn K (.ref p) "__get__" =some (some<|.builtin "member_descriptor.__get__")/\takesIn K (.ref p)=some true/\slotIn K p D=some i/\typeIn K (.ref p)=some (.type "member_descriptor"):=by
 exists K,D,x,i,_;unfold G9 at h;split at h
 .rename_i p hp;simp only[aQ,a5]at h;exact⟨p,hp,h.1.1.1,h.1.1.2,h.1.2,h.2⟩
 .injection h
def vP:Str->Option Nat:=λx=>if x= "node" then some 0 else if x= "npredecessors" then some 1 else if x= "successors" then some 2 else none
theorem Wv(P):(G9 (m5 P) 77 "node" 0&&G9 (m5 P) 77 "npredecessors" 1&&G9 (m5 P) 77 "successors" 2)=true:=by rfl'
set_option tactic.hygienic true in
theorem Ln{i:Nat}(h:vP x=some i):G9 (KF w) 77 x i=true/\i<3:=by
 exists w,x,i,_;have:=Wv w.params;simp only[aQ]at this;unfold vP at h;split at h
 .rename_i e;obtain rfl:=aA h;exact e▸(⟨this.1.1,c6 _⟩)
 .split at h
  .rename_i e;obtain rfl:=aA h;exact e▸(⟨this.1.2,dM _⟩)
  .split at h
   .rename_i e;obtain rfl:=aA h;exact e▸(⟨this.2,aI _⟩)
   .exact nn h
def zL(i:Nat)(v:V)(xs:List V):List V:=if i<xs.length then xs.set i v else xs++[v]
theorem K2{y:Value}(hi:i<=vs.length):(((vs.map some).toArray++Array.replicate (i+1-(vs.map some).toArray.size) none).setIfInBounds i<|some y)=((if i<vs.length then vs.set i y else vs++[y]).map some).toArray:=by
 rw[List.size_toArray,aF];by_cases h:i<vs.length
 .simp[aH h,show i+1-vs.length=0 from(Nat.sub_eq_zero_of_le h)]
 .have e:i=vs.length:=(cM (lk hi)<|lk<|dU h);subst e;rw[aL h,show vs.length+1-vs.length=1 from(Nat.add_sub_self_left vs.length 1)];apply Array.ext';simp[List.set_append]
theorem lH.set{α β:Type}{R:α->β->Prop}{a:α}{b:β}(Fs:R a b){l:List α}{m:List β}(i)(h:lH R l m):lH R (l.set i a)<|m.set i b:=by
 induction h generalizing i with
 |nil=>exact .nil
 |cons h t ih=>
  rcases i with _|i
  .exact .cons Fs t
  .exact .cons h (ih i)
theorem M7(h:lH (VC ρ) xs vs)(hv:VC ρ v y):lH (VC ρ) (zL i v xs)<|if i<vs.length then vs.set i y else vs++[y]:=by
 unfold zL;rw[h.length];split
 .exact h.set hv i
 .exact h.append (.cons hv .nil)
theorem W0(B:k7 k C)(hj:vP x=some j)(hi:st.H[i]?=some (.inst 77 d xs))(hd:st.H[d]?=some (.dict es))(hl:xs[j]?=some v)(hb:yR v=true)(hv:VC ρ (.ref i) ov):
 Sd C (getAttr ov x true) VC ρ s st (some (.ok v,st)):=by
 refine Sd.of λG Q E kk=>?_;obtain⟨a,dx,ws,ds,n,rfl,sD⟩:=G.inst hi hd hv;obtain⟨m,nO⟩:=G.fr.ns;obtain⟨p,lW⟩:=Ob (Ln hj).1;have q9:=vO (w:=C.w) (D:=77)<|rfl;exists y,(q8:sD.2.2.2.2.2.1.get hl);refine get_slot (rX nO.1) (wE (B.K G) (λa o e=>bJ (q6 e).1 G.fr.lo)<|B.noK G<|aR sD.1) sD.2.2.2.2.2.2 (by unfold plainGet;exact q9.1.ga▸q9.1.gt▸rfl) q9.2 lW.1 lW.2.1 lW.2.2.1 lW.2.2.2.1 ?_ (t7 hb q8.2)<|kk y _ ρ (a8 _) q8.2 (G.tok 1)<|mY.tok s 1;simp only[List.getElem?_toArray,bD,q8.1];rfl
theorem K8(B:k7 k C)(hj:vP x=some j)(hi:st.H[i]?=some (.inst 77 d xs))(hd:st.H[d]?=some (.dict es))(hz:j<=xs.length)(K1:VC ρ v y)(hv:VC ρ (.ref i) ov):
 Sd C (setAttr ov x y) UR ρ s st (some (.ok (),{st with H:=st.H.set i (.inst 77 d<|zL j v xs)})):=by
 exists k,i,j,C,ρ,st,s,x,d,xs,es,v,y,ov,[B,hj,hi,hd,hz,K1,hv];refine Sd.of ?_;intro G;exists Q,E;intro kk;exists a,dx,ws,ds,n,(q_:G.inst hi hd hv);obtain⟨rfl,sD⟩:=q_;exists m,(nO:G.fr.ns);obtain⟨h0,sJ⟩:=Ln hj;exists p,(lW:Ob h0);have q9:=vO (w:=C.w) (D:=77)<|rfl;refine set_slot (rX nO.1) (wE (B.K G) (λa o e=>bJ (q6 e).1 G.fr.lo)<|B.noK G<|aR sD.1) (xR sD.2.2.2.2.2.2.at_<|G.xV<|aR sD.1) sD.2.2.2.2.2.2 q9.1.sa q9.1.pl (by unfold takerIn;rw[lW.1];refine(a6 (aV _ lW.2.2.1) ?_:(takesIn _ _).map _=_);rfl) lW.2.2.2.2 lW.2.2.2.1 (lk sJ) rfl rfl (.head Ug) ?_;exists h';intro F' N';have q8:=xA F' N';refine kk () _ ρ (a8 _) trivial (G.change sD.1 q8.1 q8.2 nO.1 F'.ns ⟨dx,_,sD.2.1,?_,M7 sD.2.2.2.2.2.1 K1⟩<|aT _ _)<|mY.to<|aT _ _;rw[<-K2 (sD.2.2.2.2.2.1.length▸hz)]
def Cx.under(C:Cx)(D:Addr)(vs:List Value)(kw:List<|Str×Value):Cx:={C with A:=C.A.under (.builtin "type.__call__" ⟨.ref D::vs,kw⟩)}
def Nl(D:Addr)(st:St):St:={st with H:=st.H++[.dict [],.inst D st.H.length []]}
def Eh(n:Nat):oV V->Option (oV V)
 |.ok v=>if v=.none then some (.ok<|.ref n)else none
 |.exc c=>some<|.exc c
theorem Ny(h:Eh n (.ok b)=some u):b=.none/\u=.ok (.ref n):=by obtain⟨e,h⟩:=Fd h;exact⟨e,(aA h).symm⟩
def Ks(st:St)(o:lG V):lG V:=o.bind λq=>(Eh (st.H.length+1) q.1).bind λu=>some (u,q.2)
theorem Bj{D:Addr}(A:Around):(A.under<|.builtin "type.__call__" ⟨.ref D::vs,kw⟩).units=A.units+1/\(A.under<|.builtin "type.__call__" ⟨.ref D::vs,kw⟩).depth=A.depth+1/\(A.under<|.builtin "type.__call__" ⟨.ref D::vs,kw⟩).frames=A.frames/\(A.under<|.builtin "type.__call__" ⟨.ref D::vs,kw⟩).handled=A.handled:=by refine⟨rfl,rfl,rfl,rfl⟩
theorem k7.under{D:Addr}(B:k7 (k+1) C):k7 k<|C.under D vs kw:=by
 have q8:=Bj (D:=D) (vs:=vs) (kw:=kw) C.A;refine⟨B.top,B.hi,B.live,?_,?_,B.fn,B.gl⟩
 .show(C.A.under _).depth+k<1000;rw[q8.2.1];have:=B.dp;lia
 .show(C.A.under _).units+20*k<9000;rw[q8.1];have:=B.un;exact lk this
theorem mN.under{D:Addr}(L:mN C):mN<|C.under D vs kw:=by have q9:=Bj (D:=D) (vs:=vs) (kw:=kw) C.A;obtain⟨hh,mg,cd,lo,outer,q8⟩:=L;exact⟨q9.2.2.2.trans hh,mg,cd,lo,outer,q9.2.2.1.trans q8.1,q8.2.1,q8.2.2.1,q8.2.2.2⟩
theorem kZ.ZI{D:Addr}(G:kZ C ρ st s):kZ C ((ρ++[s.heap.objs.size])++[s.heap.objs.size+1]) (Nl D st) {s with heap:=(s.heap.push emptyDict).push (instObj D s.heap.objs.size)}:=by
 have hl:(ρ++[s.heap.objs.size])[st.H.length]?=some s.heap.objs.size:=by simp only[<-G.len,aS<|aI _,cD];rfl
 have G2:=(G.push (ao:=.dict []) rfl ⟨#[],0,rfl,.nil,by decide⟩).push (ao:=.inst D st.H.length []) rfl ⟨s.heap.objs.size,[],mR ⟨_,rfl⟩ hl,rfl,.nil⟩;have e:{s with heap:=s.heap.push emptyDict}.heap.objs.size=s.heap.objs.size+1:=dI ..;simp only[e]at G2;have e2:Nl D st={({st with H:=st.H++[.dict []]}:St)with H:=(st.H++[.dict []])++[.inst D st.H.length []]}:=by unfold Nl;simp
 simp only[e2];exact G2
theorem wa{D:Addr}{vs:List Value}{kw:List (Str×Value)}(B:k7 (k+1) C)(hm:makesIn (KF C.w) D=true){fI:Addr}(hi:findIn (KF C.w) (.ref D) "__init__" =some (some<|.ref fI))(hf:typeIn (KF C.w) (.ref fI)=some (.type "function"))
 {o:lG V}(h:∀lI s' x,ρ<+:lI->VC lI (.ref<|st.H.length+1) x->Cd (C.under D vs kw) (.call (.ref fI) ⟨x::vs,kw⟩) lI s' (Nl D st) o):Cd C (.call (.ref D) ⟨vs,kw⟩) ρ s st<|Ks st o:=by
 exists k,C,ρ,st,s,D,vs,kw,fI,o,[B,hm,hi,hf,h];intro G;exists r,k6;intro e;have X:=B.K G;obtain⟨hp,q8⟩:=s;have G2:=G.ZI (D:=D);have pre:ρ<+:((ρ++[hp.objs.size])++[hp.objs.size+1]):=⟨[hp.objs.size,hp.objs.size+1],by simp⟩;have hx:VC ((ρ++[hp.objs.size])++[hp.objs.size+1]) (.ref<|st.H.length+1)<|.ref<|hp.objs.size+1:=by refine⟨_,?_,rfl⟩;rw[<-G.len,aS<|by simp];simp
 refine make_core (makes_of X hm) (jL X hi) (λself=>bind_fn X self hf) (.inl rfl) ?_;rcases o with _|p
 .exact nn e
 .obtain⟨q,mS⟩:=p;obtain⟨u,h1,h2⟩:=aB.mp<|show((Eh (st.H.length+1) q).bind λu=>some (u,mS))=some (r,k6)from e;obtain⟨rfl,rfl⟩:=bQ<|aA h2;refine dP (h _ _ _ pre hx ⟨G2.sim,G2.fr,G2.tk⟩ q mS rfl) λr' s' P=>?_;rcases r' with x|f
  .obtain⟨c,lI,e',rE,X',G',n'⟩:=P;subst e';obtain rfl:=aA h1;exact⟨c,lI,rfl,pre.trans rE,⟨X'.ex⟩,⟨G'.sim,G'.fr,G'.tk⟩,⟨n'.os,n'.dr,n'.tk,n'.gn⟩⟩
  .induction f with
   |ret v=> obtain⟨b,lI,e',rE,hv,G',n'⟩:=P;subst e';obtain⟨rfl,rfl⟩:=Ny h1;subst hv;exact⟨rfl,_,lI,rfl,pre.trans rE,hx.mono rE,⟨G'.sim,G'.fr,G'.tk⟩,⟨n'.os,n'.dr,n'.tk,n'.gn⟩⟩
   |_=>exact P
def JF(o:AO):Bool:=Nat.blt o.ctorIdx 4||Nat.beq o.ctorIdx 15
def Ee(a:V)(H:Hp):Bool:=((vS (λU U=>some ()) a H).or<|vR (λi H=>(H[i]?).bind λo=>if JF o=true then some ()else none) a H).isSome
def kE(H:Hp)(i:Nat):Option<|List<|Str×V:=(dE H i).or<|(fE H i).bind λq=>some q.1
def nth(xs:List V)(j:Int):Option V:=if 0<=j then xs[j.toNat]? else if-(xs.length:Int)<=j then xs[(j+xs.length).toNat]? else none
def uM(a b:V)(H:Hp):mM:=
 (vR (λi=>vI (λj H=>((lE H i).bind λxs=>if xs.length<big then(nth xs j).bind λv=>some (.ok v,H)else none).or
  ((tE H i).bind λxs=>if 0<=j/\xs.length<big then(xs[j.toNat]?).bind λv=>some (.ok v,H)else none)) b) a H).or
 (vR (λi=>vS (λx H=>(kE H i).bind λes=>(es.lookup x).bind λv=>some (.ok v,H)) b) a H)
def part:V->Option (Option Int)
 |.none=>some none
 |.int i=>some<|some i
 |_=>none
def pick(xs:List V)(lo hi st:Option Int):List V:=
 (sliceRange (sliceBounds lo hi st xs.length).1 (sliceBounds lo hi st xs.length).2.1 (sliceBounds lo hi st xs.length).2.2).filterMap (xs[·]?)
def rH(x:Str)(lo hi:Option Int):Str:=
 if((Builtin.Str.strSliceIndices lo hi 1 x.length).length==x.length)=true then x else⟨((Builtin.Str.strSliceIndices lo hi 1 x.length).filterMap (x.cps[·]?)).toArray⟩
def lxs:AO->Option (List V)
 |.list xs=>some xs
 |.oR zs _=>some<|zs.map V.int
 |_=>none
def n7(a l u p:V)(H:Hp):Option<|V×Hp:=
 (part l).bind λlo=>(part u).bind λhi=>(part p).bind λst=>
 (vR (λi H=>((H[i]?).bind lxs).bind λxs=>if st≠some 0/\xs.length<big then some (.ref H.length,H++[.list<|pick xs lo hi st])else none) a H).or
 (vS (λx H=>if st=none/\(rH x lo hi).length<big then some (.str<|rH x lo hi,H)else none) a H)
def qY(a b v:V)(H:Hp):Option Hp:=
 (vR (λi=>vI (λj H=>(lE H i).bind λxs=>if 0<=j/\j<xs.length/\xs.length<big then some (H.set i<|.list<|xs.set j.toNat v)else none) b) a H).or
 (vR (λi=>vS (λx H=>(dE H i).bind λes=>if es.length<big then some (H.set i<|.dict<|put x v es)else none) b) a H)
theorem kZ.rQ(G:kZ C ρ st s)(e:ρ[i]?=some d)(hs:Heap.SameBut d s.heap h')(hd:h'.get? d=some o')(c:OC C.w ρ ao o')(ht:s.toks<=t):
 kZ C ρ {st with H:=st.H.set i ao} {s with heap:=h',toks:=t}:=by
 obtain⟨m,q8⟩:=G.fr.ns;exact G.change e (λb ob U h2 eb=>(hs.2 b h2).trans eb) hd q8.1 (q8.1.sameBut hs<|dQ<|G.xV<|aR e) c ht
theorem kZ.GA(G:kZ C ρ st s){i:Nat}{xs:List V}(hi:(st.H[i]?).bind lxs=some xs){y:Value}(hv:VC ρ (.ref i) y):
 ∃a vs n,y=.ref a/\ρ[i]?=some a/\s.heap.get? a=some ⟨.type "list",none,.seq vs n,#[]⟩/\lH (VC ρ) xs vs.toList:=by
 exists C,ρ,st,s,i,xs,y,[G,hi,hv];obtain⟨ao,h1,h2⟩:=aB.mp hi;induction ao<;>first|exact nn h2|skip
 .obtain rfl:=aA h2;exact G.list h1 hv
 .exists _;obtain rfl:=aA h2;exists a,(q_:hv);obtain⟨ha,rfl⟩:=q_;obtain⟨o,ho,rfl,vs,n,rfl,hx⟩:=G.sim.obj i a _ ha h1;exact k9 ⟨a,vs,n,rfl,ha,ho,hx.imp λU U=>VC.mono<|List.nil_prefix⟩
theorem ij{j:Int}(h:nth xs j=some v):(0<=j/\xs[j.toNat]?=some v)\/(j<0/\-(xs.length:Int)<=j/\xs[(j+xs.length).toNat]?=some v):=by
 by_cases a:0<=j
 .exact .inl ⟨a,(aH a).symm.trans h⟩
 .replace h:=(aL a).symm.trans h;obtain⟨b,h⟩:=Fd h;exact .inr ⟨Int.not_le.mp a,b,h⟩
theorem UY(G:kZ C ρ st s)(h:kE st.H i=some es)(hv:VC ρ (.ref i) y):∃a oG,y=.ref a/\s.heap.DictOf (strKind PG C.w) a oG/\lH (KR ρ) es oG:=by
 exists C,ρ,st,s,i,es,y,_;rcases fA.mp h with h|⟨_,h⟩
 .exists a,oG,(q_:G.dict (qH h) hv);obtain⟨e,q⟩:=q_;exact⟨a,oG,e,q.2.1,q.2.2⟩
 .exists p,(q_:aB.mp h);obtain⟨h1,h2⟩:=q_;exists a,oG,(q_:G.lT (zO h1) hv);obtain⟨e,q⟩:=q_;exact⟨a,oG,e,q.2.1.dictOf,aA h2▸q.2.2⟩
theorem QX(G:kZ C ρ st s)(ha:VC ρ a x)(h:Ee a st.H=true)(Q)(E)(q:Q false s):wpAny (model PG C.w) C.A (getitemInPython x) Q E s:=by
 exists C,ρ,st,s,a,x,Q,E,[G,ha,h,q];have key:∀T id,s.TypeIs x T->Slot T "__getitem__" id->wpAny (model PG C.w) C.A (getitemInPython x) Q E s:=λT id hT hS=>aD<|jC hT hS.lookup<|aM q;exists uZ,(h:fH.mp h);rcases fA.mp h with h|⟨_,h⟩
 .induction a<;>first|exact nn h|skip
  obtain⟨t,rfl⟩:=ha;exact key "str" _ (fT s _ t) F.slot_str_getitem
 .induction a<;>first|exact nn h|skip
  obtain⟨o,hi,h⟩:=aB.mp h;induction o<;>first|exact nn h|skip
  .obtain⟨a,vs,n,rfl,q⟩:=G.list hi ha;exact key "list" _ ⟨_,q.2.1,rfl⟩ slot_list_getitem
  .obtain⟨a,vs,n,rfl,q⟩:=G.tuple hi ha;exact key "tuple" _ ⟨_,q.2.1,rfl⟩ F.slot_tuple_getitem
  .obtain⟨a,oG,rfl,q⟩:=G.dict hi ha;exact key "dict" _ q.2.1.typeIs slot_dict_getitem
  .obtain⟨a,oG,rfl,q⟩:=G.lT hi ha;exact key "dict" _ q.2.1.dictOf.typeIs slot_dict_getitem
  .obtain⟨a,vs,n,rfl,q⟩:=G.GA (by rw[hi];rfl) ha;exact key "list" _ ⟨_,q.2.1,rfl⟩ slot_list_getitem
theorem j63{j:Int}(h0:0<=j)(h:j.toNat<n)(hz:n<big):j<2^63:=by unfold big at hz;lia
theorem xa(B:k7 k C)(ha:VC ρ a x)(hb:VC ρ b y):Sd C (getItem x y) VC ρ s st<|mV st<|uM a b st.H:=by
 refine gO (gR (T:=(getItem · y)) rfl ha λi a' N4 hr=>gI rfl hb λj t=>gO ?_ ?_)<|gR (T:=(getItem · y)) rfl ha λi a' N4 hr=>gS rfl hb λz t=>?_
 .refine gB rfl λxs hi=>xF rfl λhz=>gB rfl λv hv=>Sd.oM λG Q E kk=>?_;obtain⟨_,vs,n,e,_,ho,Sb⟩:=G.list (nS hi) hr;injection e with e;subst e;have hl:xs.length=vs.size:=Sb.length;rcases ij hv with⟨h0,hv⟩|⟨h0,h1,hv⟩
  .obtain⟨z,rl,ZJ⟩:=Sb.get hv;exact wpAny_getItem_list ⟨_,ho,rfl,n,rfl⟩ h0 (j63 h0 (aU.mp hv).1 hz) (bU▸rl)<|kk _ ZJ
  .obtain⟨z,rl,ZJ⟩:=Sb.get hv;unfold big at hz;exact wpAny_getItem_list_neg ⟨_,ho,rfl,n,rfl⟩ h0 (hl▸h1) (by lia) (bU▸hl▸rl)<|kk _ ZJ
 .refine gB rfl λxs hi=>xF rfl λhz=>gB rfl λv hv=>Sd.oM λG Q E kk=>?_;obtain⟨_,vs,n,e,_,ho,Sb⟩:=G.tuple (wF hi) hr;injection e with e;subst e;obtain⟨z,rl,ZJ⟩:=Sb.get hv;have sJ:=(aU.mp hv).1;have hl:=Sb.length;refine P.getItem_tuple ho (by have:=j63 hz.1 sJ hz.2;lia) (j63 hz.1 sJ hz.2) ?_ (bU▸rl)<|kk _ ZJ;unfold seqIndex?;rw[aL<|Int.not_lt.mpr hz.1,aH];simp[aQ];simp_all
 .refine gB rfl λes hi=>gB rfl λv hv=>Sd.plain λG Q E kk=>?_;obtain⟨_,oG,e,q9⟩:=UY G hi hr;injection e with e;subst e;have h:=sU q9.2 z;have h:=hv▸h;rcases hw:valueAt oG z with _|y
  .rw[hw]at h;exact h.elim
  .rw[hw]at h;exact wpAny_getItem_of (hZ PG C.w z t) q9.1.mapOf hw<|kk _ 1 h
theorem wH(h:part v=some o)(c:VC ρ v x):IsPart x o/\∃p:Option<|Int×Tok,x=partValue p/\p.map (·.1)=o:=by
 induction v<;>first|exact nn h|skip
 .obtain rfl:=aA h;subst c;exact⟨.none,none,rfl,rfl⟩
 .injection h with q_;subst q_;obtain⟨t,rfl⟩:=c;exact⟨.int _ t,some (_,t),rfl,rfl⟩
theorem lH.pick(h:lH (VC ρ) xs ys)(l:List Nat):lH (VC ρ) (l.filterMap (xs[·]?))<|l.filterMap (ys[·]?):=by
 induction l with
 |nil=>exact .nil
 |cons i l ih=>
  rw[gU,gU];rcases e:xs[i]? with _|v
  .rw[bZ.mpr<|h.length▸bZ.mp e];exact ih
  .obtain⟨y,q8⟩:=h.get e;exact q8.1▸.cons q8.2 ih
theorem Vv(B:k7 k C){a l u p:V}{x xl xu xp:Value}{i:Addr}(ha:VC ρ a x)(hl:VC ρ l xl)(hu:VC ρ u xu)(hp:VC ρ p xp)(hi:s.heap.get? i=some ⟨.type "slice",none,.fields #[xl,xu,xp],#[]⟩):
 Sd C (getItem x<|.ref i) VC ρ s st (rD st<|n7 a l u p st.H):=by
 refine gB rfl λlo h1=>gB rfl λqv h2=>gB rfl λsp h3=>gO (gR (T:=(getItem · (.ref i))) rfl ha λj a' N4 hr=>gB rfl λxs hj=>xF rfl λhz=>Sd.of λG Q E kk=>?_)<|gS (T:=(getItem · (.ref i))) rfl ha λz t=>xF rfl λhz=>Sd.plain λG Q E kk=>?_
 .obtain⟨_,vs,n,e,q8⟩:=G.GA hj hr;injection e with e;subst e;have hlen:xs.length=vs.size:=q8.2.2.length;refine wpAny_getItem_list_slice ⟨_,q8.2.1,rfl,n,rfl⟩ ⟨_,hi,rfl,rfl⟩ (wH h1 hl).1 (wH h2 hu).1 (wH h3 hp).1 hz.1
   (kk _ _ _ ⟨_,rfl⟩ (nU G) (G.push rfl ⟨_,0,rfl,?_⟩)<|mY.lO ..) ?_
  .refine lH.mono ⟨_,rfl⟩ ?_;dsimp only[pick,slicePick];rw[hlen];rw[(by funext i;simp only[bU]:(λi:Nat=>vs[i]?)=λi:Nat=>vs.toList[i]?)];exact q8.2.2.pick _
  .exact hlen▸bC (bS hz.2) n8
 .obtain⟨_,pl,rfl,rfl⟩:=wH h1 hl;obtain⟨_,pu,rfl,rfl⟩:=wH h2 hu;obtain⟨_,pp,rfl,e3⟩:=wH h3 hp;obtain rfl:=Option.map_eq_none_iff.mp<|e3.trans hz.1;refine wpAny_getItem_str_slice ⟨_,hi,rfl,rfl⟩ rfl ?_;delta sliceMade slicePicked;have kk0:=λv h=>by simpa using kk v 0 h
  have hz:=hz.2;unfold rH at kk kk0 hz;simp only[Option.map_none,Option.getD_none,bM,kU]at kk kk0 hz⊢;by_cases hc:((Builtin.Str.strSliceIndices (pl.map (·.1)) (pu.map (·.1)) 1 z.length).length==z.length)=true
  .rw[aH hc];exact kk0 _ ⟨t,by rw[aH hc]⟩
  .rw[aL hc]at kk hz⊢;exact⟨bC (bS hz) n8,kk _ 1 ⟨_,rfl⟩⟩
theorem Rt(hv:VC ρ v y)(h:lH (KR ρ) es oG)(hn:(oG.map (·.1)).Nodup):lH (KR ρ) (put z v es)<|stored oG z y:=by
 induction h with
 |nil=>exact .cons ⟨rfl,hv⟩ .nil
 |@cons pu pu' es oG h t ih=>
  obtain⟨p,u⟩:=pu;obtain⟨p',u'⟩:=pu';obtain⟨h1,h2⟩:=h;dsimp only at h1 h2;subst h1;rw[cW,c7]at hn;have ih:=ih hn.2;dsimp only[Bc,Li,stored];by_cases hz:p=z
  .obtain rfl:=hz.symm;rw[aH rfl,aH<|by simp,cW,aH rfl,map_store_of_not_mem _ _ _ hn.1];exact .cons ⟨rfl,hv⟩ t
  .rw[aL hz];rw[(by simp only[List.any_cons,cQ hz,Bool.false_or]:(((p,u')::oG).any λkv=>decide<|kv.1=z)=oG.any λkv=>decide<|kv.1=z)];unfold stored at ih;refine iteInduction (λh'=>?_) λh'=>?_
   .rw[aH h']at ih;rw[cW,aL hz];exact .cons ⟨rfl,h2⟩ ih
   .rw[aL h']at ih;exact .cons ⟨rfl,h2⟩ ih
theorem Qj(B:k7 k C){a i v:V}{x j y:Value}(ha:VC ρ a x)(hi:VC ρ i j)(hv:VC ρ v y):Sd C (setItem x j y) UR ρ s st<|rD st<|(qY a i v st.H).map λh=>((),h):=by
 refine gO (lift:=lU st) (gR (T:=(setItem · j y)) rfl ha λp a' N4 hr=>gI (T:=(setItem (.ref a') · y)) rfl hi λq t=>gB rfl λxs hp=>xF rfl λhz=>Sd.of λG Q E kk=>?_)<|gR (T:=(setItem · j y)) rfl ha λp a' N4 hr=>gS (T:=(setItem (.ref a') · y)) rfl hi λz t=>gB rfl λes hp=>xF rfl λhz=>Sd.of λG Q E kk=>?_
 .obtain⟨_,vs,n,e,lW⟩:=G.list (nS hp) hr;injection e with e;subst e;have hlen:=lW.2.2.length;have h3:=hz.2.2;unfold big at h3;refine ki_setAt lW.2.1 hz.1 (by have:=hz.2.1;lia) (by have:=hz.2.1;exact lt_of_lt_of_eq this<|aV Nat.cast hlen)<|kk () _ ρ (a8 _) trivial (G.rQ lW.1 (fK ..) (cT _ lW.2.1 rfl) ⟨_,_,rfl,?_⟩<|aI _)<|mY.lO ..;simp[Array.toList_setIfInBounds];exact lW.2.2.set hv q.toNat
 .obtain⟨_,oG,e,q9⟩:=G.dict (qH hp) hr;injection e with e;subst e;refine wpAny_setItem_pairs (hZ PG C.w z t) q9.2.1 (λh' p0 Ff=>?_) ?_
  .have rel:lH (KR ρ) (put z v es)<|stored oG z y:=Rt hv q9.2.2 (by obtain⟨_,_,_,_,_,_,_,_,Ct⟩:=q9.2.1;exact Ct);obtain⟨o,q8⟩:=Dw p0 rel;exact kk () _ ρ (a8 _) trivial (G.rQ q9.1 Ff q8.1 q8.2<|aT _ _)<|mY.to<|aT _ _
  .exact q9.2.2.length▸(bC (bS hz) n8)
theorem qW(h:H[i]?=some (.list xs)):lE H i=some xs:=by delta lE;rw[h];rfl
theorem YE(h:H[i]?=some (.tuple xs)):tE H i=some xs:=by delta tE;rw[h];rfl
theorem Lq(h:H[i]?=some (.dict es)):dE H i=some es:=by delta dE;rw[h];rfl
theorem dj(h:H[i]?=some o)(q:JF o=true):Ee (.ref i) H=true:=by show((H[i]?).bind λo=>if JF o=true then some ()else none).isSome=true;rw[h];exact aV Option.isSome<|aH q
theorem qU(h:H[i]?=some (.list xs)):Ee (.ref i) H=true:=dj h rfl
theorem Iz(h:H[i]?=some (.dict es)):Ee (.ref i) H=true:=dj h rfl
theorem bf(h:H[i]?=some (.lT es ep)):Ee (.ref i) H=true:=dj h rfl
theorem Nj(h:H[i]?=some (.tuple xs)):Ee (.ref i) H=true:=dj h rfl
theorem FC{j:Int}(h:H[i]?=some (.list xs))(hz:xs.length<big)(hv:nth xs j=some v):uM (.ref i) (.int j) H=some (.ok v,H):=by show(((lE H i).bind _).or _).or _=_;rw[qW h];show((if xs.length<big then(nth xs j).bind _ else none).or _).or _=_;rw[aH hz,hv];rfl
theorem I6(h:H[i]?=some (.list xs))(hz:xs.length<big)(hv:xs[k]?=some v):uM (.ref i) (.int (k:Int)) H=some (.ok v,H):=FC h hz<|(aH<|eK k).trans hv
theorem Td(h:H[i]?=some (.tuple xs))(hz:xs.length<big)(hv:xs[k]?=some v):uM (.ref i) (.int (k:Int)) H=some (.ok v,H):=by
 have e:lE H i=none:=by delta lE;rw[h];rfl
 show(((lE H i).bind _).or<|(tE H i).bind _).or _=_;rw[YE h,e];show(if 0<=(k:Int)/\xs.length<big then(xs[k]?).bind _ else none).or _=_;rw[aH ⟨eK k,hz⟩,hv];rfl
theorem It(h:H[i]?=some (.list xs))(hz:xs.length<big)(hv:xs[xs.length-1]?=some v):uM (.ref i) (.int (-1)) H=some (.ok v,H):=by
 refine FC h hz<|(aL<|by decide).trans ?_;rcases xs with _|⟨a,xs⟩
 .exact nn hv
 .exact(aH (by simp only[bA];exact Rat.intCast_le_intCast.mp rfl)).trans ((aV (λk=>(a::xs)[k]?) (by simp only[bA];lia)).trans hv)
theorem UL(h:kE H i=some es)(hv:es.lookup x=some v):uM (.ref i) (.str x) H=some (.ok v,H):=by show(kE H i).bind _=_;rw[h];show(es.lookup x).bind _=_;rw[hv];rfl
theorem P5(h:H[i]?=some (.dict es))(hv:es.lookup x=some v):uM (.ref i) (.str x) H=some (.ok v,H):=UL (by delta kE dE fE;rw[h];rfl) hv
theorem CT(h:H[i]?=some (.lT es ep))(hv:es.lookup x=some v):uM (.ref i) (.str x) H=some (.ok v,H):=UL (by delta kE dE fE;rw[h];rfl) hv
theorem ed(h:H[i]?=some (.dict es))(hz:es.length<big):qY (.ref i) (.str x) v H=some (H.set i<|.dict<|put x v es):=by show(dE H i).bind _=_;rw[Lq h];exact aH hz
theorem PJ(h:H[i]?=some (.list xs))(hk:k<xs.length)(hz:xs.length<big):qY (.ref i) (.int (k:Int)) v H=some (H.set i<|.list<|xs.set k v):=by show((lE H i).bind _).or _=_;rw[qW h];show(if 0<=(k:Int)/\(k:Int)<xs.length/\xs.length<big then some (H.set i<|.list<|xs.set k v)else none).or _=_;rw[aH ⟨eK k,iM.mpr hk,hz⟩];rfl
theorem D8{lo hi st:Option Int}(h:(H[i]?).bind lxs=some xs)(hz:xs.length<big)(hl:part a=some lo)(hu:part b=some hi)(hk:part c=some st)(hs:st≠some 0):n7 (.ref i) a b c H=some (.ref H.length,H++[.list<|pick xs lo hi st]):=by unfold n7;rw[hl,hu,hk];show(((H[i]?).bind lxs).bind _).or _=_;rw[h];show(if st≠some 0/\xs.length<big then _ else none).or _=_;rw[aH ⟨hs,hz⟩];rfl
theorem de{lo hi:Option Int}(hl:part a=some lo)(hu:part b=some hi)(hz:(rH x lo hi).length<big):n7 (.str x) a b .none H=some (.str<|rH x lo hi,H):=by unfold n7;rw[hl,hu];exact aH ⟨rfl,hz⟩
section
def iE(H:Hp)(i:Nat):Option<|Addr×Nat×List V×List (Str×V):=(H[i]?).bind λo=>match o with
 |.inst D d xs=>(dE H d).bind λes=>some (D,d,xs,es)
 |_=>none
theorem D3{D:Addr}(h:H[i]?=some (.inst D d xs))(hd:H[d]?=some (.dict es)):iE H i=some (D,d,xs,es):=by unfold iE;rw[h];show(dE H d).bind _=_;delta dE;rw[hd];rfl
theorem x7{q}(h:iE H i=some q):H[i]?=some (.inst q.1 q.2.1 q.2.2.1)/\H[q.2.1]?=some (.dict q.2.2.2):=by
 exists H,i,q,_;exists o,(q_:aB.mp h);obtain⟨h1,h⟩:=q_;induction o<;>first|exact nn h|skip
 exists es,(q_:aB.mp h);obtain⟨h2,h⟩:=q_;obtain rfl:=aA h;exact⟨h1,qH h2⟩
def zF(v:V)(x:Str):Hp->mM:=vR (λi H=>(iE H i).bind λq=>
 if q.1=77 then(vP x).bind λj=>(q.2.2.1[j]?).bind λv=>if yR v=true then some (.ok v,H)else none
 else if sA.contains (q.1,x)=true/\r7.contains q.1=true then(q.2.2.2.lookup x).bind λv=>if yR v=true then some (.ok v,H)else none else none) v
def qC(a:V)(x:Str)(v:V):Hp->Option Hp:=vR (λi H=>(iE H i).bind λq=>
 if q.1=77 then(vP x).bind λj=>if j<=q.2.2.1.length then some (H.set i<|.inst 77 q.2.1<|zL j v q.2.2.1)else none
 else if sA.contains (q.1,x)=true/\r7.contains q.1=true/\q.2.2.2.length<900 then some (H.set q.2.1<|.dict<|put x v q.2.2.2)else none) a
def B7:List<|(Addr×Str)×Addr:=[((866,"get_token"),827),((866,"read_token"),834),((731,"read"),677),((731,"_StringIO__translated"),508),((731,"_StringIO__check"),515),
 ((174,"add"),124),((174,"prepare"),129),((174,"get_ready"),136),((174,"is_active"),143),((174,"done"),157),((174,"_get_nodeinfo"),117),((174,"_find_cycle"),164)]
theorem L4(P):(B7.all λp=>findIn (m5 P) (.ref p.1.1) p.1.2==some (some<|.ref p.2)&&typeIn (m5 P) (.ref p.2)==some (.type "function")&&r7.contains p.1.1)=true:=by rfl'
theorem Mq{α β:Type}[BEq α][LawfulBEq α]{l:List (α×β)}{a:α}{b:β}(h:l.lookup a=some b):(a,b)∈l:=by
 induction l with
 |nil=>exact nn h
 |cons q l ih=>
  rw[cP]at h;rcases hb:a==q.1 with _|_
  .rw[hb]at h;exact .tail _<|ih h
  .rw[hb]at h;obtain rfl:=aA h;rw[a5.mp hb];exact .head _
def mh(v:V)(x:Str):Hp->Option (V×List V):=vR (λi H=>(iE H i).bind λq=>if q.2.2.2.lookup x=none then(B7.lookup (q.1,x)).bind λf=>some (.top f,[.ref i])else none) v
theorem M9(B:k7 k C)(hv:VC ρ v ov):Sd C (getAttr ov x true) VC ρ s st<|mV st<|zF v x st.H:=
 gR (T:=(getAttr · x true)) rfl hv λi a ha hr=>gB rfl λq hq=>by
  obtain⟨D,d,xs,es⟩:=q;obtain⟨hi,hd⟩:=x7 hq;refine WS (λhD=>?_) λU=>xF rfl λhc=>gB rfl λu hl=>xF rfl λhb=>?_
  .obtain rfl:D=77:=hD;exact gB rfl λj hj=>gB rfl λu hl=>xF rfl λhb=>W0 B hj hi hd hl hb hr
  .have q8:=Z7 (w:=C.w) hc.1;exact ku B (vO hc.2).1 q8.2 q8.1 hi hd hl hb hr
theorem Mv(B:k7 k C)(ha:VC ρ a ov)(hv:VC ρ v y):Sd C (setAttr ov x y) UR ρ s st<|rD st<|(qC a x v st.H).map λh=>((),h):=
 gR (lift:=lU st) (T:=(setAttr · x y)) rfl ha λi a ha hr=>gB rfl λq hq=>by
  obtain⟨D,d,xs,es⟩:=q;obtain⟨hi,hd⟩:=x7 hq;refine WS (λhD=>?_) λU=>xF rfl λhc=>?_
  .obtain rfl:D=77:=hD;exact gB rfl λj hj=>xF rfl λhz=>K8 B hj hi hd hz hv hr
  .have q8:=Z7 (w:=C.w) hc.1;exact Pg B (vO hc.2.1).1 q8.2 q8.1 hi hd hc.2.2 hv hr
theorem qt(B:k7 k C)(hv:VC ρ v ov):Sd C (getMethod ov x pl) (λρ f g=>VC ρ f.1 g.1/\lH (VC ρ) f.2 g.2) ρ s st<|pE st<|mh v x st.H:=
 gR (T:=(getMethod · x pl)) rfl hv λi a ha hr=>gB rfl λq hq=>xF rfl λhl=>gB rfl λf hm=>by obtain⟨D,d,xs,es⟩:=q;obtain⟨hi,hd⟩:=x7 hq;have:=aX.mp (L4 C.w.params) ((D,x),f)<|Mq hm;simp only[aQ,a5]at this;exact AC B (vO this.2).1 this.1.1 this.1.2 hi hd hl hr
def abw:V->Option Addr
 |.top a=>some a
 |_=>none
def Wt(f:V)(H:Hp):Bool:=Nat.ble 6 f.ctorIdx||(abw f).any [51,58,77,174,197,731,866,878,885,886,893,898,903,910,915,922,927,827,834,677,508,515,124,129,136,143,157,117,164].contains
theorem NN(P):([51,58,77,174,197,731,866,878,885,886,893,898,903,910,915,922,927,827,834,677,508,515,124,129,136,143,157,117,164].all λa=>(peek (m5 P) ⟨PG,P⟩<|keeperOf<|.ref a).isSome)=true:=by rfl'
set_option tactic.hygienic true in
theorem EU(B:k7 k C)(G:kZ C ρ st s)(hf:VC ρ f fv)(h:Wt f st.H=true):∃kp,∀Q E,Q kp s->wpAny (model PG C.w) C.A (keeperOf fv) Q E s:=by
 induction f<;>first|(injection h;done)|skip
 .rename_i a;subst hf;obtain⟨kp,hk⟩:=fH.mp<|aX.mp (NN C.w.params) a<|bB.mp h;exact⟨kp,λQ E q=>(cZ (B.K G) hk).here q⟩
 .subst hf;exact⟨.machine,λQ E q=>aM q⟩
 .subst hf;exact⟨.machine,λQ E q=>aM q⟩
end
section
def oq:V->Value->Bool
 |.top a,y=>y==.ref a
 |.ty n,y=>y==.type n
 |.bi n,y=>y==.builtin n
 |.int i,.int j _=>i==j
 |_,_=>false
set_option tactic.hygienic true in
theorem yV(h:oq v y=true):VC ρ v y:=by
 induction v with
 |top a=>exact a5.mp h
 |ty n=>exact a5.mp h
 |bi n=>exact a5.mp h
 |int i=>
  induction y<;>first|(injection h;done)|skip
  rename_i j t;exact⟨t,by rw[a5.mp h]⟩
 |_=>rcases h with _|_
def Cr:List<|Str×V:=[
 ("deque",.ty "collections.deque"),("_iter_escaped_chars",.top 51),("_strip_quoted_realnames",.top 58),("_NODE_OUT",.int (-1)),("_NODE_DONE",.int (-2)),("_NodeInfo",.top 77),("CycleError",.top 92),
 ("TopologicalSorter",.top 174),("_index",.top 197),("BytesIO",.top 484),("StringIO",.top 731),("shlex",.top 866),("split",.top 878),("join_shlex",.top 885),("_find_unsafe",.top 886),("quote",.top 893),
 ("_law_rows",.top 898),("_law_line",.top 903),("_law_shorn",.top 910),("_law_words",.top 915),("_law_read",.top 922),("_law_rounds",.top 927)]
def pw:List<|Str×V:=[("len",.bi "len"),("tuple",.ty "tuple"),("list",.ty "list"),("range",.ty "range"),("int",.ty "int"),("bool",.ty "bool"),("str",.ty "str"),("type",.ty "type"),("set",.ty "set"),
 ("isinstance",.bi "isinstance"),("iter",.bi "iter"),("sorted",.bi "sorted"),("max",.bi "max"),("enumerate",.ty "enumerate"),("object",.ty "object"),("ValueError",.ty "ValueError"),("StopIteration",.ty "StopIteration")]
theorem A0(P):(Cr.all λp=>match nsIn (m5 P) mainGlobals p.1 with|some (some y)=>oq p.2 y|_=>false)=true:=by rfl'
theorem Ek(P):(pw.all λp=>nsIn (m5 P) mainGlobals p.1==some none)=true:=by rfl'
theorem Gs:(pw.all λp=>p.1 != "__name__" &&(match bootBuiltins p.1 with|some y=>oq p.2 y|none=>false))=true:=by rfl'
def zB(x:Str):Option V:=(Cr.lookup x).or<|pw.lookup x
set_option tactic.hygienic true in
theorem J5(gl:env.globals=mainGlobals/\env.builtins=builtinsNs)(T:nY w s.heap){x:Str}{v:V}(h:zB x=some v)(kk:∀y,VC ρ v y->Q y s):wpAny (model PG w) A (loadGlobal env x) Q E s:=by
 exists ρ,s,w,A,env,Q,E,x,v,[gl,T,h,kk];unfold zB at h;unfold loadGlobal;rw[gl.1,gl.2];exists _;rcases h1:Cr.lookup x with _|u
 .replace h:=h1▸h;have h2:=h;have n1:=aX.mp (Ek w.params) (x,v)<|cF h2;have n2:=aX.mp Gs (x,v)<|cF h2;simp only[aQ]at n2;exists mb,(q_:T.bi);obtain⟨hn,hb⟩:=q_;refine k9<|aD<|(jS T.K<|a5.mp n1).here ?_;refine aD<|wpAny_nsGet hn ?_;refine(hb x<|hV.mp n2.1)▸?_;have n3:=n2.2;split at n3
  .rename_i y hy;exact hy▸(aM<|kk y<|yV n3)
  .injection n3
 .replace h:=h1▸h;rcases h with _|_;have:=aX.mp (A0 w.params) (x,v)<|cF h1;refine k9 ?_;split at this
  .rename_i y hy;exact aD<|(jS T.K hy).here<|aM<|kk y<|yV this
  .injection this
theorem BX(B:k7 k C)(h:zB x=some v):Sd C (loadGlobal C.env x) VC ρ s st<|some (.ok v,st):=Sd.oM λG Q E kk=>J5 B.gl (B.top.keep G.sim.keep B.hi) h kk
def zI(x:Str):Option String:=if x= "append" then some "list.append" else if x= "pop" then some "list.pop" else if x= "clear" then some "list.clear" else if x= "extend" then some "list.extend" else if x= "index" then some "list.index" else none
def Jy(x:Str):Option String:=if x= "join" then some "str.join" else if x= "split" then some "str.split" else if x= "replace" then some "str.replace" else none
def x5(x:Str):Option String:=if x= "get" then some "dict.get" else if x= "values" then some "dict.values" else none
def Ip(x:Str):Option String:=if x= "add" then some "set.add" else none
def wY(v:V)(x:Str)(H:Hp):Option<|V×List V:=(vS (λz U=>(Jy x).bind λm=>some (.bi m,[.str z])) v H).or
 (vR (λi H=>(((lE H i).bind λU=>zI x).or<|((dE H i).bind λU=>x5 x).or<|((sE H i).bind λU=>Ip x).or<|(fE H i).bind λU=>if x= "values" then some "dict.values" else none).bind λm=>some (.bi m,[.ref i])) v H)
def MO(T:String)(x:Str)(m:String):Prop:=Slot T x m/\typeOf (.builtin m)=pure (.type "method_descriptor")
theorem Y9(h:(if x=y then some a else o)=some m)(h1:MO T y a)(h2:o=some m->MO T x m):MO T x m:=by
 by_cases q:x=y
 .subst q;obtain rfl:=aA<|(aH rfl).symm.trans h;exact h1
 .exact h2 ((aL q).symm.trans h)
theorem cb(B:k7 k C){ov:Value}{pl:Sem Bool}(hv:VC ρ v ov):Sd C (getMethod ov x pl) (λρ f g=>VC ρ f.1 g.1/\lH (VC ρ) f.2 g.2) ρ s st<|pE st<|wY v x st.H:=by
 exists k,C,ρ,st,s,v,x,ov,pl,[B,hv];refine gO (lift:=pE st) (gS (lift:=pE st) (T:=(getMethod · x pl)) rfl hv λz t=>gB rfl λm hm=>Sd.oM λG Q E kk=>?_)<|gR (lift:=pE st) (T:=(getMethod · x pl)) rfl hv λi a ha hr=>gB rfl λm hm=>Sd.oM λG Q E kk=>?_
 .exists z,t,m,Q,E,[hm,kk];have h:MO "str" x m:=Y9 hm ⟨F.slot_str_join,F.type_str_join⟩ λh=>Y9 h ⟨iV,F.type_str_split⟩ λh=>Y9 h ⟨jT,F.type_str_replace⟩ λh=>nn h;exact iN (fT s z t) kA h.1 h.2 (λa e=>by exists a,_;injection e)<|kk (.builtin m,[.str z t]) ⟨rfl,.cons ⟨t,rfl⟩ .nil⟩
 .exists i,a,m,Q,E,[ha,hr,hm,kk];have fin:∀{T o},s.TypeIs (.ref a) T->PlainAttrs T->MO T x m->s.heap.get? a=some o->o.dict=none->wpAny (model PG C.w) C.A (getMethod (.ref a) x pl) Q E s:=λh1 h2 h3 h4 h5=>iN h1 h2 h3.1 h3.2 (λb e=>by injection e with e;subst e;exact⟨_,h4,h5⟩)<|kk (.builtin m,[.ref a]) ⟨rfl,.cons ⟨a,ha,rfl⟩ .nil⟩;have dd:∀{oG},s.heap.DictOf (strKind PG C.w) a oG->MO "dict" x m->wpAny (model PG C.w) C.A (getMethod (.ref a) x pl) Q E s:=λtC h=>by have hT:=tC.typeIs;exists o,uZ,Os,(q_:tC);obtain⟨ho,hE,rc⟩:=q_;exact fin hT F.plainAttrs_dict h ho hE.2.1
  rcases fA.mp hm with hm|⟨_,hm⟩
  .exists xs,(q_:aB.mp hm);obtain⟨hi,hm⟩:=q_;exists DB,ws,n,(q_:G.list (nS hi) hr);obtain⟨e,TY,ho,z6_⟩:=q_;injection e with e;subst e;exact fin ⟨_,ho,rfl⟩ F.plainAttrs_list (Y9 hm ⟨F.slot_list_append,type_list_append⟩ λh=>Y9 h ⟨F.slot_list_pop,F.type_list_pop⟩ λh=>Y9 h ⟨F.slot_list_clear,F.type_list_clear⟩ λh=>Y9 h ⟨F.slot_list_extend,F.type_list_extend⟩ λh=>Y9 h ⟨F.slot_list_index,F.type_list_index⟩ λh=>nn h) ho rfl
  rcases fA.mp hm with hm|⟨_,hm⟩
  .exists xs,(q_:aB.mp hm);obtain⟨hi,hm⟩:=q_;exists z7_,oG,(q_:G.dict (qH hi) hr);obtain⟨e,z8_,tC,z9_⟩:=q_;injection e with e;subst e;exact dd tC<|Y9 hm ⟨F.slot_dict_get,F.type_dict_get⟩ λh=>Y9 h ⟨iB,F.type_dict_values⟩ λh=>nn h
  rcases fA.mp hm with hm|⟨_,hm⟩
  .exists xs,(q_:aB.mp hm);obtain⟨hi,hm⟩:=q_;exists agx,(q_:G.setOf (Cs hi) hr);obtain⟨agy,e,hS⟩:=q_;injection e with e;subst e;exists o,(q_:hS.noDict _ rfl);obtain⟨ho,hd⟩:=q_;exact fin hS.typeIs F.plainAttrs_set (Y9 hm ⟨F.slot_set_add,F.type_set_add⟩ λh=>nn h) ho hd
  .exists xs,(q_:aB.mp hm);obtain⟨hi,hm⟩:=q_;exists agz,oG,(q_:G.lT (zO hi) hr);obtain⟨e,agB,tC,agC⟩:=q_;injection e with e;subst e;exact dd tC.dictOf<|Y9 hm ⟨iB,F.type_dict_values⟩ λh=>nn h
theorem wB(h:((lE H i).bind λU=>zI x).or (((dE H i).bind λU=>x5 x).or<|((sE H i).bind λU=>Ip x).or<|(fE H i).bind λU=>if x= "values" then some "dict.values" else none)=some m):wY (.ref i) x H=some (.bi m,[.ref i]):=by show(Option.or _ _).bind _=_;rw[h];rfl
end
theorem kZ.made(G:kZ C ρ st s)(m:Heap.MadeExc s.heap h' e cls args):kZ C ρ st {s with heap:=h'}/\oD C ρ (.ty cls) (.ref e) {s with heap:=h'}:=by
 have G':kZ C ρ st {s with heap:=h'}:=by have:=G.ext m.keeps 0;exact this
 exists t,(q8:m.there);refine⟨G',⟨e,_,_,.ref t,rfl,q8.1,rfl,rfl,rfl,λhm=>?_,?_,λq=>?_,.inl rfl⟩⟩
 .obtain⟨o,ho⟩:=G.live hm;replace ho:=m.new▸ho;exact nn ho
 .rcases q:C.ail.get? e with _|o
  .rfl
  .obtain⟨o',e',_⟩:=G.sim.keep.1 e o q;rw[m.new]at e';injection e'
 .exists o,rc,DB,(q_:G.oH);obtain⟨ho,_⟩:=q_;simp only[<-q,m.new]at ho;injection ho
set_option tactic.hygienic true in
theorem r6(B:k7 k C)(hx:C.env.scope.names.lookup x=some .globalImplicit)(hd:(x==("__debug__" :Str))=false)(h:zB x=some v)(G:kZ C ρ st s)(q:∀y,VC ρ v y->Q y s):
 wpAny (model PG C.w) A' (eval (.Name x np) C.env) Q E s:=by
 exists k,C,ρ,st,s,x,v,np,A',Q,E,_;refine eC B.fn hx ?_ hd;have T:=B.top.keep G.sim.keep B.hi;unfold zB at h;unfold loadGlobal;refine B.gl.1▸B.gl.2▸?_;rcases h1:Cr.lookup x with _|u
 .replace h:=h1▸h;have h2:=h;have n1:=aX.mp (Ek C.w.params) (x,v)<|cF h2;have n2:=aX.mp Gs (x,v)<|cF h2;simp only[aQ]at n2;obtain⟨mb,q8⟩:=T.bi;refine aD<|(jS T.K<|a5.mp n1).here ?_;refine aD<|wpAny_nsGet q8.1 ?_;refine(q8.2 x<|hV.mp n2.1)▸?_;have n3:=n2.2;split at n3
  .rename_i y hy;exact hy▸(aM<|q y<|yV n3)
  .injection n3
 .have h:=h1▸h;rcases aA h with _|_;have:=aX.mp (A0 C.w.params) (x,v)<|cF h1;split at this
  .rename_i y hy;exact aD<|(jS T.K hy).here<|aM<|q y<|yV this
  .injection this
theorem Pi(B:k7 k C)(L:mN C)(hx:C.env.scope.names.lookup ("StopIteration" :Str)=some .globalImplicit):
 Sd C (exec (.Raise (some<|.Name "StopIteration" np) none p) C.env) (λU(U:Unit)U=>False) ρ s st (some (.exc<|.ty "StopIteration",st)):=by
 intro G r k6 e;obtain⟨rfl,rfl⟩:=bQ<|aA e;refine owsi_raiseC L.hh (r6 B hx (rfl) (v:=.ty "StopIteration") (by decide+kernel) G λy hy=>⟨hy,rfl⟩) λh' ea m=>?_;have q8:=G.made m;exact⟨_,ρ,rfl,a8 _,q8.2,q8.1,mY.lO ..⟩
theorem Mt(B:k7 k C)(L:mN C){m:Str}{kk:Nat}(hx:C.env.scope.names.lookup ("ValueError" :Str)=some .globalImplicit):
 Sd C (exec (.Raise (some<|.Call (.Name "ValueError" np) [.Constant (.str m) kk q] [] cp) none p) C.env) (λU(U:Unit)U=>False) ρ s st (some (.exc<|.ty "ValueError",st)):=by
 intro G r k6 e;obtain⟨rfl,rfl⟩:=bQ<|aA e;refine wpAny_Raise_call F.excCall_ValueError F.excRaise_ValueError L.hh rfl<|r6 B hx (rfl) (v:=.ty "ValueError") (by decide+kernel) G λy hy=>⟨hy,?_⟩;have args:∀ρ s st,Sd C (spliced<|backTo cp<|starEach [.Constant (.str m) kk q] C.env) (λρ vs xs=>lH (VC ρ) vs xs) ρ s st<|some (.ok [.str m],st):=by intro ρ s st;exact Sd.of λG Q E k=>λΓ p U=>k [.str m s.toks] _ ρ (a8 _) (.cons ⟨s.toks,rfl⟩ .nil) (G.tok 1)<|mY.tok s 1
 refine bL (vE (ks:=[]) rfl args (λρ s st=>Sd.pure .nil) G _ _ rfl) (λa mQ P=>?_) λU U P=>by obtain⟨_,_,e,_⟩:=P;injection e
 obtain⟨b,lI,e',hp,hr,G',n⟩:=P;obtain rfl:=oV.ok.inj e';obtain⟨h1,h2⟩:=hr;refine⟨by induction hk:a.kw with|nil=>rfl|cons=>(simp only[hk]at h2;exact nomatch h2),?_,λh' ea mm=>?_⟩
 .exact h1.length▸(bC (show 1<=big by decide) n8)
 .have q8:=G'.made mm;exact⟨_,lI,rfl,hp,q8.2,q8.1,⟨n.os,n.dr,n.tk,n.gn⟩⟩
structure xE(T:String):Prop where
 exc:isSubtype (.type T) (.type "BaseException")=pure true
 nt:isSubtype (.type<|(Manifest.find? T).elim "type" λx=>x.metatype) (.type "tuple")=pure false
 sub:isSubtype (.type T) (.type T)=pure true
theorem Ah:xE "ValueError" :=⟨by rw[dH];rfl',by rw[dH];rfl',by rw[dH];rfl'⟩
theorem wM:xE "StopIteration" :=⟨by rw[dH];rfl',by rw[dH];rfl',by rw[dH];rfl'⟩
theorem D5(B:k7 k C)(F:xE X)(hT:zB T=some (.ty X))(hd:(T==("__debug__" :Str))=false)(G:kZ C ρ st s)(x:oD C ρ (.ty X) e s)(hx:C.env.scope.names.lookup T=some .globalImplicit)(E):
 wpAny (model PG C.w) (C.A.mark<|some e) (eval (.Name T p) C.env) (λcv lD=>lD=s/\wpAny (model PG C.w) (C.A.mark<|some e) (excMatches e cv) (λb mQ=>b=true/\mQ=s) E s) E s:=by
 refine r6 B hx hd hT G λy hy=>⟨rfl,?_⟩;subst hy;obtain⟨a,o,vs,a0,rfl,ho,Yr,h0,hc,uZ⟩:=x.ex;exact wpAny_excMatches_type ⟨o,ho,hc⟩ F.exc F.nt F.sub ⟨rfl,rfl⟩
theorem tV{α β:Type}{R:α->β->Prop}{a:α}{l:List α}{m:List β}(h:lH R (a::l) m):∃b r,m=b::r/\R a b/\lH R l r:=by rcases h with _|⟨h,t⟩;exact⟨_,_,rfl,h,t⟩
theorem fq{α β:Type}{R:α->β->Prop}{a:α}{l:List β}(h:lH R [a] l):∃b,l=[b]/\R a b:=by obtain⟨b,r,e,h1,t⟩:=tV h;obtain rfl:=cC.mp t.length.symm;exact⟨b,e,h1⟩
theorem Se{α β:Type}{R:α->β->Prop}{a a':α}{l:List β}(h:lH R [a,a'] l):∃b b',l=[b,b']/\R a b/\R a' b':=by obtain⟨b,r,e,h1,t⟩:=tV h;obtain⟨b',e',h2⟩:=fq t;exact⟨b,b',by rw[e,e'],h1,h2⟩
theorem lH.eraseIdx{α β:Type}{R:α->β->Prop}{l:List α}{m:List β}(i)(h:lH R l m):lH R (l.eraseIdx i)<|m.eraseIdx i:=by
 induction h generalizing i with
 |nil=>exact .nil
 |cons h t ih=>
  rcases i with _|i
  .exact t
  .exact .cons h (ih i)
def sQ(x:Str):List V->Option Nat
 |[]=>none
 |.str y::r=>if y=x then some 0 else(sQ x r).map (· +1)
 |_::_=>none
abbrev Prim:=List V->Hp->mM
def a0(p:Hp->mM):Prim
 |[]=>p
 |_=>λU=>none
def a1(p:V->Hp->mM)(l:List V):Hp->mM:=match l with
 |[]=>λU=>none
 |x::l=>(match l with
  |[]=>p x
  |_=>λU=>none)
def a2(p:V->V->Hp->mM)(l:List V):Hp->mM:=match l with
 |[]=>λU=>none
 |x::l=>a1 (p x) l
def a3(p:V->V->V->Hp->mM)(l:List V):Hp->mM:=match l with
 |[]=>λU=>none
 |x::l=>a2 (p x) l
def gv(c:Prop)[Decidable c](v:V)(H:Hp):mM:=if c then some (.ok v,H)else none
def nw(ao:AO)(H:Hp):mM:=some (.ok<|.ref H.length,H++[ao])
def Ab(i:Nat)(v:V)(H:Hp):Option Hp:=(lE H i).bind λxs=>if xs.length<big then some (H.set i<|.list<|xs++[v])else none
def Vl:Prim:=a2 λl v=>vR (λi H=>(Ab i v H).bind λH=>some (.ok .none,H)) l
def ZK:Prim:=a1<|vL λi xs H=>(xs[xs.length-1]?).map λv=>(.ok v,H.set i<|.list<|xs.eraseIdx<|xs.length-1)
def rm:Prim:=a1<|vL λi xs H=>some (.ok .none,H.set i<|.list [])
def Vm:Prim:=a2 λl m=>vL (λi xs=>vL (λU ys H=>if xs.length+ys.length<big then some (.ok .none,H.set i<|.list<|xs++ys)else none) m) l
def Vn:Prim:=a2 λl v=>vS (λx=>vR (λi H=>(sE H i).bind λxs=>if xs.length<900 then some (.ok .none,H.set i<|.set<|if xs.contains x then xs else xs++[x])else none) l) v
def ZL:Prim:=a1 λv H=>(vL (λU xs H=>some (.ok<|.int xs.length,H)) v H).or<|(vR (λi H=>(tE H i).bind λxs=>gv (xs.length<big) (.int xs.length) H) v H).or<|vS (λx H=>gv (x.length<big) (.int x.length) H) v H
def ZM:Prim:=a0<|nw<|.set []
def ro:Prim:=a1<|vL λU xs=>nw<|.tuple xs
def ru(l:List V)(H:Hp):mM:=(a1 (vI λn=>nw<|.range 0 n 1) l H).or<|a3 (λa b c=>vI (λa=>vI (λb=>vI (λc H=>if c=2\/c=3 then nw (.range a b c) H else none) c) b) a) l H
def ZN:Prim:=a1<|vI λn H=>some (.ok<|.int n,H)
def GB:Prim:=a1 λv H=>(vI (λU H=>some (.ok<|.ty "int",H)) v H).or<|vS (λU H=>some (.ok<|.ty "str",H)) v H
def rx:Prim:=a2 λv t=>vS (λU H=>gv (t=.ty "str") (.bool true) H) v
section
variable{k:Nat}{C:Cx}{ρ:List Addr}{st:St}{s:Shared}
theorem zE(G:kZ C ρ st s){i:Nat}{a:Addr}{vs:Array Value}{n:Nat}{f:Array Value->Array Value}{ys:List V}(ha:ρ[i]?=some a)(ho:s.heap.get? a=some ⟨.type "list",none,.seq vs n,#[]⟩)(h:lH (VC ρ) ys (f vs).toList):
 kZ C ρ {st with H:=st.H.set i (.list ys)} {s with heap:=s.heap.update a (Obj.mapSeq f)}:=
 G.rQ ha (fK ..) (cT _ ho rfl) ⟨_,_,rfl,h⟩ (aI _)
abbrev PS(C:Cx)(fv:Value)(p:Prim):Prop:=∀ρ s st vs xs,lH (VC ρ) vs xs->Sd C (call fv xs) VC ρ s st (mV st<|p vs st.H)
variable{fv:Value}{T:Value->Sem Value}{y:Value}{v:V}
theorem EN{p:Hp->mM}(h:∀ρ s st,Sd C (call fv []) VC ρ s st<|mV st<|p st.H):PS C fv<|a0 p:=λρ s st vs xs hv=>by
 induction hv with
 |nil=>exact h ρ s st
 |cons=>exact Sd.nil
theorem az{q:List Value->Sem Value}{p:V->Hp->mM}{vs:List V}{xs:List Value}(hv:lH (VC ρ) vs xs)(h:∀a x,VC ρ a x->Sd C (q [x]) VC ρ s st (mV st<|p a st.H)):Sd C (q xs) VC ρ s st<|mV st<|a1 p vs st.H:=by
 induction hv with
 |nil=>exact Sd.nil
 |cons h0 hv=>
  induction hv with
  |nil=>exact h _ _ h0
  |cons=>exact Sd.nil
theorem EK{q:List Value->Sem Value}{p:V->V->Hp->mM}{vs:List V}{xs:List Value}(hv:lH (VC ρ) vs xs)(h:∀a b x y,VC ρ a x->VC ρ b y->Sd C (q [x,y]) VC ρ s st (mV st<|p a b st.H)):Sd C (q xs) VC ρ s st<|mV st<|a2 p vs st.H:=by
 induction hv with
 |nil=>exact Sd.nil
 |cons h0 hv=>exact az (q:=λl=>q (_::l)) hv λb y hb=>h _ b _ y h0 hb
theorem VL{q:List Value->Sem Value}{p:V->V->V->Hp->mM}{vs:List V}{xs:List Value}(hv:lH (VC ρ) vs xs)(h:∀a b c x y z,VC ρ a x->VC ρ b y->VC ρ c z->Sd C (q [x,y,z]) VC ρ s st (mV st<|p a b c st.H)):Sd C (q xs) VC ρ s st<|mV st<|a3 p vs st.H:=by
 induction hv with
 |nil=>exact Sd.nil
 |cons h0 hv=>exact EK (q:=λl=>q (_::l)) hv λb c y z hb hc=>h _ b c _ y z h0 hb hc
theorem vN{f:Str->Hp->mM}(hv:VC ρ v y)(h:∀x t,Sd C (T<|.str x t) VC ρ s st<|mV st<|f x st.H):Sd C (T y) VC ρ s st<|mV st<|vS f v st.H:=gS rfl hv h
theorem Gp{f:Int->Hp->mM}(hv:VC ρ v y)(h:∀x t,Sd C (T<|.int x t) VC ρ s st<|mV st<|f x st.H):Sd C (T y) VC ρ s st<|mV st<|vI f v st.H:=gI rfl hv h
theorem wR{f:Nat->Hp->mM}(hv:VC ρ v y)(h:∀i a,ρ[i]?=some a->VC ρ (.ref i) (.ref a)->Sd C (T<|.ref a) VC ρ s st (mV st<|f i st.H)):Sd C (T y) VC ρ s st<|mV st<|vR f v st.H:=gR rfl hv h
theorem Ds{f:Nat->List V->Hp->mM}(hv:VC ρ v y)(h:∀i xs a vs n,ρ[i]?=some a->s.heap.get? a=some ⟨.type "list",none,.seq vs n,#[]⟩->lH (VC ρ) xs vs.toList->xs.length<big->Sd C (T<|.ref a) VC ρ s st (mV st<|f i xs st.H)):Sd C (T y) VC ρ s st<|mV st<|vL f v st.H:=gL rfl hv h
theorem N2{α:Type}{t:Sem α}{Rel:List Addr->V->α->Prop}{c:Prop}[Decidable c]{v:V}(h:c->Sd C t Rel ρ s st (some (.ok v,st))):Sd C t Rel ρ s st<|mV st<|gv c v st.H:=by
 unfold gv;by_cases q:c
 .rw[aH q];exact h q
 .rw[aL q];exact Sd.nil
theorem Sd.Yw{c:Prop}[Decidable c]{t:Sem Value}{o:mM}(h:c->Sd C t VC ρ s st (mV st o)):Sd C t VC ρ s st<|mV st<|if c then o else none:=by
 by_cases q:c
 .rw[aH q];exact h q
 .rw[aL q];exact Sd.nil
theorem Sd.Yx{α β:Type}{t:Sem α}{Rel:List Addr->β->α->Prop}{a b:Option (oV β×Hp)}(h1:Sd C t Rel ρ s st<|mV st a)(h2:Sd C t Rel ρ s st<|mV st b):Sd C t Rel ρ s st<|mV st<|a.or b:=by
 rcases a with _|p
 .exact h2
 .exact h1
theorem rV{p:V->Hp->mM}(h:∀ρ s st a x,VC ρ a x->Sd C (call fv [x]) VC ρ s st (mV st<|p a st.H)):PS C fv<|a1 p:=λρ s st vs xs hv=>az (q:=λxs=>call fv xs) hv<|h ρ s st
theorem A9{p:V->V->Hp->mM}(h:∀ρ s st a b x y,VC ρ a x->VC ρ b y->Sd C (call fv [x,y]) VC ρ s st (mV st<|p a b st.H)):PS C fv<|a2 p:=λρ s st vs xs hv=>EK (q:=λxs=>call fv xs) hv<|h ρ s st
theorem WQ{p:V->V->V->Hp->mM}(h:∀ρ s st a b c x y z,VC ρ a x->VC ρ b y->VC ρ c z->Sd C (call fv [x,y,z]) VC ρ s st (mV st<|p a b c st.H)):PS C fv<|a3 p:=λρ s st vs xs hv=>VL (q:=λxs=>call fv xs) hv<|h ρ s st
theorem PS.or{p q:Prim}(h1:PS C fv p)(h2:PS C fv q):PS C fv λl H=>(p l H).or<|q l H:=λρ s st vs xs hv=>Sd.Yx (h1 ρ s st vs xs hv)<|h2 ρ s st vs xs hv
theorem dz{i:Nat}{y z:Value}{v:V}{H:Hp}(h1:VC ρ (.ref i) y)(h2:VC ρ v z)(h:Ab i v st.H=some H):Sd C (call (.builtin "list.append") [y,z]) VC ρ s st<|some (.ok .none,{st with H:=H}):=by exists C,ρ,st,s,i,y,z,v,H,_;exists ys,(q9:aB.mp h);obtain⟨hz,e_⟩:=Fd q9.2;obtain rfl:=aA e_;refine Sd.of λG Q E kk=>?_;exists a,ws,n,(q_:G.list (nS q9.1) h1);obtain⟨rfl,q8⟩:=q_;refine wpAny_list_append_plain ⟨n,q8.2.1⟩ (λh' hl hs=>?_)<|Dq q8.2.2 hz;obtain⟨n',rA⟩:=hl;exact kk _ _ ρ (a8 _) rfl (G.rQ q8.1 hs rA ⟨_,_,rfl,by rw[Array.toList_push];exact q8.2.2.append<|.cons h2 .nil⟩<|aI _)<|mY.lO ..
theorem Sd.sF{α:Type}{t:Sem Value}{o:Option α}{g:α->mM}(h:∀x,o=some x->Sd C t VC ρ s st (mV st<|g x)):Sd C t VC ρ s st<|mV st<|o.bind g:=by
 rcases o with _|x
 .exact Sd.nil
 .exact h x rfl
theorem Wa:PS C (.builtin "list.append") Vl:=A9 λρ s st U U U z h1 h2=>wR (T:=λy=>call (.builtin "list.append") [y,z]) h1 λi a U uh=>Sd.sF λH h=>dz uh h2 h
theorem ME:PS C (.builtin "list.pop") ZK:=rV λρ s st U U h1=>Ds (T:=λy=>call (.builtin "list.pop") [y]) h1 λi ys a ws n ha ho xW hz=>by
 rcases hl:ys[ys.length-1]? with _|v
 .exact Sd.nil
 .refine Sd.of λG Q E kk=>?_;obtain⟨y,hy,K1⟩:=xW.get hl;rw[qD xW]at hy;refine iC F.slot_list_pop ⟨_,ho,rfl⟩ F.entry_list_pop (F.args_list_pop_1 _) (MeetsSeq.list_pop_last a ws n y (bU▸hy)<|Dq xW hz) ⟨ho,?_⟩;refine kk _ _ ρ (a8 _) K1 (zE G ha ho ?_)<|mY.lO ..;rw[<-qD xW,Array.toList_eraseIdxIfInBounds];exact xW.eraseIdx _
theorem ff:PS C (.builtin "list.clear") rm:=rV λρ s st U U h1=>Ds (T:=λy=>call (.builtin "list.clear") [y]) h1 λi ys a ws n ha ho xW hz=>Sd.of λG Q E kk=>
 iC F.slot_list_clear ⟨_,ho,rfl⟩ F.entry_list_clear (F.args_list_clear_1 _) (AutoSeq1.list_clear_list_0 a ws n<|Dq xW hz) ⟨ho,kk _ _ ρ (a8 _) rfl (zE G ha ho .nil)<|mY.lO ..⟩
theorem Wy:PS C (.builtin "list.extend") Vm:=A9 λρ s st U U U z h1 h2=>Ds (T:=λy=>call (.builtin "list.extend") [y,z]) h1 λi ys a ws n ha ho xW U=>Ds (T:=λz=>call (.builtin "list.extend") [.ref a,z]) h2 λj zs b us m hb rA hzs U=>Sd.Yw λhz=>Sd.of λG Q E kk=>by rw[qD xW,qD hzs]at hz;have hz:=bC (bS hz) n8;refine iC F.slot_list_extend ⟨_,ho,rfl⟩ F.entry_list_extend (F.args_list_extend_2 _ _) (AutoSeq1.list_extend_list_list_0 a ws n b us m ?_ (bC (aT _ _) hz)<|eE hz) ⟨ho,rA,kk _ _ ρ (a8 _) rfl (zE G ha ho (by rw[Array.toList_append];exact xW.append hzs))<|mY.lO ..⟩;have:Builtin.List.listTooLong (ws.size+us.size)=false:=cQ<|gF.mpr hz;simp only[this,Bool.and_false];exact bV
theorem zj{x:Str}{ys:List Str}(q):(q∈(if ys.contains x then ys else ys++[x]))<->(q∈ys\/q=x):=by
 by_cases hx:ys.contains x=true
 .rw[aH hx];exact⟨.inl,λh=>h.elim id λe=>e▸bB.mp hx⟩
 .rw[aL hx,aO,aE]
theorem vq{x:Str}{ys:List Str}:(if ys.contains x then ys else ys++[x]).length=if ys.contains x then ys.length else ys.length+1:=by
 by_cases hx:ys.contains x=true
 .rw[aH hx,aH hx]
 .rw[aL hx,aL hx,aG];rfl
theorem Xz:PS C (.builtin "set.add") Vn:=A9 λρ s st U U y U h1 h2=>vN (T:=λz=>call (.builtin "set.add") [y,z]) h2 λx t=>wR (T:=λy=>call (.builtin "set.add") [y,.str x t]) h1 λi a ha uh=>Sd.sF λys hi=>Sd.Yw λhz=>Sd.of λG Q E kk=>by obtain⟨a',q9⟩:=G.setOf (Cs hi) uh;rcases q9.2.1 with _|_;refine call_set_add (hZ PG C.w x t) rfl q9.2.2 (bJ (Nat.succ_lt_succ hz)<|by decide) λh' hs GC=>?_;obtain⟨o,es,ep,tb,q8⟩:=GC;exact kk _ _ ρ (a8 _) rfl (G.rQ ha hs q8.1 ⟨es,ep,tb,q8.2.1,q8.2.2.1,q8.2.2.2.1,λq=>(zj q).trans<|Iff.trans (by rw[d8,d6,bB])<|q8.2.2.2.2.1 q,q8.2.2.2.2.2.1,q8.2.2.2.2.2.2.1,q8.2.2.2.2.2.2.2.trans vq.symm⟩<|aT _ _)<|mY.to<|aT _ _
theorem QH:PS C (.builtin "len") ZL:=rV λρ s st U U h1=>Sd.Yx
 (Ds (T:=λy=>call (.builtin "len") [y]) h1 λi ys a ws n ha ho xW hz=>Sd.plain λG Q E kk=>Calls.call_len_list ⟨_,ho,rfl,n,rfl⟩ (by unfold big at hz;rw[<-qD xW];omega)<|kk _ 2 ⟨_,by rw[qD xW]⟩)
 (Sd.Yx (wR (T:=λy=>call (.builtin "len") [y]) h1 λi a ha uh=>Sd.sF λys hi=>N2 λhz=>Sd.plain λG Q E kk=>by
  obtain⟨a',vs,n,e,q8⟩:=G.tuple (wF hi) uh;obtain rfl:=fY e;exact len_tuple ⟨_,q8.2.1,rfl,n,rfl⟩ (by unfold big at hz;rw[<-qD q8.2.2];omega)<|kk _ 2 ⟨_,by rw[qD q8.2.2]⟩)
  (vN (T:=λy=>call (.builtin "len") [y]) h1 λx t=>N2 λhz=>Sd.plain λG Q E kk=>P.len_str (by unfold big at hz;lia)<|kk _ 2 ⟨_,rfl⟩))
theorem OJ:PS C (.type "set") ZM:=EN λρ s st=>Sd.of λG Q E kk=>call_set_0 λled=>
 kk _ _ _ ⟨_,rfl⟩ (nU G) (G.push rfl ⟨#[],0,.fresh 0 0 led,⟨rfl,rfl,rfl⟩,rfl,λU h=>absurd h<|bG,λq=>by simp,c6 _,by induction led<;>rfl,rfl⟩) (mY.lO ..)
theorem mz:PS C (.type "tuple") ro:=rV λρ s st U U h1=>Ds (T:=λy=>call (.type "tuple") [y]) h1 λi ys a ws n ha ho xW hz=>Sd.of λG Q E kk=>
 call_tuple_list ⟨_,ho,rfl,n,rfl⟩ (λh' hk=>by have G':=G.ext hk 0;exact kk _ _ _ ⟨_,rfl⟩ (nU G') (G'.push rfl ⟨ws,0,rfl,xW.mono ⟨_,rfl⟩⟩)<|mY.lO ..) (Dq xW hz)
theorem Zu:PS C (.type "range") ru:=PS.or
 (rV λρ s st U U h1=>Gp (T:=λy=>call (.type "range") [y]) h1 λn t=>Sd.of λG Q E kk=>call_range_1<|kk _ _ _ ⟨_,rfl⟩ (nU G) ((G.push (ao:=.range 0 n 1) rfl ⟨_,_,_,rfl⟩).tok 2)<|mY.heap s _ 2)
 (WQ λρ s st U U U U y z h1 h2 h3=>Gp (T:=λx=>call (.type "range") [x,y,z]) h1 λa t=>Gp (T:=λy=>call (.type "range") [.int a t,y,z]) h2 λb u=>Gp (T:=λz=>call (.type "range") [.int a t,.int b u,z]) h3 λc w=>Sd.Yw λhc=>Sd.of λG Q E kk=>
  call_range_3 (by lia) (kk _ _ _ ⟨_,rfl⟩ (nU G) (G.push rfl ⟨_,_,_,rfl⟩)<|mY.lO ..) (.inl<|PyProof.noPylong_small<|by omega))
theorem IF:PS C (.type "int") ZN:=rV λρ s st U U h1=>Gp (T:=λy=>call (.type "int") [y]) h1 λn t=>Sd.oM λG Q E kk=>call_int_int<|kk _ ⟨_,rfl⟩
theorem yu:PS C (.type "type") GB:=rV λρ s st U U h1=>Sd.Yx
 (Gp (T:=λy=>call (.type "type") [y]) h1 λn t=>Sd.oM λG Q E kk=>call_type_of (typeIs_int s _ t) (rfl)<|kk _ rfl)
 (vN (T:=λy=>call (.type "type") [y]) h1 λn t=>Sd.oM λG Q E kk=>call_type_of (fT s _ t) (rfl)<|kk _ rfl)
theorem bu:PS C (.builtin "isinstance") rx:=A9 λρ s st U U U z h1 h2=>vN (T:=λy=>call (.builtin "isinstance") [y,z]) h1 λn t=>N2 λe=>Sd.oM λG Q E kk=>by subst e;subst h2;exact IsiPair.str_str<|kk _ rfl
end
theorem fc(P)(v0 v1)(rest):(uS (m5 P) 124).map (λfd=>bindArgs fd ⟨v0::v1::rest,[]⟩)=some (newTuple rest>>=λt=>pure ([("self",v0),("node",v1),("predecessors",t)]:List<|Str×Value)):=by
 rcases rest with _|⟨x,r⟩
 .rfl'
 .rfl'
theorem gg(P)(v0)(rest):(uS (m5 P) 157).map (λfd=>bindArgs fd ⟨v0::rest,[]⟩)=some (newTuple rest>>=λt=>pure ([("self",v0),("nodes",t)]:List<|Str×Value)):=by
 rcases rest with _|⟨x,r⟩
 .rfl'
 .rfl'
theorem qj(v0 v1 v2):(List.all ([("self",v0),("node",v1),("predecessors",v2)]:List<|Str×Value) λx=>(mA 124).names.lookup x.1==some .local)=true:=by rfl'
theorem bw(v0 v1):(List.all ([("self",v0),("nodes",v1)]:List<|Str×Value) λx=>(mA 157).names.lookup x.1==some .local)=true:=by rfl'
def t1:List<|Addr×Str×Loc:=[(58,"addr",[]),(110,"self",[("graph",.none)]),(129,"self",[]),(136,"self",[]),(143,"self",[]),(164,"self",[]),(515,"self",[]),(797,"self",[]),(827,"self",[]),(834,"self",[]),(856,"self",[]),(863,"self",[]),(878,"s",[("comments",.bool false),("posix",.bool true)]),(885,"split_command",[]),(893,"s",[]),(903,"words",[]),(910,"line",[]),(915,"line",[]),(922,"line",[]),(934,"script",[]),(898,"script",[]),(927,"rows",[])]
def t2:List<|Addr×Str×Str×Loc:=[(73,"self","node",[]),(117,"self","node",[]),(197,"n","what",[]),(501,"self","initial_value",[("newline",.str "\n")]),(508,"self","s",[]),(677,"self","size",[])]
def N1:V->Value
 |.bool b=>.bool b
 |.str x=>.str x 962
 |_=>.none
def AR:V->Bool
 |.none|.bool _|.str _=>true
 |_=>false
theorem gu(h:AR v=true):VC ρ v<|N1 v:=by induction v<;>first|exact rfl|exact⟨_,rfl⟩|rcases h with _|_
def Pd(a:Addr)(x:Str):Bool:=(mA a).names.lookup x==some .local
def Uc(a:Addr)(vs:List V)(kv:List<|Str×V):Option Loc:=match kv with
 |[]=>(match vs with
  |[x]=>(t1.find? (·.1==a)).map λr=>(r.2.1,x)::r.2.2
  |[x,y]=>(t2.find? (·.1==a)).map λr=>(r.2.1,x)::(r.2.2.1,y)::r.2.2.2
  |_=>none)
 |[z]=>(match vs with
  |[x,y]=>if a=790/\z.1= "posix" then some [("self",x),("instream",y),("infile",.none),("posix",z.2),("punctuation_chars",.bool false)]else none
  |_=>none)
 |_=>none
theorem KO(P)(x):(t1.map λr=>(uS (m5 P) r.1).map λfd=>peek (m5 P) ⟨PG,P⟩<|bindArgs fd ⟨[x],[]⟩)=t1.map λr=>some<|some ((r.2.1,x)::r.2.2.map λd=>(d.1,N1 d.2)):=by rfl'
theorem IO(P)(x y):(t2.map λr=>(uS (m5 P) r.1).map λfd=>peek (m5 P) ⟨PG,P⟩<|bindArgs fd ⟨[x,y],[]⟩)=t2.map λr=>some<|some ((r.2.1,x)::(r.2.2.1,y)::r.2.2.2.map λd=>(d.1,N1 d.2)):=by rfl'
theorem gq(P)(x y z):(uS (m5 P) 790).map (λfd=>peek (m5 P) ⟨PG,P⟩<|bindArgs fd ⟨[x,y],[("posix",z)]⟩)=some (some ([("self",x),("instream",y),("infile",.none),("posix",z),("punctuation_chars",.bool false)]:List<|Str×Value)):=by rfl'
theorem OO:(t1.all λr=>wW.contains r.1&&Pd r.1 r.2.1&&r.2.2.all λd=>AR d.2&&Pd r.1 d.1)=true:=by rfl'
theorem OQ:(t2.all λr=>wW.contains r.1&&Pd r.1 r.2.1&&Pd r.1 r.2.2.1&&r.2.2.2.all λd=>AR d.2&&Pd r.1 d.1)=true:=by rfl'
theorem ai:((["self","instream","infile","posix","punctuation_chars"]:List Str).all<|Pd 790)=true:=by rfl'
theorem Tn(h:(l.all λd=>AR d.2&&Pd a d.1)=true):lH (KR ρ) l (l.map λd=>(d.1,N1 d.2))/\∀x∈l.map λd=>(d.1,N1 d.2),(mA a).names.lookup x.1=some .local:=by
 induction l with
 |nil=>exact⟨.nil,λU h=>absurd h<|bG⟩
 |cons d l ih=>
  simp only[iZ,aQ]at h;refine⟨.cons ⟨rfl,gu h.1.1⟩ (ih h.2).1,λx hx=>?_⟩;rcases aK.mp hx with e|hx
  .exact e▸(a5.mp h.1.2)
  .exact(ih h.2).2 x hx
inductive abu(w:World)(ρ:List Addr)(a:Addr)(loc:Loc)(xs:List Value)(ks:List<|Str×Value):Prop
 |mk (tab:wW.contains a=true) (bs:List<|Str×Value) (e:(uS (KF w) a).map (λfd=>peek (KF w) ⟨PG,w.params⟩<|bindArgs fd ⟨xs,ks⟩)=some (some bs)) (r:lH (KR ρ) loc bs) (l:∀x∈bs,(mA a).names.lookup x.1=some .local)
theorem wG{ρ:List Addr}{a:Addr}{vs:List V}{kv:List (Str×V)}{loc:Loc}{xs:List Value}{ks:List (Str×Value)}(hr:Uc a vs kv=some loc)(hv:lH (VC ρ) vs xs)(hk:lH (KR ρ) kv ks):abu w ρ a loc xs ks:=by
 exists w,ρ,a,vs,kv,loc,xs,ks,_;cases hk with
 |nil=>
  rcases hv with _|⟨h0,hv⟩
  .exact nn hr
  .rcases hv with _|⟨h1,hv⟩
   .obtain⟨r,e,rfl⟩:=a9.mp hr;have m:=j2 e;have ha:r.1=a:=by simpa using List.find?_some e
    subst ha;have q:=aX.mp OO r m;simp only[aQ]at q;have d:=Tn (ρ:=ρ) q.2;exact⟨q.1.1,_,gA.mp (KO w.params _) r m,.cons ⟨rfl,h0⟩ d.1,d9.mpr ⟨a5.mp q.1.2,d.2⟩⟩
   .induction hv with
    |nil=>
     obtain⟨r,e,rfl⟩:=a9.mp hr;have m:=j2 e;have ha:r.1=a:=by simpa using List.find?_some e
     subst ha;have q:=aX.mp OQ r m;simp only[aQ]at q;have d:=Tn (ρ:=ρ) q.2;exact⟨q.1.1.1,_,gA.mp (IO w.params _ _) r m,.cons ⟨rfl,h0⟩<|.cons ⟨rfl,h1⟩ d.1,d9.mpr ⟨a5.mp q.1.1.2,d9.mpr ⟨a5.mp q.1.2,d.2⟩⟩⟩
    |cons=>exact nn hr
 |@cons z b _ _ hz hk=>
  induction hk with
  |cons=>exact nn hr
  |nil=>
   rcases hv with _|⟨h0,hv⟩
   .exact nn hr
   .rcases hv with _|⟨h1,hv⟩
    .exact nn hr
    .induction hv with
     |cons=>exact nn hr
     |nil=>
      obtain⟨c,hr⟩:=Fd hr;obtain⟨rfl,ZO⟩:=c;obtain rfl:=aA<|(aH ⟨rfl,ZO⟩).symm.trans hr;obtain⟨b1,b2⟩:=b;obtain rfl:b1= "posix" :=hz.1.symm.trans ZO;exact⟨rfl,_,gq w.params _ _ _,.cons ⟨rfl,h0⟩<|.cons ⟨rfl,h1⟩<|.cons ⟨rfl,rfl⟩<|.cons ⟨rfl,hz.2⟩<|.cons ⟨rfl,rfl⟩ .nil,λx hx=>
       a5.mp (aX.mp ai x.1<|fL hx)⟩
theorem S5{α β:Type}(B:k7 k C){t:Sem α}{a:α}{b:β}{Rel:List Addr->β->α->Prop}(e:peek (KF C.w) ⟨PG,C.w.params⟩ t=some a)(h:Rel ρ b a):Sd C t Rel ρ s st<|some (.ok b,st):=
 Sd.oM λG Q E kk=>(cZ (B.K G) e).here<|kk a h
theorem pS(h:lH (KR ρ) l bs)(x):LR ρ (l.lookup x)<|bs.lookup x:=by
 induction h with
 |nil=>exact trivial
 |@cons pa pb la lb hh ht ih=>
  obtain⟨ak,av⟩:=pa;obtain⟨bk,bv⟩:=pb;obtain⟨h1,h2⟩:=hh;subst h1;rcases hx:(x==ak)with _|_
  .simp[List.lookup,hx];exact ih
  .simp[List.lookup,hx];exact h2
theorem pW(h:lH (KR ρ) l bs):lH (KR ρ) l.reverse bs.reverse:=by
 induction h with
 |nil=>exact .nil
 |cons hh _ ih=>simp[cY];exact ih.append<|.cons hh .nil
theorem y9{kindOf:Str->Option NameKind}:∀bs m x,(∀y∈bs,kindOf y.1=some .local)->bindL kindOf bs m x=((bs.reverse.lookup x).or<|m x):=by
 exists zr;induction zr with
 |nil=> intro m x _;rfl
 |cons zh r mB=>
  obtain⟨n,v⟩:=zh;intro m x h;dsimp only[bindL];rw[aH<|h (n,v)<|.head _,mB _ x λy hy=>h y<|.tail _ hy,cY];have app:∀l,(l++[(n,v)]).lookup x=(l.lookup x).or (if x=n then some v else none):=by
   exists l;induction l with
   |nil=>
    by_cases hx:x=n
    .obtain rfl:=hx.symm;simp
    .have hb:=a7.mpr hx;simp[List.lookup,hb,hx]
   |cons p q ih=>
    obtain⟨a,b⟩:=p;simp[kB,cP];rcases hb:x==a with _|_
    .exact ih
    .rfl
  rw[app];rcases r.reverse.lookup x with _|y
  .by_cases hx:x=n
   .simp[hx]
   .simp[hx]
  .rfl
theorem Dj{kindOf:Str->Option NameKind}:∀bs m x,(∀y∈bs,kindOf y.1=some .local)->bindC kindOf bs m x=m x:=by
 exists zr;induction zr with
 |nil=> intro m x _;exact rfl
 |cons zh r mB=> obtain⟨n,v⟩:=zh;intro m x h;dsimp only[bindC];exact(aH<|h (n,v)<|.head _)▸(mB m x λy hy=>h y<|.tail _ hy)
set_option tactic.hygienic true in
theorem w6:∀names n acc x,((x,NameKind.cell)∈names\/(acc.lookup x).isSome=true)->((cellsFrom n names acc).lookup x).isSome=true:=by
 intro zr;induction zr with
 |nil=>
  intro n acc x h;rcases h with h|h
  .cases h
  .exact h
 |cons zh r mB=>
  obtain⟨y,kd⟩:=zh;intro n acc x h;dsimp only[cellsFrom];split
  .rename_i hk;refine mB (n+1) _ x ?_;rcases h with h|h
   .rcases aK.mp h with e|h
    .injection e with q_;subst q_;right;simp
    .exact .inl h
   .right;simp[cP];split
    .rfl
    .exact h
  .rename_i hk;refine mB n acc x ?_;rcases h with h|h
   .rcases aK.mp h with e|h
    .obtain⟨rfl,rfl⟩:=bQ e;exact absurd rfl hk
    .exact .inl h
   .exact .inr h
set_option tactic.hygienic true in
theorem u7:∀names n acc x a,(x,a)∈cellsFrom n names acc->(x,NameKind.cell)∈names\/(x,a)∈acc:=by
 intro zr;induction zr with
 |nil=> intro n acc x a h;exact .inr h
 |cons zh r mB=>
  obtain⟨y,kd⟩:=zh;intro n acc x a h;dsimp only[cellsFrom]at h;split at h
  .rename_i hk;rcases mB (n+1) _ x a h with h'|h'
   .exact .inl (.tail _ h')
   .rcases aK.mp h' with e|h'
    .obtain⟨rfl,rfl⟩:=bQ e;exact(a5.mp hk)▸(.inl<|.head _)
    .exact .inr h'
  .rcases mB n acc x a h with h'|h'
   .exact .inl (.tail _ h')
   .exact .inr h'
theorem Fn{S:Bool->lR}{ρ:List Addr}{s:Shared}{st:St}(B:k7 (k+1) C)(L:∀h env,env.frame=some env.locals->env.scope.kind=.function->xD env->935<=env.locals->mN (C.into h ρ env))(OK:m4 k S){a:Addr}{fd:FuncData}{body:List Stmt}(F:xi C.w a fd body)(zT:fd.scope.names.all (λx=>x.2 !=.free&&fd.scope.names.lookup x.1==some x.2)=true)
 {xs:List Value}{ks:List (Str×Value)}{loc:Loc}{bs:List (Str×Value)}(hb:peek (KF C.w) ⟨PG,C.w.params⟩ (bindArgs fd ⟨xs,ks⟩)=some bs)(hl:lH (KR ρ) loc bs)(uL:∀x∈bs,fd.scope.names.lookup x.1=some .local):
 Cd C (.call (.ref a) ⟨xs,ks⟩) ρ s st (mV st<|mL<|nZ S fu false fd.scope body ⟨st.H,loc.reverse⟩):=by
 exists k,fu,C,S,ρ,s,st,a,fd,body,xs,ks,loc,bs,[B,L,OK,F,zT,hb,hl,uL];intro G;exists r,k6;intro e;exists o,(q8:F.obj);have T:=B.top.keep G.sim.keep B.hi;have X:=T.K;refine e9 (by have:=B.dp;exact((lk this):C.A.depth<1000)) (X _ _ q8.1) q8.2 F.co F.gen F.body (qO X F.code) ?_;refine(cZ X hb).here ?_;refine F.ZF▸?_;refine fC (aI s.toks) ?_;refine wpAny_newFunctionEnv_cells F.kind (λx hx=>.inl<|uL x hx) ?_;exists env;intro he;exists s';intro x;subst he;intro xX;refine⟨T.lim.keeps x.toInCall.keep,?_⟩;exists h',tk,(es:x.toInCall.same);subst es;simp only[aX,aQ,hV,a5]at zT;have mem:∀y b,(cellsFrom (s.heap.objs.size+1) fd.scope.names []).lookup y=some b->(y,b)∈cellsFrom (s.heap.objs.size+1) fd.scope.names []:=λy b q=>cF q;have kind:∀y b,(y,b)∈cellsFrom (s.heap.objs.size+1) fd.scope.names []->fd.scope.names.lookup y=some .cell:=λy b q=>by
  rcases u7 _ _ _ _ _ q with h|h
  .exact(zT (y,.cell) h).2
  .cases h
 have m2:=G.enter B x.toInCall.keep (cB<|aI _)
  ⟨_,x.toInCall.ns,λy hy=>by rw[y9 _ _ _ uL];have:=pS (pW hl) y;induction hq:bs.reverse.lookup y<;>simp only[hq]at this<;>exact this⟩ xX
  (λy b hy=>by
   have hm:=mem y b hy;have Fs:=x.above y b hm;refine⟨cB<|bS Fs,cX Fs,⟨none,?_,?_⟩,λz hz=>(name_of_addr x.apart hm<|mem z b hz).symm,λq=>?_⟩
   .have:=x.cell y b hy;rw[Dj _ _ _ uL]at this;exact this
   .have:=pS (pW hl) y;rcases hq:loc.reverse.lookup y with _|u
    .exact trivial
    .rw[hq]at this;rcases ZP:bs.reverse.lookup y with _|z
     .simp only[ZP]at this;exact this.elim
     .have:=uL (y,z)<|List.mem_reverse.mp<|cF ZP;replace this:=(kind y b hm)▸this;injection aA this
   .have q':fd.scope.names.lookup y=some .local:=q;replace q':=(kind y b hm)▸q';injection aA q')
  (λy hy q=>by
   rcases hy with hy|hy
   .have:=w6 fd.scope.names (s.heap.objs.size+1) [] y<|.inl<|cF hy;replace this:=q▸this;injection this
   .exact(zT (y,.free)<|cF hy).1 rfl) (sV T.K)
 exact S9 B L OK rfl F.kind rfl F.gl F.cd G (mY.to xX) m2 e
def oY(S:Bool->lR)(fu:Nat)(a:Addr)(loc:Loc)(H:Hp):Option<|oV V×Hp:=mL<|nZ S fu false (mA a) (lP a) ⟨H,loc.reverse⟩
def lB(S:Bool->lR)(fu:Nat)(a:Addr)(vs:List V)(kv:List<|Str×V)(H:Hp):Option<|oV V×Hp:=match Uc a vs kv with
 |some loc=>oY S fu a loc H
 |none=>none
theorem Go:(wW.all λa=>(mA a).names.all λx=>x.2 !=.free&&(mA a).names.lookup x.1==some x.2)=true:=by rfl'
theorem Nz{S:Bool->lR}{ρ:List Addr}{s:Shared}{st:St}(B:k7 (k+1) C)(L:∀h env,env.frame=some env.locals->env.scope.kind=.function->xD env->935<=env.locals->mN (C.into h ρ env))(OK:m4 k S){a:Addr}{vs:List V}{kv:List (Str×V)}{xs:List Value}{ks:List (Str×Value)}(hv:lH (VC ρ) vs xs)(hk:lH (KR ρ) kv ks):
 Cd C (.call (.ref a) ⟨xs,ks⟩) ρ s st (mV st<|lB S fu a vs kv st.H):=by
 unfold lB;rcases hr:Uc a vs kv with _|loc
 .exact λG r k6 e=>nn e
 .obtain⟨hc,bs,h1,h2,h3⟩:=wG hr hv hk;obtain⟨fd,q8⟩:=E2 hc;have vY:=aX.mp Go a (by simpa using hc);rw[q8.1]at h1;dsimp only[oY];rw[<-q8.2.2]at h3 vY⊢;exact Fn B L OK q8.2.1 vY (aA h1) h2 h3
theorem pN{S:Bool->lR}{ρ:List Addr}{s:Shared}{st:St}(B:k7 (k+1) C)(L:mN C)(OK:m4 k S){a:Addr}{vs:List V}{kv:List (Str×V)}{xs:List Value}{ks:List (Str×Value)}(hv:lH (VC ρ) vs xs)(hk:lH (KR ρ) kv ks):
 Cd C (.call (.ref a) ⟨xs,ks⟩) ρ s st (mV st<|lB S fu a vs kv st.H):=Nz B (λh env=>mN.into B L) OK hv hk
def zZ:List V->Bool
 |[]=>true
 |.str _::r=>zZ r
 |_=>false
theorem Yn(h:zZ xs=true)(hv:lH (VC ρ) xs ys):∀y∈ys,∃z t,y=.str z t:=by
 induction hv with
 |nil=>exact λU hy=>absurd hy<|bG
 |@cons v w xs ys c t ih=>
  intro y hy;induction v<;>first|(injection h;done)|skip
  rcases aK.mp hy with rfl|hy
  .obtain⟨u,rfl⟩:=c;exact⟨_,u,rfl⟩
  .exact ih h y hy
def ZQ:Prim:=a2 λd k=>vS (λx=>vR (λi H=>(dE H i).bind λes=>some (.ok<|(es.lookup x).getD .none,H)) d) k
def Vo:Prim:=a1<|vR λi H=>((dE H i).bind λU=>nw (.vals i) H).or<|(fE H i).bind λU=>nw (.vals i) H
def ry:Prim:=a2 λl k=>vS (λx=>vL (λU xs H=>if zZ xs=true then(sQ x xs).bind λn=>some (.ok<|.int n,H)else none) l) k
def ab5(x:Str):Value->Bool
 |.str y _=>y==x
 |_=>false
set_option tactic.hygienic true in
theorem Q6(h:lH (VC ρ) xs ys)(e:sQ x xs=some n):∃t,ys[n]?=some (.str x t)/\∀m,m<n->∃y t,ys[m]?=some (.str y t)/\y≠x:=by
 induction h generalizing n with
 |nil=>exact nn e
 |@cons v y xs ys h t ih=>
  induction v<;>first|exact nn e|skip
  rename_i z;obtain⟨u,rfl⟩:=h;dsimp only[sQ]at e;by_cases hz:z=x
  .replace e:=(aH hz)▸e;obtain rfl:=aA e;obtain rfl:=hz.symm;exact⟨u,rfl,λm hm=>absurd hm<|kN m⟩
  .replace e:=(aL hz)▸e;obtain⟨m,hm,rfl⟩:=a9.mp e;obtain⟨t',q8⟩:=ih hm;refine⟨t',q8.1,?_⟩;exists j;intro hj;rcases j with _|j
   .exact⟨z,u,rfl,hz⟩
   .exact q8.2 j (Nat.lt_of_succ_lt_succ hj)
theorem MQ:PS C (.builtin "dict.get") ZQ:=A9 λρ s st U U y U h1 h2=>vN (T:=λz=>call (.builtin "dict.get") [y,z]) h2 λx t=>wR (T:=λy=>call (.builtin "dict.get") [y,.str x t]) h1 λi a U uh=>Sd.sF λes hi=>Sd.plain λG Q E kk=>by obtain⟨a',oG,e,q8⟩:=G.dict (qH hi) uh;rcases e with _|_;refine kK F.slot_dict_get q8.2.1.typeIs F.entry_dict_get (F.args_dict_get_2 _ _) (meets_dict_get (strKind PG C.w) a (hZ PG C.w x t)<|G.notModules q8.1) ⟨_,q8.2.1.mapOf,kk _ 1 ?_⟩;have:=sU q8.2.2 x;rcases h3:es.lookup x with _|_<;>rcases h4:valueAt oG x with _|_<;>rw[h3,h4]at this<;>first|exact this.elim|exact rfl|exact this
theorem zg:PS C (.builtin "dict.values") Vo:=rV λρ s st U U h1=>wR (T:=λy=>call (.builtin "dict.values") [y]) h1 λi a ha uh=>Sd.Yx
 (Sd.sF λes hi=>Sd.of λG Q E kk=>by obtain⟨a',oG,e,_,hd,_⟩:=G.dict (qH hi) uh;cases e;exact kK iB hd.typeIs F.entry_dict_values (F.args_dict_values_1 _) (meets_dict_values (strKind PG C.w) a<|G.notModules ha) ⟨⟨oG,hd⟩,kk _ _ _ ⟨_,rfl⟩ (nU G) (G.push rfl ⟨a,_,mR ⟨_,rfl⟩ ha,rfl⟩)<|mY.lO ..⟩)
 (Sd.sF λq hi=>Sd.of λG Q E kk=>by obtain⟨a',oG,e,_,hd,_⟩:=G.lT (zO hi) uh;cases e;exact kK iB hd.dictOf.typeIs F.entry_dict_values (F.args_dict_values_1 _) (meets_dict_values (strKind PG C.w) a<|G.notModules ha) ⟨⟨oG,hd.dictOf⟩,kk _ _ _ ⟨_,rfl⟩ (nU G) (G.push rfl ⟨a,_,mR ⟨_,rfl⟩ ha,rfl⟩)<|mY.lO ..⟩)
theorem fm:PS C (.builtin "list.index") ry:=A9 λρ s st U U y U h1 h2=>vN (T:=λz=>call (.builtin "list.index") [y,z]) h2 λx t=>Ds (T:=λy=>call (.builtin "list.index") [y,.str x t]) h1 λi ys a ws m ha ho xW hz=>Sd.Yw λhs=>Sd.sF λn hn=>Sd.plain λG Q E kk=>by
 obtain⟨u,q9⟩:=Q6 xW hn;have sJ:n<ws.size:=by have:=(aU.mp q9.1).1;rwa[eS]at this
 have at_:∀m(hm:m<ws.size),ws.toList[m]?=some ws[m]:=λm hm=>by simp[bU]
 unfold big at hz;have hz:=(qD xW)▸hz;refine iC F.slot_list_index ⟨_,ho,rfl⟩ F.entry_list_index (F.args_list_index_2 _ _) (MeetsSeq.list_index a ws m (.str x t) (ab5 x) (λy hy=>?_) n sJ (by lia) ?_ λj hj hjn=>?_) ⟨ho,kk _ 1 ⟨_,rfl⟩⟩
 .obtain⟨z,v,rfl⟩:=Yn hs xW y (by simpa using hy);exact eqGives_str z x v t
 .exact(aA<|q9.1.symm.trans<|at_ n sJ)▸(bM x)
 .obtain⟨y,v,q8⟩:=q9.2 j hjn;exact(aA<|q8.1.symm.trans<|at_ j hj)▸(a7.mpr q8.2)
def rL(S:Bool->lR)(fu:Nat)(a:Addr)(vs:List V)(H:Hp):mM:=match vs with
 |[]=>none
 |v0::r=>if a=157 then(if r.length<1000 then oY S fu 157 [("self",v0),("nodes",.ref H.length)] (H++[.tuple r])else none)else if a=124 then(match r with
  |[]=>none
  |v1::r=>if r.length<1000 then oY S fu 124 [("self",v0),("node",v1),("predecessors",.ref H.length)] (H++[.tuple r])else none)else none
theorem O1(P):(([(124,"add"),(157,"done")]:List<|Addr×Str).all λp=>isFn (m5 P) (.ref p.1)&&specialIn (m5 P) (.ref p.1) "__get__" ==some (some<|.builtin "function.__get__")&&takesIn (m5 P) (.ref p.1)==some false&&!copiedNames.contains p.2&&
 findIn (m5 P) (.ref 174) p.2==some (some<|.ref p.1)&&plainGet (m5 P) 174 p.2&&hasDictIn (m5 P) 174&&fnIn (m5 P) p.1)=true:=by rfl'
def En(x:Str):Option Addr:=if x= "add" then some 124 else if x= "done" then some 157 else none
theorem Cd.nil:Cd C c ρ s st none:=λU U U e=>nn e
theorem Av{S:Bool->lR}(B:k7 (k+1) C)(L:mN C)(OK:m4 k S){a:Addr}(ha:wW.contains a=true)(E1:(mA a).names.all (λx=>x.2 !=.cell&&x.2 !=.free)=true){xs xr:List Value}{rest:List V}{f:Value->List (Str×Value)}{g:V->Loc}
 (hb:(uS (KF C.w) a).map (λfd=>bindArgs fd ⟨xs,[]⟩)=some (newTuple xr>>=λt=>pure<|f t))(hl:∀v,((f v).all λx=>(mA a).names.lookup x.1==some .local)=true)(hg:∀lI v w,ρ<+:lI->VC lI v w->lH (KR lI) (g v) (f w))(hv:lH (VC ρ) rest xr):
 Cd C (.call (.ref a) ⟨xs,[]⟩) ρ s st (mV st<|if rest.length<1000 then oY S fu a (g<|.ref st.H.length) (st.H++[.tuple rest])else none):=by
 by_cases hz:rest.length<1000;rotate_left
 .rw[aL hz];exact Cd.nil
 rw[aH hz];obtain⟨fd,q8⟩:=E2 ha;rw[q8.1]at hb;have key:=Ux (fu:=fu) (st:=st) (s:=s) (ρ:=ρ) B L OK q8.2.1 (q8.2.2▸E1) (xs:=xs) (ks:=[]) (ob:=(tT (.tuple rest) st).then λt st=>some (.ok<|g t,st))
  (by exact(aA hb:bindArgs fd ⟨xs,[]⟩=_)▸q8.2.2▸(Sd.bind (u4 hv hz) λlI s' k6 b v hp hbv=>Sd.pure ⟨hg lI b v hp hbv,λx hx=>a5.mp<|aX.mp (hl v) x hx⟩))
  (λc k6 q=>by rcases aA q with _|_)
 rw[q8.2.2]at key;exact key
theorem Qg{S:Bool->lR}(B:k7 (k+1) C)(L:mN C)(OK:m4 k S){a:Addr}{vs:List V}{xs:List Value}(hv:lH (VC ρ) vs xs):Cd C (.call (.ref a) ⟨xs,[]⟩) ρ s st<|mV st<|rL S fu a vs st.H:=by
 induction hv with
 |nil=>exact Cd.nil
 |@cons v0 x0 r xr h0 hv=>
  show Cd C _ ρ s st<|mV st<|if a=157 then _ else if a=124 then _ else none;by_cases e1:a=157
  .subst e1;exact Av B L OK (rfl) (by decide+kernel) (gg C.w.params x0 xr) (bw x0) (g:=λt=>[("self",v0),("nodes",t)]) (λlI v w hp hvw=>.cons ⟨rfl,h0.mono hp⟩<|.cons ⟨rfl,hvw⟩ .nil) hv
  rw[aL e1];by_cases e2:a=124
  .subst e2;induction hv with
   |nil=>exact Cd.nil
   |@cons v1 x1 r xr h1 hv=> exact Av B L OK (rfl) (by decide+kernel) (fc C.w.params x0 x1 xr) (qj x0 x1) (g:=λt=>[("self",v0),("node",v1),("predecessors",t)]) (λlI v w hp hvw=>.cons ⟨rfl,h0.mono hp⟩<|.cons ⟨rfl,h1.mono hp⟩<|.cons ⟨rfl,hvw⟩ .nil) hv
  .exact(aL e2)▸Cd.nil
set_option tactic.hygienic true in
theorem Pn{st:St}(B:k7 k C){x:Str}{f:Addr}(hx:En x=some f){i d:Nat}{es:List (Str×V)}{xs:List V}(hi:st.H[i]?=some (.inst 174 d xs))(hd:st.H[d]?=some (.dict es))(hl:es.lookup x=none){ov:Value}(hv:VC ρ (.ref i) ov):
 Sd C (getAttr ov x true) VC ρ s st (tT (.bound f<|.ref i) st):=by
 exists k,C,ρ,s,st,x,f,i,d,es,xs,ov,[B,hx,hi,hd,hl,hv];have hf:=aX.mp (O1 C.w.params) (f,x) (by
  unfold En at hx;split at hx
  .rename_i e;obtain rfl:=aA hx;exact e▸(.head _)
  .split at hx
   .rename_i e;obtain rfl:=aA hx;rw[e];exact .tail _<|.head _
   .exact nn hx)
 simp only[aQ,a5,dA]at hf;obtain⟨⟨⟨⟨⟨⟨⟨f1,f2⟩,f3⟩,f4⟩,f5⟩,f6⟩,f7⟩,f8⟩:=hf;refine Sd.of λG Q E kk=>?_;exists a,dx,ws,ds,n,(q_:G.inst hi hd hv);obtain⟨rfl,q8⟩:=q_;have hg:=y8 x q8.2.2.2.1;simp only[hl]at hg;refine get_bind (B.K G) q8.2.2.2.2.2.2 (plainGet_of f6).1 (findObj_fn f7 f5 f2 f3 f4<|hg) (plainGet_of f6).2 ?_;have G1:=G.tok 1;exact eJ<|fn_get (B.K G1) (a5.mp f1)<|handed_on rfl<|kk _ _ _ ⟨_,rfl⟩ (nU G1) (G1.push rfl ⟨.ref a,rfl,⟨a,mR ⟨_,rfl⟩ q8.1,rfl⟩⟩)<|mY.heap s _ 1
def ee:Expr->Option (Expr×Pos)
 |.Starred e p=>some (e,p)
 |_=>none
theorem Nq{q}(h:ee e=some q):e=.Starred q.1 q.2:=by revert h;rcases e with _|_<;>first|exact nn|(intro h;obtain rfl:=aA h;rfl)
def yJ(x:Str)(H:Hp)(v:V):Option Nat:=vR (λi H=>(iE H i).bind λq=>if q.1=174 then if q.2.2.2.lookup x=none then some i else none else none) v H
inductive Vd(x:Str)(H:Hp):V->Nat->Prop
 |mk (i d:Nat) (xs:List V) (es:List<|Str×V) (h1:H[i]?=some (.inst 174 d xs)) (h2:H[d]?=some (.dict es)) (h3:es.lookup x=none):Vd x H (.ref i) i
theorem Mj(h:yJ x H v=some i):Vd x H v i:=by obtain⟨i,rfl,h⟩:=B8 h;obtain⟨q,h1,h⟩:=aB.mp h;obtain⟨hA,h⟩:=Fd h;obtain⟨hl,h⟩:=Fd h;obtain rfl:=aA h;have h1:=x7 h1;exact .mk i q.2.1 q.2.2.1 q.2.2.2 (hA▸h1.1) h1.2 hl
def DY(H:Hp)(v:V):Option<|Nat×List V:=vR (λj H=>(lE H j).map λys=>(j,ys)) v H
def boE(H:Hp)(i:Nat):Option<|Addr×V:=(H[i]?).bind λo=>match o with
 |.bound f v=>some (f,v)
 |_=>none
theorem aq{i:Nat}{q}(h:boE H i=some q):H[i]?=some (.bound q.1 q.2):=by obtain⟨o,h1,h⟩:=aB.mp h;refine a6 h1 ?_;induction o<;>first|exact nn h|exact aV (λx=>some<|AO.bound x.1 x.2)<|aA h
def YN(H:Hp)(v:V):Option<|Nat×Addr×V:=vR (λj H=>(boE H j).map λq=>(j,q)) v H
theorem Mx{q}(h:DY H v=some q):v=.ref q.1/\H[q.1]?=some (.list q.2):=by obtain⟨j,rfl,h⟩:=B8 h;obtain⟨ys,h1,rfl⟩:=a9.mp h;exact⟨rfl,nS h1⟩
theorem gh{q}(h:YN H v=some q):v=.ref q.1/\H[q.1]?=some (.bound q.2.1 q.2.2):=by obtain⟨j,rfl,h⟩:=B8 h;obtain⟨ys,h1,rfl⟩:=a9.mp h;exact⟨rfl,aq h1⟩
def FP(Q:lR)(S:Bool->lR)(fu:Nat)(sc:Scope)(e:Expr)(st:St):lG V:=(Ap e).bind λc=>(u3 c.1).bind λq=>(H9 c.2.1).bind λa=>(ee a).bind λz=>if c.2.2.1.isEmpty&&t9 q.1 then
 (mU Q sc q.1 st).then λv st=>(yJ q.2.1 st.H v).bind λi=>(En q.2.1).bind λf=>(tT (.bound f<|.ref i) st).then λb st=>(mU Q sc z.1 st).then λa st=>
  (DY st.H a).bind λl=>(YN st.H b).bind λm=>if l.2.length<big/\(m.2.1=124\/m.2.1=157)then mV st (rL S fu m.2.1 (m.2.2::l.2) st.H)else none else none
theorem O2(P):(fnIn (m5 P) 124&&fnIn (m5 P) 157)=true:=by rfl'
theorem Mc{S:Bool->lR}{ρ:List Addr}{s:Shared}{st:St}{Q:lR}(B:k7 (k+1) C)(L:mN C)(OK:m4 k S)(O:lV C Q){e:Expr}{sp p:Pos}{b:V}{bv:Value}(hb:VC ρ b bv):
 Sd C (callWith p bv [] (backTo p<|starEach [.Starred e sp] C.env) []) VC ρ s st ((mU Q C.env.scope e st).then λa st=>(DY st.H a).bind λl=>(YN st.H b).bind λm=>if l.2.length<big/\(m.2.1=124\/m.2.1=157)then mV st (rL S fu m.2.1 (m.2.2::l.2) st.H)else none):=by
 exists k,fu,C,S,ρ,s,st,Q,e,sp,p,b,bv,[B,L,OK,O,hb];refine Sd.qe ?_;intro G;exists r,k6;intro ef;exists Q',E;intro kQ kE;refine(rfl:starEach [.Starred e sp] C.env=[(true,eval e C.env)])▸?_;obtain⟨c,h1,rfl⟩|⟨a,m7,h1,ef⟩:=m9 ef
 .exact ks_call (P:=λU=>False) rfl (λh q=>q.elim) (ks_lone<|(mE O e st ρ s).ex G h1 λx mQ lI p X g n=>kE _ _ ⟨c,lI,rfl,p,X,g,n⟩)
 exists a,m7,[h1,ef];exists _;exists g9,_;obtain⟨⟨j,ys⟩,hj,e1⟩:=aB.mp ef;exists j,ys,_;obtain⟨⟨l,f',v'⟩,ZR,e2⟩:=aB.mp e1;exists l,f',v',_;clear ef e1;obtain⟨rfl,hj2⟩:=Mx hj;obtain⟨rfl,hl2⟩:=gh ZR;by_cases hz:ys.length<big/\(f'=124\/f'=157);refine k9 ?_;rotate_left
 .injection(aL hz).symm.trans e2
 exists qa,(q_:hb);obtain⟨hqa,rfl⟩:=q_;have hfn:fnIn (KF C.w) f'=true:=by
  have:=O2 C.w.params;simp only[aQ]at this;rcases hz.2 with rfl|rfl
  .exact this.1
  .exact this.2
 refine ks_call (P:=λh=>∃self,MethP (KF C.w) qa f' self h) rfl (λh q9=>by exists self,(X:q9);exact keeps_M hfn h X)<|ks_lone<|(mE O e st ρ s).ok G h1 ?_;exists y,mO,nF;intro oN ha oA tA;exists la,ws,n,(q_:oA.list hj2 ha);obtain⟨rfl,q8⟩:=q_;refine aD<|jC ⟨_,q8.2.1,rfl⟩ PySem.F.slot_list_iter.lookup<|aM ⟨rfl,?_⟩;refine wpAny_collect_seq la (.inl rfl) q8.2.1 rfl rfl (λh' hk=>?_)<|Dq q8.2.2 hz.1;exists h',_;have Kr:=oA.ext hk 0;exists om,(q_:Kr.sim.obj l qa _ (mR oN hqa) hl2);obtain⟨ZS,y,rfl,K1⟩:=q_;refine⟨⟨y,ZS,B.K Kr⟩,eJ<|method_call ZS ?_⟩;refine dP (Qg B L OK (.cons K1 q8.2.2) Kr r k6<|(aH hz).symm.trans e2) ?_;exists r',xU;intro P;have nn:=tA.trans<|mY.lO mO h';rcases r' with x|fl
 .obtain⟨b,lI,e,p,q,g,m⟩:=P;exact kE _ _ ⟨b,lI,e,oN.trans p,q,g,nn.trans m⟩
 .induction fl with
  |ret v=>obtain⟨b,lI,e,p,q,g,m⟩:=P;exact kQ _ _ ⟨b,lI,e,oN.trans p,q,g,nn.trans m⟩
  |_=>exact P
theorem BZ{S:Bool->lR}{ρ:List Addr}{s:Shared}{st:St}{Q:lR}(B:k7 (k+1) C)(L:mN C)(OK:m4 k S)(O:lV C Q)(e):Sd C (eval e C.env) VC ρ s st<|FP Q S fu C.env.scope e st:=by
 exists k,fu,C,S,ρ,s,st,Q,e,[B,L,OK,O];refine Sd.m3 λc h0=>vK h0▸?_;clear h0;obtain⟨f,as,ks,p⟩:=c;dsimp only;refine Sd.m3 λq h1=>Sd.m3 λa h2=>Sd.m3 λz h3=>Sd.iff λhs=>?_;obtain rfl:=sO h1;obtain rfl:=pY h2;obtain rfl:=Nq h3;obtain⟨o,q8⟩:=q;rw[aQ,cI]at hs;obtain⟨rfl,hs⟩:=hs;show Sd C (do
  let ov<-attributeBase o q8.1 C.env (eval o C.env)
  standAt q8.2.atName
  let(f,first)<-holding [ov] (do pure (<-getAttr ov q8.1 true,[]))
  callWith p f first (backTo p<|starEach [.Starred z.1 z.2] C.env) []) _ _ _ _ _
 simp only[mZ hs];refine Sd.bind (mE O o _ ρ s) λmF lD mS v ov pZ hv=>Sd.standAt<|Sd.m3 λi h4=>Sd.m3 λf hx=>Sd.uJ<|Sd.assoc ?_;exists _;obtain⟨i,d,xs,es,hi,hd,hl⟩:=Mj h4;exact k9<|Sd.bind (Pn B hx hi hd hl hv) λmD mQ pA b bv nM hb=>Mc B L OK O hb
section
theorem k7.le(B:k7 k C)(h:k'<=k):k7 k' C:=⟨B.top,B.hi,B.live,by have:=B.dp;exact lk<|aC this h,by have:=B.un;lia,B.fn,B.gl⟩
theorem be(P)(v0)(rest):(uS (m5 P) 224).map (λfd=>bindArgs fd ⟨v0::rest,[]⟩)=some (newTuple rest>>=λt=>alloc {cls:=.type "dict",data:=.dict #[]}>>=λd=>pure ([("cls",v0),("args",t),("kwargs",.ref d)]:List<|Str×Value)):=by
 rcases rest with _|⟨x,r⟩
 .rfl'
 .rfl'
theorem cw(v0 v1 v2):(List.all ([("cls",v0),("args",v1),("kwargs",v2)]:List<|Str×Value) λx=>(mA 224).names.lookup x.1==some .local)=true:=by rfl'
theorem NY(P):peek (m5 P) ⟨PG,P⟩ (compareOp .IsNot (.ref 731)<|.ref 484)=some (.bool true):=by rfl'
theorem LX(P):peek (m5 P) ⟨PG,P⟩ (compareOp .IsNot (.ref 731)<|.ref 731)=some (.bool false):=by rfl'
def PP(op:CmpOp)(a b:V):Option V:=if op=.IsNot/\a=.top 731 then(if b=.top 484 then some (.bool true)else if b=.top 731 then some (.bool false)else none)else none
def fg(v:V)(x:Str):Option<|V×List V:=if v=.ty "object" /\x= "__new__" then some (.bi "object.__new__",[])else none
def Hi(f:V)(vs:List V)(H:Hp):mM:=if f=.bi "object.__new__" /\vs=[.top 731]then some (.ok<|.ref<|H.length+1,H++[.dict [],.inst 731 H.length []])else none
theorem yl(P):findCls (m5 P) (.type "object") (.type "type") "__new__" =some (.val<|.builtin "object.__new__"):=by rfl'
theorem P1:handedIn (.builtin "object.__new__")=true:=by decide+kernel
theorem JC:typeOf (.type "object")=pure (.type "type"):=by rfl'
theorem nq:Manifest.isStub "object" =false:=by decide+kernel
theorem zo(B:k7 k C)(ha:VC ρ a x)(hb:VC ρ b y):Sd C (compareOp op x y) VC ρ s st<|pE st<|PP op a b:=by
 refine xF rfl λh=>?_;obtain⟨rfl,rfl⟩:=h;subst ha;by_cases e:b=.top 484
 .rw[aH e];subst e;subst hb;exact S5 B (NY _) rfl
 .rw[aL e];refine xF rfl λe=>?_;subst e;subst hb;exact S5 B (LX _) rfl
theorem Z3(B:k7 k C)(hv:VC ρ v ov):Sd C (getMethod ov x pl) (λρ f g=>VC ρ f.1 g.1/\lH (VC ρ) f.2 g.2) ρ s st<|pE st<|fg v x:=by
 refine xF rfl λh=>?_;obtain⟨rfl,rfl⟩:=h;obtain rfl:=hv.symm;refine Sd.plain λG Q E kk=>?_;obtain⟨m,q8⟩:=G.fr.ns;have ac0:=wE (B.K G) (λa o e=>bJ (q6 e).1 G.fr.lo) (by
  rcases q:(KF C.w).lookup C.env.locals with _|o
  .rfl
  .have:=B.top.K _ _ q;replace this:=G.fr.none▸this;rcases this with _|_)
 refine method_type (T:= "object") (v:=.builtin "object.__new__") (rX q8.1) ac0 ?_ ?_ ?_ ?_ ?_
 .exact JC
 .exact nq
 .exact yl C.w.params
 .exact P1
 .exact kk _ 1 ⟨rfl,.nil⟩
theorem li{st:St}(B:k7 k C){f:V}{fv:Value}{vs:List V}{xs:List Value}(hf:VC ρ f fv)(hv:lH (VC ρ) vs xs):Sd C (call fv xs) VC ρ s st<|mV st<|Hi f vs st.H:=by
 refine xF rfl λh=>?_;obtain⟨rfl,rfl⟩:=h;subst hf;obtain⟨y,rfl,rfl⟩:=fq hv;refine Sd.of λG Q E kk=>?_;obtain⟨hp,q8⟩:=s;have hx:VC ((ρ++[hp.objs.size])++[hp.objs.size+1]) (.ref<|st.H.length+1)<|.ref<|hp.objs.size+1:=by refine⟨_,?_,rfl⟩;rw[<-G.len,aS<|by simp];simp
 exact eJ<|LH (B.K G)<|kk _ _ _ ⟨[hp.objs.size,hp.objs.size+1],by simp⟩ hx (G.ZI)<|mY.lO ..
end
def Ie(D:Addr):Option Addr:=if D=77 then some 73 else if D=174 then some 110 else if D=866 then some 790 else none
theorem je(P):(([(77,73),(174,110),(866,790)]:List<|Addr×Addr).all λp=>makesIn (m5 P) p.1&&findIn (m5 P) (.ref p.1) "__init__" ==some (some<|.ref p.2)&&typeIn (m5 P) (.ref p.2)==some (.type "function"))=true:=by rfl'
def Hh(n:Nat)(o:mM):mM:=o.bind λq=>(Eh n q.1).bind λu=>some (u,q.2)
def mkV(S:Bool->lR)(fu:Nat)(D:Addr)(vs:List V)(kv:List<|Str×V)(H:Hp):mM:=(Ie D).bind λf=>Hh (H.length+1)<|lB S fu f (.ref (H.length+1)::vs) kv<|H++[.dict [],.inst D H.length []]
def XR:AO->Option (Addr×Nat×List V)
 |.inst D d xs=>some (D,d,xs)
 |_=>none
def acB(S:Bool->lR)(fu:Nat)(x:V)(H:Hp):oV V->mM
 |.ok v=>vR (λi H=>(H[i]?).bind λo=>(XR o).bind λq=>if q.1=731/\q.2.2=[]then Hh i (lB S fu 501 [.ref i,x] [] H)else none) v H
 |.exc c=>some (.exc c,H)
def mkS(S:Bool->lR)(fu:Nat)(x:V)(H:Hp):mM:=(oY S fu 224 [("cls",.top 731),("args",.ref H.length),("kwargs",.ref<|H.length+1)]<|H++[.tuple [x]]++[.dict []]).bind λq=>acB S fu x q.2 q.1
theorem Z1{D:Addr}:mV st (Hh (st.H.length+1) o)=Ks st (mV (Nl D st) o):=by
 rcases o with _|⟨q,H⟩
 .rfl
 .show mV st ((Eh _ q).bind _)=(Eh _ q).bind _;rcases Eh (st.H.length+1) q with _|u<;>rfl
theorem LV{S:Bool->lR}{ρ:List Addr}{s:Shared}{st:St}(B:k7 (k+2) C)(L:mN C)(OK:m4 k S){D:Addr}{vs:List V}{kv:List (Str×V)}{xs:List Value}{ks:List (Str×Value)}(hv:lH (VC ρ) vs xs)(hk:lH (KR ρ) kv ks):
 Cd C (.call (.ref D) ⟨xs,ks⟩) ρ s st (mV st<|mkV S fu D vs kv st.H):=by
 unfold mkV;rcases hi:Ie D with _|f
 .exact λG r k6 e=>nn e
 .have hm:=aX.mp (je C.w.params) (D,f) (by
   unfold Ie at hi;by_cases a:D=77
   .subst a;obtain rfl:=aA hi;exact .head _
   by_cases b:D=174
   .subst b;obtain rfl:=aA hi;exact .tail _<|.head _
   by_cases c:D=866
   .subst c;obtain rfl:=aA hi;exact .tail _<|.tail _<|.head _
   rw[aL a,aL b,aL c]at hi;exact nn hi)
  simp only[aQ,a5]at hm;obtain⟨⟨h1,h2⟩,h3⟩:=hm;show Cd C _ ρ s st<|mV st<|Hh _ _;rw[Z1];exact wa (B.le<|dM _) h1 h2 h3 λlI s' x hp hx=>pN (k7.under B) L.under OK (.cons hx<|hv.mono hp)<|KR.mono hp hk
theorem kZ.under{D:Addr}(G:kZ C ρ st s):kZ (C.under D vs kw) ρ st s:=⟨G.sim,G.fr,G.tk⟩
theorem kZ.Kt{D:Addr}(G:kZ (C.under D vs kw) ρ st s):kZ C ρ st s:=⟨G.sim,G.fr,G.tk⟩
set_option tactic.hygienic true in
theorem MB{S:Bool->lR}{ρ:List Addr}{s:Shared}{st:St}(B:k7 (k+2) C)(L:mN C)(OK:m4 k S){v:V}{x:Value}(hv:VC ρ v x):Cd C (.call (.ref 731) ⟨[x],[]⟩) ρ s st<|mV st<|mkS S fu v st.H:=by
 exists k,fu,C,S,ρ,s,st,v,x,[B,L,OK,hv];intro G;exists r,k6;intro e;have B1:k7 (k+1)<|C.under 731 [x] []:=k7.under (k:=k+1) B;obtain⟨fd,q9⟩:=E2 (w:=C.w) (a:=224) (by decide);have hb:=be C.w.params (.ref 731) [x];rw[show uS (m5 C.w.params) 224=some fd from q9.1]at hb;have key:=Ux (fu:=fu) (C:=C.under 731 [x] []) (st:=st) (s:={s with toks:=s.toks+1}) (ρ:=ρ) (S:=S) B1 L.under OK q9.2.1 (by rw[q9.2.2];decide+kernel) (xs:=.ref 731::[x]) (ks:=[])
  (ob:=(tT (.tuple [v]) st).then λt st=>(tT (.dict []) st).then λd st=>some (.ok [("cls",.top 731),("args",t),("kwargs",d)],st))
  (by rw[(aA hb:bindArgs fd ⟨.ref 731::[x],[]⟩=_)];refine Sd.bind (u4 (.cons hv .nil) (by show 1<1000;decide)) λlI s' k6 b t hp hbt=>?_;refine Sd.bind (Rel:=λρ v a=>VC ρ v<|.ref a) (Sd.of λG Q E kk=>wpAny_alloc<|kk _ _ _ ⟨_,rfl⟩ (nU G) (G.push rfl ⟨#[],0,rfl,.nil,by simp⟩)<|mY.lO ..) λAr zN uU d a rE hd=>?_;refine Sd.pure ⟨.cons ⟨rfl,rfl⟩<|.cons ⟨rfl,hbt.mono rE⟩<|.cons ⟨rfl,hd⟩ .nil,λz hz=>?_⟩;have:=aX.mp (cw (.ref 731) t<|.ref a) z hz;exact q9.2.2▸(a5.mp this))
  (λc k6 q=>by cases q)
 replace key:=q9.2.2▸key;have Yy:((((tT (.tuple [v]) st).then λt st=>(tT (.dict []) st).then λd st=>some (oV.ok ([("cls",.top 731),("args",t),("kwargs",d)]:Loc),st)):lG Loc).then λloc st=>mV st<|mL<|nZ S fu false (mA 224) (lP 224) ⟨st.H,loc.reverse⟩)=
  mV (⟨st.H++[.tuple [v]]++[.dict []],st.loc⟩:St) (oY S fu 224 [("cls",.top 731),("args",.ref st.H.length),("kwargs",.ref<|st.H.length+1)]<|st.H++[.tuple [v]]++[.dict []]):=by
  unfold oY tT;simp only[lG.then,aG,bA,fW]
 simp only[Yy]at key;have G1:kZ (C.under 731 [x] []) ρ st {s with toks:=s.toks+1}:=(G.tok 1).under;obtain⟨⟨r0,H0⟩,e0,er⟩:=a9.mp<|show(mkS S fu v st.H).map (λq=>(q.1,⟨q.2,st.loc⟩))=some (r,k6)from e;obtain⟨rfl,rfl⟩:=bQ er;clear e;obtain⟨⟨q,H1⟩,h1,e⟩:=aB.mp e0;refine CF (B.K G) ?_;rw[h1]at key;refine dP (key G1 q ⟨H1,st.loc⟩ rfl) λr' s' P=>?_;rcases r' with z|f
 .obtain⟨c,lI,e',rE,X',G',n'⟩:=P;subst e';obtain⟨rfl,rfl⟩:=bQ<|aA e;exact⟨c,lI,rfl,rE,⟨X'.ex⟩,G'.Kt,⟨n'.os,n'.dr,f9 n'.tk,n'.gn⟩⟩
 induction f with
 |ret y=>
  obtain⟨b,lI,e',rE,K1,G',n'⟩:=P;subst e';induction b<;>first|exact nn e|skip
  rename_i i;obtain⟨o,hi,e2⟩:=aB.mp e;clear e;obtain⟨q,hq,e⟩:=aB.mp e2;clear e2;induction o<;>first|exact nn hq|skip
  rename_i D d vs;obtain rfl:=aA hq;by_cases hD:D=731/\vs=[];rotate_left
  .exact nn ((aL hD).symm.trans e)
  replace e:=(aH hD).symm.trans e;obtain⟨rfl,rfl⟩:=hD;obtain⟨a,ha,rfl⟩:=K1;obtain⟨o,ho,dx,vs,hdx,rfl,Bx⟩:=G'.sim.obj i a _ ha hi;obtain rfl:=cC.mp Bx.length.symm;refine⟨a,dx,rfl,ho,B1.K G',?_⟩;obtain⟨⟨q2,H2⟩,h2,e⟩:=aB.mp e;obtain⟨u,h3,e⟩:=aB.mp e;obtain⟨rfl,rfl⟩:=bQ<|aA e;have init:=pN (fu:=fu) (s:=s') (st:=⟨H1,st.loc⟩) B1 L.under OK (a:=501) (vs:=[.ref i,v]) (.cons ⟨a,ha,rfl⟩<|.cons (hv.mono rE) .nil) .nil;rw[h2]at init;refine dP (init G' q2 ⟨H2,st.loc⟩ rfl) λr2 s2 P2=>?_;rcases r2 with z|f2
  .obtain⟨c,ρ2,e',FT,X2,G2,n2⟩:=P2;subst e';obtain rfl:=aA h3;have n3:=n'.trans n2;exact⟨c,ρ2,rfl,rE.trans FT,⟨X2.ex⟩,G2.Kt,⟨n3.os,n3.dr,f9 n3.tk,n3.gn⟩⟩
  induction f2 with
  |ret y2=> obtain⟨b2,ρ2,e',FT,ac2,G2,n2⟩:=P2;subst e';obtain⟨rfl,rfl⟩:=Ny h3;subst ac2;have n3:=n'.trans n2;exact⟨rfl,.ref i,ρ2,rfl,rE.trans FT,⟨a,mR FT ha,rfl⟩,G2.Kt,⟨n3.os,n3.dr,f9 n3.tk,n3.gn⟩⟩
  |_=>exact P2
 |_=>exact P
open Builtin.Str in
theorem BO{x y z:Str}{t u v:Tok}{Q:Value->Shared->Prop}{E:Value->Shared->Prop}(hu:u≠0)(hv:v≠0)(huv:u≠v)(hyz:(y==z)=false)(hb:x.length+(x.length+1)*z.length<=16777216)
 (kk:∀w n,VC ρ (.str<|Txt.replace x y z) w->Q w {s with toks:=s.toks+n}):wpAny (model PG C.w) C.A (call (.builtin "str.replace") [.str x t,.str y u,.str z v]) Q E s:=by
 have hl:tooLong (x.length+(occurrences x y 0 x.length<|x.length+1).length*z.length)=false:=by have h2:(occurrences x y 0 x.length<|x.length+1).length*z.length<=(x.length+1)*z.length:=Nat.mul_le_mul_right _<|StrLaws.occ_length_le x y 0 x.length<|x.length+1;delta tooLong sizeLine;exact cQ<|by omega
 refine call_gives jT (fT _ _ _) F.entry_str_replace (F.args_str_replace_3 _ _ _)
  (gives_str_replace x y z t u v λU=>⟨by simp[hu,hv],by simp[huv],hyz,hl⟩) ?_
 unfold Txt.replace at kk;rcases hc:((occurrences x y 0 x.length<|x.length+1).isEmpty||(y.length==0&&z.length==0))with _|_
 .rw[hc]at kk;exact⟨fits_replaced y hb,kk _ 1 ⟨_,rfl⟩⟩
 .rw[hc]at kk;have:=kk (.str x t) 0 ⟨t,rfl⟩;exact this
def rN:List V->Option (List Str)
 |[]=>some []
 |.str x::r=>(rN r).map (x:: ·)
 |_=>none
set_option tactic.hygienic true in
theorem zU(h:lH (VC ρ) xs ys)(e:rN xs=some ts):∃l:List<|Str×Tok,ys=strValues l/\l.map (·.1)=ts:=by
 induction h generalizing ts with
 |nil=>obtain rfl:=aA e;exact⟨[],rfl,rfl⟩
 |@cons v y xs ys h t ih=>
  induction v<;>first|exact nn e|skip
  rename_i z;obtain⟨u,rfl⟩:=h;obtain⟨ts',e',rfl⟩:=a9.mp e;obtain⟨l,rfl,rfl⟩:=ih e';exact⟨(z,u)::l,rfl,rfl⟩
theorem Rs:∀l,((Txt.join sep<|l.map (·.1)).length<=sizeLine/\∀t' n,Q (.str (Txt.join sep<|l.map (·.1)) t') {s with toks:=s.toks+n})->(joinMade sep l).post Q s
 |[],h=>⟨h.1,h.2 _ 1⟩
 |[p],h=>h.2 p.2 0
 |_::_::_,h=>⟨h.1,h.2 _ 1⟩
theorem wk(hi:st.H[i]?=some (.list xs))(ht:rN xs=some ts)(sd:JoinOk x ts=true)(hv:VC ρ (.ref i) y):
 Sd C (call (.builtin "str.join") [.str x t,y]) VC ρ s st (some (.ok<|.str<|Txt.join x ts,st)):=by
 refine Sd.plain λG Q E kk=>?_;exists _;obtain⟨a,ws,n,rfl,q8⟩:=G.list hi hv;obtain⟨l,hl,rfl⟩:=zU q8.2.2 ht;have e:ws=(strValues l).toArray:=by rw[<-hl]
 subst e;unfold JoinOk at sd;simp only[dA]at sd;exact k9<|iC F.slot_str_join (fT _ _ _) F.entry_str_join (F.args_str_join_2 _ _) (meets_str_join_list x t a l sd) ⟨⟨_,q8.2.1,rfl,n,rfl⟩,Rs l ⟨joinFit_length sd,λt' m=>kk _ m ⟨t',rfl⟩⟩⟩
def two{α:Type}:List α->Option (α×α)
 |[]=>none
 |a::r=>(H9 r).map λb=>(a,b)
theorem dk{α:Type}{l:List α}{q}(h:two l=some q):l=[q.1,q.2]:=by
 rcases l with _|⟨a,r⟩
 .rcases h with _|_
 .obtain⟨b,hb,rfl⟩:=a9.mp h;exact(pY hb)▸rfl
def ke(Q:lR)(sc:Scope)(e:Expr)(st:St):lG V:=(Ap e).bind λc=>(u3 c.1).bind λq=>(two c.2.1).bind λab=>(Yh ab.1).bind λa=>(Yh ab.2).bind λb=>if c.2.2.1.isEmpty&&(t9 q.1&&((q.2.1== "replace")&&(q.2.2.endLine==c.2.2.2.line)))then
 (mU Q sc q.1 st).then λv st=>mV st (vS (λz H=>gv ((a.1==b.1)=false/\z.length+(z.length+1)*b.1.length<=16777216) (.str<|Txt.replace z a.1 b.1) H) v st.H)else none
theorem Wd(h:Q ⟨[.str a s.toks,.str b<|s.toks+1],[]⟩ {s with toks:=s.toks+1+1}):
 wpAny (model PG w) A (evalArgs f true (backTo p<|starEach [.Constant (.str a) k1 p1,.Constant (.str b) k2 p2] env) []) Q E s:=λΓ q U=>h
theorem Az{id:String}(uK:args.any (·.1)=false)
 (h:wpAny (model PG w) A (evalArgs (.builtin id) true args []) (λa lD=>wpAny (model PG w) A (call (.builtin id) (first++a.pos) a.kw) Q E lD) E s):wpAny (model PG w) A (callWith pos (.builtin id) first args []) Q E s:=by refine aD<|cL<|bL h (λa lD sI=>aD<|dK ?_) λU U x=>x;rw[uK,List.any_nil,Bool.or_false];exact aD<|aM<|aD<|bL sI (λr mQ hr=>aD<|cL<|wpAny_point<|aM hr) λU U x=>x
theorem X7(o)(ap p)(env)(ov)(a b)(k1 k2)(p1 p2)(hl:(ap.endLine==p.line)=true):
 methodCall o "replace" ap p env ov 2 (backTo p<|starEach [.Constant (.str a) k1 p1,.Constant (.str b) k2 p2] env) (backToKw p<|keywordEach [] env)=
  (holding [ov] (getMethod ov "replace"<|do return (<-importBound o env).getD true)>>=λf=>callWith p f.1 f.2 (backTo p<|starEach [.Constant (.str a) k1 p1,.Constant (.str b) k2 p2] env) []):=by
 dsimp only[methodCall,methodCallPos];rw[(by rfl:methodCallForm 2 (backTo p<|starEach [.Constant (.str a) k1 p1,.Constant (.str b) k2 p2] env) (backToKw p<|keywordEach [] env)=true),hl];rfl
theorem uy(hl:(ap.endLine==p.line)=true)(xX:s.toks≠0)(Fs:(a==b)=false)(hz:z.length+(z.length+1)*b.length<=16777216)
 (kk:∀y n,VC [] (.str<|Txt.replace z a b) y->Q y {s with toks:=s.toks+1+1+n}):
  wpAny (model PG w) A (methodCall o "replace" ap p env (.str z t) 2 (backTo p<|starEach [.Constant (.str a) k1 p1,.Constant (.str b) k2 p2] env)<|backToKw p<|keywordEach [] env) Q E s:=by
  rw[X7 _ _ _ _ _ _ _ _ _ _ _ hl];exact aD<|cL<|iN (fT s z t) kA jT F.type_str_replace (λa e=>by injection e)<|Az rfl<|Wd<|BO (C:=⟨w,A,env,{},[]⟩) xX (Nat.succ_ne_zero _) (bI<|dX _) Fs hz kk
theorem U8(B:k7 k C)(O:lV C Q)(e):Sd C (eval e C.env) VC ρ s st<|ke Q C.env.scope e st:=by
 refine Sd.m3 λc h0=>vK h0▸?_;clear h0;obtain⟨f,as,ks,p⟩:=c;dsimp only;refine Sd.m3 λq h1=>Sd.m3 λab h2=>Sd.m3 λa h3=>Sd.m3 λb h4=>Sd.iff λhc=>?_;obtain rfl:=sO h1;obtain rfl:=dk h2;rw[tG h3,tG h4];obtain⟨o,x,ap⟩:=q;simp only[aQ,a5,cI]at hc;obtain⟨rfl,ho,rfl,hl⟩:=hc;show Sd C (do
  let ov<-attributeBase o "replace" C.env (eval o C.env)
  standAt ap.atName
  methodCall o "replace" ap p C.env ov 2 (backTo p<|starEach [.Constant (.str a.1) a.2.1 a.2.2,.Constant (.str b.1) b.2.1 b.2.2] C.env) (backToKw p<|keywordEach [] C.env)) _ _ _ _ _
 rw[mZ ho];refine Sd.bind (mE O o _ ρ s) λmF lD mS v ov pZ hv=>Sd.standAt ?_;refine vN (T:=λov=>methodCall o "replace" ap p C.env ov 2 (backTo p<|starEach [.Constant (.str a.1) a.2.1 a.2.2,.Constant (.str b.1) b.2.1 b.2.2] C.env)<|backToKw p<|keywordEach [] C.env) hv λz t=>N2 λhz=>Sd.plain λG Q' E kk=>?_;refine uy (hl▸(bM _)) G.tk hz.1 hz.2 λy n hy=>?_;have:=kk y (2+n) hy;rw[show lD.toks+(2+n)=lD.toks+1+1+n from(cM (by simp+arith only)<|by simp+arith only)]at this;exact this
theorem Ul(P):(m5 P).lookup 92=some (excClassObj "CycleError" "CycleError" 92 91 [.type "ValueError"] [.type "ValueError",.type "Exception",.type "BaseException",.type "object"] true [] [] false none none (some<|.ref 83) none (some<|.str "CycleError" 400) (some<|.str "CycleError" 408) (some<|.bool true) "ValueError.__new__"):=by rfl'
theorem QL(P):(nsOkIn (m5 P) 91&&nsIn (m5 P) 91 "__init__" ==some none)=true:=by rfl'
def iq(Q:lR)(sc:Scope)(e:Expr)(st:St):lG Unit:=((oP e).bind λx=>if x.1= "StopIteration" /\sc.names.lookup x.1=some .globalImplicit then some (.exc<|.ty "StopIteration",st)else none).or
 ((Ap e).bind λc=>(oP c.1).bind λx=>if sc.names.lookup x.1=some .globalImplicit/\o8 c.2.1 c.2.2.1=true/\c.2.2.1=[]then
  (if x.1= "CycleError" then(vB (mU Q sc) c.2.1 st).then λvs st=>if vs.length<big then some (.exc<|.top 92,st)else none
  else if x.1= "ValueError" then(H9 c.2.1).bind λa=>(Yh a).bind λU=>some (.exc<|.ty "ValueError",st)else none)else none)
def aca:List<|V×Str:=[(.ty "ValueError","ValueError"),(.ty "StopIteration","StopIteration"),(.top 92,"CycleError")]
def vi(c:V)(T:Str):Bool:=aca.any λp=>p.1==c&&p.2==T
theorem kZ.Ks(G:kZ C ρ st s){h':Heap}{e D:Addr}{args:List Value}(m:Heap.MadeExcOf s.heap h' e (.ref D) args):kZ C ρ st {s with heap:=h'}/\oD C ρ (.top D) (.ref e) {s with heap:=h'}:=by
 have G':kZ C ρ st {s with heap:=h'}:=by have:=G.ext m.keeps 0;exact this
 exists t,(q8:m.there);refine⟨G',⟨e,_,_,.ref t,rfl,q8.1,rfl,rfl,rfl,λhm=>?_,?_,λq=>?_,.inl rfl⟩⟩
 .exists o,(ho:G.live hm);replace ho:=m.new▸ho;exact nn ho
 .rcases q:C.ail.get? e with _|o
  .rfl
  .obtain⟨o',e',_⟩:=G.sim.keep.1 e o q;replace e':=m.new▸e';injection e'
 .exists o,rc,DB,(q_:G.oH);obtain⟨ho,_⟩:=q_;simp only[<-q,m.new]at ho;injection ho
theorem fw{st:St}{Q:lR}(B:k7 k C)(L:mN C)(O:lV C Q){as:List Expr}{np cp p:Pos}(hx:C.env.scope.names.lookup ("CycleError" :Str)=some .globalImplicit)(qx:o8 as []=true):
 Sd C (exec (.Raise (some<|.Call (.Name "CycleError" np) as [] cp) none p) C.env) (λU(U:Unit)U=>False) ρ s st ((vB (mU Q C.env.scope) as st).then λvs st=>if vs.length<big then some (.exc<|.top 92,st)else none):=by
 exists k,C,ρ,s,st,Q,as,np,cp,p,[B,L,O,hx,qx];refine Sd.qe ?_;intro G;exists r,k6;intro ef;exists Q',E;intro kQ kE;have lW:=sT qx cp C.env;have w:=vE (f:=.ref 92) qx (tJ (λe ρ s st=>mE O e st ρ s) cp as) (λρ s st=>Sd.pure .nil) (ρ:=ρ) (s:=s) (st:=st);have RW:=QL C.w.params;simp only[aQ,a5]at RW;refine wpAny_Raise_call_sub PySem.F.excBase_ValueError (N:=91) (nm:= "CycleError") (q:= "CycleError") (bs:=[.type "ValueError"]) (hdct:=true) (sn:=[]) (sub:=[]) (ab:=false) (col:=none) (dd:=none) (k0:=some<|.ref 83) (k1:=none) (k2:=some<|.str "CycleError" 400) (k3:=some<|.str "CycleError" 408) (k5:=some<|.bool true) L.hh lW.1 (nsMap_none_of_in (B.K G) RW.1 RW.2)<|r6 B hx (rfl) (v:=.top 92) (by decide+kernel) G λy hy=>⟨hy,?_⟩;obtain⟨c,h1,rfl⟩|⟨vs,pA,h1,ef⟩:=m9 ef
 .exact w.ex G (by rw[h1];rfl) λx mQ lI p X g n=>kE _ _ ⟨c,lI,rfl,p,X,g,n⟩
 exists vs,pA,[h1,ef];by_cases hz:vs.length<big;rotate_left
 .rcases(aL hz).symm.trans ef with _|_
 rcases(aH hz).symm.trans ef with _|_;refine w.ok G (by rw[h1];rfl) ?_;exists a,mQ,lI;intro hp hr G' n;refine⟨by have h2:=hr.2;revert h2;generalize a.kw=kw;intro h2;cases h2;rfl,bC (bS<|hr.1.length▸hz) n8,(B.K G') _ _<|Ul _,?_,λh' ea mm=>?_⟩
 .obtain⟨o,ho⟩:∃o,(KF C.w).lookup 91=some o:=by
   rcases q:(KF C.w).lookup 91 with _|o
   .have:=RW.1;unfold nsOkIn at this;replace this:=q▸this;injection this
   .exact⟨o,rfl⟩
  obtain⟨o',es,ep,q9⟩:s.heap.Ns 91 λy=>s.heap.nsMap 91 y:=.of_isNs<|isNs_of_in (B.K G) RW.1;cases((B.K G) _ _ ho).symm.trans q9.1;exact⟨_,es,ep,(B.K G') _ _ ho,q9.2⟩
 .have q8:=G'.Ks mm;exact kE _ _ ⟨_,lI,rfl,hp,q8.2,q8.1,⟨n.os,n.dr,n.tk,n.gn⟩⟩
theorem ko(B:k7 k C)(L:mN C)(O:lV C Q)(e)(p):Sd C (exec (.Raise (some e) none p) C.env) (λU U U=>False) ρ s st<|iq Q C.env.scope e st:=by
 exists k,C,ρ,st,s,Q,e,p,[B,L,O];refine Sd.orR (Sd.m3 λx h1=>Sd.iff λhx=>?_)<|Sd.m3 λc h0=>Sd.m3 λx h1=>Sd.iff λhx=>?_
 .obtain rfl:=nQ h1;obtain⟨x,np⟩:=x;obtain⟨rfl,hx⟩:=hx;exact Pi B L hx
 .exists c,x,[h0,h1,hx];obtain⟨f,as,ks,cp⟩:=c;exists f,as,ks,cp,[h0,h1,hx];obtain rfl:=vK h0;dsimp only at hx⊢;obtain rfl:=nQ h1;obtain⟨x,np⟩:=x;exists x,np,[hx,h1,h0];obtain⟨hx,qx,rfl⟩:=hx;by_cases h2:x= "CycleError"
  .subst h2;exact(aH rfl)▸(fw B L O hx qx)
  .rw[aL h2];refine Sd.iff λh3=>Sd.m3 λa h4=>Sd.m3 ?_;exists m;intro h5;obtain rfl:=pY h4;refine(tG h5)▸?_;subst h3;exact Mt B L hx
theorem kr(B:k7 k C)(G:kZ C ρ st s)(x:oD C ρ c e s)(hc:vi c T=true)(hx:C.env.scope.names.lookup T=some .globalImplicit)(E):
 wpAny (model PG C.w) (C.A.mark<|some e) (eval (.Name T p) C.env) (λcv lD=>lD=s/\wpAny (model PG C.w) (C.A.mark<|some e) (excMatches e cv) (λb mQ=>b=true/\mQ=s) E s) E s:=by
 exists k,C,ρ,s,st,c,T,e,p,E,[B,G,x,hc,hx];exists q,(q_:iW.mp hc);obtain⟨hq,hc⟩:=q_;simp only[aQ,a5]at hc;obtain⟨rfl,rfl⟩:=hc;rcases aK.mp hq with rfl|hq
 .exact D5 B Ah (by decide+kernel) (rfl) G x hx E
 rcases aK.mp hq with rfl|hq
 .exact D5 B wM (by decide+kernel) (rfl) G x hx E
 obtain rfl:=aE.mp hq;refine r6 B hx (rfl) (v:=.top 92) (by decide+kernel) G λy hy=>⟨rfl,?_⟩;subst hy;obtain⟨a,o,vs,a0,rfl,ho,Yr,h0,E3,uZ⟩:=x.ex;exact wpAny_excMatches_sub_self ((B.K G) _ _<|Ul _) ho E3 rfl ⟨rfl,rfl⟩
theorem Pk(P):(findIn (m5 P) (.ref 866) "punctuation_chars" ==some (some<|.ref 798)&&specialIn (m5 P) (.ref 798) "__get__" ==some (some<|.builtin "property.__get__")&&takesIn (m5 P) (.ref 798)==some true&&
 plainGet (m5 P) 866 "punctuation_chars" &&(clsIn (m5 P) 866).isSome&&((recIn (m5 P) 798 "property").bind List.head?)==some (.ref 797))=true:=by rfl'
def okO(o:mM):Option<|V×Hp:=o.bind λq=>match q.1 with
 |.ok v=>some (v,q.2)
 |.exc _=>none
theorem ly{q}(h:okO o=some q):o=some (.ok q.1,q.2):=by
 obtain⟨⟨u,H⟩,h1,h⟩:=aB.mp h;induction u with
 |ok v=>obtain rfl:=aA h;exact h1
 |exc _=>exact nn h
def Zp(S:Bool->lR)(fu:Nat)(v:V)(x:Str):Hp->mM:=vR (λi H=>(iE H i).bind λq=>if x= "punctuation_chars" /\q.1=866 then(okO<|lB S fu 797 [.ref i] [] H).bind λr=>if yR r.1=true then some (.ok r.1,r.2)else none else none) v
theorem k7.Oc(B:k7 (k+1) C):k7 k C.in1:=⟨B.top,B.hi,B.live,by have:=B.dp;exact bS ‹_›,by have:=B.un;show C.A.units+1+20*k<9000;lia,B.fn,B.gl⟩
theorem mN.in1(L:mN C):mN C.in1:=⟨L.hh,L.mg,L.cd,L.lo,L.fr⟩
theorem aw{S:Bool->lR}{ρ:List Addr}{s:Shared}{st:St}(B:k7 (k+2) C)(L:mN C)(OK:m4 k S){v:V}{x:Str}{ov:Value}(hv:VC ρ v ov):Sd C (getAttr ov x true) VC ρ s st<|mV st<|Zp S fu v x st.H:=by
 exists k,fu,C,S,ρ,s,st,v,x,ov,[B,L,OK,hv];refine gR (T:=(getAttr · x true)) rfl hv λi a ha hr=>gB rfl λq hq=>xF rfl λhx=>gB rfl λq' hc=>xF rfl λhb=>?_;exists i,a,q,q',[ha,hr,hq,hx,hc,hb];obtain⟨D,d,xs,es⟩:=q;exists D,d,xs,es,_;obtain⟨v',H'⟩:=q';exists v',H',_;obtain⟨rfl,hx⟩:=hx;obtain rfl:D=866:=hx;obtain⟨hi,tC⟩:=x7 hq;replace hc:=ly hc;refine Sd.of ?_;intro G;exists Q,E;intro kk;exists uZ,dx,ws,ds,n,(q_:G.inst hi tC hr);obtain⟨e,q8⟩:=q_;injection e with e;subst e;have hf:=Pk C.w.params;simp only[aQ,a5]at hf;obtain⟨⟨⟨⟨⟨f1,f2⟩,f3⟩,f4⟩,f5⟩,f6⟩:=hf;rcases Sc:recIn (m5 C.w.params) 798 "property" with _|l
 .replace f6:=Sc▸f6;exact nn f6
 .exists _;have f6:=Sc▸f6;rcases l with _|⟨g,rest⟩
  .exact nn f6
  .have e:=aA f6;subst e;have G1:=G.tok 1;refine k9<|get_bind (B.K G) q8.2.2.2.2.2.2 (plainGet_of f4).1 (findObj_data f5 f1 f2 f3) (plainGet_of f4).2<|eJ<|prop_get (B.K G1) Sc ?_;refine dP (pN B.Oc L.in1 OK (vs:=[.ref i]) (.cons ⟨a,q8.1,rfl⟩ .nil) .nil G1.in1 (.ok v') ⟨H',st.loc⟩ (by refine a6 (aV _ hc) ?_;rfl)) ?_;exists r',s';intro P;rcases r' with z|f
   .obtain⟨Os,rc,e',DB⟩:=P;injection e'
   .induction f with
    |ret y=> obtain⟨b,lI,e',rE,K1,G',n'⟩:=P;obtain rfl:=oV.ok.inj e';exact handed_on (t7 hb K1)<|kk _ _ lI rE K1 G'.Fw ⟨n'.os,n'.dr,f9 n'.tk,n'.gn⟩
    |_=>exact P
theorem Lm(P):findIn (m5 P) (.ref 866) "__next__" =some (some<|.ref 863):=by rfl'
theorem X0(P):typeIn (m5 P) (.ref 863)=some (.type "function"):=by rfl'
theorem pd(P):findIn (m5 P) (.ref 866) "__iter__" =some (some<|.ref 856):=by rfl'
theorem Yd(P):findIn (m5 P) (.ref 866) "__len__" =some none:=by rfl'
theorem O0(P):findIn (m5 P) (.ref 866) "__length_hint__" =some none:=by rfl'
theorem Fh:isSubtype (.type "ValueError") (.type "StopIteration")=pure false:=by rw[dH];rfl'
theorem pv(X:(KF w).In s.heap)(ho:s.heap.get? a=some ⟨.ref 866,some d,.plain,sl⟩)
 (h:codeAny (model PG w) A (.call (.ref 863) ⟨[.ref a],[]⟩) (λr s'=>match r with
  |.ok (.ret v)=>Q (some v) s'
  |.ok _=>False
  |.error e=>(s'.TypeIs e "StopIteration" /\Q none s')\/(s'.TypeIs e "ValueError" /\E e s')) s):wpAny (model PG w) A (pyNext<|.ref a) Q E s:=by
  refine aD<|wpAny_attempt ?_;refine aD<|aD<|((kR ho).andThen .now:Looks (model PG w) s.heap (typeOf<|.ref a)<|.ref 866).here<|(jL X<|Lm w.params).here ?_;refine cL<|aD<|(bind_fn X (.ref a)<|X0 _).here ?_;refine aD<|bL (eJ (E:=λe s'=>(s'.TypeIs e "StopIteration" /\Q none s')\/(s'.TypeIs e "ValueError" /\E e s'))<|dP h λr s' P=>?_) (λv s' q=>aM<|aM q) λe s' P=>?_
  .rcases r with e|(v|_|_|_)<;>exact P
  .rcases P with⟨hT,q⟩|⟨hT,q⟩
   .exact aD (iQ hT isSubtype_stop<|aM q)
   .exact aD (iQ hT Fh<|wpAny_throw q)
theorem Xv(P):isFn (m5 P) (.ref 856)=true:=by rfl'
def De(H:Hp)(i:Nat):Bool:=match H[i]? with
 |some o=>(match o with
  |.inst A d _=>A==866&&(dE H d).isSome
  |_=>false)
 |none=>false
def ik(o:mM)(item:V->Hp->mM)(stop:Hp->mM):mM:=o.bind λp=>match p.1 with
 |.ok v=>item v p.2
 |.exc c=>if c=.ty "StopIteration" then stop p.2 else if c=.ty "ValueError" then some (.exc c,p.2)else none
def o4(S:Bool->lR)(fu:Nat)(i n:Nat):Nat->Hp->mM
 |0,_=>none
 |m+1,H=>if De H i then ik (lB S fu 863 [.ref i] [] H) (λv H'=>(Ab n v H').bind<|o4 S fu i n m) (λH'=>some (.ok<|.ref n,H'))else none
def okV(o:mM):Option<|V×Hp:=o.bind λp=>match p.1 with
 |.ok v=>some (v,p.2)
 |.exc _=>none
theorem km(h:okV o=some p):o=some (.ok p.1,p.2):=by
 obtain⟨⟨q,H⟩,h1,h2⟩:=aB.mp h;induction q<;>first|exact nn h2|(obtain rfl:=aA h2)
 exact h1
def FM(S:Bool->lR)(fu:Nat)(i:Nat)(H:Hp):mM:=if De (H++[.list []]) i then(okV<|lB S fu 856 [.ref i] []<|H++[.list []]).bind λp=>
 if p.1=.ref i/\De p.2 i=true/\lE p.2 H.length=some []then o4 S fu i H.length fu p.2 else none else none
def Cx.in2(C:Cx):Cx:=C.in1.in1
inductive VH(o:mM)(item:V->Hp->mM)(stop:Hp->mM)(r:oV V)(H':Hp):Prop
 |item (v:V) (H:Hp) (h:o=some (.ok v,H)) (e:item v H=some (r,H'))
 |stop (H:Hp) (h:o=some (.exc<|.ty "StopIteration",H)) (e:stop H=some (r,H'))
 |exc (h:o=some (.exc<|.ty "ValueError",H')) (e:r=.exc (.ty "ValueError"))
theorem Rj(h:ik o item stop=some (r,H')):VH o item stop r H':=by
 exists o,item,stop,r,H',_;obtain⟨⟨q,H⟩,h1,h2⟩:=aB.mp h;exists q,H,_;rcases q with v|c
 .exact .item v H h1 h2
 .by_cases e1:c=.ty "StopIteration"
  .subst e1;exact .stop H h1 h2
  .replace h2:=(aL e1).symm.trans h2;obtain⟨e2,h2⟩:=Fd h2;subst e2;obtain⟨rfl,rfl⟩:=bQ<|aA h2;exact .exc h1 rfl
set_option tactic.hygienic true in
theorem kZ.lex{st:St}(G:kZ C ρ st s){i:Nat}{a:Addr}(h:De st.H i=true)(hi:ρ[i]?=some a):∃dx sl ds n,s.heap.get? a=some ⟨.ref 866,some dx,.plain,sl⟩/\InstAt s.heap a ⟨.ref 866,some dx,.plain,sl⟩ 866 (some<|dictOf ds n):=by
 exists C,ρ,s,st,i,a,[G,h,hi];unfold De at h;rcases hx:st.H[i]? with _|o
 .have h:=hx▸h;injection h
 .replace h:=hx▸h;induction o<;>first|(injection h;done)|skip
  rename_i A d xs;rw[aQ,a5]at h;obtain⟨rfl,h⟩:=h;obtain⟨es,h⟩:=fH.mp h;obtain⟨a',dx,vs,ds,n,e,q8⟩:=G.inst hx (qH h) ⟨_,hi,rfl⟩;obtain rfl:=fY e;exact⟨dx,_,ds,n,q8.2.2.2.2.2.2.at_,q8.2.2.2.2.2.2⟩
theorem oD.typeIs(x:oD C ρ (.ty X) e s):s.TypeIs e X:=by obtain⟨a,o,vs,a0,rfl,ho,uZ,Os,hc,rc⟩:=x.ex;exact⟨o,ho,hc⟩
def S6(C:Cx)(ρ:List Addr)(s:Shared)(n:Nat)(r:oV V)(k6:St)(q:Result)(s':Shared):Prop:=match q with
 |.ok (.ret v)=>v=.none/\∃lI,r=.ok (.ref n)/\ρ<+:lI/\kZ C lI k6 s'/\mY C.F s s'
 |.ok _=>False
 |.error x=>PE C ρ s r k6 x s'
theorem I4(G:kZ C ρ st s)(hn:ρ[n]?=some l)(ho:s.heap.get? l=some ⟨.type "list",none,.seq ws c,#[]⟩)(h:lH (VC ρ) zs (f ws).toList)(h1:ws.size<=sizeLine)(h2:(f ws).size<=sizeLine+1)
 (k:kZ C ρ ⟨st.H.set n<|.list zs,st.loc⟩ {s with heap:=s.heap.update l (Obj.mapSeq f)}->Q () {s with heap:=s.heap.update l (Obj.mapSeq f)}):wpAny (model PG w) A (updateSeq l f) Q E s:=
  jD ho rfl (k<|zE G hn ho h) h1 h2
theorem AK{S:Bool->lR}(B:k7 (k+3) C)(L:mN C)(OK:m4 k S){i n:Nat}{a l:Addr}(m):∀ρ s st r H',ρ[i]?=some a->ρ[n]?=some l->kZ C ρ st s->o4 S fu i n m st.H=some (r,H')->
 codeAny (model PG C.w) C.A.in1 (.builtin "list.extend.loop" ⟨[.ref l,.ref a,.none],[]⟩) (S6 C ρ s n r ⟨H',st.loc⟩) s:=by
 exists k,fu,C,S,i,n,a,l,m,[B,L,OK];induction m with
 |zero=>exists ρ,s,st,r,H';intro hi hn G e;exact nn e
 |succ m ih=>
  exists m,[ih];exists ρ,s,st,r,H';intro hi hn G e;obtain⟨hx,e⟩:=Fd e;have e:=Rj e;exists dx,sl,ds,nn,(lW:G.lex hx hi);refine eP F.entry_extend_loop ?_;rw[eB jG _];have key:=pN (fu:=fu) (s:=s) (st:=st) (k7.Oc<|k7.Oc B) (mN.in1<|mN.in1 L) OK (a:=863) (vs:=[.ref i]) (.cons ⟨a,hi,rfl⟩ .nil) .nil;refine aD<|pv (B.K G) lW.1 ?_;obtain⟨v,H1,h1,e⟩|⟨H1,h1,e⟩|⟨h1,rfl⟩:=e
  .exists v,H1,[h1,e];refine key.ok G.in1.in1 (by rw[h1];rfl) ?_;exists y,s',lI;intro rE K1 G' n';exists H2,(q_:aB.mp e);obtain⟨h2,e⟩:=q_;exists ys,(q9:aB.mp h2);obtain⟨hz,e_⟩:=Fd q9.2;obtain rfl:=aA e_;have Bw:=mR rE hn;have G1:=G'.Fw.Fw;exists ol,(q_:G1.sim.obj n l _ Bw<|nS q9.1);obtain⟨Sf,ws,nn2,rfl,xW⟩:=q_;have GD:=bC (bS<|qD xW▸hz) n8;refine aD<|I4 G1 Bw Sf (by rw[Array.toList_push];exact xW.append<|.cons K1 .nil) GD (by rw[kO];exact gQ GD) λG2=>aM ⟨gW jG _,?_⟩;refine dP (ih lI _ _ r H' (mR rE hi) Bw G2 e) ?_;exists q,s3;intro P3;have n2:mY C.F s {s' with heap:=s'.heap.update l (Obj.mapSeq (·.push y))}:=mY.trans ⟨n'.os,n'.dr,n'.tk,n'.gn⟩<|mY.lO ..;rcases q with x|(z|_|_|_)<;>first|exact P3|skip
   .obtain⟨b,RX,e,p,q,g,m⟩:=P3;exact⟨b,RX,e,rE.trans p,q,g,n2.trans m⟩
   .obtain⟨rfl,RX,q8⟩:=P3;exact⟨rfl,RX,q8.1,rE.trans q8.2.1,q8.2.2.1,n2.trans q8.2.2.2⟩
  .cases aA e;exact key.ex G.in1.in1 (by rw[h1];rfl) λx s' lI rE X' G' n'=>.inl ⟨X'.typeIs,aM ⟨rfl,lI,rfl,rE,G'.Fw.Fw,⟨n'.os,n'.dr,n'.tk,n'.gn⟩⟩⟩
  .exact key.ex G.in1.in1 (by rw[h1];rfl) λx s' lI rE X' G' n'=>.inr ⟨X'.typeIs,_,lI,rfl,rE,⟨X'.ex⟩,G'.Fw.Fw,⟨n'.os,n'.dr,n'.tk,n'.gn⟩⟩
theorem kZ.frX(B:k7 k C)(G:kZ C ρ st s):∃m,s.heap.Ns C.env.locals m/\(KF C.w).lookup C.env.locals=none:=by
 obtain⟨m,q8⟩:=G.fr.ns;refine⟨m,q8.1,?_⟩;rcases q:(KF C.w).lookup C.env.locals with _|o
 .rfl
 .have:=B.top.K _ _ q;replace this:=G.fr.none▸this;rcases this with _|_
theorem Z9{S:Bool->lR}{ρ:List Addr}{s:Shared}{st:St}(B:k7 (k+3) C)(L:mN C)(OK:m4 k S)(G:kZ C ρ st s){i n:Nat}{a l:Addr}(hi:ρ[i]?=some a)(hn:ρ[n]?=some l)(hx:De st.H i=true)(hl:lE st.H n=some []){r:oV V}{H':Hp}(e:o4 S fu i n fu st.H=some (r,H')){R:Fin->Shared->Prop}{E:Value->Shared->Prop}{X:Bool}
 (kk:∀s',mY C.F s s'->codeAny (model PG C.w) C.A.in1 (.builtin "list.extend.loop" ⟨[.ref l,.ref a,.none],[]⟩) (S6 C ρ s' n r ⟨H',st.loc⟩) s'->R (.again<|.builtin "list.extend.loop" ⟨[.ref l,.ref a,.none],[]⟩) s'):
 wpAny (model PG C.w) C.in2.A (Builtin.List.listLengthHint<|.ref a) (λb s'=>wpAny (model PG C.w) C.in2.A (if(b||X)=true then(rule "list.extend.makes-room" >>=λU=>Builtin.List.listTouch (.ref l)>>=λU=>again<|.builtin "list.extend.loop" ⟨[.ref l,.ref a,.none],[]⟩)else again<|.builtin "list.extend.loop" ⟨[.ref l,.ref a,.none],[]⟩) R E s') E s:=by
 exists k,fu,C,S,ρ,s,st,i,n,a,l,r,H',R,E,X,[B,L,OK,G,hi,hn,hx,hl,e,kk];exists dx,sl,ds,nn,(q9:G.lex hx hi);have t2:Looks (model PG C.w) s.heap (typeOf<|.ref a)<|.ref 866:=(kR q9.1).andThen .now;refine aD<|aD<|t2.here<|(jL (B.K G)<|Yd C.w.params).here ?_;refine aD<|aD<|t2.here<|(jL (B.K G)<|O0 C.w.params).here ?_;refine aM ?_;refine aD<|iR<|aD ?_;obtain⟨ol,Sf,ws,nn2,rfl,xW⟩:=G.sim.obj _ _ _ hn<|nS hl;obtain rfl:ws= #[]:=fO (qD xW).symm;refine aD<|I4 G (zs:=[.none]) hn Sf (.cons rfl .nil) (cV _) (gQ<|cV _) λG3=>?_;refine I4 G3 hn (cT (Obj.mapSeq (·.push Value.none)) Sf rfl) .nil (c6 _) (cV _) λG4=>aM ?_;have e4:(st.H.set n<|.list [.none]).set n (.list [])=st.H:=by rw[jM];simp[<-(aU.mp<|nS hl).2]
 simp only[e4]at G4;exact kk _ ((mY.lO ..).trans<|mY.lO ..)<|AK B L OK fu ρ _ st r H' hi hn G4 e
theorem Zh{S:Bool->lR}{ρ:List Addr}{s:Shared}{st:St}(B:k7 (k+3) C)(L:mN C)(OK:m4 k S){i:Nat}{x:Value}(hv:VC ρ (.ref i) x):Sd C (call (.type "list") [x]) VC ρ s st<|mV st<|FM S fu i st.H:=by
 exists k,fu,C,S,ρ,s,st,i,x,[B,L,OK,hv];refine Sd.qe ?_;intro G;exists r,k6;intro e;exists Q,E;intro kQ kE;obtain⟨⟨r,H'⟩,e1,e0⟩:=a9.mp e;exists r,H',_;clear e;obtain⟨rfl,rfl⟩:=bQ e0;obtain⟨hx,e1⟩:=Fd e1;obtain⟨⟨v,H1⟩,hc,e⟩:=aB.mp e1;exists v,H1,_;by_cases hq:v=.ref i/\De H1 i=true/\lE H1 st.H.length=some [];rotate_left
 .injection(aL hq).symm.trans e
 replace e:=(aH hq).symm.trans e;obtain⟨rfl,Bo⟩:=hq;replace hc:=km hc;exists a,(q_:hv);obtain⟨hi,rfl⟩:=q_;have G1:=G.push (ao:=.list []) rfl ⟨#[],0,rfl,.nil⟩;have ac3:=nU G;have hS:{s with heap:=s.heap.push {cls:=.type "list",data:=.seq #[]}}.heap.get? s.heap.objs.size=some {cls:=.type "list",data:=.seq #[]}:=bT _ rfl;have o9:s.heap.objs.size≠a:=λh=>by exists o,(ho:G.sim.lt hi);rw[<-h]at ho;exact dJ _<|b9 ho
 have pre:ρ<+:ρ++[s.heap.objs.size]:=⟨_,rfl⟩;have hia:=mR pre hi;refine callType_codes (Q₁:=λobj lD=>obj=.ref s.heap.objs.size/\lD={s with heap:=s.heap.push {cls:=.type "list",data:=.seq #[]}}) F.called_list (F.typeCall_list_1 _) F.entry_list_init
  (code_list_new _ ⟨rfl,rfl⟩) ?_;exists obj,lD;intro sI
 obtain⟨rfl,rfl⟩:=sI;refine⟨⟨_,hS,rfl⟩,F.args_list_init_2 _ _,?_⟩;have hN0:mY C.F s {s with heap:=s.heap.push {cls:=.type "list",data:=.seq #[]}}:=mY.lO ..;generalize{s with heap:=s.heap.push {cls:=.type "list",data:=.seq #[]}}=s1 at*;generalize s.heap.objs.size=l at*;exists uZ,(zY:ac3);obtain rfl:=fY zY.2;refine aD ?_;refine aD<|gG hS rfl<|aM ?_;refine aD<|I4 G1 zY.1 hS .nil (cV _) (cV _) λG2=>aD<|i7 ?_;have e2:(st.H++[AO.list []]).set st.H.length (.list [])=st.H++[.list []]:=by refine a6 (dO _ _<|aI _) ?_;rw[cD];rfl
 have G2:=e2▸G2;have hN:=hN0.trans<|mY.lO s1<|s1.heap.update l<|Obj.mapSeq λU=> #[];generalize{s1 with heap:=s1.heap.update l (Obj.mapSeq λU=> #[])}=s2 at*;exists dx,sl,ds,nn,(sD:G2.lex hx hia);refine aD<|((kR sD.1).andThen .now:Looks (model PG C.w) s2.heap (typeOf<|.ref a)<|.ref 866).here ?_;rw[aL (by rw[show Builtin.List.listSameRef (.ref l) (.ref a)=false by simp[Builtin.List.listSameRef,o9]];decide)];exists m,(nO:G2.frX B);refine aD<|owit_iter (rX nO.1) (wE (B.K G2) (λa o e=>bJ (q6 e).1 G2.fr.lo) nO.2) sD.2 (pd C.w.params) (Xv C.w.params)<|eJ ?_;refine(pN (fu:=fu) (k7.Oc<|k7.Oc B) (mN.in1<|mN.in1 L) OK (vs:=[.ref i]) (.cons ⟨a,hia,rfl⟩ .nil) .nil).ok G2.in1.in1 (by simp[hc];rfl) ?_;exists y,s',lI;intro rE K1 G'' n';have G':=G''.Fw.Fw;exists a2,(q_:K1);obtain⟨hj2,rfl⟩:=q_;have qv:=mR rE hia;cases hj2.symm.trans qv;have Bw:=mR rE zY.1;exists dx',sl',ds',nn',(lW:G'.lex Bo.1 qv);exists m',(q9:G'.frX B);refine owit_it (rX q9.1) (wE (B.K G') (λa o e=>bJ (q6 e).1 G'.fr.lo) q9.2) lW.2 (Lm C.w.params) ?_;refine aD<|cL ?_;refine Z9 B L OK G' qv Bw Bo.1 Bo.2 e λs3 n3 h3=>⟨gW jG _,dP h3 ?_⟩;exists s3,[n3,h3];exists q,s4;intro P3;have nn:=(hN.trans ⟨n'.os,n'.dr,n'.tk,n'.gn⟩).trans n3;have pp:=pre.trans rE;rcases q with x|(z|_|_|_)<;>first|exact P3.elim|skip
 .obtain⟨b,RX,e,p,q,g,m⟩:=P3;exact kE _ _ ⟨b,RX,e,pp.trans p,q,g,nn.trans m⟩
 .obtain⟨rfl,RX,q8⟩:=P3;exact⟨rfl,kQ _ _ ⟨_,RX,q8.1,pp.trans q8.2.1,⟨_,mR q8.2.1 Bw,rfl⟩,q8.2.2.1,nn.trans q8.2.2.2⟩⟩
theorem kZ.adopt(G:kZ C ρ st s){D:Addr}{o:Obj}{ao:AO}(hD:s.heap.get? D=some o)(h1:D∉ρ)(h2:D≠C.env.locals)(h3:C.ail.get? D=none)(h4:2<=D)(h5:∀u,o.data≠.cell u)(c:OC C.w (ρ++[D]) ao o):
 kZ C (ρ++[D]) {st with H:=st.H++[ao]} s:=by
 exists C,ρ,st,s,D,o,ao,[G,hD,h1,h2,h3,h4,h5,c];have pre:ρ<+:ρ++[D]:=⟨_,rfl⟩;refine⟨⟨by simp[G.sim.len],?_,λi a x e1 e2=>?_,λa ha=>?_,G.sim.keep⟩,G.fr.mono pre (λhm=>?_) λx a hx hm=>?_,G.tk⟩
 .rw[cH];refine⟨G.sim.nd,by simp,?_⟩;intro a ha b hb;rw[aE]at hb;replace hb:=hb.symm;subst hb;rintro rfl;exact h1 ha
 .by_cases hi:i<ρ.length
  .rw[bO hi]at e1;rw[bO<|G.sim.len▸hi]at e2;exists o',(q9:G.sim.obj i a x e1 e2);exact⟨o',q9.1,q9.2.mono pre⟩
  .have qv:i=ρ.length:=by have:=(aU.mp e1).1;simp at this;exact jK this hi
   subst qv;rw[aS<|aI _,cD]at e1;rw[aS<|G.sim.len▸aI _,G.sim.len,cD]at e2;obtain rfl:=aA e1;obtain rfl:=aA e2;exact⟨o,hD,c⟩
 .rcases aO.mp ha with h|h
  .exact G.sim.new a h
  .rw[aE]at h;obtain rfl:=h.symm;exact⟨h3,h4⟩
 .rcases aO.mp hm with h|h
  .exact G.fr.out h
  .rw[aE]at h;exact h2 h.symm
 .obtain⟨q1,_,u,q8⟩:=G.fr.cell x a hx;rcases aO.mp hm with h|h
  .exact q1 h
  .rw[aE]at h;replace h:=h.symm;subst h;obtain⟨o',rA,p0⟩:=q8.1;replace rA:=hD▸rA;obtain rfl:=aA rA;exact h5 _ p0
theorem CB(v):(Array.map (λx=>x.snd)<|arrOf<|SortSt.mk' general' ([v].toArray.zip [v].toArray) #[] 7 none)= #[v]:=by show Array.map (λx=>x.snd) ([v].toArray.zip [v].toArray)= #[v];simp
theorem ax{s:Shared}{a:Addr}{v:Value}{n:Nat}{P:PySem.Fin->Shared->Prop}(ho:s.heap.get? a=some (seqObj "list" [v].toArray n))
 (h:P (.done<|.ret .none) {s with heap:=sortedHeap s.heap a [v] #[v]}):wpAny (model PG w) A (Builtin.«list.sort» ⟨[.ref a],[]⟩) P E s:=by
 exists w,A,E,s,a,v,n,P,_;rw[list_sort_plain];have ha:=b9 ho;refine aD<|listItems_at ho rfl ?_;refine aD<|listUpdate_at ho rfl ?_;obtain⟨e1,ho1⟩:∃e1,(s.heap.update a<|Obj.mapSeq λU=> #[]).get? a=some (seqObj "list" #[] e1):=⟨_,get?_update_seq ho λU=> #[]⟩;exists e1,_;refine aD<|seqEpoch_at ho1 rfl ?_;refine aD<|wpAny_newTuple ?_;refine aD<|j7 ?_;refine cL ?_;have ho6:(((s.heap.update a<|Obj.mapSeq λU=> #[]).push<|seqObj "tuple" [v].toArray 0).push<|seqObj "list" #[] 0).get? a=some (seqObj "list" #[] e1):=by rw[Heap.get?_push_ne _ _ _ (by rw[size_push',kC];exact bI<|gC ha),Heap.get?_push_ne _ _ _ (by rw[kC];exact bI ha)];exact ho1
 dsimp only;have h2:[v].toArray.size<2:=dX 1;rw[aH h2,aH h2];refine aD<|aM ?_;rw[StateT.run_pure];refine aD<|aM ?_;dsimp only;refine aD<|seqEpoch_at ho6 rfl ?_;refine aD<|listUpdate_at ho6 rfl ?_ (hsz2:=by rw[Array.size_map];show(pairsOf [v]).size<=_;rw[pairsOf_size];exact cR 1 16777216);rw[bne_self_eq_false];rw[<-(CB v)]at h;exact aM h
theorem Rf{s:Shared}{l:Addr}{v:Value}{Q:Value->Shared->Prop}(hl:s.heap.IsList l [v].toArray)
 (h:Q (.ref<|s.heap.objs.size+1) {s with heap:=sortedAll s.heap [v] #[v]}):wpAny (model PG w) A (call (.builtin "sorted") [.ref l]) Q E s:=by
 exists w,A,E,s,l,v,Q,_;refine Calls.call_function_entry kind_sorted plain_sorted entry_sorted (args_sorted1 _) ?_;refine aD<|aM ?_;refine aD<|collect_list hl ?_;refine aD<|j7 ?_;have Ko:((s.heap.push<|seqObj "list" #[] 0).update s.heap.objs.size<|Obj.mapSeq (· ++[v].toArray)).objs.size=s.heap.objs.size+1:=by rw[kC,size_push']
 have hoL:(((s.heap.push<|seqObj "list" #[] 0).update s.heap.objs.size<|Obj.mapSeq (· ++[v].toArray)).push<|seqObj "list" [v].toArray 0).get? (s.heap.objs.size+1)=some (seqObj "list" [v].toArray 0):=by exact Ko▸(bT _ rfl)
 rw[Ko];refine aD<|cL<|gP slot_list_sort ⟨_,hoL,rfl⟩ entry_list_sort (ax hoL ⟨_,rfl,?_⟩)<|args_list_sort _;exact aM ⟨_,rfl,h⟩
def Gy(H:Hp)(v:V)(q:(Int×Int)×Int):Prop:=∃j p n,v=.ref j/\H[j]?=some (.tuple [.ref p,.int q.2,.str n])/\H[p]?=some (.tuple [.int q.1.1,.int q.1.2])
def Bt(H:Hp)(v:V):(Int×Int)×Int:=Classical.epsilon<|Gy H v
theorem Ta{q}(h:Gy H v q):Bt H v=q:=by exists H,v,q,_;exists j,p,n,(q_:h);obtain⟨h1,h2,h3⟩:=q_;obtain⟨j',p',n',g1,g2,g3⟩:Gy H v<|Bt H v:=dD ⟨q,j,p,n,h1,h2,h3⟩;obtain rfl:=V.ref.inj<|h1.symm.trans g1;have e:=b0<|tuI<|aA<|g2.symm.trans h2;have e2:=b0 e.2;obtain rfl:=V.ref.inj e.1;have e3:=b0<|tuI<|aA<|g3.symm.trans h3;exact fM (fM (V.int.inj e3.1)<|V.int.inj (b0 e3.2).1)<|V.int.inj e2.1
def vJ(ks:List<|(Int×Int)×Int)(xs:List V):List V:=if xs.length<2 then xs else(pQ (λi j=>qR (ks.getD i default)<|ks.getD j default)<|kas_sort xs.length).toList.map λi=>xs.getD i .none
def uD(i:Nat)(H:Hp):Option<|oV V×Hp:=(lE H i).bind λxs=>open Classical in if(1<=xs.length/\xs.length<64)/\(∀v∈xs,∃q,Gy H v q)/\(xs.map<|Bt H).Nodup then some (.ok<|.ref H.length,H++[.list<|vJ (xs.map<|Bt H) xs])else none
theorem acl{a b:Value}(h:vs.toList=[a,b]):vs= #[a,b]:=by induction vs;subst h;rfl
theorem acs{a b c:Value}(h:vs.toList=[a,b,c]):vs= #[a,b,c]:=by induction vs;subst h;rfl
theorem kZ.pair(G:kZ C ρ st s){p:Nat}(h:st.H[p]?=some (.tuple [.int x,.int y]))(ha:ρ[p]?=some a):nV s.heap a x y:=by obtain⟨o,ho,vs,n,rfl,hv⟩:=G.sim.obj p a _ ha h;obtain⟨b,b',hl,⟨t,rfl⟩,u,rfl⟩:=Se hv;exact⟨t,u,n,acl hl▸ho⟩
theorem kZ.ac6(G:kZ C ρ st s)(h:Gy st.H v q)(hv:VC ρ v y):∃a,y=.ref a/\xS s.heap a q:=by exists C,ρ,st,s,v,y,q,_;exists j,p,nm,(q_:h);obtain⟨rfl,q8,q9⟩:=q_;exists a,(q_:hv);obtain⟨ha,rfl⟩:=q_;obtain⟨o,ho,vs,n,rfl,hv⟩:=G.sim.obj j a _ ha q8;obtain⟨b,r,hl,⟨pa,hpa,rfl⟩,hv⟩:=tV hv;obtain⟨b,b',rfl,⟨t,rfl⟩,u,rfl⟩:=Se hv;exact⟨a,rfl,pa,t,nm,u,n,acs hl▸ho,G.pair q9 hpa⟩
def OP(h:Heap)(y:Value)(q:(Int×Int)×Int):Prop:=∃a,y=.ref a/\xS h a q
theorem nV.kept(hs:∃m,h.Ns L m)(kp:∀b o,b≠L->h.get? b=some o->h'.get? b=some o)(q:nV h a x y):nV h' a x y:=by
 exists h,h',a,L,x,y,_;exists t,u,n,(ho:q);refine⟨t,u,n,kp _ _ ?_ ho⟩;rintro rfl
 obtain⟨m,o,es,ep,rA,hd,_⟩:=hs;rw[ho]at rA;obtain rfl:=aA rA;injection hd
theorem xS.kept(hs:∃m,h.Ns L m)(kp:∀b o,b≠L->h.get? b=some o->h'.get? b=some o)(c:xS h a q):xS h' a q:=by
 exists h,h',a,L,q,_;exists p,t,nm,u,n,(q8:c);refine⟨p,t,nm,u,n,kp _ _ ?_ q8.1,q8.2.kept hs kp⟩;rintro rfl
 obtain⟨m,o,es,ep,rA,hd,_⟩:=hs;replace rA:=q8.1▸rA;obtain rfl:=aA rA;injection hd
theorem abD:∀{vs:List Value},(∀y∈vs,∃q,OP h y q)->∃fs,KatTups h vs fs/\fs.length=vs.length/\∀v∈fs,∃a x y,v=.ref a/\nV h a x y:=by
 revert h;exists h;intro vs;induction vs with
 |nil=>exact λU=>⟨[],.nil,rfl,λU h=>absurd h<|bG⟩
 |cons v vs ih=> intro hq;obtain⟨fs,q9⟩:=ih λy hy=>hq y<|.tail _ hy;obtain⟨q,a,rfl,p,t,nm,u,n,q8⟩:=hq _<|.head _;exact⟨.ref p::fs,.cons q8.1 rfl rfl rfl q9.1,aV Nat.succ q9.2.1,d9.mpr ⟨⟨p,_,_,rfl,q8.2⟩,q9.2.2⟩⟩
theorem Qo{α:Type}{l:List α}{d:α}(h:l.Nodup){i j:Nat}(hi:i<l.length)(hj:j<l.length)(o9:i≠j):l.getD i d≠l.getD j d:=by
 simp[aP hi,aP hj];intro e;rcases Nat.lt_or_gt_of_ne o9 with q|q
 .exact dC.mp h i j _ _ q e
 .exact dC.mp h j i _ _ q e.symm
theorem lH.ZT(h:lH (VC ρ) xs ys)(l:List Nat):lH (VC ρ) (l.map λi=>xs.getD i .none)<|l.map λi=>ys.getD i Value.none:=by
 induction l with
 |nil=>exact .nil
 |cons i l ih=>
  refine .cons ?_ ih;simp[c9];rcases e:xs[i]? with _|v
  .have:ys[i]?=none:=by rw[bZ]at e⊢;exact h.length▸e
   exact this▸rfl
  .obtain⟨b,q8⟩:=h.get e;exact q8.1▸q8.2
set_option tactic.hygienic true in
theorem Xo(B:k7 (k+2) C){i:Nat}{y:Value}(hv:VC ρ (.ref i) y):Sd C (call (.builtin "sorted") [y]) VC ρ s st<|mV st<|uD i st.H:=by
 exists k,C,ρ,st,s,i,y,[B,hv];unfold uD;cases hi:lE st.H i with
 |none=>exact Sd.nil
 |some xs=>
 exists xs,_;replace hi:=nS hi;rw[bY];split;rotate_left
 .exact Sd.nil
 rename_i hc;have hu:C.A.in1.in1.units<cLine:=by have:=(k7.Oc<|k7.Oc B).un;have e:cLine=9900:=rfl;show C.in1.in1.A.units<cLine;exact lk<|aC (aN e.symm) this
 intro G;exists r,k6;intro e;injection e with q_;injection q_ with q_ p_;subst q_ p_;exists l,vs,n,(q_:G.list hi hv);obtain⟨rfl,hl,Sf,Bx⟩:=q_;have hL:∃m,s.heap.Ns C.env.locals m:=let⟨m,hn,_⟩:=G.fr.ns;⟨m,hn⟩;have T:∀{j v y},xs[j]?=some v->vs.toList[j]?=some y->OP s.heap y (Bt st.H v):=λ{j v y}h1 h2=>by exists q,(hq:hc.2.1 v<|aR h1);exists y',(q_:Bx.get h1);obtain⟨h3,h4⟩:=q_;obtain rfl:=aA<|h2.symm.trans h3;rw[Ta hq];exact G.ac6 hq h4
 have ui:xs.length=vs.toList.length:=Bx.length;have RY:s.heap.IsList l vs.toList.toArray:=⟨_,Sf,rfl,n,rfl⟩;have ZU:=(G.sim.new l<|aR hl).2;have hlL:l≠C.env.locals:=G.xV<|aR hl;have fin:∀D out c h',(∀b o,b≠C.env.locals->s.heap.get? b=some o->h'.get? b=some o)->(∃m,s.heap.Ns C.env.locals m/\h'.Ns C.env.locals m)->s.heap.get? D=none->D≠C.env.locals->2<=D->h'.get? D=some ⟨.type "list",none,.seq out.toArray c,#[]⟩->lH (VC ρ) (vJ (xs.map<|Bt st.H) xs) out->
  PQ C VC ρ s (.ok<|.ref st.H.length) ⟨st.H++[.list<|vJ (xs.map<|Bt st.H) xs],st.loc⟩ (.ref D) {s with heap:=h'}:=λD out c h' kp ns hD hDL ac7 hDo ho=>by
  exists m,(zY:ns);have G1:=G.change (ao:=.list xs) hl (λb ob h1 U e=>kp b ob h1 e) (kp _ _ hlL Sf) zY.1 zY.2 ⟨vs,n,rfl,Bx⟩<|aI _;have e1:st.H.set i (.list xs)=st.H:=by simp[<-(aU.mp hi).2]
  rw[e1]at G1;have hDr:D∉ρ:=λhm=>by exists o,(ho:G.live hm);replace ho:=hD▸ho;injection ho
  have hD0:C.ail.get? D=none:=by
   rcases q:C.ail.get? D with _|o
   .rfl
   .exists o',(q_:G.sim.keep.1 D o q);obtain⟨e',uZ⟩:=q_;rw[hD]at e';injection e'
  refine⟨_,ρ++[D],rfl,⟨_,rfl⟩,⟨D,?_,rfl⟩,G1.adopt hDo hDr hDL hD0 ac7 (λu e=>by injection e) ⟨out.toArray,c,rfl,lH.mono ⟨_,rfl⟩ ho⟩,mY.lO ..⟩;rw[<-G.len,aS<|aI _,cD];rfl
 by_cases h2:xs.length<2
 .have hs:vJ (xs.map<|Bt st.H) xs=xs:=by unfold vJ;rw[aH h2]
  obtain⟨v,hv1⟩:∃v,vs.toList=[v]:=List.length_eq_one_iff.mp (cM (lk<|aC h2<|aN ui.symm)<|lk<|aC (aN ui) hc.1.1);rw[hv1]at RY;refine Rf RY ?_;exists c,(hc:sortedAll_at s.heap [v] #[v]);refine fin _ [v] c _ (λb o U e=>sortedAll_old e) (hL.imp λm hn=>⟨hn,hn.keeps λb o e=>sortedAll_old e⟩) (cB<|dM _) ?_ ?_ hc (by simp[hs,<-hv1];exact Bx)
  .exists m,(hn:hL);exact cX<|gC hn.lt
  .exact bC ZU (eE<|bS<|b9 Sf)
 .exists m,(nO:id G.fr.ns);have kp1:∀h' D o',Fr (under s.heap C.env.locals l) C.env.locals h' m->News (under s.heap C.env.locals l) C.env.locals h' ((D,o')::(l,⟨.type "list",none,.seq vs n,#[]⟩)::rest s.heap C.env.locals l)->∀b o,b≠C.env.locals->s.heap.get? b=some o->h'.get? b=some o:=λh' D o' F' N' b o hb eb=>by
   obtain⟨u1,u2⟩:=xA F' λp hp=>N' p<|.tail _ hp;by_cases hbl:b=l
   .obtain rfl:=hbl.symm;replace eb:=Sf▸eb;obtain rfl:=aA eb;exact u2
   .exact u1 b o hb hbl eb
  refine kat_sorted (rX nO.1) (xR Sf hlL) RY (lk<|aC (dU h2)<|aN ui) (lk<|aC (aN ui.symm) hc.1.2) ?_;exists D,e1,h';intro F' N' hD;have T':∀a,a<vs.toList.length->OP h' (vs.toList.getD a .none) ((xs.map<|Bt st.H).getD a default):=λa ha=>by have N4:=ui▸ha;simp[aP ha,aP N4];exists b,(q_:T (aP N4)<|aP ha);obtain⟨e,c⟩:=q_;exact⟨b,e,c.kept hL<|kp1 h' D _ F' N'⟩
  obtain⟨fs,lW⟩:=abD λy hy=>by exists j,(hj:List.mem_iff_getElem?.mp hy);have:=T' j (aU.mp hj).1;rw[c9,hj]at this;exact⟨_,this⟩
  exists fs,_;refine kat_kind (T:=.type "tuple") lW.1 (lk<|aC (aN lW.2.1.symm)<|aC (aN ui) hc.1.1) (λv hv=>?_) rfl ?_
  .exists v,[hv];exists a,x,z,(q_:lW.2.2 v hv);obtain⟨rfl,hp⟩:=q_;exists t,u,nn,(ho:hp);exact(kR ho).andThen .now
  .refine Yg (o:=λi j=>qR ((xs.map<|Bt st.H).getD i default)<|(xs.map<|Bt st.H).getD j default) (λa b Cc ha hb Fs hq=>?_) _ (We (lk<|aC (dU h2)<|aN ui)) ?_
   .exists x,(q9:T' a ha);exists z,(q8:T' b hb);unfold kas_ask;exact q9.1▸q8.1▸(AU hu q9.2 q8.2 (Qo hc.2.2 (by rw[aF];exact ui▸ha) (by rw[aF];exact ui▸hb) Fs) hq)
   .refine KasFin.intro F' N' (.head λp hp=>bI<|hD p hp) ?_;exists Vi,c;intro F'' N'';have nD:=N'' _<|.head _;have hDl:=hD _<|.head _;refine fin D _ c Vi (kp1 Vi D _ F'' N'') ⟨m,nO.1,F''.ns⟩ ?_ nD.2.1 (bC ZU<|bS hDl) nD.1 ?_
    .rcases q:s.heap.get? D with _|o
     .rfl
     .by_cases hb:D<C.env.locals
      .have:(under s.heap C.env.locals l).get? D=some o:=dL _ (a6 (Cf hb) q) (by simp;exact cX hDl);replace this:=nD.2.2▸this;injection this
      .have RZ:=gY (dU hb)<|dQ nD.2.1;exact absurd (hD (D,o)<|.tail _<|wA.mpr ⟨by simp[RZ,cX hDl],q⟩)<|dJ _
    .unfold vJ;rw[aL h2,ui];exact Bx.ZT _
def KP(H:Hp)(v:V)(q:Int×Int):Prop:=∃j,v=.ref j/\H[j]?=some (.tuple [.int q.1,.int q.2])
def pk(H:Hp)(v:V):Int×Int:=Classical.epsilon<|KP H v
theorem S7{q}(h:KP H v q):pk H v=q:=by exists H,v,q,_;exists i,(q_:h);obtain⟨h1,h2⟩:=q_;obtain⟨j,h3,h4⟩:KP H v<|pk H v:=dD ⟨q,i,h1,h2⟩;obtain rfl:=V.ref.inj<|h1.symm.trans h3;have e:=tuI<|aA<|h4.symm.trans h2;have e2:=b0 e;exact fM (V.int.inj e2.1)<|V.int.inj (b0 e2.2).1
def PL(H:Hp)(b:V)(vs:List V):V:=vs.foldl (λb v=>if n9 (pk H v) (pk H b)=true then v else b) b
def um(i:Nat)(H:Hp):mM:=(lE H i).bind λxs=>open Classical in if xs≠[]/\∀v∈xs,∃q,KP H v q then some (.ok<|PL H (xs.headD .none) xs.tail,H)else none
theorem kZ.ZV(G:kZ C ρ st s)(h:KP st.H v q)(hv:VC ρ v y):∃a,y=.ref a/\nV s.heap a q.1 q.2:=by obtain⟨j,rfl,hj⟩:=h;obtain⟨a,q8⟩:=hv;exact⟨a,q8.2,G.pair hj q8.1⟩
theorem ie(B:k7 (k+2) C)(hh:C.A.handled=none)(G:kZ C ρ st s)(hl:s.heap.IsList l items){I S:Addr}(hI:s.heap.get? I=none)(hS:s.heap.get? S=none)(GG:I≠S){R:Result->Shared->Prop}:
 ∀vs ys j h b yb c,items.toList.drop j=ys->lH (VC ρ) vs ys->VC ρ b yb->(∃q,KP st.H b q)->(∀v∈vs,∃q,KP st.H v q)->(∀a o,s.heap.get? a=some o->h.get? a=some o)->h.IsListIter I l j->h.get? S=some {cls:=.type "list",dict:=none,data:=.seq #[yb,yb] c,slots:= #[]}->
  (∀y h',VC ρ (PL st.H b vs) y->(∀a o,s.heap.get? a=some o->h'.get? a=some o)->R (.ok<|.ret y) {s with heap:=h'})->codeAny (model PG C.w) C.A (.builtin "max.loop" ⟨[.ref I,.none,.ref S],[]⟩) R {s with heap:=h}:=by
 exists k,C,ρ,st,s,l,items,I,S,R,[B,hh,G,hl,hI,hS,GG];exists vs;have up:∀{h h':Heap}{X:Addr}{o':Obj},s.heap.get? X=none->(∀a o,s.heap.get? a=some o->h.get? a=some o)->(∀a,a≠X->h'.get? a=h.get? a)->∀a o,s.heap.get? a=some o->h'.get? a=some o:=λhX kp q a o ea=>(q a (by rintro rfl;injection hX.symm.trans ea)).trans<|kp a o ea;induction vs with
 |nil=>
  exists ys,j,h,b,yb,c;intro hd Bx hb hkb hkv kp hit ZW hR;obtain rfl:=cC.mp Bx.length.symm;have hx:items[j]?=none:=bU▸bZ.mpr (fG.mp hd);refine eP kD ?_;rw[eB eW _];refine aD<|gG ZW rfl ?_;refine aD<|jU<|wpAny_pyNext_list_end hh hit (hl.at λo e=>kp _ _ e) hx ?_;exists h';intro he;refine aD ?_;refine jD (he S _ (dQ GG) ZW) rfl<|aD<|i7<|aM ?_;refine hR yb _ hb λa o ea=>(dW _ _ ?_).trans<|he a o ?_<|kp a o ea
  .rintro rfl;injection hS.symm.trans ea
  .rintro rfl;injection hI.symm.trans ea
 |cons v vs ih=>
  exists v,vs,[ih];exists ys',j,h,b,yb,c;intro hd Bx hb hkb hkv kp hit ZW hR;exists y,ys,(q_:tV Bx);obtain⟨rfl,hv,hw⟩:=q_;have Od:(toString "max" ++toString ".loop" :String)= "max.loop" :=rfl;exists q,(hq:hkv v<|.head _);exists kb,(SA:hkb);have hx:items[j]?=some y:=by have:=aV (λl=>l[0]?) hd;simpa using this
  have p0:items.toList.drop (j+1)=ys:=by have:=aV (λl=>l.drop 1) hd;simpa[iH]using this
  refine eP kD ?_;rw[eB eW _];refine aD<|gG ZW rfl ?_;refine aD<|jU<|iK hit (hl.at λo e=>kp _ _ e) hx ?_;exists h';intro wO Ff;have GC:=(Ff.2 S<|dQ GG).trans ZW;have kp':=up (o':=default) hI kp Ff.2;have G':=G.ext kp' 0;exists a,(q_:G'.ZV hq hv);obtain⟨rfl,pa⟩:=q_;exists a',(q_:G'.ZV SA hb);obtain⟨rfl,pb⟩:=q_;have hu:C.A.in1.units<cLine:=cK (bW (aT _ _) (k7.Oc B).un) (by decide);show wpAny _ C.A.in1 (tryCatch (holding [.ref a,.ref a]<|richCompare .Gt (.ref a) (.ref a')>>=_) _>>=_) _ _ _;refine aD<|jU<|cL<|aD<|BA hu pa pb ?_;refine aD<|cL<|wpAny_truthy_bool ?_;refine aD<|i7<|aM ?_;have em:PL st.H b (v::vs)=PL st.H (if n9 q kb=true then v else b) vs:=by rw[<-S7 hq,<-S7 SA];rfl
  rw[em]at hR;rcases hg:n9 q kb with _|_
  .rw[aL (by rw[hg];exact bV)]at hR;refine aD<|i7 ?_;rw[Od];exact aM ⟨gW eW _,ih ys (j+1) h' b (.ref a') c p0 hw hb ⟨kb,SA⟩ (λu hu=>hkv u<|.tail _ hu) kp' wO GC hR⟩
  .rw[aH hg]at hR;refine aD ?_;refine jD GC rfl<|aD<|i7 ?_;rw[Od];refine aM ⟨gW eW _,ih ys (j+1) _ v (.ref a) _ p0 hw hv ⟨q,hq⟩ (λu hu=>hkv u<|.tail _ hu) (up (o':=default) hS kp' λa h=>dW _ _<|dQ h) ?_ (cT _ GC rfl) hR⟩;exact wO.at λo eo=>(dW _ _<|dQ GG).trans eo
open Classical in theorem max_sd(B:k7 (k+2) C)(hh:C.A.handled=none){i:Nat}{y:Value}(hv:VC ρ (.ref i) y):Sd C (call (.builtin "max") [y]) VC ρ s st<|mV st<|um i st.H:=by
 have Od:(toString "max" ++toString ".loop" :String)= "max.loop" :=rfl;refine gB (lift:=mV st) rfl λxs hi=>xF (lift:=mV st) rfl λhk=>?_;intro G r k6 e;injection e with q_;injection q_ with q_ p_;subst q_ p_;obtain⟨l,items,n,rfl,hl,Sf,Bx⟩:=G.list (nS hi) hv;have RY:s.heap.IsList l items:=⟨_,Sf,rfl,n,rfl⟩;obtain⟨v,vs,rfl⟩:=gH hk.1;obtain⟨y0,ys,hit,hv0,Bx⟩:=tV Bx;refine call_function_tree F.kind_max F.plain_max F.entry_max (F.args_max1 _) ?_;refine aD<|kS (show Builtin.Builtins.bindParams "max" ["key","default"] 0 ⟨[],[]⟩=pure [none,none]from rfl) ?_;refine aD<|aM ?_;refine aD<|iL RY ?_;refine aD<|eD ?_;refine Od▸?_;have sz:({s with heap:=s.heap.push {cls:=.type "list_iterator",data:=.fields #[.ref l,.int 0 0]}}:Shared).heap.objs.size=s.heap.objs.size+1:=by rw[dI]
 rw[sz];have hI0:s.heap.get? s.heap.objs.size=none:=cB<|aI _;have hS0:s.heap.get? (s.heap.objs.size+1)=none:=cB<|dM _;have GG:s.heap.objs.size≠s.heap.objs.size+1:=bI<|dX _;refine aM ⟨gW eW _,eP kD ?_⟩;refine(eB eW _)▸?_;generalize hh1:((s.heap.push {cls:=.type "list_iterator",data:=.fields #[.ref l,.int 0 0]}).push {cls:=.type "list",data:=.seq ([]:List Value).toArray})=h1;have kp:∀a o,s.heap.get? a=some o->h1.get? a=some o:=λa o ea=>by exact hh1▸(aZ _<|aZ _ ea)
 have hS1:h1.get? (s.heap.objs.size+1)=some {cls:=.type "list",dict:=none,data:=.seq #[],slots:= #[]}:=by refine hh1▸?_;have:=bT (s.heap.push {cls:=.type "list_iterator",data:=.fields #[.ref l,.int 0 0]}) (o:={cls:=.type "list",data:=.seq ([]:List Value).toArray}) rfl;rw[dI]at this;exact this
 have hI1:h1.IsListIter s.heap.objs.size l 0:=by exact hh1▸(⟨_,aZ _<|bT _ rfl,rfl,rfl⟩)
 refine aD<|gG hS1 rfl ?_;refine aD<|jU<|iK hI1 (RY.at λo e=>kp _ _ e) (by refine a6 bU.symm ?_;rw[hit];rfl) λh' wO Ff=>?_;have GC:=(Ff.2 _<|dQ GG).trans hS1;show wpAny _ C.A.in1 (updateSeq (s.heap.objs.size+1) (λU=> #[y0,y0])>>=_) _ _ _;refine aD ?_;refine jD GC rfl ?_;refine Od▸?_;refine aM ⟨gW eW _,ie B hh G RY hI0 hS0 GG vs ys 1 _ v y0 _ (by rw[hit];rfl) Bx hv0 (hk.2 v<|.head _) (λu hu=>hk.2 u<|.tail _ hu) (λa o ea=>?_) ?_ (cT _ GC rfl) λy h2 hy kp2=>?_⟩
 .exact(dW _ _ (by rintro rfl;replace ea:=hS0▸ea;injection ea)).trans ((λa o ea=>(Ff.2 a (by rintro rfl;replace ea:=hI0▸ea;injection ea)).trans<|kp a o ea) a o ea)
 .exact wO.at λo eo=>(dW _ _<|dQ GG).trans eo
 .exact⟨_,ρ,rfl,a8 _,hy,G.ext kp2 0,mY.lO ..⟩
def uN(scope sc:Scope):Scope:={scope with names:=scope.names.map λ(n,k)=>if(k==.free&&sc.kind==.function&&sc.names.lookup n==some .cell)then(n,.cell)else(n,k)}
def wT{β:Type}(loc:Loc)(o:lG β):Option<|β×Hp:=o.bind λp=>match p.1 with
 |.ok b=>if p.2.loc=loc then some (b,p.2.H)else none
 |.exc _=>none
def Ni:List Str->List V->Loc->Option Loc
 |[],vs,l=>if vs.isEmpty then some l else none
 |x::xs,vs,l=>match vs with
  |[]=>none
  |v::vs=>Ni xs vs<|put x v l
def KE(rs:Scope)(x:Str):Bool:=rs.names.lookup x==some .local
def Iy(rs:Scope)(t:Expr)(v:V)(st:St):Option Loc:=match oP t with
 |some x=>if KE rs x.1 then some (put x.1 v st.loc)else none
 |none=>(oy t).bind λq=>(Cb q.1).bind λxs=>if xs.all (KE rs)then(qV v xs.length st.H).bind λvs=>Ni xs vs st.loc else none
noncomputable abbrev rB:=St->Option St
def pJ(it:Hp->Option (List Nat×List V))(xs:List Nat×List V)(asg:V->St->Option Loc)(turn:rB):List V->rB
 |[],st=>if it st.H=some xs then some st else none
 |v::r,st=>if it st.H=some xs then(asg v st).bind λl=>(turn ⟨st.H,l⟩).bind λst=>pJ it xs asg turn r st else none
set_option genInjectivity false in
inductive GK where
 |plain
 |cond (c:Expr)
 |inner (t ix:Expr)
theorem yGk:Nonempty GK:=⟨.plain⟩
def Hg(Q:lR)(rs:Scope)(elt:Expr)(j:Nat):rB:=λst=>(wT st.loc<|mU Q rs elt st).bind λp=>(Ab j p.1 p.2).bind λH=>some ⟨H,st.loc⟩
def au(Q:lR)(rs:Scope)(elt:Expr)(j:Nat)(g:GK):rB:=λst=>match g with
 |.plain=>Hg Q rs elt j st
 |.cond c=>(wT st.loc<|rT Q rs c st).bind λp=>bif p.1 then Hg Q rs elt j ⟨p.2,st.loc⟩else some ⟨p.2,st.loc⟩
 |.inner t ix=>(wT st.loc<|mU Q rs ix st).bind λp=>(lZ p.1 p.2).bind λxs=>pJ (lZ p.1) xs (Iy rs t) (Hg Q rs elt j) xs.2 ⟨p.2,st.loc⟩
def Ku(rs:Scope)(l:Loc):Loc:=l.filter λp=>rs.names.lookup p.1==some .cell
def Jg(scope sc:Scope):Bool:=scope.kind==.function&&sc.kind==.function&&scope.names.all (λx=>x.2 !=.cell)&&
 scope.names.all (λx=>x.2 !=.free||sc.names.lookup x.1==some .cell)&&scope.names.all (λx=>scope.names.lookup x.1==some x.2)
def IJ(gens:List Comprehension):Option<|Expr×Expr×GK:=match gens with
 |[]=>none
 |g::gs=>if g.is_async==0 then(match gs with
  |[]=>(match g.ifs with
   |[]=>some (g.target,g.iter,.plain)
   |c::r=>if r.isEmpty then some (g.target,g.iter,.cond c)else none)
  |h::r=>if r.isEmpty&&(h.is_async==0)&&g.ifs.isEmpty&&h.ifs.isEmpty&&!vD h.iter then some (g.target,g.iter,.inner h.target h.iter)else none)else none
def Mr(Q:lR)(sc:Scope)(e:Expr)(st:St):lG V:=(Vx e).bind λq=>(IJ q.2.1).bind λg=>if Jg q.2.2.1 sc&&!vD g.2.1 then(wT st.loc<|mU Q sc g.2.1 st).bind λa=>(lZ a.1 a.2).bind λxs=>
 (pJ (lZ a.1) xs (Iy (uN q.2.2.1 sc) g.1) (au Q (uN q.2.2.1 sc) q.1 a.2.length g.2.2) xs.2 ⟨a.2++[.list []],Ku (uN q.2.2.1 sc) st.loc⟩).bind λk6=>some (.ok<|.ref a.2.length,⟨k6.H,st.loc⟩)else none
theorem Di{k6:St}(h:Mr Q sc e st=some (r,k6)):(∃q:Expr×List Comprehension×Scope×Pos,e=.ListComp q.1 q.2.1 q.2.2.1 q.2.2.2)/\∃b,r=.ok b:=by exists st,Q,sc,e,r,k6,[h];exists q,(q_:aB.mp h);obtain⟨hq,h⟩:=q_;exists uZ,(q_:aB.mp h);obtain⟨Os,h⟩:=q_;exists rc,(q_:aB.mp (Fd h).2);obtain⟨DB,h⟩:=q_;exists TY,(q_:aB.mp h);obtain⟨z6_,h⟩:=q_;exists z7_,(q_:aB.mp h);obtain⟨z8_,h⟩:=q_;exact⟨⟨q,Gw hq⟩,_,(bQ<|aA h).1.symm⟩
theorem uC{β:Type}{loc:Loc}{o:lG β}{p:β×Hp}(h:wT loc o=some p):o=some (.ok p.1,⟨p.2,loc⟩):=by
 obtain⟨⟨q,H,l⟩,h1,h2⟩:=aB.mp h;rcases q with b|c
 .obtain⟨e,h3⟩:=Fd h2;obtain rfl:l=loc:=e;obtain rfl:=aA h3;exact h1
 .exact nn h2
theorem pi(hk:rs.kind=.function):∀{vs:List V}{l l':Loc}{H:Hp},xs.all (KE rs)=true->Ni xs vs l=some l'->oX rs xs vs ⟨H,l⟩=some (.ok (),⟨H,l'⟩):=by
 induction xs with
 |nil=>
  intro vs l l' H _ h;rcases vs with _|_<;>cases h
  rfl
 |cons x xs ih=>
  intro vs l l' H hx h;simp only[iZ,aQ]at hx;rcases vs with _|⟨v,vs⟩
  .exact nn h
  .have:mX rs x v ⟨H,l⟩=some (.ok (),⟨H,put x v l⟩):=aH (by rw[hk,show(rs.names.lookup x==some .local)=true from hx.1];rfl);show(mX rs x v ⟨H,l⟩).then _=_
   exact this▸(ih hx.2 h)
def up(o:Option St):lG Unit:=o.map λst=>(.ok (),st)
theorem Ji(h:up o=some (r,k6)):o=some k6/\r=.ok ():=by obtain⟨st,h1,h2⟩:=a9.mp h;obtain⟨rfl,rfl⟩:=bQ h2;exact⟨h1,rfl⟩
theorem w9{st k6:St}(h:pJ it xs asg turn l st=some k6):it st.H=some xs:=by
 by_cases c:it st.H=some xs
 .exact c
 .rcases l with _|_<;>exact absurd ((aL c).symm.trans h) λh=>nn h
def u9(rs:Scope)(l l':Loc):Prop:=∀x,rs.names.lookup x=some .cell->l'.lookup x=l.lookup x
theorem El(h:KE rs x=true):u9 rs l<|put x v l:=λz hz=>by
 rw[xL,aL];rintro rfl
 replace hz:=(a5.mp h)▸hz;injection aA hz
theorem Lj{xs:List Str}:∀{vs:List V}{l l':Loc},xs.all (KE rs)=true->Ni xs vs l=some l'->u9 rs l l':=by
 induction xs with
 |nil=> intro vs l l' _ h;cases vs<;>cases h;exact λU U=>rfl
 |cons x xs ih=>
  intro vs l l' hx h;simp only[iZ,aQ]at hx;rcases vs with _|⟨v,vs⟩
  .exact nn h
  .exact λz hz=>(ih hx.2 h z hz).trans<|El hx.1 z hz
theorem Wk{st:St}(h:Iy rs t v st=some l):u9 rs st.loc l:=by
 exists rs,t,v,st,l,_;unfold Iy at h;rcases ha:oP t with _|x
 .exists _;have h:=ha▸h;exists q,(lW:aB.mp h);exists xs,(q9:aB.mp lW.2);obtain⟨c,e_⟩:=Fd q9.2;exists vs,(q8:aB.mp e_);exact k9<|Lj c q8.2
 .exists x,_;replace h:=ha▸h;obtain⟨c,h⟩:=Fd h;rcases h with _|_;exact El c
theorem w0(ht:∀st k6,turn st=some k6->u9 rs st.loc k6.loc)(l):∀st k6,pJ it xs (Iy rs t) turn l st=some k6->u9 rs st.loc k6.loc:=by
 induction l with
 |nil=>intro st k6 h;rcases(aH<|w9 h).symm.trans h with _|_;exact λU U=>rfl
 |cons v l ih=> intro st k6 h;obtain⟨l1,q9⟩:=aB.mp<|(aH<|w9 h).symm.trans h;obtain⟨st2,q8⟩:=aB.mp q9.2;exact λz hz=>((ih _ _ q8.2 z hz).trans<|ht _ _ q8.1 z hz).trans<|Wk q9.1 z hz
theorem xK(h:Hg Q rs elt j st=some k6):u9 rs st.loc k6.loc:=by obtain⟨p,_,h⟩:=aB.mp h;obtain⟨H,_,h⟩:=aB.mp h;obtain rfl:=aA h;exact λU U=>rfl
theorem Qb(st k6)(h:au Q rs elt j g st=some k6):u9 rs st.loc k6.loc:=by
 rcases g with _|c|⟨t,ix⟩
 .exact xK h
 .obtain⟨⟨b,H⟩,_,h⟩:=aB.mp h;rcases b with _|_
  .obtain rfl:=aA h;exact λU U=>rfl
  .exact xK (st:=⟨H,st.loc⟩) h
 .obtain⟨p,_,h⟩:=aB.mp h;obtain⟨xs,_,h⟩:=aB.mp h;exact w0 (λst k6 h=>xK h) _ ⟨p.2,st.loc⟩ _ h
theorem Bi{n:String}(ho:s.heap.get? i=some o)(hc:o.cls=.type n)(hd:o.data=.fields vs)(hn:v9 n=false)(q:Q () s):
 wpAny (model PG w) A (letOwnedTupleGo t (.ref i) v) Q E s:=by
 rcases t with _|_<;>first|exact aM q|skip
 all_goals
  rcases v with _|_<;>first|exact aM q|skip
  refine aD<|jR ho ?_;refine hc▸hd▸?_;dsimp only;exact(show(["enumerate","zip","dict_itemiterator","dict_reverseitemiterator","odict_iterator","itertools.zip_longest","itertools.pairwise"].contains n)=false from hn)▸(aM q)
theorem PN(hh:C.A.handled=none)(hE:C.env.scope=rs)(hk:rs.kind=.function)(t){v:V}{y:Value}(hv:VC ρ v y){l:Loc}(e:Iy rs t v st=some l):Sd C (assign t C.env y) UR ρ s st<|some (.ok (),⟨st.H,l⟩):=by
 exists C,ρ,st,s,rs,t,v,y,l,[hh,hE,hk,hv,e];subst hE;unfold Iy at e;rcases ha:oP t with _|x
 .replace e:=ha▸e;exists q,(nO:aB.mp e);obtain rfl:=Dn nO.1;exists xs,(lW:aB.mp nO.2);by_cases c:xs.all (KE C.env.scope)=true
  .exists vs,(q8:aB.mp<|(aH c).symm.trans lW.2);obtain⟨h1,q9⟩:=zD q.1 xs lW.1;simp[show some (oV.ok (),⟨st.H,l⟩)=(pE st<|qV v xs.length st.H).then λvs st=>oX C.env.scope xs vs st by exact q8.1▸((pi hk c q8.2).symm)];exact h1▸q9.1▸(Sd.standAt<|Sd.bind (Sd.holding<|Hc hh hv) λlI s' k6 vs ys hp Bx=>q9.2 vs ys lI s' k6 Bx.1)
  .exact nomatch (aL c).symm.trans lW.2
 .exists x,_;rw[ha]at e;obtain rfl:=nQ ha;by_cases c:KE C.env.scope x.1=true
  .obtain rfl:=aA<|(aH c).symm.trans e;rw[show some (oV.ok (),⟨st.H,put x.1 v st.loc⟩)=mX C.env.scope x.1 v st from(aH (by rw[hk,show(C.env.scope.names.lookup x.1==some .local)=true from c];rfl)).symm];exact Sd.standAt<|rW hv
  .exact nomatch (aL c).symm.trans e
set_option tactic.hygienic true in
def EA(w:World)(A:Around)(t:Expr)(env:Env)(it:Value)(T:Sem Unit)(c:Code)(Q:Fin->Shared->Prop)(E:Value->Shared->Prop):Shared->Prop:=
 wpAny (model PG w) A (pyNext it) (λr lD=>match r with
  |none=>Q (.done .next) lD
  |some v=>wpAny (model PG w) A (letOwnedTupleGo t it v) (λU mQ=>wpAny (model PG w) A (assign t env v) (λU mO=>wpAny (model PG w) A T (λU zP=>Q (.again c) zP) E mO) E mQ) E lD) E
theorem Uk(e:m=(standAt p>>=λU=>pyNext it>>=λr=>match r with
 |none=>pure<|.done .next
 |some v=>letOwnedTupleGo t it v>>=λU=>assign t env v>>=λU=>T>>=λU=>again c))(s)(Q)(E)(h:EA w A t env it T c Q E s):wpAny (model PG w) A m Q E s:=by
 rw[e];refine aD<|dK<|aD<|bL h (λr lD sI=>?_) λU U h'=>h';rcases r with _|v
 .exact aM sI
 .exact aD (bL sI (λU mQ Er=>aD<|bL Er (λU mO oQ=>aD<|bL oQ (λU zP uV=>aM uV) λU U x=>x) λU U x=>x) λU U x=>x)
inductive abO(C:Cx)(it:Hp->Option (List Nat×List V))(xs:List Nat×List V)(asg:V->St->Option Loc)(turn:rB)(i:Addr)(P:Nat->Obj->Prop)(ρ:List Addr)(s:Shared)(k6:St)(m:Nat)(mO:Shared):Prop
 |mk (nF:List Addr) (m7:St) (j:Nat) (o:Obj) (e1:m=xs.2.length-j) (e2:j<=xs.2.length) (p:ρ<+:nF) (g:kZ C nF m7 mO) (n:mY C.F s mO) (ho:mO.heap.get? i=some o) (hp:P j o) (hi:i∉nF) (e:pJ it xs asg turn (xs.2.drop j) m7=some k6)
theorem Aw{i:Addr}{P:Nat->Obj->Prop}{mF:List Addr}{rR:Cx}(hw:rR.w=C.w)(hA:rR.A=C.A)(B:k7 k C)(hh:C.A.handled=none)(K:Bd rR (lZ a) mF xs i P)
 (hc:∀k o,P k o->∃n vs,o.cls=.type n/\o.data=.fields vs/\v9 n=false){elt:Expr}{gens:List Comprehension}{scope:Scope}{pos:Pos}{depth:Nat}{acc:Value}{Zb:Expr}{T:Sem Unit}{turn:rB}{rs:Scope}(hE:C.env.scope=rs)
  (GH:∀s Q E,EA C.w C.A Zb C.env (.ref i) T (.compLoop (.ListComp elt gens scope pos) depth (.ref i) acc C.env) Q E s->wpAny (model PG C.w) C.A (compTurn (.ListComp elt gens scope pos) depth (.ref i) acc C.env) Q E s)
  (hT:∀h',k7 k (C.at h')->∀lI s st,ρ<+:lI->Sd (C.at h') T UR lI s st (up<|turn st))
  (G:kZ C ρ st s){o:Obj}(Fe:s.heap.get? i=some o)(hP:P 0 o)(h1:i∉ρ)(h2:i≠C.env.locals)(h3:C.ail.get? i=none)(hp:mF<+:ρ){k6:St}(ef:pJ (lZ a) xs (Iy rs Zb) turn xs.2 st=some k6):
  codeAny (model PG C.w) C.A (.compLoop (.ListComp elt gens scope pos) depth (.ref i) acc C.env) (λr s'=>(∃f,r=.ok f)/\∃lI,ρ<+:lI/\kZ C lI k6 s'/\mY C.F s s') s:=by
  exists k,C,ρ,st,s,a,xs,i,P,mF,rR,elt,gens,scope,pos,depth,acc,Zb,T,turn,rs,o,k6,[hw,hA,B,hh,K,hc,hE,GH,hT,G,Fe,hP,h1,h2,h3,hp,ef];have ZA:i∉C.F:=λhm=>by obtain⟨o',_,_,h0,_⟩:=B.live i hm;replace h0:=h3▸h0;rcases h0 with _|_
  refine codeAny_loop rfl (abO C (lZ a) xs (Iy rs Zb) turn i P ρ s k6) (λm mO hI=>?_) xs.2.length ⟨ρ,st,0,o,rfl,cV _,a8 _,G,.refl _,Fe,hP,h1,ef⟩;obtain⟨nF,m7,j,Yu,hm,hj,oN,oA,tA,Ey,ZB,zR,pU⟩:=hI;exists nm,vs,(nO:hc j Yu ZB);have hit:=w9 pU;have step:=K C.env C.ail C.F nF m7 mO j Yu (hp.trans oN) (hw▸hA▸oA) hit Ey ZB zR;rw[hw,hA]at step;refine wpAny_noted<|GH _ _ _ ?_;exists _;by_cases sJ:j<xs.2.length
  .rw[dZ sJ]at pU;obtain⟨adb,hq,pU⟩:=aB.mp<|(aH hit).symm.trans pU;obtain⟨Vj,h6,pU⟩:=aB.mp pU;refine k9<|step.1 _ (aP sJ) _ _ λh' y o' n RN rA ZC hy=>?_;exists _;obtain⟨TM,YU,TP,lW⟩:=hc (j+1) o' ZC;have hk:∀u,o'.data≠.cell u:=λu q=>by have q:=lW.1▸q;injection q
   refine k9<|Bi rA TP lW.1 lW.2 ?_;refine Sd.Kl B (λVi B'=>PN (C:=C.at Vi) hh hE (hE▸B.fn) Zb hy hq) (oA.extBut RN.extBut Ey nO.2.1 zR h2 h3) rfl λU xU Bn N7 U Bz R9 Kp=>?_;have q9:=Kp i o' TM rA zR h2 ZA TP hk;refine Sd.Kl B (λVi B'=>hT Vi B' Bn xU ⟨m7.H,adb⟩<|oN.trans N7) Bz (by rw[h6];rfl) λU Ft vX Hq U Ez B3 zS=>?_;have q8:=zS i o' TM q9.1 q9.2 h2 ZA TP hk;exact⟨rfl,xs.2.length-(j+1),by grind,vX,Vj,j+1,o',rfl,sJ,(oN.trans N7).trans Hq,Ez,((tA.trans<|mY.heap mO h' n).trans R9).trans B3,q8.1,ZC,q8.2,pU⟩
  .have CV:=dU sJ;rw[iJ CV]at pU;cases(aH hit).symm.trans pU;exact k9<|step.2 CV _ _ λh' n RN=>⟨⟨_,rfl⟩,nF,oN,oA.extBut RN Ey nO.2.1 zR h2 h3,tA.trans<|mY.heap mO h' n⟩
def Np(elt:Expr)(env:Env)(acc:Value):Sem Unit:=eval elt env>>=λx=>call (.builtin "list.append") [acc,x]>>=λU=>pure ()
def Nd(e elt:Expr)(env:Env)(acc:Value):GK->Sem Unit
 |.plain=>Np elt env acc
 |.cond c=>isTrue c env (eval c env)>>=λok=>if ok=true then Np elt env acc else pure ()
 |.inner t ix=>do
  let x<-eval ix env
  standAt ix.pos
  let x<-foldedSetIterable ix env x
  let TZ<-holding [x] (pyIter x)
  let _<-runOwn (.compStart e 1 TZ acc env) env
  pure ()
theorem I7(O:lV C Q)(hE:C.env.scope=rs)(Kv:VC ρ (.ref j) acc):Sd C (Np elt C.env acc) UR ρ s st<|up<|Hg Q rs elt j st:=by subst hE;refine Sd.qe λG r k6 e Q' E kQ kE=>?_;obtain⟨e1,rfl⟩:=Ji e;obtain⟨p,q9⟩:=aB.mp e1;obtain⟨H,q8⟩:=aB.mp q9.2;obtain rfl:=aA q8.2;exact aD<|(mE O elt st ρ s).ok G (uC q9.1) λx lD mF p1 hv lY aim=>aD<|(dz (Kv.mono p1) hv q8.1).ok lY rfl λU mQ mD p2 U m2 oB=>aM<|kQ _ _ ⟨(),mD,rfl,p1.trans p2,trivial,m2,aim.trans oB⟩
theorem ip:compTurn (.ListComp elt [⟨t,ix,[],0⟩,⟨t',B4,[],0⟩] scope pos) 1 it acc env=(standAt B4.pos>>=λU=>pyNext it>>=λr=>match r with
 |none=>pure<|.done .next
 |some v=>letOwnedTupleGo t' it v>>=λU=>assign t' env v>>=λU=>Np elt env acc>>=λU=>again<|.compLoop (.ListComp elt [⟨t,ix,[],0⟩,⟨t',B4,[],0⟩] scope pos) 1 it acc env):=by rfl
theorem O3
 (h0:codeAny (model PG w) A (.compLoop (.ListComp elt [⟨t,ix,[],0⟩,⟨t',B4,[],0⟩] scope pos) 1 it acc env) R s)
  (h:wpAny (model PG w) A (pyIter it) (λTZ s'=>codeAny (model PG w) A (.compLoop (.ListComp elt [⟨t,ix,[],0⟩,⟨t',B4,[],0⟩] scope pos) 1 TZ acc env) R s') (notedBy (model PG w) A env λx s'=>R (.error x) s') s):
  codeAny (model PG w) A (.compStart (.ListComp elt [⟨t,ix,[],0⟩,⟨t',B4,[],0⟩] scope pos) 1 it acc env) R s:=by
  refine jB ?_;refine wpAny_notedAt ?_;refine aD<|wpAny_askSetting<|wpAny_ite ?_;split
  .first
    |exact aD<|aM<|aM<|And.intro rfl h0
    |exact aM<|And.intro rfl h0
  .exact aD (iR<|aD<|dK<|aD<|bL h (λTZ s' h'=>aM<|And.intro rfl h') λU U x=>x)
inductive FG:List Comprehension->Expr->Expr->GK->Prop
 |plain (t ix:Expr):FG [⟨t,ix,[],0⟩] t ix .plain
 |cond (t ix c:Expr):FG [⟨t,ix,[c],0⟩] t ix<|.cond c
 |inner (t ix t' B4:Expr) (h:vD B4=false):FG [⟨t,ix,[],0⟩,⟨t',B4,[],0⟩] t ix<|.inner t' B4
theorem BE(h:IJ gens=some g):FG gens g.1 g.2.1 g.2.2:=by
 exists gens,g,_;cases gens with
 |nil=>exact nn h
 |cons a gs=>
 exists a,gs,_;obtain⟨t,ix,ifs,b⟩:=a;exists t,ix,ifs,b,_;by_cases hb:(b==0)=true;rotate_left
 .injection(aL hb).symm.trans h
 obtain rfl:=a5.mp hb;rcases gs with _|⟨a,gs⟩
 .rcases ifs with _|⟨c,r⟩
  .obtain rfl:=aA h;exact .plain t ix
  .exists c,r,_;obtain⟨hr,h⟩:=Fd h;cases h;obtain rfl:=cI.mp hr;exact .cond t ix c
 .exists a,gs,_;obtain⟨t',B4,adc,b'⟩:=a;exists t',B4,adc,b',_;obtain⟨hc,h⟩:=Fd h;cases h;simp only[aQ,cI,a5,dA]at hc;obtain⟨⟨⟨⟨rfl,rfl⟩,rfl⟩,rfl⟩,hs⟩:=hc;exact .inner t ix t' B4 hs
theorem Xm{g:GK}(h:FG gens t ix g){scope:Scope}{pos:Pos}{it acc:Value}{env:Env}:compTurn (.ListComp elt gens scope pos) 0 it acc env=(standAt ix.pos>>=λU=>pyNext it>>=λr=>match r with
 |none=>pure<|.done .next
 |some v=>letOwnedTupleGo t it v>>=λU=>assign t env v>>=λU=>Nd (.ListComp elt gens scope pos) elt env acc g>>=λU=>again<|.compLoop (.ListComp elt gens scope pos) 0 it acc env):=by
 exists gens,t,ix,elt,g,scope,pos,it,acc,env,[h];rcases h with⟨_,_⟩|⟨_,_,c⟩|⟨_,_,t',B4,hs⟩
 .rfl
 .exists c,[];rw[compTurn_list];refine aV (standAt ix.pos>>= ·)<|funext λU=>aV (pyNext it>>= ·)<|funext ?_;exists r;induction r with
  |none=>rfl
  |some v=>
  refine aV (letOwnedTupleGo t it v>>= ·)<|funext λU=>aV (assign t env v>>= ·)<|funext ?_;exists z_;simp only[fU,List.forIn_nil,if_true,pure_bind,Nd,bind_assoc,Np];refine aV (isTrue c env (eval c env)>>= ·)<|funext ?_;exists ok;induction ok<;>simp
 .have e:∀K:Sem Fin,(Nd (.ListComp elt [⟨t,ix,[],0⟩,⟨t',B4,[],0⟩] scope pos) elt env acc (.inner t' B4)>>=λU=>K)=(eval B4 env>>=λx=>standAt B4.pos>>=λU=>foldedSetIterable B4 env x>>=λx=>holding [x] (pyIter x)>>=λTZ=>runOwn (.compStart (.ListComp elt [⟨t,ix,[],0⟩,⟨t',B4,[],0⟩] scope pos) 1 TZ acc env) env>>=λU=>K):=λK=>by simp only[Nd,bind_assoc,pure_bind]
  rw[e];rfl
theorem ym{Q:lR}(B:k7 k C)(hh:C.A.handled=none)(O:∀C',k7 k C'->lV C' Q){rs:Scope}(hE:C.env.scope=rs){gens:List Comprehension}{t ix elt:Expr}{g:GK}(h:FG gens t ix g){scope:Scope}{pos:Pos}{j:Nat}{acc:Value}(Kv:VC ρ (.ref j) acc):
 Sd C (Nd (.ListComp elt gens scope pos) elt C.env acc g) UR ρ s st (up<|au Q rs elt j g st):=by
 exists k,C,ρ,st,s,Q,rs,gens,t,ix,elt,g,scope,pos,j,acc,[B,hh,O,hE,h,Kv];rcases h with⟨_,_⟩|⟨_,_,c⟩|⟨_,_,t',B4,hs⟩
 .exact I7 (O C B) hE Kv
 .exists c,[];refine Sd.qe ?_;intro G;exists r,k6;intro e;exists Q',E;intro kQ kE;exists _;exists g9,_;obtain⟨e1,rfl⟩:=Ji e;obtain⟨⟨b,H⟩,h1,e⟩:=aB.mp e1;exists b,H,[h1,e];have ht:=tF (O C B) c st ρ s;rw[hE]at ht;refine k9<|aD<|ht.ok G (uC h1) ?_;exists x,lD,mF;intro p1 hb lY aim;subst hb;rcases b with _|_
  .obtain rfl:=aA e;exact aM<|kQ _ _ ⟨(),mF,rfl,p1,trivial,lY,aim⟩
  .exact(I7 (O C B) hE<|Kv.mono p1).ok lY (by rw[show Hg Q rs elt j ⟨H,st.loc⟩=some k6 from e];rfl) λU mQ mD p2 U m2 oB=>kQ _ _ ⟨(),mD,rfl,p1.trans p2,trivial,m2,aim.trans oB⟩
 .exists t',B4,_;refine Sd.qe ?_;intro G;exists r,k6;intro e;exists Q',E;intro kQ kE;obtain⟨e1,rfl⟩:=Ji e;exists p,(q_:aB.mp e1);obtain⟨h1,e⟩:=q_;exists xs,(q_:aB.mp e);obtain⟨hx,e⟩:=q_;have ht:=mE (O C B) B4 st ρ s;replace ht:=hE▸ht;refine aD<|ht.ok G (uC h1) ?_;exists x,lD,mF;intro p1 ha lY aim;rw[show foldedSetIterable B4 C.env x=pure x by rcases B4 with _|_<;>first|rfl|cases hs]
  refine aD<|dK<|aD<|aM<|aD<|cL ?_;have q9:=lY.fresh;refine Ib hh lY ha hx _ _ ?_;exists P,o;intro hf RM hc hK hS;have Fe:(lD.heap.push o).get? lD.heap.objs.size=some o:=bT _ hf;have loop:=Aw rfl rfl B hh hK hc (gens:=[⟨t,ix,[],0⟩,⟨t',B4,[],0⟩]) (scope:=scope) (pos:=pos) hE (λs Q E h=>Uk ip s Q E h)
   (λh' B' lI s st hp=>I7 (O _ B') hE<|(Kv.mono p1).mono hp) (lY.wK o) Fe RM q9.1 q9.2.1 q9.2.2 (a8 _) e
  have GI:=dP (R':=λr s'=>match r with|.ok f=>wpAny (model PG C.w) C.A (pure ()) Q' E s'|.error e=>cameBackBy (model PG C.w) C.A C.env E e s') loop λr s' P=>by obtain⟨⟨f,rfl⟩,lI,q8⟩:=P;exact aM<|kQ _ _ ⟨(),lI,rfl,p1.trans q8.1,trivial,q8.2.1,(aim.trans<|mY.lO lD<|lD.heap.push o).trans q8.2.2⟩
  exact aD<|wpAny_runOwn<|O3 GI<|hS _ 0 o Fe RM _ _ _ GI
def qM(env:Env):List (Str×NameKind)->List (Str×Addr)->List (Str×Addr)
 |[],acc=>acc
 |(n,kd)::r,acc=>qM env r (if kd==.free then(n,(env.cells.lookup n).getD 0)::acc else acc)
theorem Fi{env:Env}(h:∀x∈scope.names,x.2=.free->env.cells.lookup x.1≠none):closureFor scope env=pure (qM env scope.names []):=by
 exists scope,env,_;dsimp only[closureFor];have key:∀l acc,(∀x∈l,x.2=.free->env.cells.lookup x.1≠none)->
  (forIn l acc λx r=>(match x with
  |(name,kind)=>if(kind==NameKind.free)=true then do let a<-cellOf env name;pure (ForInStep.yield ((name,a)::r))else pure (ForInStep.yield r):Sem<|ForInStep<|List<|Str×Addr))=pure (qM env l acc):=by
  intro l;induction l with
  |nil=>intro acc _;rfl
  |cons x r ih=>
   intro acc hx;obtain⟨n,kd⟩:=x;rw[fU];dsimp only[qM];by_cases hk:(kd==NameKind.free)=true
   .have hn:=hx (n,kd) (.head _)<|a5.mp hk;rcases hc:env.cells.lookup n with _|a
    .exact absurd hc hn
    .simp only[hk,(by unfold cellOf;rw[hc]:cellOf env n=pure a)];exact ih _ λx hm=>hx x<|.tail _ hm
   .simp only[hk];exact ih _ λx hm=>hx x<|.tail _ hm
 have:=key scope.names [] h;simp only[bind_pure]at this⊢;exact this
set_option tactic.hygienic true in
theorem jr:∀{l:List (Str×NameKind)}{acc:List (Str×Addr)}{p:Str×Addr},p∈qM env l acc->p∈acc\/((p.1,NameKind.free)∈l/\p.2=(env.cells.lookup p.1).getD 0):=by
 revert env;exists env;intro zr;induction zr with
 |nil=> intro acc p h;exact .inl h
 |cons zh r mB=>
  obtain⟨n,kd⟩:=zh;intro acc p h;rcases mB h with h'|h'
  .split at h'
   .rename_i hk;rcases aK.mp h' with rfl|h'
    .refine .inr ⟨?_,rfl⟩;exact(a5.mp hk)▸(.head _)
    .exact .inl h'
   .exact .inl h'
  .exact .inr ⟨.tail _ h'.1,h'.2⟩
theorem sf:∀{l:List (Str×NameKind)}{acc:List (Str×Addr)}{x:Str},((x,NameKind.free)∈l\/∃a,(x,a)∈acc)->∃a,(x,a)∈qM env l acc:=by
 revert env;exists env;intro zr;induction zr with
 |nil=>
  intro acc x h;rcases h with h|h
  .cases h
  .exact h
 |cons zh r mB=>
  obtain⟨n,kd⟩:=zh;intro acc x h;rcases h with h|⟨a,h⟩
  .rcases aK.mp h with e|h
   .obtain⟨rfl,rfl⟩:=bQ e;exact mB<|.inr ⟨_,by rw[aH<|by rfl];exact .head _⟩
   .exact mB (.inl h)
  .refine mB (.inr ⟨a,?_⟩);refine iteInduction (λU=>?_) λU=>?_
   .exact .tail _ h
   .exact h
theorem xY{l:List (Str×Addr)}(h:(x,a)∈l):∃b,l.lookup x=some b/\(x,b)∈l:=by
 induction l with
 |nil=>cases h
 |cons q l ih=>
  rw[cP];rcases hb:x==q.1 with _|_
  .rcases aK.mp h with e|h
   .exact absurd (a5.mpr<|aV Prod.fst e) (by rw[hb];exact bV)
   .exact(ih h).imp λb q8=>⟨q8.1,.tail _ q8.2⟩
  .exact⟨q.2,rfl,a5.mp hb▸.head _⟩
theorem vG(rs)(x):∀l,(Ku rs l).lookup x=if rs.names.lookup x==some .cell then l.lookup x else none:=by
 revert rs x;exists rs,x;intro zr;induction zr with
 |nil=> simp[Ku]
 |cons zh r mB=>
  obtain⟨n,v⟩:=zh;have ih:=mB;unfold Ku at ih⊢;refine a6 (aV _ List.filter_cons) ?_;by_cases hn:(rs.names.lookup n==some NameKind.cell)=true
  .rw[aH hn,cP,cP,ih];rcases hb:x==n with _|_
   .rfl
   .have e:=a5.mp hb;subst e;show some v=if _ then some v else none
    rw[aH hn]
  .rw[aL hn,ih,cP];rcases hb:x==n with _|_
   .rfl
   .have e:=a5.mp hb;subst e;refine a6 (aL hn) ?_;rw[aL hn]
theorem yF(scope sc)(x):(uN scope sc).names.lookup x=(scope.names.lookup x).map λk=>if(k==.free&&sc.kind==.function&&sc.names.lookup x==some .cell)then .cell else k:=by
 exists scope,sc,x,[];unfold uN;dsimp only;induction scope.names with
 |nil=>rfl
 |cons p r ih=>
  exists p,r,_;obtain⟨n,kd⟩:=p;exists n,kd,[];rw[cW];by_cases hc:(kd==NameKind.free&&sc.kind==.function&&sc.names.lookup n==some .cell)=true
  .rw[aH hc,cP,cP];cases hb:x==n with
   |true=> have e:=a5.mp hb;subst e;show some NameKind.cell=some (if _ then _ else _);rw[aH hc]
   |false=>exact ih
  .rw[aL hc,cP,cP];cases hb:x==n with
   |true=> have e:=a5.mp hb;subst e;show some kd=some (if _ then _ else _);rw[aL hc]
   |false=>exact ih
theorem o5{α β:Type}[BEq α][LawfulBEq α]{l:List (α×β)}{a:α}{b:β}(h:l.lookup a=some b):(a,b)∈l:=Mq h
structure s6(scope sc:Scope):Prop where
 kind:scope.kind=.function
 outer:sc.kind=.function
 si:∀x∈scope.names,x.2≠.cell
 free:∀x,(x,NameKind.free)∈scope.names->sc.names.lookup x=some .cell
 cons:∀x kd,(x,kd)∈scope.names->scope.names.lookup x=some kd
theorem Yq(h:Jg scope sc=true):s6 scope sc:=by
 unfold Jg at h;simp only[aQ,aX,d8,hV,a5]at h;obtain⟨⟨⟨⟨h1,h2⟩,h3⟩,h5⟩,h6⟩:=h;refine⟨h1,h2,h3,λx hx=>?_,λx kd hx=>h6 (x,kd) hx⟩;rcases h5 (x,.free) hx with h|h
 .exact absurd rfl h
 .exact h
set_option tactic.hygienic true in
theorem s6.zV(S:s6 scope sc):(uN scope sc).names.lookup x=some .cell<->(x,NameKind.free)∈scope.names:=by
 exists scope,sc,x,_;rw[yF];constructor
 .intro h;exists kd,(q_:a9.mp h);obtain⟨h1,h2⟩:=q_;have hm:=o5 h1;split at h2
  .rename_i hc;simp only[aQ,a5]at hc;rw[hc.1.1]at hm;exact hm
  .subst h2;exact absurd rfl<|S.si _ hm
 .intro h;refine a6 (aV _<|S.cons x _ h) ?_;show some (if _ then _ else _)=_;rw[aH<|by simp[S.outer,S.free x h]]
set_option tactic.hygienic true in
theorem s6.Yz(S:s6 scope sc):(uN scope sc).names.lookup x≠some .free:=by
 exists scope,sc,x,_;rw[yF];intro h;exists kd,(q_:a9.mp h);obtain⟨h1,h2⟩:=q_;split at h2
 .injection h2
 .rename_i hc;subst h2;apply hc;simp[S.outer,S.free x<|o5 h1]
def Cx.comp(C:Cx)(h:Heap)(ue:List Addr)(env:Env):Cx:={w:=C.w,A:=C.A,env:=env,ail:=hideAll h ue,F:=C.F}
theorem kZ.other(G:kZ C ρ st s)(x:Heap.SameBut i s.heap h')(ho:s.heap.get? i=some o)(hd:∀u,o.data≠.cell u)(h1:i∉ρ)(h2:i≠C.env.locals)(h3:C.ail.get? i=none):kZ C ρ st {s with heap:=h'}:=by
 refine⟨G.sim.same x h3 h1,⟨?_,G.fr.none,G.fr.out,λy a hy=>?_,G.fr.own,G.fr.has,G.fr.kind,G.fr.lo⟩,G.tk⟩
 .obtain⟨m,q9⟩:=G.fr.ns;exact⟨m,q9.1.sameBut x<|dQ h2,q9.2⟩
 .obtain⟨g1,g2,u,q8⟩:=G.fr.cell y a hy;refine⟨g1,g2,u,q8.1.sameBut x ?_,q8.2⟩;rintro rfl
  obtain⟨oc,e1,e2⟩:=q8.1;replace e1:=ho▸e1;obtain rfl:=aA e1;exact hd _ e2
theorem qE(S:s6 scope C.env.scope)(G:kZ C ρ st s)(h:(x,a)∈qM C.env scope.names []):(x,NameKind.free)∈scope.names/\C.env.cells.lookup x=some a/\C.env.kindOf x=some .cell:=by
 rcases jr h with h'|⟨h1,h2⟩
 .cases h'
 .have hk:=S.free x h1;refine⟨h1,?_,hk⟩;rcases hc:C.env.cells.lookup x with _|b
  .exact absurd hc (G.fr.has x<|.inl hk)
  .dsimp only at h2;rw[hc]at h2;rw[h2];rfl
theorem Hr(S:s6 scope C.env.scope)(G:kZ C ρ st s)(h:(x,NameKind.free)∈scope.names):∃a,(qM C.env scope.names []).lookup x=some a/\C.env.cells.lookup x=some a:=by exists a,(ha:sf (env:=C.env) (acc:=[])<|.inl h);exists b,(q8:xY ha);exact⟨b,q8.1,(qE S G q8.2).2.1⟩
theorem k7.comp(S:s6 scope C.env.scope)(B:k7 k C)(G:kZ C ρ st s)(Cl):k7 k<|C.comp s.heap (ρ++(qM C.env scope.names []).map (·.2))<|compEnvC scope (qM C.env scope.names []) Cl C.env:=by
 exists k,C,ρ,st,s,scope,Cl,[S,B,G];have key:∀b o,C.ail.get? b=some o->∃o',(hideAll s.heap<|ρ++(qM C.env scope.names []).map (·.2)).get? b=some o'/\yM C.F b o o':=λb o e=>by
  exists b,o,_;exists o',(lW:G.sim.keep.1 b o e);refine⟨o',dL _ lW.1 λhm=>?_,lW.2⟩;rcases aO.mp hm with hm|hm
  .exact(G.kept e).2.1 hm
  .exists p,(q_:cA.mp hm);obtain⟨hp,rfl⟩:=q_;obtain⟨uZ,h2,h3⟩:=qE S G hp;replace e:=((G.fr.own _ _ h2 h3).1)▸e;exact nn e
 refine⟨B.top.keep ⟨key,G.sim.keep.2⟩ B.hi,B.hi,λf hf=>?_,B.dp,B.un,S.kind,B.gl⟩;exists f,_;exists o,es,n,(q9:B.live f hf);exists o',(q8:key f o q9.1);exact⟨o',es,n,q8.1,q8.2.dict q9.2⟩
theorem kZ.SB(S:s6 scope C.env.scope)(B:k7 k C){H:Hp}{acc Cl:Addr}{sI:Heap}{t:Nat}(lY:kZ C ρ st lD)(oA:kZ C (ρ++[acc]) ⟨H,st.loc⟩ mO)(k1:∀b o,lD.heap.get? b=some o->mO.heap.get? b=some o)(ha:lD.heap.get? acc=none)
 (k2:∀b o,mO.heap.get? b=some o->sI.get? b=some o)(DF:mO.heap.get? Cl=none)(hn:sI.Ns Cl λx=>([]:List<|Str×Value).reverse.lookup x)(w7:935<=Cl)(ht:mO.toks<=t):
  kZ (C.comp lD.heap (ρ++(qM C.env scope.names []).map (·.2))<|compEnvC scope (qM C.env scope.names []) Cl C.env) (ρ++[acc]) ⟨H,Ku (uN scope C.env.scope) st.loc⟩ {mO with heap:=sI,toks:=t}:=by
  exists k,C,ρ,st,scope,lD,mO,H,acc,Cl,sI,t,[S,B,lY,oA,k1,ha,k2,DF,hn,w7,ht];have fresh:∀b,lD.heap.get? b=none->(hideAll lD.heap<|ρ++(qM C.env scope.names []).map (·.2)).get? b=none:=λb hb=>by
   rcases q:(hideAll lD.heap<|ρ++(qM C.env scope.names []).map (·.2)).get? b with _|o
   .rfl
   .replace hb:=(dS _ q)▸hb;injection hb
  have ZX:lD.heap.get? Cl=none:=by
   rcases q:lD.heap.get? Cl with _|o
   .rfl
   .replace DF:=(k1 _ _ q)▸DF;injection DF
  refine⟨⟨oA.sim.len,oA.sim.nd,λi a ao e1 e2=>?_,λa hm=>⟨?_,(oA.sim.new a hm).2⟩,⟨λb o e=>⟨o,k2 _ _<|k1 _ _<|dS _ e,.refl _ _⟩,λf hf o e=>B.cls lY f hf o<|dS _ e⟩⟩,⟨⟨_,hn,λx hx=>?_⟩,fresh _ ZX,λhm=>?_,λx a hx=>?_,λx a hx hk=>?_,λx hx=>?_,λx a hx=>?_,w7⟩,?_⟩
  .exists o,(sD:oA.sim.obj i a ao e1 e2);exact⟨o,k2 _ _ sD.1,sD.2⟩
  .rcases aO.mp hm with hm|hm
   .exact eM _ (b6 _ hm)
   .rw[aE]at hm;obtain rfl:=hm.symm;exact fresh _ ha
  .have Zc:(uN scope C.env.scope).names.lookup x=some .local:=hx;rw[vG,Zc];exact trivial
  .exists o,(ho:oA.live hm);exact absurd (DF.symm.trans ho)<|nn
  .exists x,a,_;have nO:=qE S lY<|o5 hx;obtain⟨g1,g2,u,lW⟩:=lY.fr.cell x a nO.2.1;exists u,_;exists oc,(q_:lW.1);obtain⟨e1,e2⟩:=q_;refine⟨λhm=>?_,?_,u,⟨oc,k2 _ _<|k1 _ _ e1,e2⟩,?_⟩
   .rcases aO.mp hm with hm|hm
    .exact g1 hm
    .rw[aE]at hm;subst hm;replace e1:=ha▸e1;injection e1
   .intro q;have e1':lD.heap.get? Cl=some oc:=by exact(show a=Cl from q)▸e1
    replace e1':=ZX▸e1';exact nn e1'
   .rw[vG,S.zV.mpr nO.1];exact lW.2.mono ⟨_,rfl⟩
  .have q9:=qE S lY<|o5 hx;refine⟨eM _<|aW _<|cA.mpr ⟨(x,a),o5 hx,rfl⟩,?_⟩;exists y;intro hy;exact(lY.fr.own x a q9.2.1 q9.2.2).2 y (qE S lY<|o5 hy).2.1
  .exists x,_;rcases hx with hx|hx
   .exists a,(q_:Hr S lY<|S.zV.mp hx);obtain⟨ha,uZ⟩:=q_;intro q;replace ha:=q▸ha;exact nn ha
   .exact absurd hx S.Yz
  .obtain⟨h1,q8⟩:=qE S lY<|o5 hx;intro q;have q':(uN scope C.env.scope).names.lookup x=some .local:=q;replace q':=(S.zV.mpr h1)▸q';injection aA q'
  .have:=oA.tk;lia
theorem kZ.SD(S:s6 scope C.env.scope){lD s':Shared}{lI:List Addr}{Cl:Addr}{H:Hp}{l:Loc}(lY:kZ C ρ st lD)(hp:ρ<+:lI)
 (G':kZ (C.comp lD.heap (ρ++(qM C.env scope.names []).map (·.2))<|compEnvC scope (qM C.env scope.names []) Cl C.env) lI ⟨H,l⟩ s')(hl:u9 (uN scope C.env.scope) (Ku (uN scope C.env.scope) st.loc) l)(DF:lD.heap.get? Cl=none):kZ C lI ⟨H,st.loc⟩ s':=by
  exists C,ρ,st,scope,lD,s',lI,Cl,H,l,[S,lY,hp,G',hl,DF];have key:∀b o,C.ail.get? b=some o->∃o',(C.comp lD.heap (ρ++(qM C.env scope.names []).map (·.2))<|compEnvC scope (qM C.env scope.names []) Cl C.env).ail.get? b=some o'/\yM C.F b o o':=λb o e=>by
   exists b,o,_;exists o',(q20:lY.sim.keep.1 b o e);refine⟨o',dL _ q20.1 λhm=>?_,q20.2⟩;rcases aO.mp hm with hm|hm
   .exact(lY.kept e).2.1 hm
   .exists p,(q_:cA.mp hm);obtain⟨hp,rfl⟩:=q_;obtain⟨uZ,ZY⟩:=qE S lY hp;replace e:=((lY.fr.own _ _ ZY.1 ZY.2).1)▸e;exact nn e
  have E0:∀b o,(C.comp lD.heap (ρ++(qM C.env scope.names []).map (·.2))<|compEnvC scope (qM C.env scope.names []) Cl C.env).ail.get? b=some o->b∉lI:=λb o e hm=>by replace e:=((G'.sim.new b hm).1)▸e;injection e
  have locals:∃o es n,(C.comp lD.heap (ρ++(qM C.env scope.names []).map (·.2))<|compEnvC scope (qM C.env scope.names []) Cl C.env).ail.get? C.env.locals=some o/\lD.heap.get? C.env.locals=some o/\o.data=.dict es n:=by
   exists o,es,n,(UA:lY.oH);refine⟨o,es,n,dL _ UA.1 λhm=>?_,UA.1,UA.2⟩;rcases aO.mp hm with hm|hm
   .exact lY.fr.out hm
   .exists p,(ZZ:cA.mp hm);exact(lY.fr.cell _ _ (qE S lY ZZ.1).2.1).2.1 ZZ.2
  refine⟨⟨G'.sim.len,G'.sim.nd,G'.sim.obj,λa hm=>⟨?_,(G'.sim.new a hm).2⟩,⟨λb o e=>?_,lY.sim.keep.2⟩⟩,⟨?_,lY.fr.none,?_,λx a hx=>?_,lY.fr.own,lY.fr.has,lY.fr.kind,lY.fr.lo⟩,G'.tk⟩
  .rcases e:C.ail.get? a with _|o
   .rfl
   .exists o',(q_:key a o e);obtain⟨e',Os⟩:=q_;exact absurd hm<|E0 a o' e'
  .exists o',(Zd:key b o e);exists R6,(Oe:G'.sim.keep.1 b o' Zd.1);exact⟨R6,Oe.1,Zd.2.trans Oe.2 λhb=>lY.sim.keep.2 b hb o e⟩
  .exists _;exists m,(Bo:lY.fr.ns);exists o,es,n,(q_:locals);obtain⟨ho,zY⟩:=q_;have Bw:(C.comp lD.heap (ρ++(qM C.env scope.names []).map (·.2))<|compEnvC scope (qM C.env scope.names []) Cl C.env).ail.Ns C.env.locals m:=by exists o',es',ep',(q_:Bo.1);obtain⟨h1,r⟩:=q_;replace h1:=zY.1▸h1;obtain rfl:=aA h1;exact⟨_,es',ep',ho,r⟩
   exact k9 ⟨m,G'.sim.keep.ns Bw,λx hx=>(Bo.2 x hx).mono hp⟩
  .exists o,es,n,(sD:locals);exact E0 _ _ sD.1
  .exists x,a,_;obtain⟨g1,g2,u,nO⟩:=lY.fr.cell x a hx;by_cases hm:a∈(qM C.env scope.names []).map (·.2)
   .exists p,(q_:cA.mp hm);obtain⟨hpm,rfl⟩:=q_;have lW:=qE S lY hpm;have ex:=(lY.fr.own p.1 p.2 lW.2.1 lW.2.2).2 x hx;subst ex;exists b,(q9:Hr S lY lW.1);have eb:=aA<|q9.2.symm.trans lW.2.1;subst eb;obtain⟨f1,f2,u',f3,f4⟩:=G'.fr.cell p.1 p.2 q9.1;refine⟨f1,g2,u',f3,?_⟩;rw[hl p.1<|S.zV.mpr lW.1,vG,S.zV.mpr lW.1]at f4;exact f4
   .exists oc,(q8:nO.1);have h0:=dL _ q8.1 λTU=>by
     rcases aO.mp TU with h|h
     .exact g1 h
     .exact hm h
    exact⟨E0 _ _ h0,g2,u,G'.sim.keep.cell ⟨oc,h0,q8.2⟩,nO.2.mono hp⟩
theorem FG.head(h:FG gens t ix g):∃ifs gs,gens=⟨t,ix,ifs,0⟩::gs:=by induction h<;>exact⟨_,_,rfl⟩
inductive XH(C:Cx)(ρ:List Addr)(b:V)(k6:St)(s s':Shared)(acc:Value)(Cl:Addr):Prop
 |mk (lI:List Addr) (o:Obj) (m:Str->Option Value) (p1:ρ<+:lI) (p2:VC lI b acc) (p3:kZ C lI k6 s') (p4:mY C.F s s') (p5:s'.heap.Ns Cl m) (p6:s'.heap.get? Cl=some o) (p7:∀u,o.data≠.cell u) (p8:∀vs,o.data≠.fields vs) (p9:Cl∉lI) (p10:Cl≠C.env.locals) (p11:C.ail.get? Cl=none) (p12:Cl∉C.F)
theorem Gn{Q:lR}(B:k7 k C)(hh:C.A.handled=none)(O:∀C',k7 k C'->lV C' Q){elt:Expr}{gens:List Comprehension}{scope:Scope}{pos:Pos}{use:Option (Value->Sem Unit)}{Qf:Value->Shared->Prop}{E:Value->Shared->Prop}(G:kZ C ρ st s){r:oV V}{k6:St}
 (e:Mr Q C.env.scope (.ListComp elt gens scope pos) st=some (r,k6))
 (SE:∀b acc Cl s',r=.ok b->XH C ρ b k6 s s' acc Cl->compPost (model PG C.w) C.A E use Qf acc Cl (.ok .next) s'):
 wpAny (model PG C.w) C.A (comprehension (.ListComp elt gens scope pos) scope C.env (firstIterPos gens pos) (newList []) (firstAsync gens) (firstIter gens C.env) use) Qf E s:=by
 exists k,C,ρ,st,s,Q,elt,gens,scope,pos,use,Qf,E,r,k6,[B,hh,O,G,e,SE];obtain⟨⟨t,ix,g⟩,hg,e⟩:=aB.mp<|show(IJ gens).bind _=_ from e;dsimp only at e;exists t,ix,g,[hg,e];by_cases hc:(Jg scope C.env.scope&&!vD ix)=true;rotate_left
 .injection(aL hc).symm.trans e
 obtain⟨⟨a,SG⟩,h1,e⟩:=aB.mp<|(aH hc).symm.trans e;exists a,SG,[h1,e];exists xs,(q_:aB.mp e);obtain⟨hx,e⟩:=q_;exists pA,(q_:aB.mp e);obtain⟨ef,e⟩:=q_;injection e with q_;injection q_ with q_ p_;subst q_ p_;rw[aQ,dA]at hc;have S:=Yq hc.1;have K:=BE hg;clear hg;dsimp only at K h1 hx ef SE⊢;exists ifs,gs,(q_:K.head);obtain rfl:=q_;refine wpAny_comprehension_free (g:=⟨t,ix,ifs,0⟩) (gs:=gs) rfl (by exists y;have:=hc.2;rcases ix with _|_<;>first|rfl|injection this) (Fi (scope:=scope) (env:=C.env) λx hm hk=>G.fr.has x.1<|.inl<|S.free x.1 (by refine hk▸?_;exact hm)) S.kind (λx hm hl=>hl▸S.cons x.1 x.2 hm) ?_
 refine(mE (O C B) ix st ρ s).ok G (uC h1) ?_;exists x,lD,mF;intro pZ ha lY aim;refine Ib hh lY ha hx _ _ ?_;exists P,o;intro ug RM hc hK hS;have m2:=lY.wK o;refine j7 ?_ (by simp);have oA:=m2.push (o:={cls:=.type "list",data:=.seq ([]:List Value).toArray}) (ao:=.list []) rfl ⟨#[],0,rfl,.nil⟩;have Kv:VC (mF++[(lD.heap.push o).objs.size]) (.ref SG.length)<|.ref (lD.heap.push o).objs.size:=nU m2;have Ko:(lD.heap.push o).objs.size=lD.heap.objs.size+1:=dI ..;have k1:∀b ob,lD.heap.get? b=some ob->((lD.heap.push o).push {cls:=.type "list",data:=.seq ([]:List Value).toArray}).get? b=some ob:=λb ob eb=>aZ _<|aZ _ eb;have TX:((lD.heap.push o).push {cls:=.type "list",data:=.seq ([]:List Value).toArray}).get? lD.heap.objs.size=some o:=aZ _<|bT _ ug;have hsz2:((lD.heap.push o).push {cls:=.type "list",data:=.seq [].toArray}).objs.size=lD.heap.objs.size+2:=by simp only[dI]
 refine fF (λy hy=>S.si y hy) (by exists y;intro hy;cases hy) (λsI hn hs=>?_) S.kind;exists sI,_;have sj:∀b,lD.heap.objs.size<=b->lD.heap.get? b=none:=λb hb=>cB hb;generalize((lD.heap.push o).push {cls:=.type "list",data:=.seq [].toArray})=oQ at*;generalize(lD.heap.push o).objs.size=acc at*;have k2:∀b ob,oQ.get? b=some ob->sI.get? b=some ob:=λb ob eb=>(hs.2 b<|bI<|b9 eb).trans<|aZ _ eb;have DF:oQ.get? oQ.objs.size=none:=cB<|aI _;generalize oQ.objs.size=Cl at*;subst Ko hsz2;have SH:lD.heap.get? (lD.heap.objs.size+2)=none:=sj _<|aT _ _;have loop:=Aw rfl rfl (k7.comp S B lY<|lD.heap.objs.size+2) hh hK hc (scope:=scope) (pos:=pos)
  rfl (λs Q E h=>Uk (Xm K) s Q E h) (λh' B' lI s st hp=>ym B' hh O rfl K<|Kv.mono hp) (kZ.SB S B lY oA k1 (sj _<|dM _) k2 DF hn (dG<|sV<|B.K lY)<|aI _) (k2 _ _ TX) RM (λhm=>by
   rcases aO.mp hm with hm|hm
   .exact(lY.fresh).1 hm
   .exact absurd (aE.mp hm) (bI<|dX _)) (bI<|Nat.lt_add_of_pos_right<|dM _) (by
    rcases q:(hideAll lD.heap<|mF++(qM C.env scope.names []).map (·.2)).get? lD.heap.objs.size with _|o
    .exact q
    .have:=dS _ q;replace this:=(sj _<|aI _)▸this;injection this) ⟨_,rfl⟩ ef
 have fin:=dP (R':=compPost (model PG C.w) C.A E use Qf (.ref<|lD.heap.objs.size+1)<|lD.heap.objs.size+2) loop λr s' P=>by
  exists r,s',[P];obtain⟨⟨f,rfl⟩,lI,Bo⟩:=P;exists f,lI,_;exists m,(zY:Bo.2.1.fr.ns);exists oC,esC,epC,(q_:id zY.1);obtain⟨hoC,q9⟩:=q_;have hpp:=List.IsPrefix.trans ⟨_,rfl⟩ Bo.1;have no0:∀Ew,C.ail.get? (lD.heap.objs.size+2)≠some Ew:=λEw q=>by exists agV,(q_:lY.sim.keep.1 _ Ew q);obtain⟨aab,uZ⟩:=q_;rw[SH]at aab;injection aab
  have lW:lD.heap.objs.size+2≠C.env.locals:=λq=>by exists Ew,Os,rc,(q_:lY.oH);obtain⟨GJ,DB⟩:=q_;simp only[<-q,SH]at GJ;injection GJ
  have nO:C.ail.get? (lD.heap.objs.size+2)=none:=by
   rcases q:C.ail.get? (lD.heap.objs.size+2)with _|Ew
   .rfl
   .exact absurd q (no0 Ew)
  have sD:lD.heap.objs.size+2∉C.F:=λhm=>by exists Ew,TY,z6_,(q8:B.live _ hm);exact no0 _ q8.1
  have:=SE _ (.ref<|lD.heap.objs.size+1) (lD.heap.objs.size+2) s' rfl ⟨lI,oC,m,pZ.trans hpp,Kv.mono Bo.1,kZ.SD (st:=⟨SG,st.loc⟩) S lY hpp Bo.2.1 (w0 (Qb) _ _ _ ef) SH,aim.trans ⟨Bo.2.2.os,Bo.2.2.dr,Bo.2.2.tk,Bo.2.2.gn⟩,zY.1,hoC,(λu q=>by rw[q9.1]at q;injection q),(λu q=>by rw[q9.1]at q;injection q),Bo.2.1.fr.out,lW,nO,sD⟩;induction use<;>exact this
 exact codeAny_compStart_list fin<|hS _ 0 o (k2 _ _ TX) RM _ _ _ fin
theorem zm(B:k7 k C)(hh:C.A.handled=none)(O:∀C',k7 k C'->lV C' Q)(e):Sd C (eval e C.env) VC ρ s st<|Mr Q C.env.scope e st:=by intro G r k6 he;obtain⟨⟨q,rfl⟩,_⟩:=Di he;rw[eval_ListComp];refine Gn B hh O G he λb acc Cl s' hr P=>?_;obtain⟨lI,o,m,p1,p2,p3,p4,p5,p6,p7,p8,p9,p10,p11,p12⟩:=P;exact⟨m,p5,λh' hs=>⟨b,lI,hr,p1,p2,p3.other hs p6 p7 p9 p10 p11,⟨p4.os,p4.dr,p4.tk,p4.gn⟩⟩⟩
theorem Zx(B:k7 k C)(hh:C.A.handled=none)(O:∀C',k7 k C'->lV C' Q)(e)
 (hu:∀h' lI s' k6 b v,ρ<+:lI->VC lI b v->Sd {C with ail:=h'} (use v) (λU(U:Unit)U=>True) lI s' k6 (g b k6)):
  Sd C (evalThenUse e C.env use) (λU U U=>True) ρ s st ((Mr Q C.env.scope e st).then g):=by
  refine Sd.qe λG r uU he Qq E kQ kE=>?_;obtain⟨c,h1,rfl⟩|⟨b,k6,h1,he'⟩:=m9 he
  .obtain⟨_,b,hb⟩:=Di h1;injection hb
  obtain⟨⟨⟨elt,gens,scope,pos⟩,rfl⟩,_⟩:=Di h1;refine aD<|bL (Gn B hh O G h1 λb' acc Cl s' hr P=>?_) (λU s' q=>aM q) λU U x=>x;obtain⟨lI,o,m,p1,p2,p3,p4,p5,p6,p7,p8,p9,p10,p11,p12⟩:=P;obtain rfl:=oV.ok.inj hr;have hc0:=wI p6 p10 p9<|p3.Kj p6 p7;refine bL (hu (C.tU s'.heap lI).ail lI s' k6 b acc p1 p2 (p3.tU<|B.cls p3) r uU he') (λU mQ P=>?_) λx mQ P=>?_
  .exists _;obtain⟨c,mD,er,nM,_,m2,oB⟩:=P;have aad:mQ.heap.get? Cl=some o:=by
    obtain⟨o',q8⟩:=m2.sim.keep.1 Cl o hc0;rcases q8.2 with rfl|⟨hm,_⟩|⟨_,_,_,vs,more,hd,_⟩
    .exact q8.1
    .exact absurd hm p12
    .exact absurd hd.1 (p8 vs)
   have adh:Cl∉mD:=λhm=>by have:=(m2.sim.new Cl hm).1;replace this:=hc0▸this;injection this
   obtain⟨Ew,aae,aaf,e1,r1⟩:=p5;replace e1:=p6▸e1;injection e1 with q_;subst q_
   exact k9 ⟨m,⟨_,aae,aaf,aad,r1⟩,λh' hs=>kQ _ _ ⟨c,mD,er,p1.trans nM,trivial,(p3.vW m2).other hs aad p7 adh p10 p11,⟨(p4.trans oB).os,(p4.trans oB).dr,(p4.trans oB).tk,(p4.trans oB).gn⟩⟩⟩
  .obtain⟨c,mD,er,nM,X,m2,oB⟩:=P;exact kE _ _ ⟨c,mD,er,p1.trans nM,X.vW p3,p3.vW m2,p4.trans oB⟩
theorem OC.some(c:OC w ρ ao o):o.cls≠.none:=by
 exists w,ρ,ao,o,_;induction ao with
 |set xs=> obtain⟨es,ep,t,q8⟩:=c;have:=q8.1.1;rw[this];intro h;injection h
 |list=>obtain⟨_,_,rfl,_⟩:=c;intro h;injection h
 |tuple=>obtain⟨_,_,rfl,_⟩:=c;intro h;injection h
 |dict=>obtain⟨_,_,rfl,_⟩:=c;intro h;injection h
 |lT=>obtain⟨_,rfl,_⟩:=c;intro h;injection h
 |inst=>obtain⟨_,_,_,rfl,_⟩:=c;intro h;injection h
 |cell=>obtain⟨_,rfl,_⟩:=c;intro h;injection h
 |bound=>obtain⟨_,rfl,_⟩:=c;intro h;injection h
 |m6=>obtain⟨_,_,rfl⟩:=c;intro h;injection h
 |mw=>obtain⟨_,_,rfl⟩:=c;intro h;injection h
 |lend=>obtain⟨_,rfl,_⟩:=c;intro h;injection h
 |vals=>obtain⟨_,_,_,rfl⟩:=c;intro h;injection h
 |range=>obtain⟨_,_,_,rfl⟩:=c;intro h;injection h
 |dq=>subst c;intro h;injection h
 |other n=>obtain⟨_,rfl⟩:=c;intro h;injection h
 |oR zs ob=>obtain⟨rfl,_,_,rfl,_⟩:=c;intro h;injection h
theorem kZ.frame(B:k7 k C)(G:kZ C ρ st s){h':Heap}{t:Nat}(kp:qX C.F (hideAll s.heap X) h')(h1:∀a∈X,a∉ρ/\a≠C.env.locals/\C.ail.get? a=none/\∀x,C.env.cells.lookup x≠some a)(ht:t≠0):kZ C ρ st {s with heap:=h',toks:=t}:=by
 exists k,C,ρ,st,s,X,h',t,[B,G,kp,h1,ht];have there:=λb o e hb=>kp.1 b o<|dL _ e hb;have nX:∀b o,C.ail.get? b=some o->b∉X:=λb o e hb=>by replace e:=((h1 b hb).2.2.1)▸e;rcases e with _|_
 refine⟨⟨G.sim.len,G.sim.nd,λi a ao e1 e2=>?_,G.sim.new,⟨λb o e=>?_,G.sim.keep.2⟩⟩,⟨?_,G.fr.none,G.fr.out,λx a hx=>?_,G.fr.own,G.fr.has,G.fr.kind,G.fr.lo⟩,ht⟩
 .exists i,a,ao,_;exists o,(q_:G.sim.obj i a ao e1 e2);obtain⟨ho,c⟩:=q_;exists o',(q_:there a o ho λhm=>(h1 a hm).1<|aR e1);obtain⟨e',l⟩:=q_;rcases l with rfl|⟨hm,_⟩|⟨hc,_⟩
  .exact⟨_,e',c⟩
  .exact absurd hm (G.zQ B<|aR e1)
  .exact absurd hc c.some
 .exists o',(nO:G.sim.keep.1 b o e);exists R6,(lW:there b o' nO.1<|nX b o e);exact⟨R6,lW.1,nO.2.trans lW.2 λhb=>G.sim.keep.2 b hb o e⟩
 .exists m,(q8:G.fr.ns);have Bw:(hideAll s.heap X).Ns C.env.locals m:=by exists o,es,ep,(q9:q8.1);exact⟨o,es,ep,dL _ q9.1 λhm=>(h1 _ hm).2.1 rfl,q9.2⟩
  exact⟨m,kp.ns Bw,q8.2⟩
 .exists x,a,_;obtain⟨q1,q2,u,⟨o,ho,hd⟩,q4⟩:=G.fr.cell x a hx;exact⟨q1,q2,u,kp.cell ⟨o,dL _ ho λhm=>(h1 _ hm).2.2.2 x hx,hd⟩,q4⟩
theorem kZ.Of(B:k7 k C)(G:kZ C ρ st s)(G':kZ (C.into s.heap [] env) lI k6 s'):kZ C (ρ++lI) ⟨st.H++k6.H.map (AO.sh ρ.length),st.loc⟩ s':=by
 exists k,C,ρ,lI,st,k6,s,s',env,_;have h0:∀b o,s.heap.get? b=some o->(C.into s.heap [] env).ail.get? b=some o:=λb o e=>pK e (by simp);have Kw:∀b o,s.heap.get? b=some o->b∉lI:=λb o e hm=>by have:=h0 b o e;replace this:=((G'.sim.new b hm).1)▸this;injection this
 have R8:=λa ha o e hc=>
  G'.sim.keep.exact (h0 a o e) (λhm=>by
   rcases aK.mp hm with rfl|hm
   .exact G.fr.out ha
   .exact G.zQ B ha hm) (.inl hc)
 have pre:ρ<+:ρ++lI:=⟨_,rfl⟩;refine⟨⟨?_,?_,λi a ao e1 e2=>?_,λa ha=>?_,⟨λb o e=>?_,G.sim.keep.2⟩⟩,⟨?_,G.fr.none,λhm=>?_,λx a hx=>?_,G.fr.own,G.fr.has,G.fr.kind,G.fr.lo⟩,G'.tk⟩
 .simp only[aG,aF,G.sim.len,G'.sim.len]
 .rw[cH];refine⟨G.sim.nd,G'.sim.nd,?_⟩;rintro a ha b hb rfl
  exists o,(ho:G.live ha);exact Kw a o ho hb
 .by_cases hi:i<ρ.length
  .rw[bO hi]at e1;obtain⟨o,Bo⟩:=G.sim.obj i a ao e1 (by rw[<-e2];exact(bO<|G.sim.len▸hi).symm);exact⟨o,R8 a (aR e1) o Bo.1 Bo.2.some,Bo.2.mono pre⟩
  .obtain⟨j,rfl⟩:∃j,i=ρ.length+j:=⟨i-ρ.length,by grind⟩;rw[aS<|aT _ _,b5]at e1;have uj:(k6.H.map<|AO.sh ρ.length)[j]?=some ao:=by simp only[<-e2];rw[G.sim.len,aS<|aT _ _,b5]
   replace uj:=bD▸uj;rcases hq:k6.H[j]? with _|ao'
   .replace uj:=hq▸uj;exact nn uj
   .replace uj:=hq▸uj;obtain rfl:=aA uj;exists o,(zY:G'.sim.obj j a ao' e1 hq);exact⟨o,zY.1,zY.2.sh⟩
 .rcases aO.mp ha with h|h
  .exact G.sim.new a h
  .refine⟨?_,(G'.sim.new a h).2⟩;rcases e:C.ail.get? a with _|o
   .rfl
   .exists o',(sD:G.sim.keep.1 a o e);exact absurd h<|Kw a o' sD.1
 .exists b,o,_;exists o',(q_:G.sim.keep.1 b o e);obtain⟨e',l⟩:=q_;exists R6,(q_:G'.sim.keep.1 b o'<|h0 b o' e');obtain⟨e'',l'⟩:=q_;refine⟨R6,e'',?_⟩;have l2:yM C.F b o' R6:=by
   rcases l' with rfl|⟨hm,ZE,sl,rfl⟩|r
   .exact .inl rfl
   .rcases aK.mp hm with rfl|hm
    .exact absurd rfl (G.kept e).1
    .exact .inr (.inl ⟨hm,ZE,sl,rfl⟩)
   .exact .inr (.inr ⟨r.1,r.2.1,Ih G.fr.lo r.2.2.1,r.2.2.2⟩)
  exact l.trans l2 λhb=>G.sim.keep.2 b hb o e
 .exists m,(nO:G.fr.ns);have Bw:(C.into s.heap [] env).ail.Ns C.env.locals m:=by exists o,es,ep,(q_:nO.1);obtain⟨ho,r⟩:=q_;exact⟨o,es,ep,h0 _ _ ho,r⟩
  exact⟨m,G'.sim.keep.ns Bw,λx hx=>(nO.2 x hx).mono pre⟩
 .rcases aO.mp hm with h|h
  .exact G.fr.out h
  .exists o,uZ,Os,(lW:G.oH);exact Kw _ _ lW.1 h
 .exists x,a,_;obtain⟨h1,h2,u,q8⟩:=G.fr.cell x a hx;exists o,(q9:q8.1);refine⟨λhm=>?_,h2,u,G'.sim.keep.cell ⟨o,h0 _ _ q9.1,q9.2⟩,q8.2.mono pre⟩;rcases aO.mp hm with h|h
  .exact h1 h
  .exact Kw _ _ q9.1 h
theorem Ps(G:kZ C ρ st s):qX C.F C.ail (C.into s.heap [] env).ail:=by refine⟨λb o e=>?_,G.sim.keep.2⟩;obtain⟨o',q8⟩:=G.sim.keep.1 b o e;exact⟨o',pK q8.1<|by simp,q8.2⟩
theorem k7.aag(B:k7 (k+1) C)(G:kZ C ρ st s)(hf:env.scope.kind=.function)(Ot:env.globals=mainGlobals/\env.builtins=builtinsNs):k7 k<|C.into s.heap [] env:=by
 have T:=B.top.keep (Ps (env:=env) G) B.hi;refine⟨T,λf hm=>?_,λf hm=>?_,?_,?_,hf,Ot⟩
 .rcases aK.mp hm with rfl|hm
  .show(KF C.w).lookup C.env.locals=none;rcases q:(KF C.w).lookup C.env.locals with _|o
   .rfl
   .have:=B.top.K _ _ q;rw[G.fr.none]at this;exact nn this
  .exact B.hi f hm
 .rcases aK.mp hm with rfl|hm
  .exists o,es,n,(q9:G.oH);exact⟨o,es,n,pK q9.1<|by simp,q9.2⟩
  .exists o,es,n,(q8:B.dict G hm);exact⟨o,es,n,pK q8.1<|by simp,q8.2⟩
 .have:=B.dp;show C.A.depth+1+k<1000;lia
 .have:=B.un;show C.A.units+3+20*k<9000;lia
theorem kZ.SI(B:k7 k C)(G:kZ C ρ st s){h':Heap}{t:Nat}{loc:Loc}(keep:∀b o,s.heap.get? b=some o->h'.get? b=some o)(hL:s.heap.get? env.locals=none)
 (hn:∃m,h'.Ns env.locals m/\∀x,env.kindOf x=some .local->LR [] (loc.lookup x) (m x))(ht:s.toks<=t)
 (hc:∀x a,env.cells.lookup x=some a->s.heap.get? a=none/\a≠env.locals/\(∃u,h'.IsCell a u/\LR [] (loc.lookup x) u)/\(∀y,env.cells.lookup y=some a->y=x)/\env.kindOf x≠some .local)
 (hh:∀x,(env.kindOf x=some .cell\/env.kindOf x=some .free)->env.cells.lookup x≠none)(w7:935<=env.locals):kZ (C.into s.heap [] env) [] ⟨[],loc⟩ {s with heap:=h',toks:=t}:=by
 refine⟨⟨rfl,.nil,λi a ao e1 e2=>by exact nn e1,(λa ha=>by cases ha),⟨λb o e=>⟨o,keep _ _<|vC e,.refl _ _⟩,λf hf o e=>?_⟩⟩,⟨hn,tY hL,(λhm=>by cases hm),λx a hx=>?_,λx a hx hk=>?_,hh,λx a hx=>(hc x a hx).2.2.2.2,w7⟩,?_⟩
 .have e':=vC e;rcases aK.mp hf with rfl|hf
  .obtain⟨o',es,n,ho,hd⟩:=G.oH;rw[ho]at e';obtain rfl:=aA e';exact⟨es,n,hd⟩
  .exact B.cls G f hf o e'
 .obtain⟨h1,h2,⟨u,h3,h4⟩,_⟩:=hc x a hx;exact⟨(λhm=>by cases hm),h2,u,h3,h4⟩
 .exact⟨tY (hc x a hx).1,(hc x a hx).2.2.2.1⟩
 .have:=G.tk;lia
def y5(n:Nat):oV V->oV V
 |.ok v=>.ok<|V.sh n v
 |.exc c=>.exc c
theorem oD.Of(G:kZ C ρ st s){lI:List Addr}{s':Shared}(x:oD (C.into s.heap [] env) lI c e s'):oD C (ρ++lI) c e s':=by
 have key:∀a,(C.into s.heap [] env).ail.get? a=none->C.ail.get? a=none/\a≠C.env.locals/\a∉ρ:=λa h=>by
  have h0:s.heap.get? a=none:=by
   rcases q:s.heap.get? a with _|o
   .rfl
   .rw[pK q<|by simp]at h;injection h
  refine⟨?_,?_,λhm=>?_⟩
  .rcases q:C.ail.get? a with _|o
   .rfl
   .obtain⟨o',e',_⟩:=G.sim.keep.1 a o q;rw[h0]at e';exact nn e'
  .rintro rfl
   obtain⟨o,_,_,ho,_⟩:=G.oH;replace ho:=h0▸ho;rcases ho with _|_
  .obtain⟨o,ho⟩:=G.live hm;replace ho:=h0▸ho;exact nn ho
 obtain⟨a,o,vs,a0,rfl,ho,hd,hv,hc,h1,h2,h3,h4⟩:=x.ex;have q9:=key a h2;refine⟨a,o,vs,a0,rfl,ho,hd,hv,hc,λhm=>?_,q9.1,q9.2.1,?_⟩
 .rcases aO.mp hm with h|h
  .exact q9.2.2 h
  .exact h1 h
 .rcases h4 with h4|⟨t,ot,vt,fl,g1,g2,g3,g4,g5,g6,g7,g8⟩
  .exact .inl h4
  .have q8:=key t g6;refine .inr ⟨t,ot,vt,fl,g1,g2,g3,g4,λhm=>?_,q8.1,q8.2.1,g8⟩;rcases aO.mp hm with h|h
   .exact q8.2.2 h
   .exact g5 h
set_option backward.match.sparseCases true in
theorem Zj{S:Bool->lR}{ρ:List Addr}{s:Shared}{st:St}(B:k7 (k+1) C)(L:mN C)(OK:m4 k S){fd:FuncData}{body:List Stmt}{env:Env}(vY:env.scope=fd.scope)(hk:fd.scope.kind=.function)(ug:env.frame=some env.locals)(Ot:env.globals=mainGlobals/\env.builtins=builtinsNs)(Yv:xD env)(G:kZ C ρ st s){lD:Shared}{loc:Loc}(aim:mY C.F s lD)
 (lY:kZ (C.into s.heap [] env) [] ⟨[],loc⟩ lD){r:oV V}{H':Hp}(e:mL (nZ S fu false fd.scope body ⟨[],loc⟩)=some (r,H')):
 codeAny (model PG C.w) C.A (.func body env) (λr' s'=>match r' with|.ok (.ret v)=>PQ C VC ρ s (y5 ρ.length r) ⟨st.H++H'.map (AO.sh ρ.length),st.loc⟩ v s'|.ok _=>False|.error x=>PE C ρ s (y5 ρ.length r) ⟨st.H++H'.map (AO.sh ρ.length),st.loc⟩ x s') lD:=by
 exists k,fu,C,S,ρ,s,st,fd,body,env,lD,loc,r,H',[B,L,OK,vY,hk,ug,Ot,Yv,G,aim,lY,e];have ZG:env.scope.kind=.function:=by exact vY▸hk
 have B':=B.aag G ZG Ot;have L':=mN.into (ρ:=[]) (h:=s.heap) B L ug ZG Yv lY.fr.lo;have B0:=k7.le B<|dM k;have pre:∀mD:List Addr,ρ<+:ρ++mD:=λmD=>⟨_,rfl⟩;rcases h1:nZ S fu false fd.scope body ⟨[],loc⟩with _|p
 .replace e:=h1▸e;exact nn e
 .obtain⟨q,pA⟩:=p;replace e:=h1▸e;refine kJ ?_;refine bL (vQ OK body false (C.into s.heap [] env) B' (λU=>L') [] lD ⟨[],loc⟩ lY q pA (by simp[<-h1];show nZ S fu false env.scope body _=_;rw[vY])) (λf mQ P=>?_) λx mQ P=>?_
  .obtain⟨fl,mD,e2,nM,hr,m2,oB⟩:=P;subst e2;rcases fl with _|_|_|v
   .subst hr;obtain⟨rfl,rfl⟩:=bQ<|aA e;exact⟨.none,ρ++mD,rfl,pre mD,rfl,G.Of B0 m2,aim.trans<|oB.out G.fr.lo⟩
   .exact nn e
   .exact nn e
   .obtain⟨y,rfl,hv⟩:=hr;obtain⟨rfl,rfl⟩:=bQ<|aA e;exact⟨_,ρ++mD,rfl,pre mD,hv.sh,G.Of B0 m2,aim.trans<|oB.out G.fr.lo⟩
  .obtain⟨c,mD,e2,nM,X,m2,oB⟩:=P;subst e2;obtain⟨rfl,rfl⟩:=bQ<|aA e;exact aD<|Te B' L' m2 X λmO oA Sa N9 tA=>C7 B' oA Sa N9 λzP Kr RQ U rg=>⟨c,ρ++mD,rfl,pre mD,RQ.Of G,G.Of B0 Kr,aim.trans<|((oB.trans tA).trans rg).out G.fr.lo⟩
def MA(st:St)(o:Option<|oV V×Hp):lG V:=match o with
 |some (r,H')=>some (y5 st.H.length r,⟨st.H++H'.map (AO.sh st.H.length),st.loc⟩)
 |none=>none
theorem Y0(h:MA st o=some (r,k6)):∃Yt H',o=some (Yt,H')/\r=y5 st.H.length Yt/\k6=⟨st.H++H'.map (AO.sh st.H.length),st.loc⟩:=by
 exists st,k6,o,r,_;rcases o with _|p
 .rcases h with _|_
 .obtain⟨Yt,H'⟩:=p;exists Yt,H',_;obtain⟨rfl,rfl⟩:=bQ<|aA h;exact⟨_,_,rfl,rfl,rfl⟩
theorem C6{S:Bool->lR}{ρ:List Addr}{s:Shared}{st:St}(B:k7 (k+1) C)(L:mN C)(OK:m4 k S){a:Addr}{fd:FuncData}{body:List Stmt}(F:xi C.w a fd body)(zT:fd.scope.names.all (λx=>x.2 !=.free&&fd.scope.names.lookup x.1==some x.2)=true)
 {xs:List Value}{ks:List (Str×Value)}{loc:Loc}{bs:List (Str×Value)}(hb:peek (KF C.w) ⟨PG,C.w.params⟩ (bindArgs fd ⟨xs,ks⟩)=some bs)(hl:lH (KR []) loc bs)(uL:∀x∈bs,fd.scope.names.lookup x.1=some .local):
 Cd C (.call (.ref a) ⟨xs,ks⟩) ρ s st (MA st<|mL<|nZ S fu false fd.scope body ⟨[],loc.reverse⟩):=by
 exists k,fu,C,S,ρ,s,st,a,fd,body,xs,ks,loc,bs,[B,L,OK,F,zT,hb,hl,uL];intro G;exists r,k6;intro e;exists r,H',(q_:Y0 e);obtain⟨e1,rfl,rfl⟩:=q_;refine G.len▸?_;exists o,(q8:F.obj);have T:=B.top.keep G.sim.keep B.hi;have X:=T.K;refine e9 (by have:=B.dp;show C.A.depth<1000;lia) (X _ _ q8.1) q8.2 F.co F.gen F.body (qO X F.code) ?_;refine(cZ X hb).here ?_;refine F.ZF▸?_;refine fC (aI s.toks) ?_;refine wpAny_newFunctionEnv_cells F.kind (λx hx=>.inl<|uL x hx) ?_;exists env;intro he;exists s';intro x;subst he;intro xX;refine⟨T.lim.keeps x.toInCall.keep,?_⟩;exists h',tk,(es:x.toInCall.same);subst es;simp only[aX,aQ,hV,ne_eq,a5]at zT;have mem:∀y b,(cellsFrom (s.heap.objs.size+1) fd.scope.names []).lookup y=some b->(y,b)∈cellsFrom (s.heap.objs.size+1) fd.scope.names []:=λy b q=>cF q;have kind:∀y b,(y,b)∈cellsFrom (s.heap.objs.size+1) fd.scope.names []->fd.scope.names.lookup y=some .cell:=λy b q=>by
  rcases u7 _ _ _ _ _ q with h|h
  .exact(zT (y,.cell) h).2
  .cases h
 have m2:=G.SI B x.toInCall.keep (cB<|aI _)
  ⟨_,x.toInCall.ns,λy hy=>by rw[y9 _ _ _ uL];have:=pS (pW hl) y;induction hq:bs.reverse.lookup y<;>simp only[hq]at this<;>exact this⟩ xX
  (λy b hy=>by
   have hm:=mem y b hy;have Fs:=x.above y b hm;refine⟨cB<|bS Fs,cX Fs,⟨none,?_,?_⟩,λz hz=>(name_of_addr x.apart hm<|mem z b hz).symm,λq=>?_⟩
   .have:=x.cell y b hy;rw[Dj _ _ _ uL]at this;exact this
   .have:=pS (pW hl) y;rcases hq:loc.reverse.lookup y with _|u
    .exact trivial
    .rw[hq]at this;rcases ZP:bs.reverse.lookup y with _|z
     .simp only[ZP]at this;exact this.elim
     .have:=uL (y,z)<|List.mem_reverse.mp<|cF ZP;replace this:=(kind y b hm)▸this;injection aA this
   .have q':fd.scope.names.lookup y=some .local:=q;replace q':=(kind y b hm)▸q';cases q')
  (λy hy q=>by
   rcases hy with hy|hy
   .have:=w6 fd.scope.names (s.heap.objs.size+1) [] y<|.inl<|cF hy;replace this:=q▸this;injection this
   .exact(zT (y,.free)<|cF hy).1 rfl) (sV T.K)
 exact Zj B L OK rfl F.kind rfl F.gl F.cd G (mY.to xX) m2 e1
theorem Nn{S:Bool->lR}{ρ:List Addr}{s:Shared}{st:St}(B:k7 (k+1) C)(L:mN C)(OK:m4 k S){a:Addr}{vs:List V}{kv:List (Str×V)}{xs:List Value}{ks:List (Str×Value)}(hv:lH (VC []) vs xs)(hk:lH (KR []) kv ks):
 Cd C (.call (.ref a) ⟨xs,ks⟩) ρ s st (MA st<|lB S fu a vs kv []):=by
 unfold lB;rcases hr:Uc a vs kv with _|loc
 .exact λG r k6 e=>nn e
 .obtain⟨hc,bs,h1,h2,h3⟩:=wG (w:=C.w) hr hv hk;obtain⟨fd,Vk,F,hs⟩:=E2 (w:=C.w) hc;have vY:=aX.mp Go a (by simpa using hc);simp only[Vk]at h1;dsimp only[oY];rw[<-hs]at h3 vY⊢;exact C6 B L OK F vY (aA h1) h2 h3
theorem yB:∀l,lH (VC ρ) ((l.map (·.1)).map V.str) (strValues l)
 |[]=>.nil
 |(x,t)::r=>.cons ⟨t,rfl⟩<|yB r
open Builtin.Str in
theorem ej(hy:(y.length==0)=false)(hx:x.length<big)(hn:(partsBetween x (occurrences x y 0 x.length<|x.length+1) y.length).length<big):
 Sd C (call (.builtin "str.split") [.str x t,.str y u]) VC ρ s st (some (.ok<|.ref st.H.length,{st with H:=st.H++[.list<|(Txt.split x y).map V.str]})):=by
 exists C,ρ,st,s,x,y,t,u,_;refine Sd.of λG Q E kk=>?_;have bl:=n8;have one:∀(e:Txt.split x y=[x]),Q (.ref s.heap.objs.size) {s with heap:=s.heap.push {cls:=.type "list",data:=.seq [Value.str x t].toArray}}:=λe=>
  kk _ _ _ ⟨_,rfl⟩ (nU G) (G.push rfl ⟨_,0,rfl,by exact e▸(.cons ⟨t,rfl⟩ .nil)⟩) (mY.lO ..)
 induction h1:(decide (x.length<y.length)||decide (strKind x<strKind y))
 .induction hf:(occurrences x y 0 x.length<|x.length+1).isEmpty
  .refine iC iV (fT _ _ _) j3 (jV _ _) (meets_str_split_sep x y t u h1 hy hf (bC (bS hx) bl)<|bC (bS hn) bl) ?_;rw[strsFrom_eq];have e:Txt.split x y=(numbered s.toks<|partsBetween x (occurrences x y 0 x.length<|x.length+1) y.length).map (·.1):=
    ((numbered_texts _ _).trans ((aL<|jH h1).trans<|aL<|jH hf).symm).symm
   exact kk _ _ _ ⟨_,rfl⟩ (nU G) ((G.push (ao:=.list<|(Txt.split x y).map V.str) rfl ⟨_,0,rfl,by exact e▸(yB _)⟩).tok (partsBetween x (occurrences x y 0 x.length<|x.length+1) y.length).length)<|mY.heap s _ _
  .exact iC iV (fT _ _ _) j3 (jV _ _) (meets_str_split_not_found x y t u h1 hy hf) (one<|(aL<|jH h1).trans<|aH hf)
 .exact iC iV (fT _ _ _) j3 (jV _ _) (meets_str_split_cannot_occur x y t u h1) (one<|aH h1)
def x6(x:Str)(es:List<|Str×V):List<|Str×V:=es.filter λe=>e.1≠x
def vM(a b:V)(H:Hp):Option Hp:=vR (λi=>vS (λx H=>(dE H i).bind λes=>if(es.lookup x).isSome=true/\es.length<big then some (H.set i<|.dict<|x6 x es)else none) b) a H
theorem Ma(x)(h:lH (KR ρ) es oG):lH (KR ρ) (x6 x es)<|without oG x:=by
 induction h with
 |nil=>exact .nil
 |@cons e kv es oG h t ih=>
  unfold x6 without at ih⊢;simp only[List.filter_cons];have h1:=h.1;by_cases hx:e.1=x
  .rw[aL<|by simpa using hx,aL<|by simpa using h1▸hx];exact ih
  .rw[aH<|by simpa using hx,aH<|by simpa using h1▸hx];exact .cons h ih
theorem Qh(B:k7 k C){a i:V}{x j:Value}(ha:VC ρ a x)(hi:VC ρ i j):Sd C (delItem x j) UR ρ s st<|rD st<|(vM a i st.H).map λh=>((),h):=by
 refine gR (lift:=lU st) (T:=(delItem · j)) rfl ha λp a' N4 hr=>gS rfl hi λz t=>gB rfl λes hp=>xF rfl λhz=>Sd.of λG Q E kk=>?_;obtain⟨_,oG,e,hr,q9⟩:=G.dict (qH hp) hr;injection e with e;subst e;have hv:(valueAt oG z).isSome=true:=by
  have:=sU q9.2 z;rcases h1:es.lookup z with _|u
  .rw[h1]at hz;injection hz.1
  .rw[h1]at this;rcases h2:valueAt oG z with _|w
   .rw[h2]at this;exact this.elim
   .rfl
 refine wpAny_delItem_slot q9.1.typeIs (rfl) F.slot_dict_delitem<|kK F.slot_dict_delitem q9.1.typeIs F.entry_dict_delitem (F.args_dict_delitem_2 _ _) (meets_dict_delitem_pairs (strKind PG C.w) a'<|hZ PG C.w z t) ⟨oG,q9.1,?_,hv,λh' p0 hs=>?_⟩
 .exact q9.2.length▸(bC (bS hz.2) n8)
 .obtain⟨o,q8⟩:=Dw p0<|Ma z q9.2;exact kk () _ ρ (a8 _) trivial (G.rQ hr hs q8.1 q8.2<|aT _ _)<|mY.to<|aT _ _
theorem LF{i:Nat}{es:List (Str×V)}{x:Str}(h:H[i]?=some (.dict es))(hx:(es.lookup x).isSome=true)(hz:es.length<big):vM (.ref i) (.str x) H=some (H.set i<|.dict<|x6 x es):=by show(dE H i).bind _=_;rw[Lq h];exact aH ⟨hx,hz⟩
theorem Bu(l)(items)(adi:(items.size:Int)<2^63):
 Meets (Builtin.«bool.__new__» ⟨[.type "bool",.ref l],[]⟩) (λU R s=>s.heap.IsList l items/\R (.ok<|.ret<|.bool (!items.isEmpty)) {s with toks:=s.toks+1+1}):=
 Meets.of_wp λprog w A R s hs=>by
  have q8:=hs;have f1:=F.conv_sub_bool;repeat(any_goals(first|assumption|(with_reducible refine wpAny_truthy_list q8.1 adi ?_)|wp_step))
  all_goals first|exact⟨_,rfl,q8.2⟩|exact q8.2|skip
theorem J7(hi:st.H[i]?=some (.list xs))(hz:xs.length<big)(hv:VC ρ (.ref i) y):
 Sd C (call (.type "bool") [y]) VC ρ s st (some (.ok<|.bool (!xs.isEmpty),st)):=by
 refine Sd.plain λG Q E kk=>?_;obtain⟨a,vs,n,rfl,hr,ho,Sb⟩:=G.list hi hv;have hl:xs.length=vs.size:=Sb.length;unfold big at hz;refine call_bool_1 (Bu a vs<|by omega) ⟨⟨_,ho,rfl,n,rfl⟩,⟨rfl,kk _ 2 ?_⟩⟩;rcases xs with _|⟨b,l⟩
 .have:=fO hl.symm;subst this;rfl
 .have:vs.isEmpty=false:=by rw[jQ];rintro rfl;simp at hl
  exact this▸rfl
section
theorem iw:mroOf (.type "collections.deque")=pure [.type "collections.deque",.type "object"]:=by rw[mroOf_type];rfl'
theorem Fj:typeLookup (.type "collections.deque") "__new__" =pure (some<|.builtin "collections.deque.__new__"):=by rw[d7,cS];rfl'
theorem Kc:Slot "collections.deque" "__init__" "collections.deque.__init__" :=
 .of (owner:= "collections.deque") (n:= "__init__") (by rw[d7,cS];rfl') (by decide+kernel) (by decide+kernel) (by decide+kernel)
  (by first|exact .inl (by decide+kernel)|exact .inr<|by decide+kernel) (by rw[dH];rfl')
theorem Xq:TypeCalled "collections.deque" "collections.deque.__new__" "collections.deque.__init__" :=
 ⟨by decide+kernel,by decide+kernel,⟨_,_,iw⟩,madeBy_type iw Fj<|by decide+kernel,by decide+kernel,by rw[dH];rfl',Kc⟩
theorem La:checkTypeCall "collections.deque" ⟨[],[]⟩=pure ():=by rfl'
theorem Rx:checkBuiltinCall "collections.deque.__new__" ⟨[.type "collections.deque"],[]⟩=pure ():=by rfl'
theorem Jn:entryFor table "collections.deque.__new__" =some Builtin.«collections.deque.__new__»:=fN<|by rfl'
theorem Fm:entryFor table "collections.deque.__init__" =some Builtin.«collections.deque.__init__»:=fN<|by rfl'
theorem I8(a):argsOk "collections.deque.__init__" ⟨[a],[]⟩:=by rfl'
def Bk(n:Int):Obj:={cls:=.type "collections.deque",data:=.fields #[.none,rawInt n]}
theorem Nu:Builtin.«collections.deque.__new__» ⟨[.type "collections.deque"],[]⟩=(newObj (.type "collections.deque") (.fields #[.none,rawInt 0]) none>>=λv=>ret v):=by rfl'
theorem Jq(a):Builtin.«collections.deque.__init__» ⟨[.ref a],[]⟩=(setField (.ref a) 0 .none>>=λU=>Builtin.Deque.clear (.ref a)>>=λU=>ret .none):=by rfl'
theorem Ic:Meets (Builtin.«collections.deque.__new__» ⟨[.type "collections.deque"],[]⟩) λU R s=>R (.ok<|.ret<|.ref s.heap.objs.size) {s with heap:=s.heap.push (Bk 0)}:=
 Meets.of_wp λprog w A R s hs=>by exact Nu▸(aD<|eD<|aM ⟨_,rfl,hs⟩)
theorem Fq(a):Meets (Builtin.«collections.deque.__init__» ⟨[.ref a],[]⟩) λU R s=>s.heap.get? a=some (Bk 0)/\R (.ok<|.ret .none) {s with heap:=s.heap.update a (Obj.mapFields (·.setIfInBounds 0 .none))}:=
 Meets.of_wp λprog w A R s hs=>by have q8:=hs;rw[Jq];refine aD<|iI q8.1 rfl (dM _) ?_;refine aD ?_;refine aD<|aD<|jW (cT _ q8.1 rfl) rfl<|aM ?_;exact aM<|aM ⟨_,rfl,q8.2⟩
theorem ou{st:St}(B:k7 k C):Sd C (call (.type "collections.deque") []) VC ρ s st<|tT (.dq) st:=by
 exists k,C,ρ,s,st,_;refine Sd.of λG Q E kk=>?_;have ho:(s.heap.push<|Bk 0).get? s.heap.objs.size=some (Bk 0):=bT _ rfl;refine callType_meets (Q₁:=λobj lD=>obj=.ref s.heap.objs.size/\lD={s with heap:=s.heap.push (Bk 0)}) Xq La Rx Jn Fm Ic ⟨rfl,rfl⟩ λobj lD hq=>?_;obtain⟨rfl,rfl⟩:=hq;refine⟨⟨_,ho,rfl⟩,I8 _,_,Fq _,ho,rfl,?_⟩;have hi:(ρ++[s.heap.objs.size])[st.H.length]?=some s.heap.objs.size:=by rw[<-G.len,aS<|aI _,cD];rfl
 have G2:=(G.push (ao:=.dq) rfl rfl).rQ (ao:=.dq) (h':=(s.heap.push<|Bk 0).update s.heap.objs.size<|Obj.mapFields (·.setIfInBounds 0 Value.none)) hi (fK ..) (cT _ ho rfl) rfl<|aI _;have e:(st.H++[AO.dq]).set st.H.length (.dq)=st.H++[.dq]:=by refine a6 (dO _ _<|aI _) ?_;rw[cD];rfl
 simp only[show{{st with H:=st.H++[AO.dq]}with H:=(st.H++[AO.dq]).set st.H.length (.dq)}={st with H:=st.H++[.dq]}from by rw[e]]at G2;exact kk _ _ _ ⟨_,rfl⟩ (nU G) G2<|mY.lO ..
theorem sP:Slot "collections.deque" "__len__" "collections.deque.__len__" :=
 .of (owner:= "collections.deque") (n:= "__len__") (by rw[d7,cS];rfl') (by decide+kernel) (by decide+kernel) (by decide+kernel)
  (by first|exact .inl (by decide+kernel)|exact .inr<|by decide+kernel) (by rw[dH];rfl')
theorem Iw:entryFor table "collections.deque.__len__" =some Builtin.«collections.deque.__len__»:=fN<|by rfl'
theorem L6(a):argsOk "collections.deque.__len__" ⟨[a],[]⟩:=by unfold argsOk;rfl'
theorem Gz:typeLookup (.type "collections.deque") "__bool__" =pure none:=by rw[d7,cS];rfl'
theorem Nv(a):Builtin.«collections.deque.__len__» ⟨[.ref a],[]⟩=(Builtin.Deque.size (.ref a)>>=λn=>retInt n):=by rfl'
theorem Nr{l:Addr}{Q:Value->Shared->Prop}(ho:s.heap.get? l=some (Bk 0))(h:Q (.int 0<|s.toks+1) {s with toks:=s.toks+1+1}):
 wpAny (model PG w) A (Builtin.«len» ⟨[.ref l],[]⟩) (λfin s'=>∃r,fin=.done (.ret r)/\Q r s') E s:=by
 exists s,w,A,E,l,Q,_;have hT:s.TypeIs (.ref l) "collections.deque" :=⟨_,ho,rfl⟩;refine aD<|aM ?_;refine aD (wpAny_callSpecial?_slot hT sP
  (gP sP hT Iw ?_<|L6 _))
 rw[Nv];exact aD<|aD<|jW ho rfl<|aM<|aD<|wpAny_mkInt<|aM ⟨_,rfl,aD<|cL<|aM<|aD<|i7<|aD<|wpAny_mkInt<|aM ⟨_,rfl,h⟩⟩
theorem Vz{l:Addr}{Q:Bool->Shared->Prop}(ho:s.heap.get? l=some (Bk 0))(h:Q false {s with toks:=s.toks+1+1}):wpAny (model PG w) A (truthy<|.ref l) Q E s:=by
 exists s,w,A,E,l,Q,_;have hT:s.TypeIs (.ref l) "collections.deque" :=⟨_,ho,rfl⟩;have key:wpAny (model PG w) A (runValue<|.builtin "len" ⟨[.ref l],[]⟩) (λr s'=>r=.int 0 (s.toks+1)/\Q false s') E s:=by refine wpAny_runValue<|eP entry_len ?_;exact(eB plain_len _)▸(bL (Nr (Q:=λr s'=>r=.int 0 (s.toks+1)/\Q false s') ho ⟨rfl,h⟩) (λfin s' h'=>by obtain⟨r,rfl,hq⟩:=h';exact hq) λU U e=>e)
 first
  |refine aD<|wpAny_callSpecial?_none hT Gz ?_
  |refine aD<|aM<|aD<|wpAny_callSpecial?_none hT Gz ?_
 first
  |refine aD<|jC hT sP.lookup ?_
  |refine aD<|aM<|aD<|jC hT sP.lookup ?_
 first
  |exact aD<|bL key (λr s' h'=>by obtain⟨rfl,hq⟩:=h';exact aM hq) λU U e=>e
  |exact aD<|aM<|aD<|bL key (λr s' h'=>by obtain⟨rfl,hq⟩:=h';exact aM hq) λU U e=>e
def dqO:AO->Option Unit
 |.dq=>some ()
 |_=>none
def KI(a:V):Hp->Option Bool:=vR (λi H=>(H[i]?).bind λo=>(dqO o).bind λU=>some false) a
theorem BC(ha:VC ρ a x):Sd C (truthy x) (λU b c=>b=c) ρ s st<|pE st<|KI a st.H:=
 gR rfl ha λi l hl hr=>gB rfl λo hi=>gB rfl λU ho=>Sd.plain λG Q E kk=>by
  induction o<;>first|exact nn ho|skip
  obtain⟨o,ho,rfl⟩:=G.sim.obj _ _ _ hl hi;exact Vz ho<|kk _ 2 rfl
end
def l5{α:Type}:List α->List α
 |[]=>[]
 |[a]=>[a]
 |a::_::r=>a::l5 r
theorem Ua:l5 ([]:List α)=[]:=rfl
theorem Kg:l5 [a]=[a]:=rfl
theorem aaO:l5 (a::b::r)=a::l5 r:=rfl
theorem Gx{α β:Type}(f:α->β)(l):l5 (l.map f)=(l5 l).map f:=by
 induction l using Ij with
 |h0=>rfl
 |h1 a=>rfl
 |h2 a b r ih=>exact aV (f a:: ·) ih
theorem Bh{α:Type}(xs:List α):((List.range<|(xs.length+1)/2).map λk=>2*k).filterMap (xs[·]?)=l5 xs:=by
 induction xs using Ij with
 |h0=>simp[Ua]
 |h1 a=>simp[Kg]
 |h2 a b r ih=>
  simp only[show((a::b::r).length+1)/2=(r.length+1)/2+1 from j4 (r.length+1)<|c6 1,List.range_succ_eq_map];show a::_=a::l5 r;simp only[<-ih];congr 1
  simp[List.filterMap_map];rfl
theorem WV(xs:List V)(a b:Nat)(hb:b<=xs.length):(sliceRange a b 1).filterMap (xs[·]?)=(xs.drop a).take (b-a):=by
 rw[sliceRange_one];by_cases h:a<=b
 .rw[StrLaws.picks xs (b-a) a (lk<|aC (aN<|aY ((lk h):a<=b)) hb)]
 .have:b-a=0:=by lia
  exact this▸rfl
theorem ED(k n:Nat):max (0:Int) (min (k:Int) (n:Int))=((min k n:Nat):Int):=
 (Int.max_eq_right<|Int.le_min.mpr ⟨eK k,eK n⟩).trans (Lean.Omega.Int.ofNat_min k n).symm
theorem U2(k n:Nat):(if(1:Int)>0 then max 0 (min (if(k:Int)<0 then(k:Int)+n else k) (n:Int))else max (-1)<|min (if(k:Int)<0 then(k:Int)+n else k)<|(n:Int)-1)=((min k n:Nat):Int):=by rw[aL<|Int.not_lt.mpr<|eK k];exact ED k n
theorem Ph{lo hi:Option Int}{a b:Nat}(h:sliceBounds lo hi none xs.length=((a:Int),(b:Int),(1:Int)))(hb:b<=xs.length):pick xs lo hi none=(xs.drop a).take (b-a):=by unfold pick;rw[h];exact WV xs a b hb
theorem X8(xs)(k:Nat):pick xs none (some (k:Int)) none=xs.take k:=
 (Ph (hi:=some k) (fM rfl<|fM (U2 k xs.length) rfl)<|Nat.min_le_right _ _).trans List.take_eq_take_min.symm
theorem W6(xs)(k:Nat):pick xs (some (k:Int)) none none=xs.drop k:=
 (Ph (lo:=some k) (fM (U2 k xs.length) rfl)<|aI _).trans ((eV (by rw[eX];exact aI _)).trans List.drop_eq_drop_min.symm)
theorem kn(xs)(k:Nat):pick xs (some (k:Int)) (some<|(k:Int)+3) none=(xs.drop k).take 3:=by
 refine(Ph (lo:=some k) (hi:=some<|k+3) (fM (U2 k xs.length)<|fM (U2 (k+3) xs.length) rfl)<|Nat.min_le_right _ _).trans ?_;rw[<-List.drop_eq_drop_min];rcases Nat.le_total k xs.length with h|h
 .rw[jE h,<-Nat.sub_min_sub_right,b5,<-eX];exact List.take_eq_take_min.symm
 .rw[List.drop_of_length_le h,List.take_nil,List.take_nil]
theorem Z0(n:Nat):sliceRange 0 n 2=(List.range<|(n+1)/2).map λk=>2*k:=by
 revert n;exists n;unfold sliceRange;have e:(if(2:Int)>0 then(if(0:Int)<n then((n:Int)-0+2-1)/2 else 0)else(if(0:Int)>n then(0-n-2-1)/(-2)else 0)).toNat=(n+1)/2:=by
  simp only[show(2:Int)>0 from by decide,if_true];split
  .lia
  .simp_all
 dsimp only;rw[e];apply dN;intro k _;lia
theorem zq(xs):pick xs none none (some 2)=l5 xs:=by dsimp only[pick,sliceBounds];simp[Option.getD_some];simp only[Z0,Bh]
theorem UJ(n:Nat):max (0:Int) (min (-1+(n:Int)) (n:Int))=((n-1:Nat):Int):=by
 rcases n with _|n
 .rfl
 .rw[Int.natCast_succ,Int.add_comm,Int.add_neg_cancel_right];exact(ED n<|n+1).trans<|aV _<|jE<|dM n
theorem gy(xs):pick xs none (some (-1)) (some 2)=l5 xs.dropLast:=by
 revert xs;exists xs;unfold pick;rw[show sliceBounds none (some (-1)) (some 2) xs.length=(0,((xs.length-1:Nat):Int),2)from fM rfl<|fM (UJ xs.length) rfl];simp only[Z0,<-Bh xs.dropLast,List.length_dropLast];have key:∀l:List Nat,(∀k∈l,k<xs.length-1)->l.filterMap (xs[·]?)=l.filterMap (xs.dropLast[·]?):=by
  intro l;induction l with
  |nil=>intro _;rfl
  |cons k l ih=> intro h;refine a6 gU ?_;rw[gU,(by rw[List.getElem?_dropLast,aH<|h k cN]:xs.dropLast[k]?=xs[k]?),ih λj hj=>h j<|cO _ hj]
 refine key _ λk hk=>?_;obtain⟨j,hj,rfl⟩:=cA.mp hk;have:=cJ.mp hj;lia
set_option tactic.hygienic true in
theorem Hw(l){a b:Nat}(Fs:a<=b)(hb:b<=l.length):rH (lJ l) (some (a:Int)) (some (b:Int))=lJ ((l.drop a).take<|b-a):=by
 exists l,a,b,_;unfold rH;refine(StrLaws.strSliceIndices_plain (len:=(lJ l).length) Fs (by rw[n5];exact hb))▸?_;split
 .rename_i e;simp only[a5,aF,cG,n5]at e;have ha:a=0:=by grind
  subst ha;simp at e;simp[e]
 .have e:((List.range<|b-a).map λk=>a+k).filterMap ((lJ l).cps[·]?)=(l.drop a).take (b-a):=by rw[<-StrLaws.picks l (b-a) a (lk<|aC (aN<|aY ((lk Fs):a<=b)) hb)];simp[lJ]
  rw[e]
theorem pe(l){a:Nat}(ha:a<=l.length):rH (lJ l) (some (a:Int)) none=lJ (l.drop a):=by
 exists l,a,_;have e:rH (lJ l) (some a) none=rH (lJ l) (some a) (some l.length):=by dsimp only[rH,Builtin.Str.strSliceIndices];rw[n5];have h1:¬((l.length:Int)<0):=(by simp);simp[aL h1]
 refine a6 e ?_;refine a6 (Hw l ha<|aI _) ?_;rw[eV<|by simp]
section
open PySem PySem.W PyProof.Rows PySem.Calls
def BI(H:Hp)(i:Nat):Option<|Nat×Nat:=(H[i]?).bind λo=>match o with
 |.m6 l k=>some (l,k)
 |_=>none
def xt(H:Hp)(i:Nat):Option Nat:=(H[i]?).bind λo=>match o with
 |.mw i=>some i
 |_=>none
theorem Og{i:Nat}{q}(h:BI H i=some q):H[i]?=some (.m6 q.1 q.2):=by obtain⟨o,h1,h⟩:=aB.mp h;refine a6 h1 ?_;induction o<;>first|exact nn h|exact aV (λx=>some<|AO.m6 x.1 x.2)<|aA h
theorem Oh{i:Nat}{q}(h:xt H i=some q):H[i]?=some (.mw q):=by obtain⟨o,h1,h⟩:=aB.mp h;refine a6 h1 ?_;induction o<;>first|exact nn h|exact aV (λx=>some<|AO.mw x)<|aA h
def attrL(v:V)(x:Str):Hp->mM:=vR (λi H=>(BI H i).bind λU=>if x= "__next__" then some (.ok<|.ref H.length,H++[.mw i])else none) v
def D9(f:V)(vs:List V)(H:Hp):mM:=if f=.bi "iter" then a1 (vR λj H=>(lE H j).bind λU=>some (.ok<|.ref H.length,H++[.m6 j 0])) vs H else none
def TJ(l k i:Nat)(H:Hp)(xs:List V):mM:=(xs[k]?).elim (some (.exc<|.ty "StopIteration",H.set i .lend)) λv=>some (.ok v,H.set i<|.m6 l<|k+1)
def K3(f:V)(vs:List V)(H:Hp):mM:=if vs=[]then vR (λm H=>(xt H m).bind λi=>(BI H i).bind λq=>(lE H q.1).bind λxs=>TJ q.1 q.2 i H xs) f H else none
def EM(f:V)(H:Hp):Bool:=(vR (λm H=>xt H m) f H).isSome
theorem jl(a):checkBoundCall "list_iterator.__next__" ⟨[.ref a],[]⟩=pure ():=by rfl'
theorem Na(hv:VC ρ v ov):Sd C (getAttr ov x true) VC ρ s st<|mV st<|attrL v x st.H:=
 gR (T:=(getAttr · x true)) rfl hv λi a ha hr=>gB rfl λq hq=>xF rfl λhx=>by subst hx;refine Sd.of λG Q E kq=>?_;obtain⟨o,ho,la,hla,rfl⟩:=G.sim.obj _ a _ ha<|Og hq;refine aD<|wpAny_mkText ?_;obtain⟨hp,g,d,tk,os⟩:=s;exact WC ho<|kq _ _ _ ⟨_,rfl⟩ (nU G) ((G.tok 1).push rfl ⟨a,mR ⟨_,rfl⟩ ha,rfl⟩)<|mY.heap ⟨hp,g,d,tk,os⟩ _ 1
theorem cj(hf:VC ρ f fv)(hv:lH (VC ρ) vs xs):Sd C (call fv xs) VC ρ s st<|mV st<|D9 f vs st.H:=by
 refine xF rfl λh=>?_;subst h;obtain rfl:=hf.symm;refine az (q:=λxs=>call (.builtin "iter") xs) hv λv y hv=>gR (T:=λy=>call (.builtin "iter") [y]) rfl hv λj a ha hr=>gB rfl λys hj=>Sd.of λG Q E kq=>?_;obtain⟨_,ws,n,e,q8⟩:=G.list (nS hj) hr;injection e with e;subst e;refine call_function_entry (by decide+kernel) (by decide+kernel) kdk_entry_iter (kdk_args_iter _) ?_;refine aD<|kS (by first|rfl|kernel_rfl!) ?_
 exact aD<|iL ⟨_,q8.2.1,rfl,n,rfl⟩<|aM ⟨_,rfl,kq _ _ _ ⟨_,rfl⟩ (nU G) (G.push rfl ⟨a,mR ⟨_,rfl⟩ q8.1,rfl⟩)<|mY.lO ..⟩
theorem JX(G:kZ C ρ st s)(hf:VC ρ f fv)(h:EM f st.H=true):∃kp,∀Q E,Q kp s->wpAny (model PG C.w) C.A (keeperOf fv) Q E s:=by
 obtain⟨i,h⟩:=fH.mp h;induction f<;>first|exact nn h|skip
 obtain⟨a,ha,rfl⟩:=hf;obtain⟨o,ho,it,hit,rfl⟩:=G.sim.obj _ a _ ha<|Oh h;exact⟨.machine,λQ E q=>aD<|jR ho<|aM q⟩
theorem im(ho:s.heap.get? it=some ⟨.type "list_iterator",none,.fields #[.ref l,.int i 0],#[]⟩)(hl:s.heap.get? l=some ⟨.type "list",none,.seq ws n,#[]⟩)(hx:ws[i]?=some x)
 (hQ:Q (.done<|.ret x) {s with heap:=s.heap.update it (Obj.mapFields (·.setIfInBounds 1 (rawInt<|(i:Int)+1)))}):wpAny (model PG w) A (Builtin.«list_iterator.__next__» ⟨[.ref it],[]⟩) Q E s:=by refine(aD (fR ho rfl (x:=.ref l) rfl ?_):wpAny _ _ (field (.ref it) 0>>=_) _ _ s);rw[aL<|show ¬((Value.ref l==Value.none)=true)from bV];refine aD<|fR ho rfl rfl ?_;refine aD<|gG hl rfl ?_;simp[hx];exact aD<|iI ho rfl (aI _)<|aM hQ
theorem yp(hh:A.handled=none)(ho:s.heap.get? it=some ⟨.type "list_iterator",none,.fields #[.ref l,.int i 0],#[]⟩)(hl:s.heap.get? l=some ⟨.type "list",none,.seq ws n,#[]⟩)(hx:ws[i]?=none)
 (hE:∀h' e,Heap.MadeExc (s.heap.update it<|Obj.mapFields (·.setIfInBounds 0 .none)) h' e "StopIteration" []->E (.ref e) {s with heap:=h'}):wpAny (model PG w) A (Builtin.«list_iterator.__next__» ⟨[.ref it],[]⟩) Q E s:=by
  refine(aD (fR ho rfl (x:=.ref l) rfl ?_):wpAny _ _ (field (.ref it) 0>>=_) _ _ s);rw[aL<|show ¬((Value.ref l==Value.none)=true)from bV];refine aD<|fR ho rfl rfl ?_;refine aD<|gG hl rfl ?_;simp[hx];refine aD<|iR<|aD<|iI ho rfl (dM _) ?_;refine aD ?_;refine aD<|eD ?_ (by size_fits);refine aD<|kS (a:=Value.none) (by first|rfl|(rw[firstArgMember];rfl)) ?_
  refine eD ?_ (by size_fits);dsimp only[raiseNew];refine aD<|wpAny_handled ?_;first|simp only[show A.in1.handled=none from hh]|refine hh▸?_
  refine aD<|aM<|wpAny_throw ?_;refine hE _ _ ⟨λb o e=>aZ _<|aZ _ e,cB (by rw[dI];exact dM _),⟨_,bT _ rfl,cB<|aI _,?_⟩⟩;exact aZ _<|bT _ rfl
theorem Sx{m it:Addr}{Q:Value->Shared->Prop}(hm:s.heap.get? m=some ⟨.type "method-wrapper",none,.fields #[.builtin "list_iterator.__next__",.ref it],#[]⟩)
 (h:wpAny (model PG w) A.in1 (Builtin.«list_iterator.__next__» ⟨[.ref it],[]⟩) (λfin s'=>∃r,fin=.done (.ret r)/\Q r s') E s):wpAny (model PG w) A (call (.ref m) []) Q E s:=by exists s,w,A,E,m,it,Q,_;refine eJ<|jB ?_;refine aD<|jR hm ?_;show wpAny _ _ (if(Value.type "method-wrapper" !=Value.type "method")=true then(checkBoundCall "list_iterator.__next__" ⟨[.ref it],[]⟩>>=λU=>again<|.builtin "list_iterator.__next__" ⟨[.ref it],[]⟩)else _) _ _ s;rw[aH (by rfl)];refine aD<|kS (jl it) ?_;refine aM ?_;refine⟨iA _<|by decide+kernel,eP entry_listiter_next ?_⟩;rw[eB (by decide+kernel) _];refine bL h (λfin s' P=>?_) λU U x=>x;obtain⟨r,rfl,q⟩:=P;exact q
theorem ge{st:St}(hh:C.A.handled=none){f:V}{fv:Value}{vs:List V}{xs:List Value}(hf:VC ρ f fv)(hv:lH (VC ρ) vs xs):Sd C (call fv xs) VC ρ s st<|mV st<|K3 f vs st.H:=by
 exists C,ρ,s,st,f,fv,vs,xs,[hh,hf,hv];refine xF rfl λh=>?_;subst h;obtain rfl:=cC.mp hv.length.symm;refine gR (T:=λf=>call f []) rfl hf λm ma hma hr=>gB rfl λi hm=>gB rfl λq hi=>gB rfl λys hl=>Sd.good λG=>?_;exists m,ma,i,q,ys,[hma,hr,hm,hi,hl];exists om,(q_:G.sim.obj _ ma _ hma<|Oh hm);obtain⟨ZS,it,hit,rfl⟩:=q_;exists it,_;exists oi,(q_:G.sim.obj _ it _ hit<|Og hi);obtain⟨hoi,la,hla,rfl⟩:=q_;exists la,_;exists ol,(q_:G.sim.obj _ la _ hla<|nS hl);obtain⟨Sf,ws,n,rfl,xW⟩:=q_;unfold TJ;rcases hv:ys[q.2]? with _|v
 .intro G;exists r,k6;intro e;injection e with e;injection e with e1 e2;subst e1 e2;refine Sx ZS<|yp hh hoi Sf (by refine a6 bU.symm ?_;rw[bZ,<-xW.length,<-bZ];exact hv) ?_;exists h',ea;intro mm;have G1:kZ C ρ {st with H:=st.H.set i .lend} {s with heap:=s.heap.update it (Obj.mapFields (·.setIfInBounds 0 .none))}:=G.rQ hit (fK ..) (cT _ hoi rfl) ⟨_,rfl,rfl⟩<|aI _;have q8:=G1.made mm;exact⟨_,ρ,rfl,a8 _,q8.2,q8.1,mY.lO ..⟩
 .exists v,[hv];refine Sd.of ?_;intro G;exists Q,E;intro kq;exists y,(q9:xW.get hv);refine Sx ZS<|im hoi Sf (bU▸q9.1) ⟨_,rfl,?_⟩;exact kq _ _ ρ (a8 _) q9.2 (G.rQ hit (fK ..) (cT _ hoi rfl) ⟨la,hla,rfl⟩<|aI _)<|mY.lO ..
end
section
variable{α β:Type}
theorem Sd.orP{a b:Option β}(h1:Sd C t Rel ρ s st<|pE st a)(h2:Sd C t Rel ρ s st<|pE st b):Sd C t Rel ρ s st<|pE st<|a.or b:=by
 rcases a with _|p
 .exact h2
 .exact h1
end
def MX:lR where
 glob _:=none
 call _ _ _ _:=none
 kp _ _:=false
 attr _ _ _:=none
 m1 _ _ _:=none
 setattr _ _ _ _:=none
 cmp _ _ _ _:=none
 bin _ _ _ _:=none
 Bv _ _ _ _:=none
 FU _ _ _:=none
 Hm _ _:=none
 item _ _ _:=none
 slice _ _ _ _ _:=none
 sX _ _ _ _:=none
 rP _ _ _:=none
 unpack _ _ _:=none
 idx _ _:=false
 comp _ _ _:=none
 iter _ _:=none
 N3 _ _:=false
 raise _ _ _:=none
 star _ _ _:=none
 stmt _ _ _:=none
theorem bj(B:k7 k C):lV C MX where
 un:=B.units
 comp:=Sd.nil
 Vg:=λU=>Sd.nil
 raise:=Sd.nil
 stmt:=Sd.nil
 setattr:=λU U=>Sd.nil
 sX:=λU U U=>Sd.nil
 rP:=λU U=>Sd.nil
 Bv:=λU U=>Sd.nil
 unpack:=λU=>Sd.nil
 Ki:=λU U h=>by injection h
 iter:=λU U h=>nn h
 glob:=λh=>nn h
 call:=λU U U=>Sd.nil
 kp:=λU U h=>by injection h
 star:=Sd.nil
 attr:=λU=>Sd.nil
 m1:=λU=>Sd.nil
 cmp:=λU U=>Sd.nil
 bin:=λU U=>Sd.nil
 FU:=λU=>Sd.nil
 Hm:=λU=>Sd.nil
 idx:=λU U h=>by injection h
 item:=λU U U=>Sd.nil
 slice:=λU U U U U U U U U=>Sd.nil
def GM:Prim:=a2 λx l=>vS (λx=>vL (λU xs H=>(rN xs).bind λts=>gv (JoinOk x ts=true) (.str<|Txt.join x ts) H) l) x
def sk:Prim:=a2 λx y=>vS (λx=>vS (λy H=>if(y.length==0)=false/\x.length<big/\(Builtin.Str.partsBetween x (Builtin.Str.occurrences x y 0 x.length<|x.length+1) y.length).length<big then nw (.list<|(Txt.split x y).map V.str) H else none) y) x
def GN:Prim:=a1<|vL λU xs H=>some (.ok<|.bool (!xs.isEmpty),H)
def Vp:Prim:=a1<|vR uD
def sr:Prim:=a0<|nw .dq
def biP:List<|String×Prim:=[("list.append",Vl),("len",ZL),("list.pop",ZK),("list.clear",rm),("list.extend",Vm),("set.add",Vn),("isinstance",rx),("dict.get",ZQ),("dict.values",Vo),("list.index",ry),("str.join",GM),("str.split",sk),("sorted",Vp)]
def tyP:List<|String×Prim:=[("set",ZM),("tuple",ro),("range",ru),("int",ZN),("type",GB),("bool",GN),("collections.deque",sr)]
def nC(f:V)(vs:List V)(kv:List<|Str×V)(H:Hp):mM:=match kv with
 |[]=>(match f with
  |.bi x=>(biP.lookup x).bind λp=>p vs H
  |.ty x=>(tyP.lookup x).bind λp=>p vs H
  |_=>none)
 |_=>none
def Mo:lR where
 glob:=zB
 call:=nC
 kp:=Wt
 attr v x H:=(zF v x H).or<|attrL v x H
 m1 v x H:=(wY v x H).or<|(mh v x H).or<|fg v x
 setattr:=qC
 cmp op a b H:=(y4 op a b H).or<|PP op a b
 bin:=Qs
 Bv:=Ge
 FU:=AE
 Hm a H:=(Mf a H).or<|KI a H
 item:=uM
 slice:=n7
 sX:=qY
 rP:=vM
 unpack _ _ _:=none
 idx:=Ee
 comp _ _ _:=none
 iter _ _:=none
 N3 _ _:=false
 raise _ _ _:=none
 star _ _ _:=none
 stmt _ _ _:=none
def qS:lR:={Mo with star:=ke Mo}
theorem cx{T:Value->Sem Value}(hv:VC ρ v y)(h:∀i xs a,st.H[i]?=some (.list xs)->xs.length<big->VC ρ (.ref i) (.ref a)->Sd C (T<|.ref a) VC ρ s st (mV st<|f i xs st.H)):Sd C (T y) VC ρ s st<|mV st<|vL f v st.H:=wR hv λi a ha hv=>Sd.sF λxs hi=>Sd.Yw λhz=>h i xs a (nS hi) hz hv
theorem yz:PS C (.builtin "str.join") GM:=A9 λρ s st U U U z h1 h2=>vN (T:=λy=>call (.builtin "str.join") [y,z]) h1 λx t=>cx (T:=λz=>call (.builtin "str.join") [.str x t,z]) h2 λi xs a hi hz hv=>Sd.sF λts ht=>N2 λsd=>wk hi ht sd hv
theorem ar:PS C (.builtin "str.split") sk:=A9 λρ s st U U U z h1 h2=>vN (T:=λy=>call (.builtin "str.split") [y,z]) h1 λx t=>vN (T:=λz=>call (.builtin "str.split") [.str x t,z]) h2 λy u=>Sd.Yw λh=>ej h.1 h.2.1 h.2.2
theorem AD:PS C (.type "bool") GN:=rV λρ s st U U h1=>cx (T:=λy=>call (.type "bool") [y]) h1 λi xs a hi hz hv=>J7 hi hz hv
theorem Ww(B:k7 (k+2) C):PS C (.builtin "sorted") Vp:=rV λρ s st U U h1=>wR (T:=λy=>call (.builtin "sorted") [y]) h1 λi a U hv=>Xo B hv
theorem Zn(B:k7 (k+2) C):PS C (.type "collections.deque") sr:=EN λρ s st=>ou<|B.le<|cV _
theorem PZ(B:k7 (k+2) C):∀p∈biP,PS C (.builtin p.1) p.2:=by
 repeat' first|exact bH _|refine d9.mpr ⟨?_,?_⟩
 .exact Wa
 .exact QH
 .exact ME
 .exact ff
 .exact Wy
 .exact Xz
 .exact bu
 .exact MQ
 .exact zg
 .exact fm
 .exact yz
 .exact ar
 .exact Ww B
theorem HE(B:k7 (k+2) C):∀p∈tyP,PS C (.type p.1) p.2:=by
 repeat' first|exact bH _|refine d9.mpr ⟨?_,?_⟩
 .exact OJ
 .exact mz
 .exact Zu
 .exact IF
 .exact yu
 .exact AD
 .exact Zn B
theorem D4{β:Type}{l:List (String×β)}{b:β}(h:l.lookup x=some b):(x,b)∈l:=by
 induction l with
 |nil=>exact nn h
 |cons p l ih=>
  rw[cP]at h;rcases e:x==p.1 with _|_
  .have h:=e▸h;exact .tail _<|ih h
  .replace h:=e▸h;obtain rfl:=aA h;obtain rfl:=a5.mp e;exact .head _
theorem Df(B:k7 (k+2) C)(hf:VC ρ f fv)(hv:lH (VC ρ) vs xs)(hk:lH (KR ρ) kv ks):Sd C (call fv xs ks) VC ρ s st<|mV st<|nC f vs kv st.H:=by
 induction hk with
 |cons=>exact Sd.nil
 |nil=>
  induction f<;>first|exact Sd.nil|skip
  .subst hf;exact Sd.sF λp hp=>HE B _ (D4 hp) ρ s st vs xs hv
  .subst hf;exact Sd.sF λp hp=>PZ B _ (D4 hp) ρ s st vs xs hv
theorem Ck(B:k7 (k+2) C):lV C Mo where
 un:=B.units
 comp:=Sd.nil
 Vg:=λU=>Sd.nil
 raise:=Sd.nil
 stmt:=Sd.nil
 setattr:=λh1 h2=>Mv B h1 h2
 sX:=λh1 h2 h3=>Qj B h1 h2 h3
 rP:=λh1 h2=>Qh B h1 h2
 Bv:=λh1 h2=>ur B h1 h2
 unpack:=λU=>Sd.nil
 Ki:=λU U h=>by injection h
 iter:=λU U h=>nn h
 glob:=λh=>BX B h
 call:=λh1 h2 h3=>Df B h1 h2 h3
 kp:=λG h1 h2=>EU B G h1 h2
 star:=Sd.nil
 attr:=λh=>Sd.Yx (M9 B h)<|Na h
 m1:=λh=>Sd.orP (cb B h)<|Sd.orP (qt B h)<|Z3 B h
 cmp:=λh1 h2=>Sd.orP (KA B h1 h2)<|zo B h1 h2
 bin:=λh1 h2=>II B h1 h2
 FU:=λh=>OF B h
 Hm:=λh=>Sd.orP (iu B h)<|BC h
 idx:=λG h1 h2=>QX G h1 h2
 item:=λh1 h2 U=>xa B h1 h2
 slice:=λh1 h2 h3 h4 U h6 U U U=>Vv B h1 h2 h3 h4 h6
theorem pG(B:k7 (k+2) C):lV C qS:=
 {Ck B with star:=U8 B (Ck B) _}
def mK:List Nat:=[97,98,39,34,32]
def Ce:List Str:=(mK.map λa=>⟨#[a]⟩)++mK.flatMap λa=>mK.map λb=>⟨#[a,b]⟩
def pM:List Str:=⟨#[]⟩::Ce
def Dr(x:Str):Bool:=x.cps.all λc=>c==97||c==98
def qI(x:Str):Str:=if x.length==0 then "''" else if Dr x then x else("'" :Str)++Txt.replace x "'" "'\"'\"'" ++("'" :Str)
def Hj:Expr:=match(ach[0]?).getD (.Pass ⟨0,0,0,0⟩)with
 |.Return (some e) _=>e
 |_=>.Name "x" ⟨0,0,0,0⟩
def LS:Expr->Bool
 |.GeneratorExp ..=>true
 |_=>false
def gz(e:Expr):Bool:=(Ap e).any λc=>c.2.1.any LS
open Classical in
def Ha(sc:Scope)(e:Expr)(st:St):lG V:=bif !gz e then none else if e=Hj/\sc=qg then(st.loc.lookup ("split_command" :Str)).bind λv=>(DY st.H v).bind λl=>(rN l.2).bind λts=>
 if(ts.all λx=>pM.contains x)=true/\JoinOk " " (ts.map qI)=true/\ts.length<1000 then some (.ok<|.str<|Txt.join " "<|ts.map qI,st)else none else none
def r8:Stmt:=(b58[4]?).getD<|.Pass ⟨0,0,0,0⟩
def nA:List Stmt:=match r8 with
 |.For _ _ b _ _=>b
 |_=>[]
def items(x:Str):List<|Int×Nat:=(List.range x.cps.size).map λ(i:Nat)=>((i:Int),x.cps.getD i 0)
def sG:Bool->lR:=λq=>match q with|true=>qS|false=>MX
def qN(ob:St->lG Fl):List (Int×Nat)->St->lG Unit
 |[],st=>some (.ok (),st)
 |p::r,st=>(mX Bl "pos" (.int p.1) st).then λU st=>(mX Bl "ch" (.str ⟨#[p.2]⟩) st).then λU st=>(Cu<|ob st).then λf st=>match f with
  |.next=>qN ob r st
  |_=>none
def uF(x:Str):Bool:=x.cps.all λc=>decide (c<128)&&c !=92
def VU:Stmt->Option Expr
 |.For _ e ..=>some e
 |_=>none
def Je(t:Stmt):Bool:=((VU t).bind Ap).any λc=>(oP c.1).isSome
open Classical in
def Gf(sc:Scope)(t:Stmt)(st:St):lG Unit:=bif !Je t then none else if t=r8/\sc=Bl then(st.loc.lookup ("addr" :Str)).bind λv=>(P6 v).bind λx=>
 if uF x=true/\x.length<big then qN (λst=>nZ sG 0 true Bl nA st) (items x) st else none else none
def Zw:List Addr:=[58,910,915,922,878]
def uE:V->Bool
 |.ref _=>false
 |_=>true
def Gu(i:Nat)(H:Hp):Option<|Nat×List (Str×V):=(iE H i).bind λq=>if q.1=174 then(q.2.2.2.lookup ("_node2info" :Str)).bind λv=>vR (λn H=>(dE H n).map λds=>(n,ds)) v H else none
open Classical in
def Vu(S:Bool->lR)(fu i:Nat)(H:Hp):Option<|oV V×Hp:=match Gu i H with
 |some (n,ds)=>if h:∃r:oV V×Hp,n<r.2.length/\∀ep,lB S fu 129 [.ref i] [] (H.set n<|.lT ds ep)=some (r.1,r.2.set n<|.lT ds ep)then some (h.choose.1,h.choose.2.set n<|.dict ds)else none
 |none=>none
theorem QU{S:Bool->lR}(h0:Gu i H=some (n,ds))(hn:n<H'.length)(h:∀ep,lB S fu 129 [.ref i] [] (H.set n<|.lT ds ep)=some (r,H'.set n<|.lT ds ep)):
 Vu S fu i H=some (r,H'.set n<|.dict ds):=by
 unfold Vu;rw[h0];have ex:∃r:oV V×Hp,n<r.2.length/\∀ep,lB S fu 129 [.ref i] [] (H.set n<|.lT ds ep)=some (r.1,r.2.set n<|.lT ds ep):=⟨(r,H'),hn,h⟩;refine a6 (dif_pos ex) ?_;have e:=(ex.choose_spec.2 0).symm.trans<|h 0;simp only[Option.some.injEq,Prod.mk.injEq]at e;have e2:=aV (λl=>List.set l n<|AO.dict ds) e.2;simp only[jM]at e2;simp[e.1,e2]
def vV(S:Bool->lR)(fu:Nat)(f:V)(vs:List V)(kv:List<|Str×V)(H:Hp):mM:=match f with
 |.top a=>
  if Zw.contains a=true then(if vs.all uE=true/\kv.isEmpty=true then(lB S fu a vs [] []).map λp=>(y5 H.length p.1,H++p.2.map (AO.sh H.length))else none)
  else if a=129 then(if kv.isEmpty=true then a1 (vR<|Vu S fu) vs H else none)
  else if a=731 then(if kv.isEmpty=true then a1 (mkS S fu) vs H else none)
  else if(Ie a).isSome=true then mkV S fu a vs kv H
  else lB S fu a vs kv H
 |_=>none
def EP(S:Bool->lR)(fu:Nat)(f:V)(vs:List V)(H:Hp):mM:=if f=.ty "list" then a1 (vR<|FM S fu) vs H else if f=.bi "max" then a1 (vR um) vs H else none
def lS(S:Bool->lR)(fu:Nat)(f:V)(vs:List V)(kv:List<|Str×V)(H:Hp):mM:=
 (nC f vs kv H).or ((vV S fu f vs kv H).or<|if kv.isEmpty=true then(EP S fu f vs H).or ((K3 f vs H).or<|(D9 f vs H).or<|Hi f vs H)else none)
def js(S:Bool->lR)(fu:Nat):lR:={Mo with
 call:=lS S fu
 kp:=λf H=>Wt f H||EM f H
 attr:=λv x H=>((zF v x H).or<|attrL v x H).or<|Zp S fu v x H
 unpack:=qV
 comp:=Mr qS
 iter:=lZ
 N3:=vi
 raise:=iq qS
 star:=λsc e st=>(ke Mo sc e st).or<|(FP qS S fu sc e st).or<|Ha sc e st
 stmt:=Gf}
def lF(fu:Nat):Nat->Bool->lR
 |0=>λq=>match q with|true=>qS|false=>MX
 |n+1=>λq=>match q with|true=>qS|false=>js (lF fu n) fu
def Aj(k:Nat):Prop:=∀C,k7 k C->mN C->∀t ρ s st,Sd C (exec t C.env) (λU(U:Unit)f=>f=Flow.next) ρ s st<|Gf C.env.scope t st
def Jj(k:Nat):Prop:=∀C,k7 k C->mN C->∀e ρ s st,Sd C (eval e C.env) VC ρ s st<|Ha C.env.scope e st
theorem kZ.su(G:kZ C ρ st s)(ha:ρ[i]?=some a)(h:∀o,s.heap.get? a=some o->OC C.w ρ ao o):kZ C ρ {st with H:=st.H.set i ao} s:=by
 refine⟨⟨by simp[G.sim.len],G.sim.nd,λj b x e1 e2=>?_,G.sim.new,G.sim.keep⟩,G.fr,G.tk⟩;by_cases hj:j=i
 .subst hj;rw[ha]at e1;obtain rfl:=aA e1;have hl:j<st.H.length:=by exact G.sim.len▸(aU.mp ha).1
  replace e2:=(eU hl)▸e2;obtain rfl:=aA e2;exists o,(ho:G.sim.lt ha);exact⟨o,ho,h o ho⟩
 .rw[dB<|dQ hj]at e2;exact G.sim.obj j b x e1 e2
theorem kZ.freeze(G:kZ C ρ st s)(hn:st.H[n]?=some (.dict ds)):∃ep,kZ C ρ {st with H:=st.H.set n (.lT ds ep)} s:=by
 have hl:n<ρ.length:=by rw[G.len];exact(aU.mp hn).1
 obtain⟨o,ho,dv,ep,q8⟩:=G.sim.obj n _ _ (aP hl) hn;refine⟨ep,G.su (aP hl) λo' rA=>?_⟩;replace rA:=ho▸rA;obtain rfl:=aA rA;exact⟨dv,q8.1,q8.2.1,q8.2.2⟩
theorem kZ.adk(G:kZ C ρ st s)(hn:st.H[n]?=some (.lT ds ep)):kZ C ρ {st with H:=st.H.set n (.dict ds)} s:=by
 have hl:n<ρ.length:=by rw[G.len];exact(aU.mp hn).1
 obtain⟨o,ho,dv,q8⟩:=G.sim.obj n _ _ (aP hl) hn;refine G.su (aP hl) λo' rA=>?_;replace rA:=ho▸rA;obtain rfl:=aA rA;exact⟨dv,ep,q8.1,q8.2.1,q8.2.2⟩
theorem Nt(h:vs.all uE=true)(hv:lH (VC ρ) vs xs):lH (VC []) vs xs:=by
 induction hv with
 |nil=>exact .nil
 |@cons v _ _ _ c t ih=> simp only[iZ,aQ]at h;refine .cons ?_<|ih h.2;induction v<;>first|exact c|rcases h.1 with _|_
theorem Sg(h:Gu i H=some (n,ds)):H[n]?=some (.dict ds):=by obtain⟨q,_,h⟩:=aB.mp h;obtain⟨v,_,h⟩:=aB.mp (Fd h).2;obtain⟨m,_,h⟩:=B8 h;obtain⟨es,h1,h2⟩:=a9.mp h;obtain⟨rfl,rfl⟩:=bQ h2;exact qH h1
theorem HX{S:Bool->lR}{ρ:List Addr}{st:St}{s:Shared}(B:k7 (k+1) C)(L:mN C)(OK:m4 k S){i:Nat}{x:Value}(hv:VC ρ (.ref i) x):Sd C (call (.ref 129) [x]) VC ρ s st<|mV st<|Vu S fu i st.H:=by
 exists k,fu,C,S,ρ,st,s,i,x,[B,L,OK,hv];refine Sd.qe ?_;intro G;exists r,k6;intro e;exists Q,E;intro kQ kE;unfold Vu at e;cases hf:Gu i st.H with
 |none=>replace e:=hf▸e;exact nn e
 |some p=>
 obtain⟨n,ds⟩:=p;exists n,ds,_;replace e:=hf▸e;dsimp only at e;by_cases h:∃r:oV V×Hp,n<r.2.length/\∀ep,lB S fu 129 [.ref i] [] (st.H.set n<|.lT ds ep)=some (r.1,r.2.set n<|.lT ds ep);rotate_left
 .replace e:=(dif_neg h)▸e;exact nn e
 replace e:=(dif_pos h)▸e;obtain⟨rfl,rfl⟩:=bQ<|aA e;have q8:=h.choose_spec;generalize h.choose=q at*;exists ep,(G':G.freeze<|Sg hf);have back:∀{lI s'},kZ C lI ⟨q.2.set n<|.lT ds ep,st.loc⟩ s'->kZ C lI ⟨q.2.set n<|.dict ds,st.loc⟩ s':=λ{lI s'}g=>by have:=g.adk (by rw[eU q8.1]);rw[jM]at this;exact this
 refine bL ((pN B L OK (.cons hv .nil) .nil).call G' q.1 ⟨q.2.set n<|.lT ds ep,st.loc⟩ (by refine a6 (aV _<|q8.2 ep) ?_;rfl)) (λy s' P=>?_) λy s' P=>?_
 .obtain⟨b,lI,e1,p,q,g,nx⟩:=P;exact kQ _ _ ⟨b,lI,e1,p,q,back g,nx⟩
 .obtain⟨c,lI,e1,p,X,g,nx⟩:=P;exact kE _ _ ⟨c,lI,e1,p,X,back g,nx⟩
theorem Sd.sw[Decidable c](h1:c->Sd C t VC ρ s st (mV st a))(h2:¬c->Sd C t VC ρ s st (mV st b)):Sd C t VC ρ s st<|mV st<|if c then a else b:=by
 by_cases q:c
 .rw[aH q];exact h1 q
 .rw[aL q];exact h2 q
theorem Xg{S:Bool->lR}(B:k7 (k+1) C)(L:mN C)(OK:m4 k S)(h:vs.all uE=true)(hv:lH (VC ρ) vs xs):Sd C (call (.ref a) xs) VC ρ s st<|mV st<|(lB S fu a vs [] []).map λp=>(y5 st.H.length p.1,st.H++p.2.map (AO.sh st.H.length)):=by refine((Nn (fu:=fu) B L OK (Nt h hv) .nil).call).congr rfl ?_;rcases lB S fu a vs [] []with _|_<;>rfl
set_option tactic.hygienic true in
theorem Mh{S:Bool->lR}(B:k7 (k+4) C)(L:mN C)(OK:m4 k S){fv:Value}{vs:List V}{xs:List Value}{kv:List (Str×V)}{ks:List (Str×Value)}(hf:VC ρ f fv)(hv:lH (VC ρ) vs xs)(hk:lH (KR ρ) kv ks):Sd C (call fv xs ks) VC ρ s st<|mV st<|vV S fu f vs kv st.H:=by
 induction f<;>first|exact Sd.nil|skip
 rename_i a;subst hf;have nk:kv.isEmpty=true->ks=[]:=λh=>by induction hk with|nil=>rfl|cons=>injection h
 have B1:k7 (k+1) C:=B.le (by simp);have B2:k7 (k+2) C:=B.le (by simp);refine Sd.sw (λU=>Sd.Yw λh=>by obtain rfl:=nk h.2;exact Xg B1 L OK h.1 hv) λU=>?_;refine Sd.sw (λha=>Sd.Yw λh=>by obtain rfl:=nk h;subst ha;exact rV (λρ s st U U h1=>wR (T:=λy=>call (.ref 129) [y]) h1 λi a U hv=>HX B1 L OK hv) ρ s st vs xs hv) λU=>?_
 refine Sd.sw (λha=>Sd.Yw λh=>by obtain rfl:=nk h;subst ha;exact rV (λρ s st U U h1=>(MB B2 L OK h1).call) ρ s st vs xs hv) λU=>?_
 exact Sd.sw (λU=>(LV B2 L OK hv hk).call) λU=>(pN B1 L OK hv hk).call
theorem on{S:Bool->lR}(B:k7 (k+4) C)(L:mN C)(OK:m4 k S){fv:Value}{vs:List V}{xs:List Value}(hf:VC ρ f fv)(hv:lH (VC ρ) vs xs):Sd C (call fv xs) VC ρ s st<|mV st<|EP S fu f vs st.H:=by
 refine Sd.sw (λe=>?_) λU=>Sd.Yw λe=>?_
 .subst e;subst hf;exact rV (λρ s st U U h1=>wR (T:=λy=>call (.type "list") [y]) h1 λi a U hv=>Zh (B.le<|dM _) L OK hv) ρ s st vs xs hv
 .subst e;subst hf;exact rV (λρ s st U U h1=>wR (T:=λy=>call (.builtin "max") [y]) h1 λi a U hv=>max_sd (B.le (by simp):k7 (k+2) C) L.hh hv) ρ s st vs xs hv
theorem Mb{S:Bool->lR}(B:k7 (k+4) C)(L:mN C)(OK:m4 k S){fv:Value}{vs:List V}{xs:List Value}{kv:List (Str×V)}{ks:List (Str×Value)}(hf:VC ρ f fv)(hv:lH (VC ρ) vs xs)(hk:lH (KR ρ) kv ks):Sd C (call fv xs ks) VC ρ s st<|mV st<|lS S fu f vs kv st.H:=by
 refine Sd.Yx (Df (B.le (by simp):k7 (k+2) C) hf hv hk)<|Sd.Yx (Mh B L OK hf hv hk)<|Sd.Yw λh=>?_;induction hk with
 |cons=>injection h
 |nil=>exact Sd.Yx (on B L OK hf hv)<|Sd.Yx (ge L.hh hf hv)<|Sd.Yx (cj hf hv)<|li B hf hv
theorem BU{S:Bool->lR}(hG:Aj<|k+4)(hJ:Jj<|k+4)(B:k7 (k+4) C)(L:mN C)(OK:m4 k S):lV C<|js S fu:=
 {Ck (B.le (by lia):k7 (k+2) C)with
  comp:=zm B L.hh (λC' B'=>pG (B'.le (by lia):k7 (k+2) C')) _
  Vg:=λh=>Zx B L.hh (λC' B'=>pG (B'.le (by lia):k7 (k+2) C')) _ h
  raise:=ko B L (pG (B.le (by lia):k7 (k+2) C)) _ _
  stmt:=hG C B L _ _ _ _
  unpack:=λh=>Hc L.hh h
  Ki:=λG x h1 h2 h3=>kr B G x h1 h3
  iter:=λG h1 h2=>AF L.hh G h1 h2
  call:=λh1 h2 h3=>Mb B L OK h1 h2 h3
  kp:=λG h1 h2=>by
   change (Wt _ _||EM _ _)=true at h2;simp only[d8]at h2;refine h2.elim (λh2=>?_) λh2=>?_
   .exact EU B G h1 h2
   .exact JX G h1 h2
  star:=Sd.orR (U8 B (Ck (B.le (by lia):k7 (k+2) C)) _)<|Sd.orR (BZ (B.le (by simp)) L OK (pG (B.le (by lia):k7 (k+2) C)) _)<|hJ C B L _ _ _ _
  attr:=λh=>Sd.Yx (Sd.Yx (M9 B h)<|Na h) (aw (B.le<|by lia) L OK h)}
theorem LO(hG:Aj 6)(hJ:Jj 6):∀n,m4 (2+4*n)<|lF fu n:=by
 intro zr;induction zr with
 |zero=> exact λC B=>⟨pG B,λU=>bj B⟩
 |succ n mB=> exact λC B=>⟨pG<|B.le<|aT _ _,λL=>BU (k:=2+4*n) (λC B=>hG C<|B.le<|by omega) (λC B=>hJ C<|B.le<|by omega) B L<|mB⟩
def whB:Stmt->List Stmt
 |.While _ b _ _=>b
 |_=>[]
def pB(l:List Stmt)(i:Nat):Stmt:=(l[i]?).getD<|.Pass ⟨0,0,0,0⟩
def ifT:Stmt->Expr
 |.If t _ _ _=>t
 |_=>.Name "" ⟨0,0,0,0⟩
def fk:Stmt->List Stmt
 |.If _ b _ _=>b
 |_=>[]
def OH:Stmt->List Stmt
 |.If _ _ o _=>o
 |_=>[]
def orE(i:Nat):Expr->Expr
 |.BoolOp _ es _=>(es[i]?).getD<|.Name "" ⟨0,0,0,0⟩
 |_=>.Name "" ⟨0,0,0,0⟩
def eif:Nat->Stmt->Stmt
 |0,s=>s
 |n+1,s=>eif n<|pB (OH s) 0
def wl:List Stmt:=whB<|pB (lP 834) 2
def wdS:Stmt:=pB (fk<|eif 1<|pB (fk<|eif 4<|pB wl 3) 0) 2
def wcs:Str:=("abcdfeghijklmnopqrstuvwxyzABCDEFGHIJKLMNOPQRSTUVWXYZ0123456789_" :Str)++("ßàáâãäåæçèéêëìíîïðñòóôõöøùúûüýþÿÀÁÂÃÄÅÆÇÈÉÊËÌÍÎÏÐÑÒÓÔÕÖØÙÚÛÜÝÞ" :Str)
def ab2(ws:Bool)(cm:Str)(s t:V):List<|Str×V:=[("instream",.ref 5),("infile",.none),("posix",.bool true),("eof",.none),("commenters",.str cm),("wordchars",.str wcs),("whitespace",.str " \t\r\n"),("whitespace_split",.bool ws),("quotes",.str "'\""),("escape",.str "\\"),("escapedquotes",.str "\""),("state",s),("pushback",.ref 6),("lineno",.int 1),("debug",.int 0),("token",t),("filestack",.ref 7),("source",.none),("_punctuation_chars",.str "")]
def aco(x:Str)(p:Int):List<|Str×V:=[("_StringIO__newline",.str "\n"),("_StringIO__buf",.str x),("_StringIO__pos",.int p)]
def lM(x:Str)(p:Int)(s t:V)(R:Hp):Hp:=.dict (ab2 true "" s t)::.inst 866 0 []::.tuple [.str x]::.dict []::.dict (aco x p)::.inst 731 4 []::.dq::.dq::R
def rF(qd:Bool)(c:List Nat):Loc:=[("self",.ref 1),("quoted",.bool qd),("escapedstate",.str " "),("nextchar",.str<|lJ c)]
def Ei(st:St)(a b:V):lG Fl:=(rD st<|Ge .Add a b st.H).then λc st=>(rD st<|(qC (.ref 1) "token" c st.H).map λh=>((),h)).then Bf
section
variable(fu n:Nat)(x:Str)(p:Int)(tk:List Nat)(t:V)(qd:Bool)(R:Hp)
def Fb(st:St):lG Fl:=mW (lF fu<|n+2) fu 39 false (mA 834) (wl.drop 1) st
theorem XA:Fb fu n ⟨lM x p (.str " ") t R,rF qd [97]⟩=some (.ok .next,⟨lM x p (.str "a") (.str<|lJ [97]) R,rF qd [97]⟩):=by rfl'
theorem YL:Fb fu n ⟨lM x p (.str " ") t R,rF qd [98]⟩=some (.ok .next,⟨lM x p (.str "a") (.str<|lJ [98]) R,rF qd [98]⟩):=by rfl'
theorem VX:Fb fu n ⟨lM x p (.str " ") t R,rF qd [39]⟩=some (.ok .next,⟨lM x p (.str<|lJ [39]) t R,rF qd [39]⟩):=by rfl'
theorem WB:Fb fu n ⟨lM x p (.str " ") t R,rF qd [34]⟩=some (.ok .next,⟨lM x p (.str<|lJ [34]) t R,rF qd [34]⟩):=by rfl'
theorem XD:Fb fu n ⟨lM x p (.str " ") (.str<|lJ []) R,rF false [32]⟩=some (.ok .cont,⟨lM x p (.str " ") (.str<|lJ []) R,rF false [32]⟩):=by rfl'
theorem abR:Fb fu n ⟨lM x p (.str " ") t R,rF qd []⟩=some (.ok .brk,⟨lM x p .none t R,rF qd []⟩):=by rfl'
theorem WW:Fb fu n ⟨lM x p (.str "a") (.str<|lJ tk) R,rF qd [97]⟩=Ei ⟨lM x p (.str "a") (.str<|lJ tk) R,rF qd [97]⟩ (.str<|lJ tk) (.str<|lJ [97]):=by rfl'
theorem WG:Fb fu n ⟨lM x p (.str "a") (.str<|lJ tk) R,rF qd [98]⟩=Ei ⟨lM x p (.str "a") (.str<|lJ tk) R,rF qd [98]⟩ (.str<|lJ tk) (.str<|lJ [98]):=by rfl'
theorem XM:Fb fu n ⟨lM x p (.str "a") t R,rF qd [39]⟩=some (.ok .next,⟨lM x p (.str<|lJ [39]) t R,rF qd [39]⟩):=by rfl'
theorem VO:Fb fu n ⟨lM x p (.str "a") t R,rF qd [34]⟩=some (.ok .next,⟨lM x p (.str<|lJ [34]) t R,rF qd [34]⟩):=by rfl'
theorem MK(c)(r)(h:r.length+1<big):Fb fu n ⟨lM x p (.str "a") (.str<|lJ (c::r)) R,rF qd [32]⟩=some (.ok .brk,⟨lM x p (.str " ") (.str<|lJ (c::r)) R,rF qd [32]⟩):=by simp only[(by rfl':Fb fu n ⟨lM x p (.str "a") (.str<|lJ (c::r)) R,rF qd [32]⟩=((pE ⟨lM x p (.str " ") (.str<|lJ (c::r)) R,rF qd [32]⟩<|(Mf (.str<|lJ (c::r)) []).or none).then λb st=>bif ud .Or b then some (.ok b,st)else D6 (EV (lF fu (n+2) false) (mA 834) 23).2 .Or [orE 1<|ifT wdS] st).then λc st=>bif c then mW (lF fu<|n+2) fu 1 false (mA 834) (fk wdS) st else mW (lF fu<|n+2) fu 1 false (mA 834) (OH wdS) st),show Mf (.str<|lJ (c::r)) []=some true from aH h];rfl'
theorem IA:Fb fu n ⟨lM x p (.str "a") (.str<|lJ []) R,rF true [32]⟩=some (.ok .brk,⟨lM x p (.str " ") (.str<|lJ []) R,rF true [32]⟩):=by rfl'
theorem ab7:Fb fu n ⟨lM x p (.str "a") t R,rF qd []⟩=some (.ok .brk,⟨lM x p .none t R,rF qd []⟩):=by rfl'
theorem YD(q c)(hq:q=39\/q=34)(hc:c=97\/c=98\/c=32\/(c=39/\q=34)\/(c=34/\q=39)):Fb fu n ⟨lM x p (.str<|lJ [q]) (.str<|lJ tk) R,rF qd [c]⟩=Ei ⟨lM x p (.str<|lJ [q]) (.str<|lJ tk) R,rF true [c]⟩ (.str<|lJ tk) (.str<|lJ [c]):=by exists fu,n,x,p,tk,qd,R,q,c,_;rcases hq with rfl|rfl<;>rcases hc with rfl|rfl|rfl|⟨rfl,h⟩|⟨rfl,h⟩<;>first|exact absurd h (by decide)|rfl'
theorem ab4(q)(hq:q=39\/q=34):Fb fu n ⟨lM x p (.str<|lJ [q]) t R,rF qd [q]⟩=some (.ok .next,⟨lM x p (.str "a") t R,rF true [q]⟩):=by rcases hq with rfl|rfl<;>rfl'
theorem aby(q)(hq:q=39\/q=34):Fb fu n ⟨lM x p (.str<|lJ [q]) t R,rF qd []⟩=some (.exc<|.ty "ValueError",⟨lM x p (.str<|lJ [q]) t R,rF true []⟩):=by rcases hq with rfl|rfl<;>rfl'
end
def asE:Stmt->Expr
 |.Assign _ e _=>e
 |_=>.Name "" ⟨0,0,0,0⟩
def lr0:Loc:=[("size",.int 1),("self",.ref 5)]
def Ml(fu n:Nat)(i:Nat)(st:St):lG Fl:=mW (lF fu<|n+2) fu 40 false (mA 677) ((lP 677).drop i) st
section
variable(fu n:Nat)(l:List Nat)(k:Int)(s t:V)(R:Hp)
def TL:Loc:=[("size",.int 1),("self",.ref 5),("start",.int k)]
theorem VZ:Ml fu n 0 ⟨lM (lJ l) k s t R,lr0⟩=Ml fu n 4 ⟨lM (lJ l) k s t R,TL k⟩:=by rfl'
def EB:Loc:=[("size",.int 1),("self",.ref 5),("start",.int k),("stop",.int l.length)]
theorem WX(h:l.length<big):Ml fu n 4 ⟨lM (lJ l) k s t R,TL k⟩=Ml fu n 5 ⟨lM (lJ l) k s t R,EB l k⟩:=by rw[(by rfl':Ml fu n 4 ⟨lM (lJ l) k s t R,TL k⟩=((mU (lF fu (n+2) false) (mA 677) (asE<|pB (lP 677) 4) ⟨lM (lJ l) k s t R,TL k⟩).then λv st=>(mX (mA 677) "stop" v st).then Bf).then (kl<|w3 (Bb (lF fu<|n+2) fu (mW (lF fu<|n+2) fu 39) false<|mA 677)<|(lP 677).drop 5)),(by rfl':mU (lF fu (n+2) false) (mA 677) (asE<|pB (lP 677) 4) ⟨lM (lJ l) k s t R,TL k⟩=mV ⟨lM (lJ l) k s t R,TL k⟩ ((gv (l.length<big) (.int l.length)<|lM (lJ l) k s t R).or none)),show gv (l.length<big) (.int l.length) (lM (lJ l) k s t R)=_ from aH h];rfl'
def fl7(i:Nat):Fl->St->lG Fl:=kl<|w3 (Bb (lF fu<|n+2) fu (mW (lF fu<|n+2) fu 39) false<|mA 677)<|(lP 677).drop i
theorem XU(st)(hs:st=⟨lM (lJ l) k s t R,EB l k⟩):Ml fu n 5 st=lG.then (bif decide (k >=(l.length:Int))then some (.ok<|.ret<|.str "",st)else some (.ok .next,st)) (fl7 fu n 6):=by subst hs;rfl'
def Ze(e:Int):Loc:=[("size",.int 1),("self",.ref 5),("start",.int k),("stop",.int e)]
def YF:List Stmt->St->lG Fl:=mW (lF fu<|n+2) fu 39 false<|mA 677
theorem WO(st)(hs:st=⟨lM (lJ l) k s t R,EB l k⟩):Ml fu n 6 st=lG.then (lG.then (bif ud .And (decide<|k+1<(l.length:Int))then some (.ok<|decide<|k+1<(l.length:Int),st)else some (.ok true,st)) λc st=>bif c then YF fu n (fk<|pB (lP 677) 6) st else YF fu n (OH<|pB (lP 677) 6) st) (fl7 fu n 7):=by subst hs;rfl'
theorem XQ(h:k+1<(l.length:Int)):Ml fu n 6 ⟨lM (lJ l) k s t R,EB l k⟩=Ml fu n 7 ⟨lM (lJ l) k s t R,Ze k<|k+1⟩:=by rw[WO fu n l k s t R _ rfl,b7 h];rfl'
theorem XW(h:¬k+1<(l.length:Int)):Ml fu n 6 ⟨lM (lJ l) k s t R,EB l k⟩=Ml fu n 7 ⟨lM (lJ l) k s t R,EB l k⟩:=by rw[WO fu n l k s t R _ rfl,cQ h];rfl'
theorem abY(e):Ml fu n 7 ⟨lM (lJ l) k s t R,Ze k e⟩=(rD ⟨lM (lJ l) e s t R,Ze k e⟩<|n7 (.str<|lJ l) (.int k) (.int e) .none<|lM (lJ l) e s t R).then λv st=>some (.ok<|.ret v,st):=by rfl'
end
theorem bh{s:V}(hz:l.length<big)(h:l.length<=k):Ml fu n 0 ⟨lM (lJ l) k s t R,lr0⟩=some (.ok<|.ret<|.str "",⟨lM (lJ l) k s t R,EB l k⟩):=by rw[VZ,WX fu n l k s t R hz,XU fu n l k s t R _ rfl,b7<|Int.ofNat_le.mpr h];rfl
theorem xd{n:Nat}{l:List Nat}{s t:V}{R:Hp}{k:Nat}{c:Nat}(hz:l.length<big)(h:l[k]?=some c):Ml fu n 0 ⟨lM (lJ l) k s t R,lr0⟩=some (.ok<|.ret<|.str<|lJ [c],⟨lM (lJ l) ((k+1:Nat):Int) s t R,Ze k ((k+1:Nat):Int)⟩):=by
 have sJ:=(aU.mp h).1;have e7:∀e:Int,e=(k+1:Nat)->Ml fu n 7 ⟨lM (lJ l) k s t R,Ze k e⟩=some (.ok<|.ret<|.str<|lJ [c],⟨lM (lJ l) (k+1) s t R,Ze k<|k+1⟩):=by
  rintro _ rfl
  have ec:rH (lJ l) (some k) (some (k+1:Nat))=lJ [c]:=by rw[Hw l (aT _ _)<|by assumption,b5,dZ sJ];simp[(aU.mp h).2]
  have es:∀H,n7 (.str<|lJ l) (.int k) (.int (k+1:Nat)) .none H=some (.str<|lJ [c],H):=λH=>by rw[de rfl rfl (by rw[ec];show 1<big;decide),ec]
  simp only[abY,es];rfl
 rw[VZ,WX fu n l k s t R hz,XU fu n l k s t R _ rfl,cQ<|by simp_all];show Ml fu n 6 _=_;by_cases h1:(k:Int)+1<l.length
 .exact a6 (XQ fu n l k s t R h1) (e7 _<|rfl)
 .rw[XW fu n l k s t R h1,show EB l k=Ze k l.length from rfl];exact e7 _<|by lia
section
variable(fu n:Nat)(l:List Nat)(k:Int)(s t:V)(R:Hp)(qd:Bool)
def EL(st:St):lG Fl:=mW (lF fu<|n+2) fu 39 false (mA 834) wl st
def rdE:Expr:=asE<|pB (OH<|pB wl 0) 0
def DG(lc:Loc):Loc:=("self",.ref 1)::("quoted",.bool qd)::("escapedstate",.str " ")::lc
theorem DW(st)(lc)(hs:st=⟨lM (lJ l) k s t R,DG qd lc⟩):EL fu n st=lG.then (lG.then (mU (lF fu (n+2) false) (mA 834) rdE st) λv st=>(mX (mA 834) "nextchar" v st).then Bf) (kl<|Fb fu n):=by subst hs;rfl'
theorem FI(st)(lc)(hs:st=⟨lM (lJ l) k s t R,DG qd lc⟩):mU (lF fu (n+3) false) (mA 834) rdE st=mV st ((mL<|Ml fu n 0 ⟨lM (lJ l) k s t R,lr0⟩).or none):=by subst hs;rfl'
theorem KD{k c:Nat}(hz:l.length<big)(h:l[k]?=some c)(Ou:lc=[]\/∃v,lc=([("nextchar",v)]:Loc)):EL fu (n+1) ⟨lM (lJ l) k s t R,DG qd lc⟩=Fb fu (n+1) ⟨lM (lJ l) ((k+1:Nat):Int) s t R,rF qd [c]⟩:=by rw[DW fu (n+1) l k s t R qd _ lc rfl,FI fu n l k s t R qd _ lc rfl,xd hz h];rcases Ou with rfl|⟨v,rfl⟩<;>rfl'
theorem mi{k:Nat}(hz:l.length<big)(h:l.length<=k)(Ou:lc=[]\/∃v,lc=([("nextchar",v)]:Loc)):EL fu (n+1) ⟨lM (lJ l) k s t R,DG qd lc⟩=Fb fu (n+1) ⟨lM (lJ l) k s t R,rF qd []⟩:=by rw[DW fu (n+1) l k s t R qd _ lc rfl,FI fu n l k s t R qd _ lc rfl,bh hz h];rcases Ou with rfl|⟨v,rfl⟩<;>rfl'
end
set_option genInjectivity false in
inductive LM where
 |bl|wd|qu (q:Nat)
theorem yLm:Nonempty LM:=⟨.bl⟩
def LM.v:LM->V
 |.bl=>.str " "
 |.wd=>.str "a"
 |.qu q=>.str<|lJ [q]
def uc(c:Nat):Bool:=c==39||c==34
def rY:LM->List Nat->Bool->Nat->Option (LM×List Nat×Bool)
 |.bl,tk,qd,c=>if c=32 then some (.bl,[],false)else if uc c=true then some (.qu c,[],false)else some (.wd,[c],false)
 |.wd,tk,qd,c=>if c=32 then none else if uc c=true then some (.qu c,tk,qd)else some (.wd,tk++[c],qd)
 |.qu q,tk,qd,c=>if c=q then some (.wd,tk,true)else some (.qu q,tk++[c],true)
def Rh(m:LM)(tk:List Nat)(qd:Bool):Prop:=match m with
 |.bl=>tk=[]/\qd=false
 |.wd=>tk≠[]\/qd=true
 |.qu q=>q=39\/q=34
section
variable(fu n:Nat)(x:Str)(p:Int)(R:Hp)
theorem Am{s:V}(h:tk.length+1<big):Ei ⟨lM x p s (.str<|lJ tk) R,lc⟩ (.str<|lJ tk) (.str<|lJ [c])=some (.ok .next,⟨lM x p s (.str<|lJ<|tk++[c]) R,lc⟩):=by
 have e:∀H,Ge .Add (.str<|lJ tk) (.str<|lJ [c]) H=some (.str<|lJ<|tk++[c],H):=λH=>by refine(aH h).trans ?_;rw[<-yN];rcases tk with _|_<;>rfl
 unfold Ei;rw[e];rfl'
def tn2(m:LM)(tk:List Nat)(qd:Bool)(c:Nat):lG Fl:=Fb fu n ⟨lM x p m.v (.str<|lJ tk) R,rF qd [c]⟩
inductive Step(m:LM)(tk:List Nat)(qd:Bool)(c:Nat):Option (LM×List Nat×Bool)->Prop
 |go {m':LM} {Hs:List Nat} {Ov:Bool} (f:Fl) (hi:Rh m' Hs Ov) (hf:f=.next\/f=.cont) (he:tn2 fu n x p R m tk qd c=some (.ok f,⟨lM x p m'.v (.str<|lJ Hs) R,rF Ov [c]⟩)):Step m tk qd c<|some (m',Hs,Ov)
 |stop (he:tn2 fu n x p R m tk qd c=some (.ok .brk,⟨lM x p (.str " ") (.str<|lJ tk) R,rF qd [c]⟩)):Step m tk qd c none
set_option tactic.hygienic true in
theorem BG{c:Nat}(hc:c∈mK)(hI:Rh m tk qd)(hz:tk.length+1<big):Step fu n x p R m tk qd c<|rY m tk qd c:=by
 exists fu,n,x,p,R,m,tk,qd,c,_;simp only[mK,aK,bG,kX]at hc;rcases m with _|_|q
 .obtain⟨rfl,rfl⟩:=hI;rcases hc with rfl|rfl|rfl|rfl|rfl
  .exact .go .next (.inl<|eL _ _) (.inl rfl) (XA fu n x p _ _ R)
  .exact .go .next (.inl<|eL _ _) (.inl rfl) (YL fu n x p _ _ R)
  .exact .go .next (.inl rfl) (.inl rfl) (VX fu n x p _ _ R)
  .exact .go .next (.inr rfl) (.inl rfl) (WB fu n x p _ _ R)
  .exact .go .cont ⟨rfl,rfl⟩ (.inr rfl) (XD fu n x p R)
 .rcases hc with rfl|rfl|rfl|rfl|rfl
  .exact .go .next (.inl<|by simp) (.inl rfl) ((WW fu n x p tk qd R).trans<|Am x p R hz)
  .exact .go .next (.inl<|by simp) (.inl rfl) ((WG fu n x p tk qd R).trans<|Am x p R hz)
  .exact .go .next (.inl rfl) (.inl rfl) (XM fu n x p _ qd R)
  .exact .go .next (.inr rfl) (.inl rfl) (VO fu n x p _ qd R)
  .rcases tk with _|⟨c,r⟩
   .rcases hI with h|rfl
    .exact absurd rfl h
    .exact .stop (IA fu n x p R)
   .exact .stop (MK fu n x p qd R c r (by simp at hz;exact bS ‹_›))
 .by_cases h:c=q
  .subst h;have:=ab4 fu n x p (.str<|lJ tk) qd R c hI;simp[show rY (.qu c) tk qd c=some (.wd,tk,true)from aH rfl];exact .go .next (.inr rfl) (.inl rfl) this
  .simp[show rY (.qu q) tk qd c=some (.qu q,tk++[c],true)from aL h];exact .go .next hI (.inl rfl)<|(YD fu n x p tk qd R q c hI (by rcases hI with rfl|rfl<;>rcases hc with rfl|rfl|rfl|rfl|rfl<;>simp_all)).trans<|Am x p R hz
end
set_option genInjectivity false in
structure Ow where
 sv:V
 k:Nat
 tk:List Nat
 qd:Bool
 nc:List Nat
theorem yLx:Nonempty Ow:=⟨⟨.none,0,[],false,[]⟩⟩
def lx:LM->List Nat->Bool->Nat->List Nat->Option Ow
 |.bl,tk,qd,k,[]=>some ⟨.none,k,tk,qd,[]⟩
 |.wd,tk,qd,k,[]=>some ⟨.none,k,tk,qd,[]⟩
 |.qu _,_,_,_,[]=>none
 |m,tk,qd,k,c::r=>match rY m tk qd c with
  |some (m',Hs,Ov)=>lx m' Hs Ov (k+1) r
  |none=>some ⟨.str " ",k+1,tk,qd,[c]⟩
def whT:Stmt->Expr
 |.While t _ _ _=>t
 |_=>.Name "" ⟨0,0,0,0⟩
section
variable(fu n:Nat)(l:List Nat)(R:Hp)
def wh(f:Nat):St->lG Fl:=qP (rT (lF fu (n+3) false) (mA 834)<|whT<|pB (lP 834) 2) (EL fu<|n+1) (mW (lF fu<|n+3) fu 39 false (mA 834) []) f
def lst(m:V)(k:Nat)(tk:List Nat)(qd:Bool)(lc:Loc):St:=⟨lM (lJ l) k m (.str<|lJ tk) R,DG qd lc⟩
def whK(f:Nat)(g:Fl)(st:St):lG Fl:=match g with
 |.next|.cont=>wh fu n f st
 |.brk=>some (.ok .next,st)
 |.ret v=>some (.ok<|.ret v,st)
theorem JS(f)(st):wh fu n (f+1) st=(EL fu (n+1) st).then (whK fu n f):=by rfl'
theorem YM(h:EL fu (n+1) st=some (.ok g,k6))(hg:g=.next\/g=.cont):wh fu n (f+1) st=wh fu n f k6:=by rw[JS,h];rcases hg with rfl|rfl<;>rfl
theorem Jp(h:EL fu (n+1) st=some (.ok .brk,k6)):wh fu n (f+1) st=some (.ok .next,k6):=by rw[JS,h];rfl
theorem KC(h:EL fu (n+1) st=some (.exc c,k6)):wh fu n (f+1) st=some (.exc c,k6):=by rw[JS,h];rfl
inductive LxR(o:lG Fl):Option Ow->Prop
 |bad {st:St} (h:o=some (.exc<|.ty "ValueError",st)):LxR o none
 |good {e:Ow} (h:o=some (.ok .next,⟨lM (lJ l) e.k e.sv (.str<|lJ e.tk) R,rF e.qd e.nc⟩)):LxR o<|some e
set_option tactic.hygienic true in
theorem uq(hl:∀c∈l,c∈mK)(hz:l.length<1000):∀rest k m tk qd lc f,l.drop k=rest->rest.length<f->Rh m tk qd->tk.length+rest.length<2000->(lc=[]\/∃v,lc=([("nextchar",v)]:Loc))->
 LxR l R (wh fu n f<|lst l R m.v k tk qd lc) (lx m tk qd k rest):=by
 exists fu,n,l,R,[hl,hz];have hb:l.length<big:=by unfold big;exact lk hz
 exists rest;induction rest with
 |nil=>
  intro k m tk qd lc f hd hf hI hs Ou;obtain⟨f,rfl⟩:∃g,f=g+1:=⟨f-1,(eZ hf).mp rfl⟩;have hT:=mi fu n l m.v (.str<|lJ tk) R qd hb (fG.mp hd) Ou;rcases m with _|_|q
  .exact .good (Jp fu n<|hT.trans<|abR _ _ _ _ _ _ _)
  .exact .good (Jp fu n<|hT.trans<|ab7 _ _ _ _ _ _ _)
  .exact .bad (KC fu n<|hT.trans<|aby _ _ _ _ _ _ _ _ hI)
 |cons c rest ih=>
  exists c,rest,[ih];exists k,m,tk,qd,lc,f;intro hd hf hI hs Ou;obtain⟨f,rfl⟩:∃g,f=g+1:=⟨f-1,(cM (lk<|aN (aY ((lk hf):1<=f)).symm)<|lk<|aN<|aY ((lk hf):1<=f))⟩;simp only[bA]at hf hs;have hk:l[k]?=some c:=by have:=aV (λl:List Nat=>l[0]?) hd;simpa using this
  have p0:l.drop (k+1)=rest:=by have:=aV List.tail hd;simpa using this
  have hT:=KD fu n l m.v (.str<|lJ tk) R qd hb hk Ou;have T:=BG fu (n+1) (lJ l) (k+1:Nat) R (hl c<|aR hk) hI (show tk.length+1<big by unfold big;exact lk hs);have el:lx m tk qd k (c::rest)=match rY m tk qd c with
   |some (m',Hs,Ov)=>lx m' Hs Ov (k+1) rest
   |none=>some ⟨.str " ",k+1,tk,qd,[c]⟩:=by induction m<;>rfl
  refine el▸?_;generalize hS:rY m tk qd c=z at T;induction T with
  |stop he=>exact .good<|Jp fu n<|hT.trans he
  |go g hi hf' he=>
   rename_i m' Hs Ov;have hlen:Hs.length<=tk.length+1:=by
    unfold rY at hS;split at hS<;>split at hS<;>try split at hS
    all_goals(rcases hS with _|_<;>simp)
   have:=ih (k+1) m' Hs Ov [("nextchar",.str<|lJ [c])] f p0 (iG ‹_›) hi (lk<|aC hlen hs)<|.inr ⟨_,rfl⟩;simp only[show wh fu n (f+1) (lst l R m.v k tk qd lc)=_ from YM fu n (hT.trans he) hf'];exact this
end
section
variable(fu n:Nat)(x:Str)(p:Int)(s:V)(R:Hp)(nc:List Nat)(tk:List Nat)
def t8(i:Nat)(st:St):lG Fl:=mW (lF fu<|n+3) fu 40 false (mA 834) ((lP 834).drop i) st
def k8(i:Nat):Fl->St->lG Fl:=kl<|w3 (Bb (lF fu<|n+3) fu (mW (lF fu<|n+3) fu 39) false<|mA 834)<|(lP 834).drop i
theorem acz:t8 fu n 0 ⟨lM x p s (.str "") R,[("self",.ref 1)]⟩=(wh fu n fu ⟨lM x p s (.str<|lJ []) R,DG false []⟩).then (k8 fu n 3):=by rfl'
theorem abM:t8 fu n 3 ⟨lM x p s (.str<|lJ tk) R,rF true nc⟩=some (.ok<|.ret<|.str<|lJ tk,⟨lM x p s (.str "") R,rF true nc++([("result",.str<|lJ tk)]:Loc)⟩):=by rfl'
theorem YH:t8 fu n 3 ⟨lM x p s (.str<|lJ []) R,rF false nc⟩=some (.ok<|.ret .none,⟨lM x p s (.str "") R,rF false nc++([("result",.none)]:Loc)⟩):=by rfl'
def x8:List Stmt->St->lG Fl:=mW (lF fu<|n+3) fu 39 false<|mA 834
theorem abz(st)(hs:st=⟨lM x p s (.str "") R,rF false nc++([("result",.str<|lJ tk)]:Loc)⟩):t8 fu n 3 ⟨lM x p s (.str<|lJ tk) R,rF false nc⟩=lG.then (lG.then (lG.then (lG.then (pE st<|(y4 .Eq (.str<|lJ tk) (.str<|lJ []) st.H).or none) λc st=>pE st<|(lF fu (n+3) false).Hm c st.H) λb st=>bif ud .And b then some (.ok b,st)else some (.ok true,st)) λc st=>bif c then x8 fu n (fk<|pB (lP 834) 5) st else x8 fu n (OH<|pB (lP 834) 5) st) (k8 fu n 6):=by subst hs;rfl'
theorem qZ{l:List Nat}(h:∀c∈l,c<128):PyData.strOk (lJ l)=true:=by unfold PyData.strOk;rw[<-iX,tN,aX];intro c hc;have:=h c hc;exact b7 (lk this)
theorem abG{c:Nat}{r:List Nat}:(lJ (c::r)==lJ [])=false:=by rw[a7,Ne,Jk];exact eL _ _
theorem eq_nil{c:Nat}{r:List Nat}(h:∀d∈c::r,d<128)(H):y4 .Eq (.str<|lJ (c::r)) (.str<|lJ []) H=some (.bool false):=by show((if(PyData.canLay0 (.str<|lJ (c::r))&&PyData.canLay0 (.str<|lJ []))=true then some (PyData.eqv (.str<|lJ (c::r))<|.str<|lJ [])else none).bind _)=_;simp only[PyData.canLay0,qZ h,(qZ (by decide):PyData.strOk (lJ [])=true)];rfl
theorem acw{c:Nat}{r:List Nat}(h:∀d∈c::r,d<128):t8 fu n 3 ⟨lM x p s (.str<|lJ (c::r)) R,rF false nc⟩=some (.ok<|.ret<|.str<|lJ (c::r),⟨lM x p s (.str "") R,rF false nc++([("result",.str<|lJ (c::r))]:Loc)⟩):=by rw[abz fu n x p s R nc (c::r) _ rfl,eq_nil h];rfl'
def Ow.tok(e:Ow):Option<|List Nat:=if e.qd then some e.tk else if e.tk.isEmpty then none else some e.tk
def Ms:Option (List Nat)->V
 |none=>.none
 |some t=>.str<|lJ t
theorem No{c:Nat}(h:c∈mK):c<128:=by simp only[mK,aK,bG,kX]at h;lia
theorem Iv{m:LM}{tk:List Nat}{qd:Bool}{k c:Nat}{r:List Nat}:lx m tk qd k (c::r)=match rY m tk qd c with
 |some (m',Hs,Ov)=>lx m' Hs Ov (k+1) r
 |none=>some ⟨.str " ",k+1,tk,qd,[c]⟩:=by induction m<;>rfl
theorem eu{m m':LM}{tk Hs:List Nat}{qd Ov:Bool}{c:Nat}(h:rY m tk qd c=some (m',Hs,Ov)):∀d∈Hs,d∈tk\/d=c:=by
 exists m,m',tk,Hs,qd,Ov,c,_;unfold rY at h;split at h<;>split at h<;>try split at h
 all_goals(rcases h with _|_<;>simp_all)
theorem Zs:∀rest m tk qd k e,(∀c∈rest,c∈mK)->(∀c∈tk,c∈mK)->lx m tk qd k rest=some e->∀c∈e.tk,c∈mK:=by
 exists rest;induction rest with
 |nil=>exists m,tk,qd,k,e;intro h1 h2 h;induction m<;>rcases h with _|_<;>exact h2
 |cons c r ih=>
  exists c,r,[ih];exists m,tk,qd,k,e;intro h1 h2 h;rw[Iv]at h;rcases hS:rY m tk qd c with _|z
  .replace h:=hS▸h;obtain rfl:=aA h;exact h2
  .obtain⟨m',q8⟩:=z;simp only[hS]at h;refine ih m' q8.1 q8.2 (k+1) e (λd hd=>h1 d<|.tail _ hd) (λd hd=>?_) h;rcases eu hS d hd with h|rfl
   .exact h2 d h
   .exact h1 d (.head _)
inductive Xb(x:Str)(R:Hp)(o:lG Fl):Option Ow->Prop
 |bad {st:St} (h:o=some (.exc<|.ty "ValueError",st)):Xb x R o none
 |good {e:Ow} {lc:Loc} (h:o=some (.ok<|.ret<|Ms e.tok,⟨lM x e.k e.sv (.str "") R,lc⟩)):Xb x R o<|some e
theorem NX{l:List Nat}{k:Nat}(hl:∀c∈l,c∈mK)(hz:l.length<1000)(hf:1000<=fu):Xb (lJ l) R (t8 fu n 0 ⟨lM (lJ l) k (.str " ") (.str "") R,[("self",.ref 1)]⟩)<|lx .bl [] false k<|l.drop k:=by
 exists fu,n,R,l,k,_;have T:=uq fu n l R hl hz (l.drop k) k .bl [] false [] fu rfl (by rw[eX];exact lk<|aC (kI (l.length)<|k)<|aC hf hz) ⟨rfl,rfl⟩ (by simp[eX];exact lk<|aC (kI (l.length)<|k) hz)<|.inl rfl;have e0:=acz fu n (lJ l) k (.str " ") R;generalize hx:lx .bl [] false k (l.drop k)=z at T;induction T with
 |bad h=>exact .bad<|e0.trans (by rw[show wh fu n fu ⟨lM (lJ l) k (.str " ") (.str<|lJ []) R,DG false []⟩=_ from h];rfl)
 |@good e h=>
  have e1:t8 fu n 0 ⟨lM (lJ l) k (.str " ") (.str "") R,[("self",.ref 1)]⟩=t8 fu n 3 ⟨lM (lJ l) e.k e.sv (.str<|lJ e.tk) R,rF e.qd e.nc⟩:=e0.trans (by rw[show wh fu n fu ⟨lM (lJ l) k (.str " ") (.str<|lJ []) R,DG false []⟩=_ from h];rfl);obtain⟨sv,k',tk,qd,nc⟩:=e;rcases qd with _|_
  .rcases tk with _|⟨c,r⟩
   .exact .good (e1.trans<|YH fu n _ _ _ R _)
   .exact .good (e1.trans<|acw fu n _ _ _ R _ λd hd=>No<|Zs _ _ _ _ _ _ (λd hd=>hl d<|gJ hd) (by decide) hx d hd)
  .exact .good (e1.trans<|abM fu n _ _ _ R _ _)
theorem abQ(qd)(t):Fb fu n ⟨lM x p .none t R,rF qd []⟩=some (.ok .brk,⟨lM x p .none (.str "") R,rF qd []⟩):=by rfl'
theorem WK:t8 fu n 0 ⟨lM x p .none (.str "") R,[("self",.ref 1)]⟩=(wh fu n fu ⟨lM x p .none (.str<|lJ []) R,DG false []⟩).then (k8 fu n 3):=by rfl'
theorem wt{l:List Nat}{k:Nat}(hz:l.length<big)(hk:l.length<=k)(hf:0<fu):t8 fu n 0 ⟨lM (lJ l) k .none (.str "") R,[("self",.ref 1)]⟩=some (.ok<|.ret .none,⟨lM (lJ l) k .none (.str "") R,rF false []++([("result",.none)]:Loc)⟩):=by obtain⟨f,rfl⟩:∃g,fu=g+1:=⟨fu-1,(eZ hf).mp rfl⟩;rw[WK,Jp (f+1) n<|(mi (f+1) n l .none (.str<|lJ []) R false hz hk<|.inl rfl).trans<|abQ ..];exact YH (f+1) n (lJ l) k .none R []
end
def Ht{α:Type}:Nat->Sem α->Option α
 |n+1,.rule _ k=>Ht n<|k ()
 |_,.pure a=>some a
 |_,_=>none
theorem Q0{α:Type}{Q:α->Shared->Prop}{a:α}(n):∀t,Ht n t=some a->Q a s->wpAny M A t Q E s:=by
 induction n with
 |zero=> intro t e q;rcases t with _|_<;>first|exact nn e|(obtain rfl:=aA e;exact aM q)
 |succ n ih=> intro t e q;rcases t with _|_<;>first|exact nn e|(obtain rfl:=aA e;exact aM q)|exact λΓ p qw=>ih _ e q Γ p qw
open Builtin.Re in
def XT(P:Params)(x:Str)(t:Tok):Option<|Bool×Nat:=
 (peek (m5 P) ⟨PG,P⟩<|reTarget "re.Pattern.search" "search" ⟨[.ref 183,.str x t],[]⟩).bind λT=>
  (Ht 2000<|reRunToEnd<|Sre.forSearch T.code T.text T.groups T.pos T.lim false).map λm=>(m.isSome,T.groups)
theorem Xx(P)(t):(Ce.all λx=>XT P x t==some (!Dr x,0))=true:=by rfl'
theorem vr(P):(m5 P).lookup 886=some ⟨.type "builtin_function_or_method",none,.fields #[.builtin "re.Pattern.search",.ref 183],#[]⟩:=by rfl'
theorem Rq(P)(x)(t):peek (m5 P) ⟨PG,P⟩ (checkBoundCall "re.Pattern.search" ⟨[.ref 183,.str x t],[]⟩)=some ():=by rfl'
theorem O5:entryFor table "re.Pattern.search" =some Builtin.«re.Pattern.search»:=fN<|by rfl'
def GO:Prim:=a1<|vS λx H=>if Ce.contains x=true then(bif Dr x then some (.ok .none,H)else nw (.other "re.Match") H)else none
open Builtin.Re in
theorem Ub{s:Shared}{x:Str}{t:Tok}{Q:Value->Shared->Prop}(X:(KF w).In s.heap)(hx:Ce.contains x=true)(h1:Dr x=true->Q .none s)
 (h2:Dr x=false->∀o vs,Q (.ref<|s.heap.objs.size+1) {s with heap:=(s.heap.push o).push {cls:=.type "re.Match",data:=.fields vs}}):wpAny (model PG w) A (call (.ref 886) [.str x t]) Q E s:=by
  exists w,A,E,s,x,t,Q,_;obtain⟨T,hT,hm⟩:=aB.mp<|a5.mp<|aX.mp (Xx w.params t) x<|bB.mp hx;obtain⟨m,hm,he⟩:=a9.mp hm;refine eJ<|jB ?_;refine aD<|jR (X _ _<|vr w.params) ?_;show wpAny _ _ (if(Value.type "builtin_function_or_method" !=Value.type "method")=true then(checkBoundCall "re.Pattern.search" ⟨[.ref 183,.str x t],[]⟩>>=λU=>again<|.builtin "re.Pattern.search" ⟨[.ref 183,.str x t],[]⟩)else _) _ _ s;rw[aH (by rfl)];refine aD<|(cZ X<|Rq w.params x t).here ?_;refine aM ⟨iA _<|by decide+kernel,eP O5 ?_⟩;rw[eB (by decide+kernel) _];refine aD<|(cZ X hT).here ?_;refine aD<|Q0 2000 _ hm ?_;obtain⟨he,hg⟩:=bQ he;rcases m with _|m
  .exact aM (h1<|(jP _).mp he.symm)
  .refine(hg)▸?_;refine aD ?_;refine(aD (eD (eD ?_<|by size_fits)<|by size_fits):wpAny _ A.in1 (newTuple [rawInt m.start,rawInt m.handed]>>=λtp=>newFields "re.Match" [T.string,T.pattern,rawInt T.pos,rawInt T.lim,rawInt m.lastindex,tp]) _ _ s);have:=h2 ((dA _).mp he.symm) {cls:=.type "tuple",data:=.seq [rawInt m.start,rawInt m.handed].toArray} [T.string,T.pattern,rawInt T.pos,rawInt T.lim,rawInt m.lastindex,.ref s.heap.objs.size].toArray;simp only[dI];exact aM this
theorem CG(B:k7 k C):PS C (.ref 886) GO:=rV λρ s st U U h1=>vN (T:=λy=>call (.ref 886) [y]) h1 λx t=>Sd.Yw λhx=>by
 rcases hs:Dr x with _|_
 .refine Sd.of λG Q E kk=>Ub (B.K G) hx (λh=>by replace h:=hs▸h;injection h) λU o vs=>?_;have G1:=G.wK o;have r:=nU G1;have G2:=G1.push (ao:=.other "re.Match") rfl ⟨vs,rfl⟩;rw[show({s with heap:=s.heap.push o}:Shared).heap.objs.size=s.heap.objs.size+1 from dI ..]at r G2;exact kk _ _ _ ⟨_,rfl⟩ r G2<|mY.lO s _
 .exact Sd.oM λG Q E kk=>Ub (B.K G) hx (λU=>kk _ rfl) λh=>by replace h:=hs▸h;injection h
def XS(f:V)(vs:List V)(kv:List<|Str×V)(H:Hp):mM:=match f with
 |.top a=>if a=886/\kv.isEmpty=true then GO vs H else none
 |_=>nC f vs kv H
def Kx:lR:={qS with call:=XS}
set_option tactic.hygienic true in
theorem Ga(B:k7 (k+2) C):lV C Kx:={pG B with
 call:=λ{f vs kv ρ s st fv xs ks}hf hv hk=>by
  induction f<;>first|exact Df B hf hv hk|skip
  rename_i a;refine Sd.Yw λh=>?_;obtain⟨rfl,h⟩:=h;subst hf;induction hk with
  |cons=>injection h
  |nil=>exact CG B ρ s st vs xs hv}
theorem lu:m4 2 λU=>Kx:=λC B=>⟨Ga B,λU=>Ga B⟩
def okU{β:Type}:oV β->Option β
 |.ok b=>some b
 |.exc _=>none
def abx:Fl->Option V
 |.ret v=>some v
 |_=>none
def nb(o:lG Fl):Option Str:=o.bind λq=>(okU q.1).bind λf=>(abx f).bind λv=>vS (λx U=>some x) v []
set_option tactic.hygienic true in
theorem Me(h:nb o=some y):∃st,o=some (.ok<|.ret<|.str y,st):=by
 exists o,y,_;obtain⟨⟨u,st⟩,rfl,h0⟩:=aB.mp h;exists u,st,_;exists f,(q_:aB.mp h0);obtain⟨h1,h2⟩:=q_;exists v,(q_:aB.mp h2);obtain⟨h3,h4⟩:=q_;rcases u with g|_;rotate_left
 .exact nn h1
 obtain rfl:g=f:=aA h1;induction g<;>first|exact nn h3|skip
 rename_i u;obtain rfl:u=v:=aA h3;induction u<;>first|exact nn h4|skip
 exact⟨st,by rw[aA h4]⟩
theorem Xa:(pM.map λx=>nb<|nZ (λU=>Kx) 0 true (mA 893) (lP 893) ⟨[],[("s",.str x)]⟩)=pM.map λx=>some<|qI x:=by rfl'
theorem Y2(h:pM.contains x=true):∃st,nZ (λU=>Kx) 0 true (mA 893) (lP 893) ⟨[],[("s",.str x)]⟩=some (.ok<|.ret<|.str<|qI x,st):=
 Me (gA.mp Xa x<|bB.mp h)
theorem M8:((mA 893).names.all λx=>x.2 !=.cell&&x.2 !=.free)=true:=by rfl'
theorem Lh{s:Shared}{x:Str}{t:Tok}{Q:Value->Shared->Prop}(T:nY w s.heap)(hx:pM.contains x=true)(hd:A.depth+4<1000)(hu:A.units+60<9000)
 (hQ:∀y t' h',(∀b o,s.heap.get? b=some o->h'.get? b=some o)->s.toks<=t'->(∃u,y=.str (qI x) u)->Q y {s with heap:=h',toks:=t'}):wpAny (model PG w) A (call (.ref 893) [.str x t]) Q E s:=by
 exists w,A,E,s,x,t,Q,_;obtain⟨hc,bs,hb,hl,uL⟩:=wG (w:=w) (a:=893) (vs:=[.str x]) rfl (.cons ⟨t,rfl⟩ .nil) .nil;exists fd,(q_:E2 (w:=w) hc);obtain⟨Vk,F,hs⟩:=q_;simp only[Vk]at hb;exists o,(lW:F.obj);have X:=T.K;have nm:∀y∈fd.scope.names,y.2≠.cell/\y.2≠.free:=by have:=M8;rw[<-hs]at this;simpa[aX]using this
 rw[<-hs]at uL;refine eJ<|e9 (bP hd) (X _ _ lW.1) lW.2 F.co F.gen F.body (qO X F.code) ?_;refine(cZ (M:=model PG w) X<|aA hb).here ?_;refine fF (λy hy=>(nm y hy).1) uL (λh' hn Ff=>?_) F.kind;have keep:∀b o,s.heap.get? b=some o->h'.get? b=some o:=λb o eb=>(Ff.2 b<|bI<|b9 eb).trans<|aZ _ eb;refine⟨T.lim.keeps keep,kJ ?_⟩;generalize he:newEnv fd.scope s.heap.objs.size fd.globals fd.closure (fd.qualname++ ".<locals>.") (some 893) fd.code none fd.builtins=env;have E3:∀y:Str,env.cells.lookup y=none:=λy=>by refine he▸?_;refine a6 (aV _ F.ZF) ?_;rfl
 have Ou:env.locals=s.heap.objs.size:=by exact he▸rfl
 let rR:Cx:={w:=w,A:=A.deeper env,env:=env,ail:=s.heap,F:=[]}
 exists pA,(Yy:Y2 hx);have lY:kZ rR [] ⟨[],[("s",.str x)]⟩ {s with heap:=h',toks:=s.toks+bs.length}:=by
  refine⟨⟨rfl,.nil,λi a ao e1 e2=>by exact nn e1,(λa ha=>by cases ha),⟨λb o e=>⟨o,keep _ _ e,.refl _ _⟩,λf hf=>by cases hf⟩⟩,⟨⟨_,by rw[show rR.env.locals=s.heap.objs.size from Ou];exact hn,λy hy=>?_⟩,by rw[show rR.env.locals=s.heap.objs.size from Ou];exact cB<|aI _,(λhm=>by cases hm),(λy a hy=>by rw[show rR.env.cells.lookup y=none from E3 y]at hy;exact nn hy),(λy a hy=>by rw[show rR.env.cells.lookup y=none from E3 y]at hy;exact nn hy),λy hy=>?_,(λy a hy=>by rw[show rR.env.cells.lookup y=none from E3 y]at hy;exact nn hy),by simp[show rR.env.locals=s.heap.objs.size from Ou];exact sV T.K⟩,by have:1=bs.length:=hl.length;lia⟩
  .exact pS (pW hl) y
  .have hk:∀kd,env.kindOf y=some kd->kd≠.cell/\kd≠.free:=λkd q=>by exact nm _ (cF (by simp[<-q,<-he];rfl))
   rcases hy with hy|hy
   .exact absurd rfl (hk _ hy).1
   .exact absurd rfl (hk _ hy).2
 refine bL (vQ lu (lP 893) true rR (⟨T,bH _,nofun,by exact Nat.lt_of_succ_lt hd,by show A.units+3+20*2<9000;exact lk hu,(he▸F.kind:env.scope.kind=.function),by show env.globals=_/\env.builtins=_;exact he▸F.gl⟩) (λh=>by injection h) [] _ ⟨[],[("s",.str x)]⟩ lY _ pA (by rw[<-Yy];rw[(by rw[<-he];exact hs:env.scope=mA 893)])) (λf mQ P=>?_) λU U P=>by induction P;contradiction
 obtain⟨fl,mD,e2,nM,hr,m2,oB⟩:=P;obtain rfl:=oV.ok.inj e2;obtain⟨y,rfl,u,rfl⟩:=hr;obtain⟨l,e,q9⟩:=oB.gn;have hg:mQ.gens=s.gens:=by simp only[e,q9.2 λh=>by cases h];rfl
 have E7:=λb o eb=>by
  exists _;obtain⟨o',e',l⟩:=m2.sim.keep.1 b o eb;rcases l with rfl|⟨hm,_⟩|⟨_,_,hm,_⟩
  .exact k9 (e')
  .cases hm
  .cases hm
 have:=hQ (.str (qI x) u) mQ.toks mQ.heap E7 (bC (aT _ _) oB.tk) ⟨u,rfl⟩;have UB:=oB.os;have RT:=oB.dr;clear oB m2 E7 e;obtain⟨hp,q8⟩:=mQ;dsimp only at UB RT hg this⊢;subst UB RT hg;exact this
def JY:Expr:=.Call (.Name "quote" ⟨884,21,884,26⟩) [.Name "arg" ⟨884,27,884,30⟩] [] ⟨884,21,884,31⟩
def OV:Scope:=⟨.function,[(".0",.local),("arg",.local),("quote",.globalImplicit)],true,false,[]⟩
def PU:Pos:=⟨884,20,884,57⟩
def M6:Expr:=.GeneratorExp JY [⟨.Name "arg" ⟨884,36,884,39⟩,.Name "split_command" ⟨884,43,884,56⟩,[],0⟩] OV PU
theorem cc:Hj=.Call (.Attribute (.Constant (.str " ") 0 ⟨884,11,884,14⟩) "join" ⟨884,11,884,19⟩) [M6] [] ⟨884,11,884,58⟩:=by rfl'
theorem BK:qg=⟨.function,[("split_command",.local)],false,false,[]⟩:=by rfl'
theorem Wu(o)(ap p)(env)(ov)(hl:(ap.endLine==p.line)=true):
 methodCall o "join" ap p env ov 1 (backTo p<|starEach [M6] env) (backToKw p<|keywordEach [] env)=
  (holding [ov] (getMethod ov "join"<|do return (<-importBound o env).getD true)>>=λf=>callWith p f.1 f.2 [(false,eval M6 env)] []):=by
 dsimp only[methodCall,methodCallPos];rw[(by rfl:methodCallForm 1 (backTo p<|starEach [M6] env) (backToKw p<|keywordEach [] env)=true),hl];rfl
theorem nY.low{h h':Heap}(T:nY w h)(k:∀b o,b<935->h.get? b=some o->h'.get? b=some o):nY w h':=by
 exists w,h,h',_;have SJ:∀{a m},h.Ns a m->a<935->h'.Ns a m:=λq9 ha=>by obtain⟨o,es,ep,ho,r⟩:=q9;exact⟨o,es,ep,k _ _ ha ho,r⟩
 obtain⟨h1,⟨mg,h2⟩,⟨mb,h3,h3'⟩,⟨mc,h4,h4'⟩,⟨ob,h5,h5'⟩,⟨ps,h6,h6'⟩⟩:=T;exact⟨λa o e=>k _ _ (q6 e).1<|h1 a o e,⟨mg,SJ h2<|cR _ _⟩,⟨mb,SJ h3<|c6 _,h3'⟩,⟨mc,SJ h4<|cR _ _,h4'⟩,⟨ob,k _ _ (by simp) h5,h5'⟩,⟨ps,k _ _ (by simp) h6,h6'⟩⟩
theorem LZ(P):nsIn (m5 P) mainGlobals "__builtins__" =some (some<|.ref 4):=by rfl'
theorem MZ(P):nsIn (m5 P) mainGlobals "quote" =some (some<|.ref 893):=by rfl'
theorem Nh(T:nY w s.heap)(h:Q builtinsNs s):wpAny (model PG w) A (builtinsFor mainGlobals r) Q E s:=by obtain⟨ob,q8⟩:=T.bm;refine aD<|(jS T.K<|LZ w.params).here ?_;show wpAny _ A (if(4==builtinsNs)=true then _ else _) Q E s;rw[aL<|by decide];refine aD<|jR q8.1 ?_;simp[q8.2.2.2,q8.2.2.1,q8.2.1];exact aM h
theorem HO(T:nY w s.heap)(vY:cenv.scope=OV)(Ot:cenv.globals=mainGlobals/\cenv.builtins=builtinsNs)(hx:pM.contains x=true)(hd:A.depth+4<1000)(hu:A.units+60<9000)
 (hn:s.heap.Ns cenv.locals m)(hm:m "arg" =some (.str x t))(hQ:∀y s',Keeps s s'->(∃u,y=.str (qI x) u)->Q y s'):wpAny (model PG w) A (eval JY cenv) Q E s:=by obtain⟨fd,q9⟩:=E2 (a:=893)<|rfl;obtain⟨o,q8⟩:=q9.2.1.obj;refine Call_Name rfl<|eC (by rw[vY];rfl) (by show cenv.scope.names.lookup _=_;rw[vY];rfl) ?_<|rfl;unfold loadGlobal;refine Ot.1▸Ot.2▸?_;refine aD<|(jS T.K<|MZ w.params).here<|aM ?_;refine callWith_def q8.2<|iD<|iS (fD (by rw[vY];rfl) (by show cenv.scope.names.lookup _=_;rw[vY];rfl) hn hm<|iO ⟨T.K _ _ q8.1,?_⟩)<|rfl;exact Lh T hx hd hu λy t' h' k U hy=>hQ y _ ⟨h',t',rfl,k⟩ hy
theorem Uo(P):(m5 P).lookup 884=some ⟨.type "code",none,.fields [S "join" 1444,S "join" 1445,S "/claim/cut.py" 1446,.int 883 0,.int 1 0,.int 0 0,.int 0 0,.int 3 0,.ref 879,.bool true,.int 318 0,.ref 880,.none,.ref 881,.ref 882,.ref 883,.int 1448 0,.int 883 0,S "/claim/cut.py" 1449].toArray,#[]⟩:=by rfl'
theorem UX{s:Shared}{env:Env}{q:Str}{Q:Value->Shared->Prop}(T:nY w s.heap)(hc:env.code=.ref 884)
 (hQ:∀code h' tk vs more,s.heap.get? 880=some {cls:=.none,data:=.fields vs}->(TriplesOk vs.toList->TriplesOk (vs++more).toList)->Heap.ExtBut 880 s.heap h'->h'.get? 880=some {cls:=.none,data:=.fields (vs++more)}->s.toks<=tk->Q code {s with heap:=h',toks:=tk}):
 wpAny (model PG w) A (genexprCode env PU q OV) Q E s:=by
 exists w,A,E,s,env,q,Q,_;exists ps,(q9:T.tab);have ho:=T.K _ _<|Uo w.params;refine fC (aI s.toks) ?_;rcases qz:codeAmong PU ps.toList with _|cv
 .refine wpAny_genexprCodeX hc ⟨_,_,_,_,_,_,_,_,_,_,ho,rfl,rfl,rfl,rfl,rfl,rfl,q9.1,rfl,q9.2,by decide⟩ ⟨⟨_,_,ho,rfl,rfl,rfl⟩,q9.1⟩ qz ?_;exists c',h',tk;intro hx z_ z_ aaj z_ ado z_ xX;refine hQ _ h' tk ps _ q9.1 (λU=>?_) hx ado.2 xX;obtain⟨_,_,_,_,_,_,_,_,_,_,q8⟩:=aaj;exact q8.2.2.2.2.2.2.2.2.2.1
 .delta genexprCode codeAt;rw[hc,aL<|show ¬((Value.ref 884==Value.none)=true)from bV];exact aD<|jW ho rfl<|aD<|jW q9.1 rfl<|qz▸(aM λxX=>hQ cv s.heap s.toks ps #[] q9.1 (λh=>by simpa using h) (Heap.ExtBut.refl _ _) (by simpa using q9.1) xX)
theorem WZ(P):(m5 P).lookup builtinsNs=none:=by rfl'
theorem qX.grow{F:List Addr}(T:nY w h)(hm:builtinsNs∈F)(hF:∀f∈F,∀o,h.get? f=some o->∃es n,o.data=.dict es n)(hp:h.get? 880=some {cls:=.none,data:=.fields vs})(ht:TriplesOk vs.toList->TriplesOk (vs++more).toList)(hx:Heap.ExtBut 880 h h')(Sh:h'.get? 880=some {cls:=.none,data:=.fields (vs++more)}):qX F h h':=
 ⟨λb o e=>by
  by_cases hb:b=880
  .subst hb;replace e:=hp▸e;obtain rfl:=aA e;exact⟨_,Sh,.inr<|.inr ⟨rfl,rfl,hm,vs,more,⟨rfl,ht⟩,rfl⟩⟩
  .exact⟨o,hx b o hb e,.refl _ _⟩,hF⟩
theorem A4(n):passing (λU=>true) n 0=List.range n:=by unfold passing;rw[jX,jI.mpr λU U=>rfl]
def H8(g:Nat)(q:Str)(k:Nat):Obj:={cls:=.type "generator",data:=.fields #[.int g 0,.str "<genexpr>"<|k+1,.str (q++ "<genexpr>")<|k+1+1]}
noncomputable abbrev H7(a:Addr):Obj:={cls:=.type "list_iterator",data:=.fields #[.ref a,.int 0 0]}
inductive Made(w:World)(env:Env)(s:Shared)(a:Addr)(v:Value)(s':Shared):Prop
 |mk (code:Value) (oQ uV:Heap) (T:nY w oQ) (tk:Nat) (ps more:Array Value) (hp:s.heap.get? 880=some {cls:=.none,data:=.fields ps}) (ht:TriplesOk ps.toList->TriplesOk (ps++more).toList) (hx:Heap.ExtBut 880 (s.heap.push<|H7 a) oQ) (Sh:oQ.get? 880=some {cls:=.none,data:=.fields (ps++more)}) (xX:s.toks<=tk)
  (hn:uV.Ns oQ.objs.size λy=>if y= ".0" then some (.ref s.heap.objs.size)else none) (hs:Heap.SameBut oQ.objs.size (oQ.push {cls:=.type "frame",data:=.dict #[]}) uV)
  (e:v=.ref uV.objs.size) (es:s'={s with gens:=s.gens.push<|.fresh<|.compStart M6 0 (.ref s.heap.objs.size) .none<|genEnv OV [] oQ.objs.size code builtinsNs env,toks:=tk+1+1+1,heap:=uV.push (H8 s.gens.size env.qual tk)})
theorem QR(T:nY w s.heap)(hd:A.depth<1000)(vY:env.scope=⟨.function,[("split_command",.local)],false,false,[]⟩)(Ot:env.globals=mainGlobals)(Yv:env.code=.ref 884)
 (hn:s.heap.Ns env.locals m)(em:m "split_command" =some (.ref a))(hL:s.heap.IsList a vs)(hQ:∀v s',Made w env s a v s'->Q v s'):wpAny (model PG w) A (eval M6 env) Q E s:=by
  refine wpAny_GeneratorExp_make rfl (closureFor_none<|by decide) (by decide) rfl rfl hd ?_ λx=>rfl;refine iS (fD (by rw[vY]) (by show env.scope.names.lookup _=_;rw[vY];rfl) hn em ?_)<|rfl;have aiq:∀b o,s.heap.get? b=some o->(s.heap.push<|H7 a).get? b=some o:=λb o e=>aZ _ e;have Oi:=T.low λb o U e=>aiq b o e;refine iL hL ?_;refine And.intro Oi.lim ?_;refine UX Oi Yv λcode oQ aak ps more hp ht GP Sh xX=>?_;have hp0:s.heap.get? 880=some {cls:=.none,data:=.fields ps}:=by obtain⟨q,q8⟩:=T.tab;rw[show(s.heap.push<|H7 a).get? 880=_ from aiq _ _ q8.1]at hp;exact a6 q8.1<|hp
  have Si:=Oi.keep (qX.grow Oi (.head _) (λf hf o e=>by rw[aE]at hf;subst hf;obtain⟨mb,⟨o',es,ep,ho,hd,_⟩,_⟩:=Oi.bi;replace ho:=e▸ho;obtain rfl:=aA ho;exact⟨es,ep,hd⟩) hp ht GP Sh) (λf hf=>by rw[aE]at hf;subst hf;exact WZ w.params)
  simp[Ot];refine Nh Si ?_;intro h' Bw Ff;exact hQ _ _ ⟨code,oQ,h',Si,aak,ps,more,hp0,ht,GP,Sh,xX,Bw,Ff,rfl,rfl⟩
theorem s7.only{F:List Addr}(h:GenOnlyQ g.size (g.push f) g')(hb:f.bare=true)(hm:builtinsNs∈F):s7 F g g':=by
 rcases h with rfl|⟨⟨h1,h2⟩,h3⟩
 .exact⟨[f],rfl,(λx hx=>by rw[aE.mp hx];exact hb),λq=>absurd hm q⟩
 .simp only[kO]at h1;have hl:g.size<g'.size:=(lk<|aN h1.symm);refine⟨[g'[g.size]],?_,(λx hx=>by rw[aE.mp hx];exact h3 _<|gT hl),λq=>absurd hm q⟩;refine Array.ext (by simp[h1]) λi hi qv=>?_;by_cases e:i=g.size
  .subst e;simp
  .have:=h2 i e;rw[gT hi,gT (by rw[kO];exact Nat.lt_of_lt_of_eq hi h1)]at this;have sJ:i<g.size:=by lia
   simp[aA this,Array.getElem_push_lt sJ]
def VN(ts:List Str)(i:Nat)(y:Value):Prop:=∃x u,ts[i]?=some x/\y=.str (qI x) u
theorem KY{vs:Array Value}(e:vs.toList=strValues tl)(h:vs[i]?=some v):∃x u,(tl.map (·.1))[i]?=some x/\v=.str x u:=by
 have h':(strValues tl)[i]?=some v:=by rw[<-e];simpa using h
 replace h':=bD▸h';obtain⟨p,hp,rfl⟩:=a9.mp h';exact⟨p.1,p.2,by simp only[bD,hp];rfl,rfl⟩
theorem Qv(h:ItemsOf (λj y=>∃i,(passing (λU=>true) ts.length 0)[j]?=some i/\VN ts i y) (strValues l).toArray (passing (λU=>true) ts.length 0).length):l.map (·.1)=ts.map qI:=by exists ts,l,_;rw[A4,cG]at h;refine List.ext_getElem (by simp[(by have:=h.1;simpa[strValues]using this)]) ?_;exists i;intro h1 h2;simp only[aF]at h1 h2;obtain⟨j,hj,x,u,hx,e⟩:=h.2 i _ (by simp[strValues,h1]:(strValues l).toArray[i]?=some (.str l[i].1 l[i].2));replace hj:=(eT h2)▸hj;obtain rfl:=aA hj;simp[List.getElem_map];replace hx:=(aP h2)▸hx;obtain rfl:=aA hx;exact(Value.str.inj e).1
theorem abN(h:m=n+1)(q:a<n\/a=n\/a=m):a<m+1:=by lia
theorem dh(B:k7 6 C)(L:mN C)(G:kZ C ρ st s){v:Value}(hL:s.heap.IsList a vs)(etl:vs.toList=strValues tl)(ets:tl.map (·.1)=ts)
 (hw:(ts.all λx=>pM.contains x)=true)(sd:JoinOk " " (ts.map qI)=true)(hlen:ts.length<1000)(M:Made C.w C.env s a v s'){Q:Value->Shared->Prop}
  (kk:∀y zN,(∃u,y=.str (Txt.join " "<|ts.map qI) u)->kZ C ρ st zN->mY C.F s zN->Q y zN):wpAny (model PG C.w) C.A (call (.builtin "str.join") [.str " " t,v]) Q E s':=by
  exists C,ρ,st,s,s',a,vs,tl,ts,t,v,Q,E,[B,L,G,hL,etl,ets,hw,sd,hlen,M,kk];exists _;obtain⟨code,oQ,uV,Si,tk,ps,more,hp,ht,hx,Sh,xX,hn,hs,rfl,rfl⟩:=M;have T:=B.top.keep G.sim.keep B.hi;have w7:=sV T.K;have hd:=B.dp;have hu:=B.un;have hI:=hx _ _ (cX<|b9 hp)<|bT _ rfl;have DH:=b9 hI;have h4s:uV.objs.size=oQ.objs.size+1:=by simp only[hs.1,dI]
  have k3:∀b o,oQ.get? b=some o->(uV.push<|H8 s.gens.size C.env.qual tk).get? b=some o:=λb o e=>aZ _<|hs.extBut b o (bI<|b9 e)<|aZ _ e;have k1:=λb o hb e=>hx b o hb<|aZ _ e;have aal:=Si.low λb o U e=>k3 b o e;exists oa,(q_:id hL);obtain⟨CX,hca,hda⟩:=q_;have Ko:vs.size=ts.length:=by refine ets▸eS▸etl▸?_;simp[strValues]
  have hc3:cStatics<oQ.objs.size:=cK (by rw[show cStatics=2 from rfl];exact eH w7) DH;have adt:∀A':Around,A'.handled=none->Walks PG C.w A' s.heap.objs.size (List.range oQ.objs.size) [s.heap.objs.size] vs.size (λi v=>vs[i]?=some v) (λi h=>h.IsListIter s.heap.objs.size a i/\h.IsList a vs):=λA' hA=>(Walks.list hA s.heap.objs.size a (bI<|b9 CX) vs).mono_fp λb hb=>by
   rcases aK.mp hb with rfl|hb
   .exact cJ.mpr DH
   .rw[aE]at hb;obtain rfl:=hb.symm;exact cJ.mpr<|cK (b9 CX) DH
  have hq:QuietGenD PG C.w (genEnv OV [] oQ.objs.size code builtinsNs C.env) "arg" [] JY (List.range oQ.objs.size) [s.heap.objs.size] (λi v=>vs[i]?=some v) (λU=>true) (VN ts) (uV.push<|H8 s.gens.size C.env.qual tk) (C.A.in1.in1.depth+1)<|C.A.in1.in1.units+4:=by
   refine⟨λA' E' i v mQ air hA hD hU hP hn hm hk=>aM ⟨rfl,mQ.heap,mQ.toks,rfl,λU U e=>e⟩,λA' E' i v mQ air hA hD hU hP U hn hm hk=>?_⟩;obtain⟨x,u,Zc,rfl⟩:=KY etl hP;replace Zc:=ets▸Zc;refine HO (aal.low λb o hb e=>hk b (cJ.mpr<|bJ hb<|bC w7<|bS DH) (λhm=>bI (bJ hb w7)<|aE.mp hm) o e) rfl ⟨B.gl.1,rfl⟩ (aX.mp hw x<|aR Zc) ?_ ?_ hn hm λy mO ks hy=>?_
   .have:=hD;exact lk<|aC hD hd
   .have:=hU;exact lk<|aC this hu
   .obtain⟨u',rfl⟩:=hy;exact⟨⟨x,u',Zc,rfl⟩,ks⟩
  have W:=WalksS.genexpQ (prog:=PG) (w:=C.w) (A:=C.A.in1.in1) L.hh uV.objs.size s.gens.size oQ.objs.size (List.range oQ.objs.size) [s.heap.objs.size] (λU=>true) vs.size (VN ts) (h4s▸(kF _)) (λhm=>gF.mpr (bS (by rw[h4s];exact dX _))<|cJ.mp hm) (λb hb=>by rw[aE]at hb;subst hb;exact cJ.mpr DH) (bP hd) (cJ.mpr hc3) (bI hc3) λhm=>bI (bJ (by decide) w7)<|aE.mp hm
  have uK:GenAt PG C.w C.A.in1.in1 uV.objs.size s.gens.size oQ.objs.size (List.range oQ.objs.size) [s.heap.objs.size] (λU=>true) vs.size (VN ts) 0 {s with gens:=s.gens.push<|.fresh<|.compStart M6 0 (.ref s.heap.objs.size) .none<|genEnv OV [] oQ.objs.size code builtinsNs C.env,toks:=tk+1+1+1,heap:=uV.push (H8 s.gens.size C.env.qual tk)}:=
   GenAt.freshD (A:=C.A.in1.in1) (cenv:=genEnv OV [] oQ.objs.size code builtinsNs C.env) L.hh adt (λU=>true) (VN ts) rfl rfl rfl (λhm=>dJ _<|cJ.mp hm) hq ⟨_,_,_,bT _ rfl,rfl,rfl,rfl⟩ (Array.getElem?_push_size ..) ⟨⟨_,k3 _ _ hI,rfl,rfl⟩,⟨oa,k3 _ _<|k1 _ _ (λq=>by rw[q,hp]at CX;obtain rfl:=aA CX;injection hca) CX,hca,hda⟩⟩ (hn.push _) aal.lim
  refine k9<|fC (aI<|tk+1+1+1) ?_;refine SC.joinGen W (λi s st=>st.1.typeIs) uK (λb hb=>?_) (.head _) (λi v hv=>?_) (λmQ l hm hit=>?_) ?_
  .rw[dI];have q:b<oQ.objs.size\/b=oQ.objs.size\/b=uV.objs.size:=by
    rcases aK.mp hb with e|hb
    .exact .inr (.inr e)
    .exact(aK.mp hb).elim (λe=>.inr<|.inl e) λm=>.inl<|cJ.mp m
   revert q;intro q;exact abN h4s q
  .obtain⟨j,hj,x,u,q8⟩:=hv;exact⟨_,u,q8.2⟩
  .have hit:=Ko▸hit;refine(Qv hit)▸?_;refine⟨sd,λt' k hk=>?_⟩;have kept:=λb o hb eb=>hm.heap b o (λq=>by
    have hl:=b9 eb;rcases aK.mp q with q|q
    .exact bI (cK hl DH) q
    .exact bI hl (aE.mp q))<|k3 _ _<|k1 b o hb eb
   have K:=qX.grow T L.mg (B.cls G) hp ht kept<|hm.heap 880 _ (λq=>by
    have hl:880<s.heap.objs.size:=bJ (by simp) w7;rcases aK.mp q with q|q
    .exact bI (cK hl DH) q
    .exact bI hl (aE.mp q))<|k3 _ _ Sh
   have G':=G.frame B ⟨λb o eb=>K.1 b o<|dS _ eb,λf hf o eb=>K.2 f hf o<|dS _ eb⟩ (λa ha=>absurd ha<|bG)<|cX<|bJ (c6 _) hk;exact kk _ _ ⟨t',rfl⟩ ⟨G'.sim,G'.fr,G'.tk⟩ ⟨hm.os,hm.drawn,bC xX<|bC (aT tk 3) hk,s7.only hm.gens rfl L.mg⟩
  .rw[A4,cG,Ko];exact bC (bS hlen)<|by decide
open Classical in
theorem br:Jj 6:=by
 exists C;intro B L;exists e,ρ,s,st;unfold Ha;induction gz e with
 |false=>exact Sd.nil
 |true=>
 by_cases he:e=Hj/\C.env.scope=qg;rotate_left
 .rw[aL he];exact Sd.nil
 rw[aH he];obtain⟨rfl,vY⟩:=he;rw[cc];refine Sd.m3 λv hv=>Sd.m3 λl hl=>Sd.m3 λts hts=>Sd.iff λhc=>Sd.of ?_;exists v,l,ts,[hv,hl,hts,hc];intro G;exists Q,E;intro kk;obtain⟨hw,sd,hlen⟩:=hc;obtain⟨rfl,hi⟩:=Mx hl;simp only[BK]at vY;show wpAny _ _ (do
  let ov<-attributeBase (.Constant (.str " ") 0 ⟨884,11,884,14⟩) "join" C.env (eval (.Constant (.str " ") 0 ⟨884,11,884,14⟩) C.env)
  standAt (Pos.atName ⟨884,11,884,19⟩)
  methodCall (.Constant (.str " ") 0 ⟨884,11,884,14⟩) "join" ⟨884,11,884,19⟩ ⟨884,11,884,58⟩ C.env ov 1 (backTo ⟨884,11,884,58⟩<|starEach [M6] C.env) (backToKw ⟨884,11,884,58⟩<|keywordEach [] C.env)) Q E s
 rw[mZ rfl];refine aD<|(yL (c:=.str " ") (C:=C) rfl).ok G rfl λov lD mF pZ GQ lY aim=>aD<|dK ?_;exists ov,lD,mF,[pZ,GQ,lY,aim];exists t,(q_:GQ);obtain rfl:=q_;rw[Wu _ _ _ _ _<|rfl];refine aD<|cL<|iN (fT lD _ t) kA F.slot_str_join F.type_str_join (λa e=>(by exists a,_;injection e)) ?_;refine Az rfl<|Calls.evalArgs_plain<|iD ?_;exists m,(q_:lY.fr.ns);obtain⟨hn,hlr⟩:=q_;have hkx:C.env.kindOf "split_command" =some .local:=by show C.env.scope.names.lookup _=_;rw[vY];rfl
 have hx:=hlr "split_command" hkx;rw[hv]at hx;cases em:m "split_command" with
 |none=>simp only[em]at hx;exact hx.elim
 |some y=>
 exists y,_;exists _;exists g9,_;have hx:=em▸hx;exists a,vs,vn,(q_:lY.list hi hx);obtain⟨rfl,q8⟩:=q_;exists tl,(q9:zU q8.2.2 hts);have hL:lD.heap.IsList a vs:=⟨_,q8.2.1,rfl,vn,rfl⟩;refine k9 ?_;refine QR (B.top.keep lY.sim.keep B.hi) (by have:=B.dp;exact bP this) vY B.gl.1 (L.cd (by rw[vY];decide)) hn em hL λv mQ M=>iO ?_;exact dh B L lY hL q9.1 q9.2 hw sd hlen M λy mO hy oA tA=>kk y mO mF pZ hy oA<|aim.trans tA
def kh:Scope:=fnS<|wN 4
def jj:List Stmt:=fnB<|wN 4
def XI(l:List Stmt)(i:Nat):Stmt:=(l[i]?).getD<|.Pass ⟨0,0,0,0⟩
def WY:Stmt->List Stmt
 |.If _ b _ _|.For _ _ b _ _=>b
 |_=>[]
def elB:Stmt->List Stmt
 |.If _ _ o _=>o
 |_=>[]
def tsT:Stmt->Expr
 |.If t _ _ _=>t
 |.For _ i _ _ _=>i
 |_=>.Name "" ⟨0,0,0,0⟩
def VK:Stmt:=XI (WY<|XI jj 2) 0
def zc:Stmt:=XI (elB VK) 0
def Ak:Expr:=.Tuple [.Name "pos" ⟨10,8,10,11⟩,.Name "ch" ⟨10,13,10,15⟩] 0 ⟨10,8,10,15⟩
def KN:Expr:=.Tuple [.Name "pos" ⟨17,19,17,22⟩,.Name "ch" ⟨17,24,17,26⟩] 0 ⟨17,18,17,27⟩
def z4:List Stmt:=[.If (.Name "escape" ⟨11,11,11,17⟩) (WY VK) [.If (tsT zc) (WY zc) [.Expr (.Yield (some KN) ⟨17,12,17,27⟩) ⟨17,12,17,27⟩] ⟨14,8,17,27⟩] ⟨11,8,17,27⟩]
theorem Ra{n:Nat}{K:Flow->Sem PySem.Fin}{H:Value->Sem PySem.Fin}{gd:Bool->Bool}{t:Expr}{b o:List Stmt}(h:wpAny M (A.over c fs) (isTrue t env<|eval t env) (λx s'=>Seg M A R Y n lX c ((execs (bif x then b else o) env).wrap K H gd lv) fs s') (λU U=>False) s):
 Seg M A R Y n lX c ((exec (.If t b o pos) env).wrap K H gd lv) fs s:=by
 simp[arm_exec_If];refine seg_at ?_;show Seg M A R Y n lX c ((isTrue t env (eval t env)>>=λx=>if x=true then execs b env else execs o env).wrap K H gd lv) fs s;rw[eN,fX];refine j9<|bL h (λx s' hx=>?_) λU U z=>z.elim;induction x
 .exact hx
 .exact hx
theorem K7{K:Flow->Sem PySem.Fin}{H:Value->Sem PySem.Fin}{st:Stmt}(h:wpAny M (A.over c fs) (exec st env) (λf s'=>f=.next/\Seg M A R Y n lX c (K .next) fs s') (λU U=>False) s):Seg M A R Y n lX c ((exec st env).wrap K H gd lv) fs s:=
 j9 (bL h (λf s' hx=>by obtain⟨rfl,hx⟩:=hx;exact hx) λU U z=>z.elim)
theorem Wp:m4 2 sG:=λC B=>⟨pG B,λU=>bj B⟩
structure GE(env:Env):Prop where
 sc:env.scope=kh
 gl:env.globals=mainGlobals/\env.builtins=builtinsNs
 ce:∀y:Str,env.cells.lookup y=none
 lo:935<=env.locals
def Gd(env:Env)(L:Loc)(h:Heap):Prop:=∃m,h.Ns env.locals m/\∀y,env.kindOf y=some .local->LR [] (L.lookup y) (m y)
def Cg(w:World)(A:Around)(env:Env)(h:Heap)(X:List Addr):Cx:=⟨w,A,env,hideAll h (env.locals::X),[]⟩
theorem Fz:(kh.names.all λx=>x.2 !=.cell&&x.2 !=.free)=true:=by rfl'
theorem GE.kind(g:GE env):env.kindOf y≠some .cell/\env.kindOf y≠some .free:=by
 have key:∀kd,env.kindOf y=some kd->kd≠.cell/\kd≠.free:=λkd q=>by have:=aX.mp Fz _<|cF (by rw[<-g.sc];exact q);simpa using this
 exact⟨λq=>(key _ q).1 rfl,λq=>(key _ q).2 rfl⟩
theorem Cg.good(g:GE env)(hL:Gd env L s.heap)(ht:s.toks≠0):kZ (Cg w A env s.heap X) [] ⟨[],L⟩ s:=
 ⟨⟨rfl,.nil,λi a ao e1 e2=>by exact nn e1,λa ha=>by simp at ha,⟨λb o e=>⟨o,dS _ e,.refl _ _⟩,λf hf=>by cases hf⟩⟩,
  ⟨hL,eM _<|.head _,(λhm=>by cases hm),(λy a hy=>by rw[show(Cg w A env s.heap X).env.cells.lookup y=none from g.ce y]at hy;exact nn hy),(λy a hy=>by rw[show(Cg w A env s.heap X).env.cells.lookup y=none from g.ce y]at hy;exact nn hy),λy hy=>(hy.elim g.kind.1 g.kind.2).elim,(λy a hy=>by rw[show(Cg w A env s.heap X).env.cells.lookup y=none from g.ce y]at hy;exact nn hy),g.lo⟩,ht⟩
theorem Cg.base(g:GE env)(T:nY w h)(hX:∀b∈X,935<=b)(hd:A.depth+2<1000)(hu:A.units+40<9000):k7 2<|Cg w A env h X:=by
 refine⟨T.low λb o hb e=>dL _ e λhm=>?_,(λf hf=>by cases hf),(λf hf=>by cases hf),hd,by show A.units+20*2<9000;omega,by show env.scope.kind=_;rw[g.sc];rfl,g.gl⟩;rcases aK.mp hm with rfl|hm
 .exact absurd hb (gF.mpr g.lo)
 .exact absurd hb (gF.mpr<|hX _ hm)
theorem Cg.since{env:Env}{X:List Addr}{s s':Shared}{ρ:List Addr}{st:St}(G:kZ (Cg w A env s.heap X) ρ st s')(n:mY [] s s'):GenSince env.locals X s s':=by
 exists w,A,env,X,s,s',ρ,st,_;exists l,(q_:n.gn);obtain⟨e,q9⟩:=q_;have hg:s'.gens=s.gens:=by rw[e,q9.2 λh=>by cases h];rfl
 refine⟨s'.heap,s'.toks,?_,λb o hb hw eb=>?_⟩
 .have UB:=n.os;have RT:=n.dr;clear e n G;obtain⟨hp,q8⟩:=s';subst UB RT hg;rfl
 .exists b,o,_;have eb':=dL _ eb λhm=>by
   rcases aK.mp hm with q|q
   .exact hb q
   .exact hw q
  exists o',(q_:G.sim.keep.1 b o eb');obtain⟨e',l⟩:=q_;rcases l with rfl|⟨hm,_⟩|⟨_,_,hm,_⟩
  .exact e'
  .cases hm
  .cases hm
theorem LR.plain(hv:∀x,v=some x->uE x=true)(h:LR ρ v u):LR [] v u:=by
 rcases v with _|x
 .induction u<;>exact h
 .rcases u with _|y
  .exact h
  .have:=hv x rfl;induction x<;>first|exact h|rcases this with _|_
theorem pz(G:kZ C ρ ⟨H,L⟩ s)(hL:∀y v,L.lookup y=some v->uE v=true):Gd C.env L s.heap:=by obtain⟨m,q8⟩:=G.fr.ns;exact⟨m,q8.1,λy hy=>(q8.2 y hy).plain<|hL y⟩
def L0(x:Str)(p:Int):Loc:=[("addr",.str x),("pos",.int p),("escape",.bool false)]
def Oj(x:Str)(p:Int)(c:Nat):Loc:=[("addr",.str x),("pos",.int p),("escape",.bool false),("ch",.str ⟨#[c]⟩)]
theorem qm(x)(p)(c):∀y v,(Oj x p c).lookup y=some v->uE v=true:=λy v h=>by
 have:∀q∈Oj x p c,uE q.2=true:=by intro q hq;simp only[Oj,aK,bG,kX]at hq;rcases hq with rfl|rfl|rfl|rfl<;>rfl
 exact this _<|cF h
inductive LT(x:Str):Loc->Prop
 |a (p:Int):LT x<|L0 x p
 |b (p:Int) (c:Nat):LT x<|Oj x p c
theorem XF(x)(i)(c)(h:LT x L):oX kh ["pos","ch"] [.int i,.str ⟨#[c]⟩] ⟨[],L⟩=some (.ok (),⟨[],Oj x i c⟩):=by induction h<;>rfl'
theorem YJ(x)(p)(c)(q)(H):rT qS kh (.Name "escape" q) ⟨H,Oj x p c⟩=some (.ok false,⟨H,Oj x p c⟩):=by rfl'
theorem MT(x)(q){L:Loc}(h:LT x L):rT qS kh (.Name "escape" q) ⟨[],L⟩=some (.ok false,⟨[],L⟩):=by induction h<;>rfl'
def XJ:List Nat:=(List.range 128).filter (· !=92)
theorem chT(x)(p):(XJ.map λc=>rT qS kh (tsT zc) ⟨[],Oj x p c⟩)=XJ.map λc=>some (.ok false,⟨[],Oj x p c⟩):=by rfl'
theorem chE(p)(h:uF x=true)(hc:x.cps[i]?=some c):rT qS kh (tsT zc) ⟨[],Oj x p c⟩=some (.ok false,⟨[],Oj x p c⟩):=by refine gA.mp (chT x p) c<|dT.mpr ?_;have:=Array.all_eq_true.mp h i (c8.mp hc).1;rw[(c8.mp hc).2,aQ,d6]at this;exact⟨cJ.mpr this.1,this.2⟩
theorem yE(x)(p)(c):mU qS kh KN ⟨[],Oj x p c⟩=some (.ok<|.ref 0,⟨[.tuple [.int p,.str ⟨#[c]⟩]],Oj x p c⟩):=by rfl'
def gnR(C0 I E:Addr):GenEnd:=λn lX r s=>r=.ok (.ret .none)/\(n=0/\GenSince C0 [I,E] lX s)
def UP(h:Heap)(b:Addr):Prop:=∃o,h.get? b=some o/\(∀u,o.data≠.cell u)/\((∃n,o.cls=.type n)\/∀vs,o.data≠.fields vs)
def gnY(w:World)(env:Env)(x:Str)(I E:Addr):Protocol:=λm lX v s kap=>
 (∃T i c u t,v=.ref T/\x.cps[i]?=some c/\i+m+1=x.cps.size/\s.heap.IsTuple T #[.int (i:Nat) u,.str ⟨#[c]⟩ t])/\GenSince env.locals [I,E] lX s/\(∀b∈[env.locals,I,E],UP s.heap b)/\
  ∀zN,(∀b∈[env.locals,I,E],∀o,s.heap.get? b=some o->zN.heap.get? b=some o)->nY w zN.heap->zN.toks≠0->kap (.send .none) zN
structure lq(w:World)(env:Env)(x:Str)(t:Tok)(I E:Addr)(i:Nat)(s:Shared):Prop where
 top:nY w s.heap
 tk:s.toks≠0
 loc:∃L,LT x L/\Gd env L s.heap
 en:∃old,IsEnum s.heap E I i old
 it:s.heap.IsStrIter I "str_ascii_iterator" x t i
theorem GenSince.trans{C:Addr}(x:GenSince C wr a b)(y:GenSince C wr b c):GenSince C wr a c:=by obtain⟨h,tk,rfl,k⟩:=y;exact x.step k
theorem GenSince.mono{C:Addr}(x:GenSince C wr a b)(h:∀d∈wr,d∈wr'):GenSince C wr' a b:=by obtain⟨h',tk,q8⟩:=x;exact⟨h',tk,q8.1,λb o h1 h2 e=>q8.2 b o h1 (λm=>h2<|h b m) e⟩
theorem Uh(hh:A.handled=none)(ht:s.heap.IsTuple T #[a,b])(h:∀h',Heap.ExtBut s.heap.objs.size s.heap h'->Q [a,b] {s with heap:=h'}):wpAny (model PG w) A (unpackItems (.ref T) 2 none) Q E s:=by
 have key:∀n,n= #[a,b].size->wpAny (model PG w) A (unpackItems (.ref T) n none) Q E s:=λn e=>by subst e;exact wpAny_unpackItems_tuple hh ht λh' hs=>h h' hs
 exact key 2 rfl
theorem W3{env:Env}{x:Str}{t:Tok}{I E:Addr}{fs:List Frame}(hx:uF x=true)(g:GE env)(hI:935<=I)(hE:935<=E)(hIE:E≠I)(SK:env.locals≠I)(hCE:env.locals≠E)
 (hh:(A.over (.forLoop Ak (.ref E) z4 [] env) fs).handled=none)(hd:(A.over (.forLoop Ak (.ref E) z4 [] env) fs).depth+2<1000)(hu:(A.over (.forLoop Ak (.ref E) z4 [] env) fs).units+40<9000)
 (TQ:splitAtGen fs=none)(hfg:fs.any Frame.guarded=false)
 (aam:∀lX s,nY w s.heap->s.toks≠0->(∃L,LT x L/\Gd env L s.heap)->GenSince env.locals [I,E] lX s->Seg (model PG w) A (gnR env.locals I E) (gnY w env x I E) 0 lX (.block [] env) ((model PG w).den<|.block [] env) fs s):
 ∀k i lX s,x.cps.size-i=k->i<=x.cps.size->lq w env x t I E i s->GenSince env.locals [I,E] lX s->
  Seg (model PG w) A (gnR env.locals I E) (gnY w env x I E) (x.cps.size-i) lX (.forLoop Ak (.ref E) z4 [] env) ((model PG w).den<|.forLoop Ak (.ref E) z4 [] env) fs s:=by
 exists w,A,env,x,t,I,E,fs,[hx,g,hI,hE,hIE,SK,hCE,hh,hd,hu,TQ,hfg,aam];have W:=WalksT.enumerateD (prog:=PG) (w:=w) (A:=A.over (.forLoop Ak (.ref E) z4 [] env) fs) (Draws.strAscii (A:=(A.over (.forLoop Ak (.ref E) z4 [] env) fs).in1) hh I x t) E hIE (λhm=>hIE<|aE.mp hm)<|.head _;have low:∀{h h':Heap},nY w h->(∀b o,b∉[E,I]->h.get? b=some o->h'.get? b=some o)->nY w h':=λT k=>T.low λb o hb e=>k b o (λhm=>by
  exists b,o,_;rcases aK.mp hm with rfl|hm
  .exact absurd hb (gF.mpr hE)
  .rw[aE]at hm;replace hm:=hm.symm;subst hm;exact absurd hb<|gF.mpr hI) e
 have lok:∀{L:Loc}{h h':Heap},Gd env L h->(∀b o,b∉[E,I]->h.get? b=some o->h'.get? b=some o)->Gd env L h':=λq9 k=>by
  exists m,(ZZ:q9);refine⟨m,?_,ZZ.2⟩;exists o,es,ep,(UA:ZZ.1);exact⟨o,es,ep,k _ _ (λhm=>by
   rcases aK.mp hm with q|hm
   .exact hCE q
   .exact SK (aE.mp hm)) UA.1,UA.2⟩
 exists k;induction k with
 |zero=>
  exists i,lX,s;intro hk hi TK hs;have Zf:i=x.cps.size:=by grind
  obtain rfl:=Zf.symm;rw[cD];refine Ay<|fC (aI s.toks)<|W.done s _ _ ⟨TK.en,TK.it⟩ ?_;exists h',tk;intro Ys xX;exists L,(Zd:TK.loc);exact aam _ _ (low TK.top Ys) (by have:=TK.tk;have:s.toks<=tk:=xX;lia) ⟨L,Zd.1,lok Zd.2 Ys⟩<|hs.step λb o U hw e=>Ys b o (λhm=>hw (by
   exists b,o,_;rcases aK.mp hm with rfl|hm
   .exact .tail _ (.head _)
   .rw[aE]at hm;obtain rfl:=hm.symm;exact .head _)) e
 |succ k ih=>
  exists k,[ih];exists i,lX,s;intro hk hi TK hs;have sJ:i<x.cps.size:=by grind
  obtain⟨m,hm⟩:∃m,x.cps.size-i=m+1:=⟨x.cps.size-i-1,by grind⟩;exists m,_;rw[hm];refine Ay<|fC (aI s.toks)<|W.item i s _ _ sJ ⟨TK.en,TK.it⟩ ?_;exists T,vals,h',tk;intro hP hT adx aan Ys xX;exists u,v,(q_:hP);obtain⟨⟨c,u',hc,rfl⟩,rfl⟩:=q_;exists c,u',_;refine W.go _ _ _ i T _ _ _ aan ?_;exists Er;intro SM E7;exists L,(Oe:TK.loc);exists oT,(Bo:adx);have zY:=zD (C:=Cg w (A.over (.forLoop Ak (.ref E) z4 [] env) fs) env Er []) [.Name "pos" ⟨10,8,10,11⟩,.Name "ch" ⟨10,13,10,15⟩] ["pos","ch"] rfl;have Oq:=pG (k:=0)<|Cg.base (A:=A.over (.forLoop Ak (.ref E) z4 [] env) fs) (X:=[]) g (low (low TK.top Ys) E7) (λb hb=>by exists b,_;simp at hb) hd hu;show wpAny (model PG w) _ (do standAt ⟨10,8,10,15⟩;unpack (.ref T) (assignEach [.Name "pos" ⟨10,8,10,11⟩,.Name "ch" ⟨10,13,10,15⟩] (Cg w (A.over (.forLoop Ak (.ref E) z4 [] env) fs) env Er []).env)) _ _ _;dsimp only[unpack];refine zY.1▸zY.2.1▸?_;refine aD<|dK ?_;refine aD<|cL<|Uh hh (⟨oT,E7 _ _ (W.apart i T h' aan) Bo.1,Bo.2.1,Bo.2.2⟩) ?_;exists oQ;intro aao;refine(zY.2.2 [.int i,.str ⟨#[c]⟩] _ [] _ ⟨[],L⟩<|.cons ⟨u,rfl⟩<|.cons ⟨u',rfl⟩ .nil).ok ((Cg.good (w:=w) (A:=A.over (.forLoop Ak (.ref E) z4 [] env) fs) (X:=[]) (s:={s with heap:=Er,toks:=tk}) g (lok (lok Oe.2 Ys) E7) (by have:=TK.tk;have:s.toks<=tk:=xX;grind:tk≠0)).ext (h':=oQ) (λb o e=>aao b o (bI<|b9 e) e) 0) (by exact g.sc▸(XF x i c Oe.1)) ?_;exists z_,zP,N5;intro FY z_ Kr rg;refine fP<|Ra ?_;refine(tF Oq _ ⟨[],Oj x i c⟩ N5 zP).ok Kr (by exact g.sc▸(YJ x i c _ _)) ?_;exists b,xU,Bn;intro N7 hb Bz R9;subst hb;refine fP<|Ra ?_;refine(tF Oq _ ⟨[],Oj x i c⟩ Bn xU).ok Bz (by exact g.sc▸(chE i hx hc)) ?_;exists b,Ft,vX;intro Hq hb Ez B3;subst hb;refine fP<|seg_Expr_Yield TQ rfl hfg ?_ (by exact g.sc▸rfl) (by unfold interactive;exact g.sc▸rfl);refine(mE Oq KN ⟨[],Oj x i c⟩ vX Ft).ok Ez (by exact g.sc▸(yE x i c)) ?_;exists v,RO,sy;intro GR hv Kq Oa;exists kap;intro Sj;exists T',vs,nT,(q_:Kq.tuple rfl hv);obtain⟨rfl,sD⟩:=q_;exists y1,y2,(q_:Se sD.2.2);obtain⟨e12,⟨u1,rfl⟩,u2,rfl⟩:=q_;have nn:=(mY.lO {s with heap:=Er,toks:=tk} oQ).trans<|((rg.trans R9).trans B3).trans Oa;have sin:=Cg.since Kq nn;exists ag4,aeY,(q_:id sin);obtain⟨es,aap⟩:=q_;have GT:=pz Kq<|qm x i c;subst es;obtain⟨⟨old,hen⟩,hit⟩:=SM;exists old,_;have td:=aap E _ (dQ hCE) (λh=>nomatch h) hen;exists oI,(q_:hit);obtain⟨hoI,nO⟩:=q_;have GU:=aap I _ (dQ SK) (λh=>nomatch h) hoI;have vZ:∀{b:Addr},b∉[I,E]->b∉[E,I]:=λhb hm=>hb (by
   rcases aK.mp hm with rfl|hm
   .exact .tail _ (.head _)
   .rw[aE]at hm;obtain rfl:=hm.symm;exact .head _)
  refine⟨⟨T',i,c,u1,u2,rfl,hc,(cM (lk<|aC (aN<|aY<|show i<=x.cps.size from(lk hi))<|aN hm.symm)<|lk<|aC (aN (aY<|show i<=x.cps.size from(lk hi)).symm)<|aN hm),⟨_,sD.2.1,rfl,nT,?_⟩⟩,GenSince.trans (hs.step λb o U hw e=>E7 b o (vZ hw)<|Ys b o (vZ hw) e) (GenSince.mono sin λd h=>nomatch h),?_,λzN SN T'' ady=>Sj .none zN ?_⟩
  .rw[<-e12]
  .exists aaq,(q20:GT);exists oC,es,ep,(q_:q20.1);obtain⟨hoC,ZY⟩:=q_;exists b;intro hb;rcases aK.mp hb with rfl|hb
   .exact⟨oC,hoC,(λu q=>by rw[ZY.1]at q;injection q),.inr λvs q=>by have q:=ZY.1▸q;cases q⟩
   .rcases aK.mp hb with rfl|hb
    .exact⟨oI,GU,(λu q=>by rw[nO.2]at q;injection q),.inl ⟨_,nO.1⟩⟩
    .rw[aE]at hb;obtain rfl:=hb.symm;exact⟨_,td,λu q=>by injection q,.inl ⟨_,rfl⟩⟩
  .exists _;exists aaq,(lW:GT);exists oC,es,ep,(q8:lW.1);have next:=ih (i+1) zN zN (by omega) sJ (⟨T'',ady,⟨Oj x i c,.b _ _,aaq,⟨oC,es,ep,SN _ (.head _) _ q8.1,q8.2⟩,lW.2⟩,⟨old,SN _ (.tail _<|.tail _<|.head _) _ td⟩,⟨oI,SN _ (.tail _<|.head _) _ GU,nO.1,nO.2⟩⟩)<|GenSince.refl _ _ _;rw[show x.cps.size-(i+1)=m by omega]at next;exact k9<|seg_again rfl next
def st0:Stmt:=.Assign [.Name "pos" ⟨8,4,8,7⟩] (.Constant (.int 0) 0 ⟨8,10,8,11⟩) ⟨8,4,8,11⟩
def sTx:Stmt:=.Assign [.Name "escape" ⟨9,4,9,10⟩] (.Constant (.bool false) 0 ⟨9,13,9,18⟩) ⟨9,4,9,18⟩
def WU:Expr:=.Call (.Name "enumerate" ⟨10,19,10,28⟩) [.Name "addr" ⟨10,29,10,33⟩] [] ⟨10,19,10,34⟩
theorem vo:jj=[st0,sTx,.For Ak WU z4 [] ⟨10,4,17,27⟩,.If (.Name "escape" ⟨18,7,18,13⟩) (WY<|XI jj 3) [] ⟨18,4,19,25⟩]:=by rfl'
theorem VM(g:GE env)(hk:kh.names.lookup y=some .local)(hn:s.heap.Ns env.locals m)
 (hc:∀Q E,Q v {s with toks:=s.toks+n}->wpAny (model PG w) A (constValue env c) Q E s)(hsw:swapsWith (.Constant c k q) (some<|.Name y p) r.line env=pure false)
  (hQ:∀h' t,h'.Ns env.locals (λz=>if z=y then some v else m z)->Heap.SameBut env.locals s.heap h'->s.toks<=t->Q .next {s with heap:=h',toks:=t}):wpAny (model PG w) A (exec (.Assign [.Name y p] (.Constant c k q) r) env) Q E s:=by
  rw[exec_Assign_Name _ _ _ _ _ hsw];refine aD<|dK<|aD<|hc _ _ ?_;refine aD<|dK<|aD<|wpAny_bindName ?_;refine wpAny_storeName_local (g.sc▸hk:env.scope.names.lookup y=_) hn (λh' Bw Ff=>aM<|hQ h' _ Bw Ff<|bC (aT s.toks n)<|aT _ 1)<|g.sc▸rfl
theorem Wh:zB "enumerate" =some (.ty "enumerate"):=by rfl'
theorem vh{env:Env}{x:Str}{s:Shared}{I:Addr}(hx:uF x=true)(g:GE env)(hI:935<=I)(SK:env.locals<I)
 (hh:A.handled=none)(hd:A.depth+4<1000)(hu:A.units+50<9000){m:Str->Option Value}(T:nY w s.heap)(xX:s.toks≠0)(hn:s.heap.Ns env.locals m)(hm:∀y,env.kindOf y=some .local->LR [] (([("addr",.str x)]:Loc).lookup y) (m y))(Ko:s.heap.objs.size=I):
 Seg (model PG w) A (gnR env.locals I<|I+1) (gnY w env x I<|I+1) x.cps.size s (.func jj env) ((model PG w).den<|.func jj env) [] s:=by
 exists w,A,env,x,s,I,m,[hx,g,hI,SK,hh,hd,hu,T,xX,hn,hm,Ko];refine seg_func ?_;rw[show execs jj env=execs [st0,sTx,.For Ak WU z4 [] ⟨10,4,17,27⟩,.If (.Name "escape" ⟨18,7,18,13⟩) (WY<|XI jj 3) [] ⟨18,4,19,25⟩] env from aV (execs · env) vo];have kad:env.kindOf "addr" =some .local:=by show env.scope.names.lookup _=_;exact g.sc▸rfl
 obtain⟨t,ha⟩:∃t,m "addr" =some (.str x t):=by
  have:=hm "addr" kad;rcases e:m "addr" with _|v
  .simp only[e]at this;exact this.elim
  .simp only[e]at this;obtain⟨t,rfl⟩:=this;exact⟨t,rfl⟩
 refine fP<|K7<|VM g rfl hn (λQ E h Γ p U=>h) rfl λsI ag9 aar GV ae0=>⟨rfl,?_⟩;refine fP<|K7<|VM (n:=0) g rfl aar (λQ E h=>aM h) rfl λEr SO GW GX ae1=>⟨rfl,?_⟩;have k2:∀b o,b≠env.locals->s.heap.get? b=some o->Er.get? b=some o:=λb o hb e=>(GX.2 b hb).trans<|(GV.2 b hb).trans e;have Oi:=T.low λb o hb e=>k2 b o (bI<|bJ hb g.lo) e;have uK:strIterType x= "str_ascii_iterator" :=aH (by have Zc:x.cps.all (λc=>decide (c<128)&&c !=92)=true:=hx;rw[Array.all_eq_true]at Zc⊢;intro i hi;have:=Zc i hi;simp only[aQ]at this;exact this.1)
 refine fP<|BW (λU=>rfl) ?_;refine Call_Name rfl<|eC (g.sc▸rfl) (by show env.scope.names.lookup _=_;exact g.sc▸rfl) (J5 (ρ:=[]) (s:={s with heap:=Er,toks:=SO}) g.gl Oi Wh λy hy=>?_)<|rfl;subst hy;refine callWith_type1<|iD<|iS (fD (by rw[g.sc];rfl) kad GW ha<|iO ?_)<|rfl;refine call_enumerate_str λoQ he hit ae2 tf=>?_;have eI:=(GX.1.trans GV.1).trans Ko;rw[eI]at he hit⊢;replace hit:=uK▸hit;refine wpAny_pyIter_enum he ?_;intro p;have TK:lq w env x t I (I+1) 0 {s with heap:=oQ,toks:=SO}:=by
  refine⟨Oi.low λb o U e=>tf b o e,by lia,⟨L0 x 0,.a 0,?_⟩,⟨_,he⟩,hit⟩;obtain⟨o,es,ep,q9⟩:=GW;refine⟨_,⟨o,es,ep,tf _ _ q9.1,q9.2⟩,λy hy=>?_⟩;by_cases e1:y= "escape"
  .subst e1;exact(aH rfl)▸rfl
  .rw[aL e1];by_cases e2:y= "pos"
   .subst e2;exact(aH rfl)▸(⟨_,rfl⟩)
   .rw[aL e2];have:=hm y hy;exact(show(L0 x 0).lookup y=([("addr",.str x)]:Loc).lookup y by simp[L0,List.lookup,a7.mpr e1,a7.mpr e2])▸this
 refine W3 hx g hI (eE hI) (kF I) (bI SK) (bI<|gC SK) ?_ ?_ ?_ ?_ ?_ (λlX s' T' Hs hL Ff=>?_) x.cps.size 0 s _ (Nat.sub_zero _) (cV _) TK ⟨oQ,SO,rfl,λb o hb U e=>tf b o<|k2 b o hb e⟩
 .exact hh
 .change A.depth+1+0+2<1000;exact Nat.lt_of_succ_lt hd
 .change A.units+3+0+40<9000;exact lk hu
 .rfl
 .rfl
 .obtain⟨L,q8⟩:=hL;refine seg_leaf (.ok Flow.next) ?_;refine fP<|Ra ?_;refine(tF (pG<|Cg.base (A:=A.over (.func jj env) []) (X:=[]) g T' (λb hb=>by simp at hb) (by change A.depth+0+1+2<1000;exact lk hd) (by change A.units+0+3+40<9000;exact lk hu)) _ ⟨[],L⟩ [] s').ok (Cg.good g q8.2 Hs) (g.sc▸(MT x _ q8.1)) λb xU Bn U hb Bz R9=>?_;subst hb;exact seg_end (.ok<|Flow.ret .none) ⟨rfl,rfl,GenSince.trans Ff<|GenSince.mono (Cg.since Bz R9) λd h=>nomatch h⟩
def XN:Expr:=.Tuple [.Name "pos" ⟨26,8,26,11⟩,.Name "ch" ⟨26,13,26,15⟩] 0 ⟨26,8,26,15⟩
theorem cs:r8=.For XN (.Call (.Name "_iter_escaped_chars" ⟨26,19,26,38⟩) [.Name "addr" ⟨26,39,26,43⟩] [] ⟨26,19,26,44⟩) nA [] ⟨26,4,34,31⟩:=by rfl'
section
variable{β α:Type}
theorem Sd.GY{t:Sem α}{Rel:List Addr->β->α->Prop}{o:lG β}(B:k7 k C)(h:∀h',k7 k (C.at h')->Sd (C.at h') t Rel ρ s st o)(G:kZ C ρ st s){b:β}{k6:St}(e:o=some (.ok b,k6)){Q:α->Shared->Prop}{E:Value->Shared->Prop}
 (kk:∀x s' lI,ρ<+:lI->Rel lI b x->kZ C lI k6 s'->mY C.F s s'->(∀i ob,s.heap.get? i=some ob->i∉ρ->i≠C.env.locals->i∉C.F->(∀u,ob.data≠.cell u)->((∃n,ob.cls=.type n)\/∀vs,ob.data≠.fields vs)->s'.heap.get? i=some ob/\i∉lI)->Q x s'):wpAny (model PG C.w) C.A t Q E s:=by
 refine bL (h (C.tU s.heap ρ).ail (B.tU G) (G.tU<|B.cls G) (.ok b) k6 e) (λx s' P=>?_) λx s' P=>by induction P;contradiction
 obtain⟨b',lI,e1,hp,hr,G',n⟩:=P;obtain rfl:=oV.ok.inj e1;refine kk x s' lI hp hr (G.vW G') n λi ob ho hi hl hf hu hc=>?_;have h0:=wI ho hl hi<|G.Kj ho hu;refine⟨?_,λhm=>by replace h0:=((G'.sim.new i hm).1)▸h0;cases h0⟩;exists _;obtain⟨o',e',l⟩:=G'.sim.keep.1 i ob h0;rcases l with rfl|⟨hm,_⟩|⟨h1,_,_,vs,more,hd,_⟩
 .exact k9 (e')
 .exact k9 (absurd hm hf)
 .rcases hc with⟨n,hc⟩|hc
  .replace hc:=h1▸hc;injection hc
  .exact k9 (absurd hd.1<|hc vs)
end
structure Zi(C:Cx)(ρ:List Addr)(b:Addr):Prop where
 r:b∉ρ
 l:b≠C.env.locals
 h:C.ail.get? b=none
 c:∀x,C.env.cells.lookup x≠some b
theorem Zi.of_none(G:kZ C ρ st s){b:Addr}(hb:s.heap.get? b=none):Zi C ρ b:=by
 refine⟨λhm=>?_,?_,?_,λx q=>?_⟩
 .obtain⟨o,ho⟩:=G.live hm;replace ho:=hb▸ho;exact nn ho
 .rintro rfl;obtain⟨o,_,_,ho,_⟩:=G.oH;replace ho:=hb▸ho;exact nn ho
 .rcases q:C.ail.get? b with _|o
  .rfl
  .obtain⟨o',e',_⟩:=G.sim.keep.1 b o q;rw[hb]at e';injection e'
 .obtain⟨_,_,u,⟨o,ho,_⟩,_⟩:=G.fr.cell x b q;rw[hb]at ho;injection ho
theorem Zi.aas(W:Zi C ρ b)(B:k7 k C):b∉C.F:=λhm=>by obtain⟨o,_,_,h,_⟩:=B.live b hm;replace h:=W.h▸h;exact nn h
theorem Up(g:Array GenState)(x y)(l):(g++(x::l).toArray).setIfInBounds g.size y=g++(y::l).toArray:=by apply Array.toList_inj.mp;simp
theorem zv(g:Array GenState)(x)(l):(g++(x::l).toArray)[g.size]?=some x:=by simp
structure GS(C:Cx)(s0:Shared)(x:Str)(env:Env)(ga I:Addr)(ρ:List Addr)(st:St)(j:Nat)(s:Shared):Prop where
 good:kZ C ρ st s
 gens:∃gs l,s.gens=s0.gens++(gs::l).toArray/\(∀y∈l,y.bare=true)/\gs.Goes (model PG C.w) C.A.in1 (gnR env.locals I<|I+1) (gnY C.w env x I<|I+1) (x.cps.size-j) (.send .none) (s.setGen s0.gens.size .running)
 os:s.os=s0.os
 dr:s.drawn=s0.drawn
 tk:s0.toks<=s.toks
 gen:∃o vs,s.heap.get? ga=some o/\o.cls=.type "generator" /\o.data=.fields vs/\s.heap.IsGen ga s0.gens.size
 away:∀b∈[ga,env.locals,I,I+1],Zi C ρ b
inductive GF(ob:St->lG Fl)(p:Int×Nat)(l:List<|Int×Nat)(st:St)(r:oV Unit)(Fu:St):Prop
 |next (st1 st2:St) (e1:oX Bl ["pos","ch"] [.int p.1,.str ⟨#[p.2]⟩] st=some (.ok (),st1)) (e2:ob st1=some (.ok .next,st2)) (e3:qN ob l st2=some (r,Fu))
set_option tactic.hygienic true in
theorem Mg{st Fu:St}{r:oV Unit}(e:qN ob (p::l) st=some (r,Fu)):GF ob p l st r Fu:=by
 exists ob,p,l,st,Fu,r,_;obtain⟨c,h1,_⟩|⟨_,sa,h1,e⟩:=m9 e
 .exact(xH h1).elim
 obtain⟨c,h2,_⟩|⟨_,sb,h2,e⟩:=m9 e
 .exact(xH h2).elim
 have hs:oX Bl ["pos","ch"] [.int p.1,.str ⟨#[p.2]⟩] st=some (.ok (),sb):=by
  show(mX Bl "pos" (.int p.1) st).then (λU st=>oX Bl ["ch"] [.str ⟨#[p.2]⟩] st)=_
  rw[h1];refine a6 h2 ?_;rfl
 rcases ho:ob sb with _|q
 .replace e:=ho▸e;exact nn e
 .obtain⟨f,sc⟩:=q;rw[ho]at e;rcases f with f|c
  .induction f with
    |next=>exact .next sb sc hs ho e
    |_=>rcases e with _|_
  .exact nn e
theorem Pw(hc:x.cps[j]?=some c):(items x).drop j=((j:Int),c)::(items x).drop (j+1):=by
 have q8:=c8.mp hc;simp only[dZ (by simp[items,q8.1]:j<(items x).length)];congr 1
 simp[items,q8.1,q8.2]
theorem gx:v9 "generator" =false:=by decide
theorem GS.tg(S:GS C s0 x env ga I ρ st j s):∀a∈[env.locals,I,I+1],a∉ρ/\a≠C.env.locals/\C.ail.get? a=none/\∀x,C.env.cells.lookup x≠some a:=λa ha=>
 have W:=S.away a<|.tail _ ha
 ⟨W.r,W.l,W.h,W.c⟩
theorem bg{env:Env}{ga I:Addr}{s0:Shared}{ρ mF:List Addr}{st:St}{s:Shared}(B:k7 6 C)(L:mN C)(vY:C.env.scope=Bl)(hI:935<=I)(w7:935<=env.locals)(RV:ga∉[env.locals,I,I+1]){r:oV Unit}{Fu:St}{Q:Flow->Shared->Prop}{E:Value->Shared->Prop}
 (kQ:∀f s',PQ C (λU U f=>f=Flow.next) ρ s0 r Fu f s'->Q f s')(kE:∀e s',PE C ρ s0 r Fu e s'->E e s')(hρ:ρ<+:mF)(S:GS C s0 x env ga I mF st 0 s)
 (ef:qN (λst=>nZ sG 0 true Bl nA st) (items x) st=some (r,Fu)):
 codeAny (model PG C.w) C.A (.forLoop XN (.ref ga) nA [] C.env) (λr s'=>match r with|.ok f=>Q f s'|.error e=>cameBackBy (model PG C.w) C.A C.env E e s') s:=by
 exists C,x,env,ga,I,s0,ρ,mF,st,s,r,Fu,Q,E,[B,L,vY,hI,w7,RV,kQ,kE,hρ,S,ef];refine codeAny_forLoop_any (λm mO=>∃j nF m7,m=x.cps.size-j/\j<=x.cps.size/\ρ<+:nF/\GS C s0 x env ga I nF m7 j mO/\qN (λst=>nZ sG 0 true Bl nA st) ((items x).drop j) m7=some (r,Fu)) (λm mO DH=>?_) x.cps.size ⟨0,mF,st,rfl,cV _,hρ,S,ef⟩;exists _;obtain⟨j,nF,m7,hm,hj,oN,At,pU⟩:=DH;obtain⟨gs,l,Zd⟩:=At.gens;obtain⟨og,vg,Oe⟩:=At.gen;have oA:=At.good;have Si:=B.top.keep oA.sim.keep B.hi;refine k9<|fC (aI mO.toks) ?_;refine wpAny_pyNext_gen (P:=λn lX lD=>n=0/\GenSince env.locals [I,I+1] lX lD) L.hh Si.lim (by have:=B.dp;show C.A.depth<1000;exact bP this) Oe.2.2.2 (by exact Zd.1▸(zv ..)) Zd.2.2 (λv lD gs' hY=>?_) λlD hP h' hk=>?_
 .obtain⟨⟨T,i,c,u,t,rfl,hc,hi,hT⟩,adz,aat,Sj⟩:=hY;intro xX;obtain⟨sI,Bp,rfl,aip⟩:=adz;have kk:∀b o,b∉[env.locals,I,I+1]->mO.heap.get? b=some o->sI.get? b=some o:=λb o hb e=>aip b o (λq=>hb<|q▸.head _) (λq=>hb<|.tail _ q) e;have aau:Bp≠0:=by have:=oA.tk;have:mO.toks<=Bp:=xX;lia
  have DD:=Si.low λb o hb e=>kk b o (λhm=>by
   rcases aK.mp hm with q|hm
   .exact bI (bJ hb w7) q
   .rcases aK.mp hm with q|hm
    .exact bI (bJ hb hI) q
    .exact bI (bJ hb<|eE hI) (aE.mp hm)) e
  cases TU:x.cps.size-j with
  |zero=> replace Sj:=TU▸Sj;exact(Sj (Shared.mk sI mO.gens mO.drawn Bp mO.os) (λb U o e=>e) DD aau).elim
  |succ m'=>
  rw[TU]at Sj hi;obtain rfl:i=j:=by grind
  rw[Pw hc]at pU;obtain⟨st1,st2,e1,e2,e3⟩:=Mg pU;refine Bi (kk ga og RV Oe.1) Oe.2.1 Oe.2.2.1 gx ?_;refine aD<|dK ?_;refine aD<|cL<|Uh L.hh hT λDC aav=>?_;have k5:=λb o e=>aav b o (bI<|b9 e) e;have Bz:=(oA.frame B ⟨λb o eb=>⟨o,kk b o (λhm=>by replace eb:=(eM _ hm)▸eb;rcases eb with _|_)<|dS _ eb,.refl _ _⟩,λf hf o eb=>(B.cls oA) f hf o<|dS _ eb⟩ At.tg aau).ext k5 0;refine Sd.GY B (λh' B'=>(λg h'=>(zD [.Name "pos" ⟨26,8,26,11⟩,.Name "ch" ⟨26,13,26,15⟩] ["pos","ch"] rfl).2.2 [.int i,.str ⟨#[c]⟩] [.int i u,.str ⟨#[c]⟩ t] nF (Shared.mk DC g mO.drawn Bp mO.os) m7<|.cons ⟨u,rfl⟩<|.cons ⟨t,rfl⟩ .nil) _ h') ((λg=>⟨Bz.sim,Bz.fr,Bz.tk⟩:∀g:Array GenState,kZ C nF m7<|Shared.mk DC g mO.drawn Bp mO.os)<|(mO.gens.setIfInBounds s0.gens.size .running).setIfInBounds s0.gens.size gs') (show oX C.env.scope ["pos","ch"] [.int i,.str ⟨#[c]⟩] m7=some (.ok (),st1)from by exact vY▸e1) λU Ft vX Hq U Ez B3 zS=>?_;refine Sd.GY B (λh' B'=>vQ Wp nA true (C.at h') (k7.le B' (by simp)) (λq=>by injection q) vX Ft st1) Ez (vY▸e2) λf RO sy GR hf Kq Oa DI=>?_;subst hf;have oM:=λb hb o e h1 h2=>by have W:=At.away b hb;have zY:=zS b o (k5 b o e) W.r W.l (W.aas B) h1 h2;exact DI b o zY.1 zY.2 W.l (W.aas B) h1 h2
  have solid:∀b∈[env.locals,I,I+1],∀o,sI.get? b=some o->RO.heap.get? b=some o/\b∉sy:=λb hb o e=>by obtain⟨o',e',sD⟩:=aat b hb;replace e':=e▸e';obtain rfl:=aA e';exact oM b (.tail _ hb) o e sD.1 sD.2
  have nO:=oM ga (.head _) og (kk ga og RV Oe.1) (λu q=>by replace q:=Oe.2.2.1▸q;injection q)<|.inl ⟨_,Oe.2.1⟩;obtain⟨l6,lW⟩:=B3.gn;obtain⟨l7,q9⟩:=Oa.gn;refine⟨x.cps.size-(i+1),by omega,i+1,sy,st2,rfl,(lk<|aN hi),oN.trans<|Hq.trans GR,⟨Kq,⟨gs',l++l6++l7,?_,λy hy=>?_,?_⟩,Oa.os.trans<|B3.os.trans At.os,Oa.dr.trans<|B3.dr.trans At.dr,bC At.tk<|bC xX<|bC B3.tk Oa.tk,⟨og,vg,nO.1,Oe.2.1,Oe.2.2.1,?_⟩,λb hb=>?_⟩,e3⟩
  .simp[q9.1,lW.1];simp only[Zd.1,Up];simp[fS]
  .rcases aO.mp hy with hy|hy
   .rcases aO.mp hy with hy|hy
    .exact Zd.2.1 y hy
    .exact lW.2.1 y hy
   .exact q9.2.1 y hy
  .exact(show x.cps.size-(i+1)=m' by omega)▸(Sj _ (λb hb o e=>(solid b hb o e).1) (B.top.keep Kq.sim.keep B.hi) Kq.tk)
  .obtain⟨o',nm,qn,rA,r'⟩:=Oe.2.2.2;replace rA:=Oe.1▸rA;injection rA with q_;subst q_
   exact⟨og,nm,qn,nO.1,r'⟩
  .have W:=At.away b hb;refine⟨?_,W.l,W.h,W.c⟩;rcases aK.mp hb with rfl|hb
   .exact nO.2
   .obtain⟨o',q8⟩:=aat b hb;exact(solid b hb o' q8.1).2
 .obtain⟨hz,sI,Bp,rfl,aip⟩:=hP;intro xX;exists _;have hje:j=x.cps.size:=by grind
  subst hje;rw[iJ<|by simp[items]]at pU;rcases pU with _|_;have G':=oA.frame (t:=Bp) B ⟨λb o eb=>⟨o,(λb o hb e=>hk b o (aip b o (λq=>hb<|q▸.head _) (λq=>hb<|.tail _ q) e):∀b o,b∉[env.locals,I,I+1]->mO.heap.get? b=some o->h'.get? b=some o) b o (λhm=>by replace eb:=(eM _ hm)▸eb;rcases eb with _|_)<|dS _ eb,.refl _ _⟩,λf hf o eb=>(B.cls oA) f hf o<|dS _ eb⟩ At.tg (by have:=oA.tk;have:mO.toks<=Bp:=xX;lia);refine k9<|wpAny_execs_nil<|kQ _ _ ⟨(),nF,rfl,oN,rfl,⟨G'.sim,G'.fr,G'.tk⟩,⟨At.os,At.dr,bC At.tk xX,?_⟩⟩;refine⟨.finished::l,?_,λy hy=>?_,λq=>absurd L.mg q⟩
  .show((mO.gens.setIfInBounds _ _).setIfInBounds _ _)=_;simp only[Zd.1,Up]
  .rcases aK.mp hy with rfl|hy
   .rfl
   .exact Zd.2.1 y hy
theorem IG:Bl.names.lookup ("addr" :Str)=some .local/\Bl.names.lookup ("_iter_escaped_chars" :Str)=some .globalImplicit/\Bl.kind=.function:=by refine⟨by rfl',by rfl',by rfl'⟩
def VY(P:Params)(fd:FuncData):Bool:=fd.scope==kh&&!fd.scope.isCoroutine&&fd.scope.isGenerator&&fd.closure.isEmpty&&D1 (m5 P) fd&&fd.globals==mainGlobals&&fd.builtins==builtinsNs
theorem adA(P):(uS (m5 P) 51).map (VY P)=some true:=by rfl'
theorem IS(P):(uS (m5 P) 51).map (·.body)=some (.stmts jj):=by rfl'
theorem KL(P)(v):(uS (m5 P) 51).map (λfd=>peek (m5 P) ⟨PG,P⟩<|bindArgs fd ⟨[v],[]⟩)=some (some [(("addr" :Str),v)]):=by rfl'
theorem LG:zB "_iter_escaped_chars" =some (.top 51):=by rfl'
inductive F51(w:World):Prop
 |mk (o:Obj) (fd:FuncData) (ho:(KF w).lookup 51=some o) (hd:o.data=.func fd) (sc:fd.scope=kh) (co:fd.scope.isCoroutine=false) (gn:fd.scope.isGenerator=true) (cl:fd.closure=[]) (cd:D1 (KF w) fd=true) (gl:fd.globals=mainGlobals/\fd.builtins=builtinsNs) (bd:fd.body=.stmts jj) (bn:∀v,peek (KF w) ⟨PG,w.params⟩ (bindArgs fd ⟨[v],[]⟩)=some [(("addr" :Str),v)])
set_option tactic.hygienic true in
theorem f51(w):F51 w:=by
 exists w,[];exists fd,(q_:a9.mp<|adA w.params);obtain⟨hf,hk⟩:=q_;have hb:=IS w.params;have hv:=λv=>KL w.params v;rw[hf]at hb;rw[hf]at hv;unfold VY at hk;simp only[aQ,a5,dA,cI]at hk;obtain⟨⟨⟨⟨⟨⟨h1,h2⟩,h3⟩,h4⟩,h5⟩,h6⟩,h7⟩:=hk;unfold uS at hf;split at hf
 .rename_i o ho;split at hf
  .rename_i fd' hd;cases hf;exact⟨o,_,ho,hd,h1,h2,h3,h4,h5,⟨h6,h7⟩,aA hb,λv=>aA<|hv v⟩
  .exact nn hf
 .exact nn hf
open Classical in
theorem Qp:Aj 6:=by
 exists C;intro B L;exists t,ρ,s,st;unfold Gf;induction Je t with
 |false=>exact Sd.nil
 |true=>
 by_cases he:t=r8/\C.env.scope=Bl;rotate_left
 .rw[aL he];exact Sd.nil
 rw[aH he];obtain⟨rfl,vY⟩:=he;refine Sd.m3 λv hv=>Sd.m3 λx hx=>Sd.iff λhc=>?_;exists v,x,[hv,hx,hc];have lW:=hc;obtain rfl:v=.str x:=by induction v<;>first|(obtain rfl:=aA hx;rfl)|rcases hx with _|_
 refine cs▸?_;refine Sd.qe ?_;intro G;exists r,Fu;intro ef;exists Q,E;intro kQ kE;refine wpAny_For ?_ λU=>rfl;have q9:=IG;have T:=B.top.keep G.sim.keep B.hi;have w7:=sV T.K;have hd:=B.dp;have hu:=B.un;exists m,(q8:G.fr.ns);have hkx:C.env.kindOf "addr" =some .local:=by exact(vY▸q9.1:C.env.scope.names.lookup _=_)
 have hkf:C.env.scope.kind=.function:=by exact vY▸q9.2.2
 have UC:=q8.2 "addr" hkx;have UC:=hv▸UC;cases em:m "addr" with
 |none=>simp only[em]at UC;exact UC.elim
 |some y=>
 exists y,_;simp only[em]at UC;exists t,(q_:UC);obtain rfl:=q_;obtain⟨o,fd,ho,aaw,hs,hco,hgn,E3,Yv,Ot,hbd,hbn⟩:=f51 C.w;exists o,fd,_;refine Call_Name rfl<|eC hkf (vY▸q9.2.1:C.env.scope.names.lookup _=_) (J5 (ρ:=[]) B.gl T LG λy hy=>?_)<|rfl;subst hy;refine callWith_def aaw<|iD<|(λQ' E' q=>iS (fD hkf hkx q8.1 em q) (by decide):∀Q' E',Q' (.str x t) s->wpAny (model PG C.w) C.A (eval (.Name "addr" ⟨26,39,26,43⟩) C.env) Q' E' s) _ _<|iO ⟨T.K _ _ ho,?_⟩;refine eJ<|codeAny_call_generator (bP hd) (T.K _ _ ho) aaw hco hgn hbd (qO T.K Yv) ?_;refine(cZ T.K<|hbn _).here ?_;have nm:∀y∈fd.scope.names,y.2≠.cell/\y.2≠.free:=by rw[hs];have:=Fz;simpa[aX]using this
 refine fF (λy hy=>(nm y hy).1) (λy hy=>by rw[aE]at hy;subst hy;exact hs▸rfl) (λh' Bw Ff=>?_) (by rw[hs];rfl);exists h',_;have SP:h'.objs.size=s.heap.objs.size+1:=by simp only[Ff.1,dI]
 have kp:=λb o e=>Ff.extBut b o (bI<|b9 e)<|aZ _ e;refine⟨T.lim.keeps kp,?_⟩;refine wpAny_pyIter_gen (g:=s.gens.size) ⟨_,_,_,bT _ rfl,rfl,rfl,rfl⟩ ?_;generalize th:newEnv fd.scope s.heap.objs.size fd.globals fd.closure (fd.qualname++ ".<locals>.") (some 51) fd.code Option.none fd.builtins=env;have g:GE env:=⟨by exact th▸hs,by exact th▸Ot,λy=>by rw[<-th];refine a6 (aV _ E3) ?_;rfl,by exact th▸w7⟩;have hC0:env.locals=s.heap.objs.size:=by rw[<-th];rfl
 have G5:=G.ext (h':=h'.push {cls:=.type "generator",data:=.fields #[.int s.gens.size 0,.str fd.name<|s.toks+1,.str fd.qualname<|s.toks+1+1]}) (λb o e=>aZ _<|kp b o e) 3;refine bg B L vY (eE<|eE w7) g.lo ?_ kQ kE (a8 _) ?_ ef
 .rw[hC0,SP];intro hm;rcases aK.mp hm with q|hm
  .exact kF _ q
  .rcases aK.mp hm with q|hm
   .exact bI (dX _) q
   .exact bI (gC<|dX _) (aE.mp hm)
 .refine⟨⟨G5.sim,G5.fr,G5.tk⟩,⟨.fresh<|.func jj env,[],rfl,λy hy=>absurd hy<|bG,rfl,?_⟩,rfl,rfl,?_,?_,?_⟩
  .refine vh lW.1 g (eE<|eE w7) (hC0▸(gC<|dX _)) L.hh (lk hd) (by lia) (T.low λb o U e=>aZ _<|kp b o e) (Nat.succ_ne_zero _) (hC0▸(Bw.push _)) (λy U=>pS (l:=[(("addr"),V.str x)]) (.cons ⟨rfl,t,rfl⟩ .nil) y) (by show(h'.push _).objs.size=_;rw[dI,SP])
  .exact aT s.toks 3
  .exact⟨_,_,bT _ rfl,rfl,rfl,⟨_,_,_,bT _ rfl,rfl,rfl,rfl⟩⟩
  .exists b;intro hb;replace hb:=hC0▸SP▸hb;refine(λi hi=>.of_none G<|cB hi) b ?_;rcases aK.mp hb with rfl|hb
   .exact dM _
   .rcases aK.mp hb with rfl|hb
    .exact aI _
    .rcases aK.mp hb with rfl|hb
     .exact aT _ 2
     .rw[aE]at hb;subst hb;exact aT _ 3
abbrev EF:=St->lG V
abbrev TF:=St->lG Bool
abbrev SF:=St->lG Fl
def WN:SF:=λU=>none
def nx:SF:=λst=>some (.ok .next,st)
def bk:SF:=λst=>some (.ok .brk,st)
def cn:SF:=λst=>some (.ok .cont,st)
def lo(x:Str)(st:St):lG V:=pE st<|st.loc.lookup x
def ct(v:V)(st:St):lG V:=some (.ok v,st)
def qG(x:Str)(v:V)(st:St):lG Unit:=some (.ok (),{st with loc:=put x v st.loc})
def vd(sc:Scope)(l:List Str)(k:Nat)(v:V)(st:St):lG Unit:=(pE st<|qV v k st.H).then λvs st=>oX sc l vs st
def AV(v:V)(x:Str)(H:Hp):Option<|oV V×Hp:=(zF v x H).or<|attrL v x H
def N0(fu n:Nat)(v:V)(x:Str)(H:Hp):Option<|oV V×Hp:=((zF v x H).or<|attrL v x H).or<|Zp (lF fu n) fu v x H
def Fp(v:V)(x:Str)(H:Hp):Option<|V×List V:=(wY v x H).or<|(mh v x H).or<|fg v x
def Xh(a:V)(H:Hp):Option Bool:=(Mf a H).or<|KI a H
def pP(op:CmpOp)(a b:V)(H:Hp):Option V:=(y4 op a b H).or<|PP op a b
section
variable(fu n:Nat)(a b c k:EF)
def al(x:Str):EF:=λst=>(a st).then λv st=>mV st<|N0 fu n v x st.H
def ab(x:Str):EF:=λst=>(a st).then λv st=>mV st<|AV v x st.H
def bx(op:BoolOp):EF:=λst=>(a st).then λv st=>(pE st<|Xh v st.H).then λt st=>bif ud op t then some (.ok v,st)else b st
def un(op:UnaryOp):EF:=λst=>(a st).then λv st=>pE st<|AE op v st.H
def bn(op:Operator):EF:=λst=>(a st).then λu st=>(b st).then λv st=>rD st<|Qs op u v st.H
def cm(op:CmpOp):EF:=λst=>(a st).then λu st=>(b st).then λv st=>pE st<|pP op u v st.H
def ix(t:TF):EF:=λst=>(t st).then λc st=>bif c then a st else b st
def nm(x:Str):EF:=λst=>(a st).then λv st=>(qG x v st).then λU st=>some (.ok v,st)
def Kd:List EF->St->lG (List V)
 |[],st=>some (.ok [],st)
 |e::r,st=>(e st).then λv st=>(Kd r st).then λvs st=>some (.ok (v::vs),st)
def ls(es:List EF):EF:=λst=>(Kd es st).then λvs st=>if vs.length<1000 then tT (.list vs) st else none
def tp(es:List EF):EF:=λst=>(Kd es st).then λvs st=>if vs.length<1000 then tT (.tuple vs) st else none
def sl:EF:=λst=>(a st).then λo st=>(b st).then λl st=>(c st).then λu st=>(k st).then λs st=>if Ee o st.H=true then rD st (n7 o l u s st.H)else none
def sb:EF:=λst=>(a st).then λo st=>(b st).then λi st=>if Ee o st.H=true then mV st (uM o i st.H)else none
def ml(x:Str)(as:List EF):EF:=λst=>(a st).then λv st=>(pE st<|Fp v x st.H).then λf st=>((Kd as st).then λvs st=>lG.then (some (.ok ([]:List<|Str×V),st)) λkv st=>(some (.ok (vs,kv),st):lG<|List V×List (Str×V))).then λw st=>if(Wt f.1 st.H||EM f.1 st.H)=true then mV st (lS (lF fu n) fu f.1 (f.2++w.1) w.2 st.H)else none
def mq(x:Str)(as:List EF):EF:=λst=>(a st).then λv st=>(pE st<|Fp v x st.H).then λf st=>((Kd as st).then λvs st=>lG.then (some (.ok ([]:List<|Str×V),st)) λkv st=>(some (.ok (vs,kv),st):lG<|List V×List (Str×V))).then λw st=>if Wt f.1 st.H=true then mV st (nC f.1 (f.2++w.1) w.2 st.H)else none
def cl(as:List EF):EF:=λst=>(a st).then λf st=>((Kd as st).then λvs st=>lG.then (some (.ok ([]:List<|Str×V),st)) λkv st=>(some (.ok (vs,kv),st):lG<|List V×List (Str×V))).then λw st=>if(Wt f st.H||EM f st.H)=true then mV st (lS (lF fu n) fu f w.1 w.2 st.H)else none
def cq(as:List EF):EF:=λst=>(a st).then λf st=>((Kd as st).then λvs st=>lG.then (some (.ok ([]:List<|Str×V),st)) λkv st=>(some (.ok (vs,kv),st):lG<|List V×List (Str×V))).then λw st=>if Wt f st.H=true then mV st (nC f w.1 w.2 st.H)else none
def rp(x y:Str):EF:=λst=>(a st).then λv st=>mV st<|vS (λz H=>gv ((x==y)=false/\z.length+(z.length+1)*y.length<=16777216) (.str<|Txt.replace z x y) H) v st.H
def rpl(x y:Str):EF:=λst=>(rp a x y st).or none
def Zm(x:Str):EF:=λst=>((a st).then λv st=>(yJ x st.H v).bind λi=>(En x).bind λf=>(tT (.bound f<|.ref i) st).then λb' st=>(b st).then λa st=>(DY st.H a).bind λl=>(YN st.H b').bind λm=>if l.2.length<big/\(m.2.1=124\/m.2.1=157)then mV st (rL (lF fu n) fu m.2.1 (m.2.2::l.2) st.H)else none).or none
def te:TF:=λst=>(a st).then λv st=>pE st<|Xh v st.H
def tk(op:BoolOp):TF:=λst=>some (.ok<|op==.And,st)
def tb(op:BoolOp)(t u:TF):TF:=λst=>(t st).then λb st=>bif ud op b then some (.ok b,st)else u st
def tc(op:CmpOp):TF:=λst=>(cm a b op st).then λc st=>pE st<|Xh c st.H
def nB(j:Nat):rB:=λst=>(wT st.loc<|a st).bind λp=>(Ab j p.1 p.2).bind λH=>some ⟨H,st.loc⟩
def q0(t:TF)(leaf:rB):rB:=λst=>(wT st.loc<|t st).bind λp=>bif p.1 then leaf ⟨p.2,st.loc⟩else some ⟨p.2,st.loc⟩
def y6(x:Str)(v:V)(st:St):Option Loc:=some<|put x v st.loc
def AL(xs:List Str)(k:Nat)(v:V)(st:St):Option Loc:=(qV v k st.H).bind λvs=>Ni xs vs st.loc
def Dm(Zb:V->St->Option Loc)(leaf:rB):rB:=λst=>(wT st.loc<|a st).bind λp=>(lZ p.1 p.2).bind λxs=>pJ (lZ p.1) xs Zb leaf xs.2 ⟨p.2,st.loc⟩
def oF(rs:Scope)(Zb:V->St->Option Loc)(turn:Nat->rB):EF:=λst=>(wT st.loc<|a st).bind λp=>(lZ p.1 p.2).bind λxs=>(pJ (lZ p.1) xs Zb (turn p.2.length) xs.2 ⟨p.2++[.list []],Ku rs st.loc⟩).bind λk6=>some (.ok<|.ref p.2.length,⟨k6.H,st.loc⟩)
def sa(x:Str)(v:V)(st:St):lG Unit:=(a st).then λo st=>rD st<|(qC o x v st.H).map λh=>((),h)
def ss(v:V)(st:St):lG Unit:=(a st).then λo st=>(b st).then λi st=>rD st<|(qY o i v st.H).map λh=>((),h)
def sq(s r:SF):SF:=λst=>(s st).then<|kl r
def xp:SF:=λst=>(a st).then λU st=>some (.ok .next,st)
def rt:SF:=λst=>(a st).then λv st=>some (.ok<|.ret v,st)
def pH(t:V->St->lG Unit):SF:=λst=>(a st).then λv st=>(t v st).then λU st=>some (.ok .next,st)
def as2(t u:V->St->lG Unit):SF:=λst=>(a st).then λv st=>(t v st).then λU st=>(u v st).then λU st=>some (.ok .next,st)
def UV(op:Operator)(x:Str)(b:EF):SF:=λst=>(a st).then λo st=>(mV st<|N0 fu n o x st.H).then λu st=>(b st).then λv st=>(rD st<|Ge op u v st.H).then λc st=>(rD st<|(qC o x c st.H).map λh=>((),h)).then λU st=>some (.ok .next,st)
def fi(t:TF)(s r:SF):SF:=λst=>(t st).then λc st=>bif c then s st else r st
def fr(x:Str)(s:SF):SF:=λst=>(a st).then λv st=>(lZ v st.H).bind λxs=>Cw (lZ v) xs (qG x) s xs.2 st
def us(s:St->lG Unit):SF:=λst=>(s st).then λU st=>some (.ok .next,st)
def Rr(s:SF)(T:Str)(h:SF):SF:=λst=>wm (s st) λc st=>if vi c T=true then Cu (h st)else none
def rz(c:V):SF:=λst=>some (.exc c,st)
def rzc(as:List EF):SF:=λst=>lG.then ((Kd as st).then λvs st=>if vs.length<big then(some (.exc<|.top 92,st):lG Unit)else none) λU st=>none
def dl:SF:=λst=>(a st).then λo st=>(b st).then λi st=>(rD st<|(vM o i st.H).map λh=>((),h)).then λU st=>some (.ok .next,st)
end
section
variable(fu n:Nat)
def VD(fu n:Nat):SF:=rt<|lo "addr"
def FK:SF:=xp<|ml fu n (lo "result") "append" [sl (lo "addr") (lo "start") (ct .none)<|ct .none]
def FQ:SF:=rt<|ml fu n (ct<|.str "") "join" [lo "result"]
def FH:SF:=sq (fi (tc (lo "start") (cl fu n (ct<|.bi "len") [lo "addr"]) .Lt) (FK fu n) nx)<|FQ fu n
def VR:SF:=sq (us<|Gf Bl r8)<|FH fu n
def XX:SF:=sq (pH (ls [])<|qG "result")<|VR fu n
def UQ:SF:=sq (pH (ct .none)<|qG "open_pos")<|XX fu n
def XO:SF:=sq (pH (ct<|.int 0)<|qG "start")<|UQ fu n
def Vq:SF:=sq (fi (tc (ct<|.str "\"") (lo "addr") .NotIn) (VD fu n) nx)<|XO fu n
def WJ(fu n:Nat):SF:=pH (ls [])<|sa (lo "self") "successors"
def VE:SF:=sq (pH (ct<|.int 0)<|sa (lo "self") "npredecessors")<|WJ fu n
def ti:SF:=sq (pH (lo "node")<|sa (lo "self") "node")<|VE fu n
def KS(fu n:Nat):SF:=WN
def HK:SF:=fi (tc (lo "graph") (ct .none) .IsNot) (KS fu n) nx
def PM:SF:=sq (pH (ct<|.int 0)<|sa (lo "self") "_nfinished")<|HK fu n
def OL:SF:=sq (pH (ct<|.int 0)<|sa (lo "self") "_npassedout")<|PM fu n
def QZ:SF:=sq (pH (ct .none)<|sa (lo "self") "_ready_nodes")<|OL fu n
def Sk:SF:=sq (pH (tT<|.dict [])<|sa (lo "self") "_node2info")<|QZ fu n
def PX:SF:=as2 (cl fu n (ct<|.top 77) [lo "node"]) (ss (al fu n (lo "self") "_node2info")<|lo "node")<|qG "result"
def QG(fu n:Nat):SF:=rt<|lo "result"
def Ky:SF:=sq (fi (tc (nm (ml fu n (al fu n (lo "self") "_node2info") "get" [lo "node"]) "result") (ct .none) .Is) (PX fu n) nx)<|QG fu n
def JP(fu n:Nat):SF:=rz<|.ty "ValueError"
def IE:SF:=xp<|ml fu n (al fu n (lo "pred_info") "successors") "append" [lo "node"]
def J9:SF:=sq (pH (ml fu n (lo "self") "_get_nodeinfo" [lo "pred"])<|qG "pred_info")<|IE fu n
def HZ:SF:=fr (lo "predecessors") "pred"<|J9 fu n
def LD:SF:=sq (UV fu n (lo "nodeinfo") .Add "npredecessors"<|cl fu n (ct<|.bi "len") [lo "predecessors"])<|HZ fu n
def NR:SF:=sq (pH (ml fu n (lo "self") "_get_nodeinfo" [lo "node"])<|qG "nodeinfo")<|LD fu n
def Sl:SF:=sq (fi (tc (al fu n (lo "self") "_ready_nodes") (ct .none) .IsNot) (JP fu n) nx)<|NR fu n
def Tv:Scope:=⟨.function,[(".0",.local),("i",.local)],false,false,[]⟩
def KV(fu n:Nat):SF:=rz<|.ty "ValueError"
def QC(fu n:Nat):SF:=rzc [ct<|.str "nodes are in a cycle",lo "cycle"]
def ny:SF:=fi (te<|lo "cycle") (QC fu n) nx
def MC:SF:=sq (pH (ml fu n (lo "self") "_find_cycle" [])<|qG "cycle")<|ny fu n
def HN:SF:=sq (pH (oF (mq (ab (lo "self") "_node2info") "values" []) Tv (y6 "i") λj=>q0 (tc (ab (lo "i") "npredecessors") (ct<|.int 0) .Eq)<|nB (ab (lo "i") "node") j)<|sa (lo "self") "_ready_nodes")<|MC fu n
def Sm:SF:=sq (fi (tc (al fu n (lo "self") "_ready_nodes") (ct .none) .IsNot) (KV fu n) nx)<|HN fu n
def LL(fu n:Nat):SF:=rz<|.ty "ValueError"
def qk(fu n:Nat):SF:=pH (ct<|.int (-1))<|sa (sb (lo "n2i")<|lo "node") "npredecessors"
def KU(fu n:Nat):SF:=rt<|lo "result"
def MH:SF:=sq (UV fu n (lo "self") .Add "_npassedout"<|cl fu n (ct<|.bi "len") [lo "result"])<|KU fu n
def OR:SF:=sq (xp<|ml fu n (al fu n (lo "self") "_ready_nodes") "clear" [])<|MH fu n
def JG:SF:=sq (fr (lo "result") "node"<|qk fu n)<|OR fu n
def MD:SF:=sq (pH (al fu n (lo "self") "_node2info")<|qG "n2i")<|JG fu n
def IR:SF:=sq (pH (cl fu n (ct<|.ty "tuple") [al fu n (lo "self") "_ready_nodes"])<|qG "result")<|MD fu n
def Sn:SF:=sq (fi (tc (al fu n (lo "self") "_ready_nodes") (ct .none) .Is) (LL fu n) nx)<|IR fu n
def PO(fu n:Nat):SF:=rz<|.ty "ValueError"
def NC:SF:=rt<|bx (cm (al fu n (lo "self") "_nfinished") (al fu n (lo "self") "_npassedout") .Lt) (cl fu n (ct<|.ty "bool") [al fu n (lo "self") "_ready_nodes"]) .Or
def So:SF:=sq (fi (tc (al fu n (lo "self") "_ready_nodes") (ct .none) .Is) (PO fu n) nx)<|NC fu n
def IK(fu n:Nat):SF:=rz<|.ty "ValueError"
def MS(fu n:Nat):SF:=WN
def LE(fu n:Nat):SF:=WN
def AG(fu n:Nat):SF:=WN
def wb(fu n:Nat):SF:=WN
def xq:SF:=fi (tc (lo "stat") (ct<|.int (-2)) .Eq) (AG fu n)<|wb fu n
def NV:SF:=fi (tc (lo "stat") (ct<|.int 0) .GtE) (LE fu n)<|xq fu n
def AP:SF:=xp<|ml fu n (al fu n (lo "self") "_ready_nodes") "append" [lo "successor"]
def T8:SF:=fi (tc (al fu n (lo "successor_info") "npredecessors") (ct<|.int 0) .Eq) (AP fu n) nx
def BJ:SF:=sq (UV fu n (lo "successor_info") .Sub "npredecessors"<|ct<|.int 1)<|T8 fu n
def Cq:SF:=sq (pH (sb (lo "n2i")<|lo "successor")<|qG "successor_info")<|BJ fu n
def zz:SF:=UV fu n (lo "self") .Add "_nfinished"<|ct<|.int 1
def za:SF:=sq (fr (al fu n (lo "nodeinfo") "successors") "successor"<|Cq fu n)<|zz fu n
def wv:SF:=sq (pH (ct<|.int (-2))<|sa (lo "nodeinfo") "npredecessors")<|za fu n
def HJ:SF:=sq (fi (tc (lo "stat") (ct<|.int (-1)) .NotEq) (NV fu n) nx)<|wv fu n
def PW:SF:=sq (pH (al fu n (lo "nodeinfo") "npredecessors")<|qG "stat")<|HJ fu n
def Jb:SF:=sq (fi (tc (nm (ml fu n (lo "n2i") "get" [lo "node"]) "nodeinfo") (ct .none) .Is) (MS fu n) nx)<|PW fu n
def QE:SF:=fr (lo "nodes") "node"<|Jb fu n
def MY:SF:=sq (pH (al fu n (lo "self") "_node2info")<|qG "n2i")<|QE fu n
def Sp:SF:=sq (fi (tc (al fu n (lo "self") "_ready_nodes") (ct .none) .Is) (IK fu n) nx)<|MY fu n
def NS(fu n:Nat):SF:=sq cn nx
def Jr(fu n:Nat):SF:=rt<|bn (sl (lo "stack") (sb (lo "node2stacki")<|lo "node") (ct .none)<|ct .none) (ls [lo "node"]) .Add
def To:SF:=fi (tc (lo "node") (lo "node2stacki") .In) (Jr fu n) nx
def yq:SF:=xp<|ml fu n (lo "stack") "append" [lo "node"]
def ze:SF:=sq (pH (cl fu n (ct<|.bi "len") [lo "stack"])<|ss (lo "node2stacki")<|lo "node")<|yq fu n
def yh:SF:=sq (xp<|ml fu n (lo "itstack") "append" [al fu n (cl fu n (ct<|.bi "iter") [al fu n (sb (lo "n2i")<|lo "node") "successors"]) "__next__"])<|ze fu n
def Jh:SF:=sq (xp<|ml fu n (lo "seen") "add" [lo "node"])<|yh fu n
def vc(fu n:Nat):SF:=sq bk nx
def zy:SF:=sq (pH (cl fu n (sb (lo "itstack")<|un (ct<|.int 1) .USub) [])<|qG "node")<|vc fu n
def BB(fu n:Nat):SF:=xp<|mq (lo "itstack") "pop" []
def BV:SF:=sq (dl (lo "node2stacki")<|mq (lo "stack") "pop" [])<|BB fu n
def Ke:SF:=Rr (zy fu n) "StopIteration"<|BV fu n
def vy(fu n:Nat):SF:=sq bk nx
def Uj:SF:=qP (te<|lo "stack") (Ke fu n) (vy fu n) fu
def nl:SF:=sq (fi (tc (lo "node") (lo "seen") .In) (To fu n)<|Jh fu n)<|Uj fu n
def oj:SF:=qP (te<|ct<|.bool true) (nl fu n) nx fu
def Zz:SF:=sq (fi (tc (lo "node") (lo "seen") .In) (NS fu n) nx)<|oj fu n
def zu(fu n:Nat):SF:=rt<|ct .none
def bt:SF:=sq (fr (lo "n2i") "node"<|Zz fu n)<|zu fu n
def HI:SF:=sq (pH (tT<|.dict [])<|qG "node2stacki")<|bt fu n
def IQ:SF:=sq (pH (cl fu n (ct<|.ty "set") [])<|qG "seen")<|HI fu n
def QY:SF:=sq (pH (ls [])<|qG "itstack")<|IQ fu n
def IZ:SF:=sq (pH (ls [])<|qG "stack")<|QY fu n
def Sq:SF:=sq (pH (al fu n (lo "self") "_node2info")<|qG "n2i")<|IZ fu n
def Sr(fu n:Nat):SF:=rt λst=>Ha qg Hj st
def Tr:Scope:=⟨.function,[(".0",.local),("x",.local),("pieces",.cell)],false,false,[]⟩
def Us:Scope:=⟨.function,[(".0",.local),("k",.local),("words",.cell)],false,false,[]⟩
def NM(fu n:Nat):SF:=rt<|oF (cq (ct<|.ty "range") [ct<|.int 0,cq (ct<|.bi "len") [lo "words"],ct<|.int 3]) Us (y6 "k") λj=>nB (sl (lo "words") (lo "k") (bn (lo "k") (ct<|.int 3) .Add)<|ct .none) j
def NZ:SF:=sq (pH (oF (sl (lo "script") (ct .none) (ct<|.int 12)<|ct .none) Tr (y6 "x") λj=>nB (bn (sb (lo "pieces")<|bn (lo "x") (ct<|.int 6) .Mod) (sb (lo "pieces")<|bn (bn (lo "x") (ct<|.int 6) .FloorDiv) (ct<|.int 6) .Mod) .Add) j)<|qG "words")<|NM fu n
def Ss:SF:=sq (pH (ls [ct<|.str "a",ct<|.str "b",ct<|.str "'",ct<|.str "\"",ct<|.str " ",ct<|.str ""])<|qG "pieces")<|NZ fu n
def Uz:Scope:=⟨.function,[(".0",.local),("sign",.local)],false,false,[]⟩
def Vb:Scope:=⟨.function,[(".0",.local),("sign",.local)],false,false,[]⟩
def ID:SF:=xp<|ml fu n (lo "written") "append" [lo "word"]
def JV:SF:=xp<|ml fu n (lo "written") "append" [bn (bn (ct<|.str "'") (ml fu n (ct<|.str "") "join" [lo "inner"]) .Add) (ct<|.str "'") .Add]
def jo:SF:=sq (pH (oF (lo "word") Uz (y6 "sign") λj=>nB (ix (ct<|.str "'\"'\"'") (lo "sign")<|tc (lo "sign") (ct<|.str "'") .Eq) j)<|qG "inner")<|JV fu n
def O6:SF:=fi (tb .And (tc (lo "word") (ct<|.str "") .NotEq)<|tb .And (tc (oF (lo "word") Vb (y6 "sign") λj=>q0 (tc (lo "sign") (ct<|.str "ab") .NotIn)<|nB (lo "sign") j) (ls []) .Eq)<|tk .And) (ID fu n)<|jo fu n
def OW:SF:=rt<|ml fu n (ct<|.str " ") "join" [lo "written"]
def KB:SF:=sq (fr (lo "words") "word"<|O6 fu n)<|OW fu n
def Su:SF:=sq (pH (ls [])<|qG "written")<|KB fu n
def U4:Scope:=⟨.function,[(".0",.local),("part",.local)],false,false,[]⟩
def NL(fu n:Nat):SF:=rt<|ct .none
def JW(fu n:Nat):SF:=rt<|ct .none
def KK(fu n:Nat):SF:=pH (rpl (sb (lo "strands")<|lo "k") " " "\n")<|ss (lo "strands")<|lo "k"
def Io:SF:=sq (fi (tc (ct<|.str "\"") (sb (lo "strands")<|lo "k") .In) (JW fu n) nx)<|KK fu n
def P7(fu n:Nat):SF:=rt<|oF (mq (mq (ct<|.str "'") "join" [lo "strands"]) "split" [ct<|.str "\n"]) U4 (y6 "part") λj=>q0 (tc (lo "part") (ct<|.str "") .NotEq)<|nB (rp (lo "part") "'" "") j
def PY:SF:=sq (fr (cl fu n (ct<|.ty "range") [ct<|.int 0,cl fu n (ct<|.bi "len") [lo "strands"],ct<|.int 2]) "k"<|Io fu n)<|P7 fu n
def RA:SF:=sq (fi (tc (bn (cl fu n (ct<|.bi "len") [lo "strands"]) (ct<|.int 2) .Mod) (ct<|.int 0) .Eq) (NL fu n) nx)<|PY fu n
def Kz:SF:=sq (pH (ml fu n (lo "line") "split" [ct<|.str "'"])<|qG "strands")<|RA fu n
def x9:Scope:=⟨.function,[(".0",.local),("row",.local),("need",.local)],false,false,[]⟩
def Un:Scope:=⟨.function,[(".0",.local),("k",.local),("edges",.cell),("name",.cell)],false,false,[]⟩
def Kb:Scope:=⟨.function,[(".0",.local),("k",.local),("edges",.cell),("order",.cell)],false,false,[]⟩
def Ja:Scope:=⟨.function,[(".0",.local),("k",.local),("edges",.cell),("order",.cell)],false,false,[]⟩
def Tq:Scope:=⟨.function,[(".0",.local),("last",.local),("place",.local),("name",.local)],false,false,[]⟩
def LU:SF:=xp<|ml fu n (lo "names") "append" [lo "name"]
def ck:SF:=fi (tc (lo "name") (lo "names") .NotIn) (LU fu n) nx
def P9:SF:=fr (lo "row") "name"<|ck fu n
def yx(fu n:Nat):SF:=sq cn nx
def xw:SF:=xp<|ml fu n (lo "ready") "append" [tp [lo "last",ml fu n (lo "names") "index" [lo "name"],lo "name"]]
def xj:SF:=sq (pH (cl fu n (ct<|.bi "max") [bn (ls [tp [un (ct<|.int 1) .USub,un (ct<|.int 1) .USub]]) (oF (lo "mine") Ja (y6 "k") λj=>nB (tp [mq (lo "order") "index" [sb (sb (lo "edges")<|lo "k")<|ct<|.int 1],lo "k"]) j) .Add])<|qG "last")<|xw fu n
def zn:SF:=sq (fi (tb .Or (tc (lo "name") (lo "order") .In)<|tb .Or (tc (oF (lo "mine") Kb (y6 "k") λj=>q0 (tc (sb (sb (lo "edges")<|lo "k")<|ct<|.int 1) (lo "order") .NotIn)<|nB (lo "k") j) (ls []) .NotEq)<|tk .Or) (yx fu n) nx)<|xj fu n
def Cj:SF:=sq (pH (oF (cq (ct<|.ty "range") [cq (ct<|.bi "len") [lo "edges"]]) Un (y6 "k") λj=>q0 (tc (sb (sb (lo "edges")<|lo "k")<|ct<|.int 0) (lo "name") .Eq)<|nB (lo "k") j)<|qG "mine")<|zn fu n
def uu:SF:=rt<|tp [lo "rounds",cm (cl fu n (ct<|.bi "len") [lo "order"]) (cl fu n (ct<|.bi "len") [lo "names"]) .Lt]
def AB:SF:=xp<|ml fu n (lo "order") "extend" [sb (lo "rounds")<|un (ct<|.int 1) .USub]
def BN:SF:=sq (xp<|ml fu n (lo "rounds") "append" [oF (cq (ct<|.bi "sorted") [lo "ready"]) Tq (AL ["last","place","name"] 3) λj=>nB (lo "name") j])<|AB fu n
def CR:SF:=sq (fi (tc (lo "ready") (ls []) .Eq) (uu fu n) nx)<|BN fu n
def ya:SF:=sq (fr (lo "names") "name"<|Cj fu n)<|CR fu n
def Jf:SF:=sq (pH (ls [])<|qG "ready")<|ya fu n
def NW:SF:=qP (te<|ct<|.bool true) (Jf fu n) nx fu
def PR:SF:=sq (pH (ls [])<|qG "rounds")<|NW fu n
def NH:SF:=sq (pH (ls [])<|qG "order")<|PR fu n
def LN:SF:=sq (pH (oF (lo "rows") x9 (y6 "row") λj=>Dm (sl (lo "row") (ct<|.int 1) (ct .none)<|ct .none) (y6 "need")<|nB (tp [sb (lo "row")<|ct<|.int 0,lo "need"]) j)<|qG "edges")<|NH fu n
def LJ:SF:=sq (fr (lo "rows") "row"<|P9 fu n)<|LN fu n
def Sv:SF:=sq (pH (ls [])<|qG "names")<|LJ fu n
def IH(fu n:Nat):SF:=rt<|ct<|.bool false
def IW:SF:=xp<|ml fu n (lo "told") "append" [lo "row"]
def cg:SF:=fi (tc (lo "row") (ct .none) .IsNot) (IW fu n) nx
def PK:SF:=sq (fi (tb .Or (tc (lo "line") (cl fu n (ct<|.top 903) [lo "words"]) .NotEq)<|tb .Or (tc (lo "shorn") (cl fu n (ct<|.top 910) [lo "line"]) .NotEq)<|tb .Or (tc (lo "row") (cl fu n (ct<|.top 915) [lo "shorn"]) .NotEq)<|tk .Or) (IH fu n) nx)<|cg fu n
def NG:SF:=sq (pH (cl fu n (ct<|.top 922) [lo "shorn"])<|qG "row")<|PK fu n
def PA:SF:=sq (pH (cl fu n (ct<|.top 58) [lo "line"])<|qG "shorn")<|NG fu n
def Im:SF:=sq (pH (cl fu n (ct<|.top 885) [lo "words"])<|qG "line")<|PA fu n
def Ty:SF:=xp<|Zm fu n (lo "sorter") (lo "rule") "add"
def Tt:SF:=xp<|ml fu n (lo "sorter") "prepare" []
def Ur(fu n:Nat):SF:=pH (ct<|.bool true)<|qG "held"
def BY(fu n:Nat):SF:=rt<|ct<|.bool false
def zl(fu n:Nat):SF:=rt<|ct<|.bool false
def CP(fu n:Nat):SF:=rt<|ct<|.bool false
def AW:SF:=xp<|Zm fu n (lo "sorter") (lo "due") "done"
def yv:SF:=sq (fi (tb .Or (tc (ml fu n (lo "sorter") "is_active" []) (ct<|.bool true) .IsNot)<|tb .Or (tc (ml fu n (lo "sorter") "get_ready" []) (tp []) .NotEq)<|tk .Or) (CP fu n) nx)<|AW fu n
def B9:SF:=sq (fi (tb .Or (tc (ml fu n (lo "sorter") "is_active" []) (ct<|.bool true) .IsNot)<|tb .Or (tc (ml fu n (lo "sorter") "get_ready" []) (cl fu n (ct<|.ty "tuple") [lo "due"]) .NotEq)<|tk .Or) (zl fu n) nx)<|yv fu n
def yn:SF:=rt<|bx (cm (lo "last") (ct<|.bool false) .Is) (cm (ml fu n (lo "sorter") "get_ready" []) (tp []) .Eq) .And
def Tl:SF:=sq (pH (ml fu n (lo "sorter") "is_active" [])<|qG "last")<|yn fu n
def CO:SF:=sq (fr (lo "rounds") "due"<|B9 fu n)<|Tl fu n
def yi:SF:=sq (fi (tc (lo "held") (lo "stuck") .NotEq) (BY fu n) nx)<|CO fu n
def vz:SF:=sq (Rr (Tt fu n) "CycleError"<|Ur fu n)<|yi fu n
def CJ:SF:=sq (pH (ct<|.bool false)<|qG "held")<|vz fu n
def BS:SF:=sq (fr (lo "told") "rule"<|Ty fu n)<|CJ fu n
def yk:SF:=sq (pH (cl fu n (ct<|.top 174) [])<|qG "sorter")<|BS fu n
def lj:SF:=sq (pH (cl fu n (ct<|.top 927) [lo "told"])<|vd NA ["rounds","stuck"] 2)<|yk fu n
def HT:SF:=sq (fr (cl fu n (ct<|.top 898) [lo "script"]) "words"<|Im fu n)<|lj fu n
def tj:SF:=sq (pH (ls [])<|qG "told")<|HT fu n
end
abbrev Mm(a:Addr)(L:Nat->Nat->SF):Prop:=∀fu n st,nZ (lF fu<|n+1) fu false (mA a) (lP a) st=L fu n st
theorem w8{a:Addr}{X:mM}{L:Nat->Nat->SF}(s:Mm a L)(h:X=mL (nZ (lF fu<|n+1) fu false (mA a) (lP a) st)):X=mL (L fu n st):=h.trans<|aV mL<|s fu n st
theorem US:Mm 58 Vq:=λU U U=>by rfl'
theorem WA:Mm 73 ti:=λU U U=>by rfl'
theorem KH:Mm 110 Sk:=λU U U=>by rfl'
theorem NE:Mm 117 Ky:=λU U U=>by rfl'
theorem JN:Mm 124 Sl:=λU U U=>by rfl'
theorem JR:Mm 129 Sm:=λU U U=>by rfl'
theorem ML:Mm 136 Sn:=λU U U=>by rfl'
theorem HU:Mm 143 So:=λU U U=>by rfl'
theorem MW:Mm 157 Sp:=λU U U=>by rfl'
theorem NI:Mm 164 Sq:=λU U U=>by rfl'
theorem OY:Mm 885 Sr:=λU U U=>by rfl'
theorem LY:Mm 898 Ss:=λU U U=>by rfl'
theorem OG:Mm 903 Su:=λU U U=>by rfl'
theorem OA:Mm 915 Kz:=λU U U=>by rfl'
theorem HY:Mm 927 Sv:=λU U U=>by rfl'
theorem OU:Mm 934 tj:=λU U U=>by rfl'
theorem lG.at{β γ:Type}{x:lG β}{b:β}{f:β->St->lG γ}(h:x=some (.ok b,st)):x.then f=f b st:=by rw[h];rfl
theorem lG.ex{β γ:Type}{x:lG β}{st:St}{f:β->St->lG γ}(h:x=some (.exc c,st)):x.then f=some (.exc c,st):=by rw[h];rfl
theorem kY(h:st.loc.lookup x=some v):lo x st=some (.ok v,st):=by delta lo pE;refine a6 (aV _ h) ?_;rfl
theorem lA:ct v st=some (.ok v,st):=rfl
theorem o6(h:a st=some (.ok v,st1))(p:N0 fu n v x st1.H=some (e,H2)):al fu n a x st=some (e,⟨H2,st1.loc⟩):=by refine(lG.at h).trans ?_;rw[p];rfl
theorem jh(h:a st=some (.ok v,st1))(p:AV v x st1.H=some (e,H2)):ab a x st=some (e,⟨H2,st1.loc⟩):=by refine(lG.at h).trans ?_;rw[p];rfl
theorem Nf{w:V}{op}(h:a st=some (.ok v,st1))(p:AE op v st1.H=some w):un a op st=some (.ok w,st1):=by refine(lG.at h).trans ?_;rw[p];rfl
theorem vF{w:V}{op}(h:a st=some (.ok v,st1))(g:b st1=some (.ok w,st2))(p:Qs op v w st2.H=some (o,H3)):bn a b op st=some (.ok o,⟨H3,st2.loc⟩):=by refine(lG.at h).trans<|(lG.at g).trans ?_;refine a6 (aV _ p) ?_;rfl
theorem M3{w:V}{op}(h:a st=some (.ok v,st1))(g:b st1=some (.ok w,st2))(p:pP op v w st2.H=some o):cm a b op st=some (.ok o,st2):=by refine(lG.at h).trans<|(lG.at g).trans ?_;rw[p];rfl
theorem mH{w:V}{op}(h:a st=some (.ok v,st1))(g:b st1=some (.ok w,st2))(p:pP op v w st2.H=some (.bool q)):tc a b op st=some (.ok q,st2):=
 (lG.at<|M3 h g p).trans rfl
theorem Hd(h:a st=some (.ok v,st1))(p:Xh v st1.H=some q):te a st=some (.ok q,st1):=(lG.at h).trans<|p▸rfl
theorem Ii{z}(h:t st=some (.ok false,st1))(g:u st1=z):tb .Or t u st=z:=(lG.at h).trans g
theorem UU(h:t st=some (.ok true,st1)):tb .Or t u st=some (.ok true,st1):=lG.at h
theorem iz{z}(h:t st=some (.ok true,st1))(g:u st1=z):tb .And t u st=z:=(lG.at h).trans g
theorem FE(h:t st=some (.ok false,st1)):tb .And t u st=some (.ok false,st1):=lG.at h
theorem Tu:tk .Or st=some (.ok false,st):=rfl
theorem KT:tk .And st=some (.ok true,st):=rfl
theorem EX{op}(h:a st=some (.ok v,st1))(p:Xh v st1.H=some q){z}(g:(bif ud op q then some (.ok v,st1)else b st1)=z):bx a b op st=z:=(lG.at h).trans<|p▸g
theorem acA{z}(h:t st=some (.ok true,st1))(g:a st1=z):ix a b t st=z:=(lG.at h).trans g
theorem abA{z}(h:t st=some (.ok false,st1))(g:b st1=z):ix a b t st=z:=(lG.at h).trans g
theorem jp(h:a st=some (.ok v,st1)):nm a x st=some (.ok v,⟨st1.H,put x v st1.loc⟩):=(lG.at h).trans rfl
theorem zX:Kd [] st=some (.ok [],st):=rfl
theorem Y6(h:a st=some (.ok v,st1))(g:Kd l st1=some (.ok vs,st2)):Kd (a::l) st=some (.ok (v::vs),st2):=(lG.at h).trans<|lG.at g
theorem pX(h:a st=some (.ok v,st1)):Kd [a] st=some (.ok [v],st1):=Y6 h zX
theorem rU(h:Kd l st=some (.ok vs,st1))(hb:vs.length<1000):ls l st=some (.ok<|.ref st1.H.length,⟨st1.H++[.list vs],st1.loc⟩):=(lG.at h).trans<|aH hb
theorem C8(h:Kd l st=some (.ok vs,st1))(hb:vs.length<1000):tp l st=some (.ok<|.ref st1.H.length,⟨st1.H++[.tuple vs],st1.loc⟩):=(lG.at h).trans<|aH hb
theorem F9{k:EF}{s1 s2 s3 s4:St}(h1:a st=some (.ok v1,s1))(h2:b s1=some (.ok v2,s2))(h3:c s2=some (.ok v3,s3))(h4:k s3=some (.ok v4,s4))(hi:Ee v1 s4.H=true)(p:n7 v1 v2 v3 v4 s4.H=some (o,H3)):sl a b c k st=some (.ok o,⟨H3,s4.loc⟩):=by refine(lG.at h1).trans<|(lG.at h2).trans<|(lG.at h3).trans<|(lG.at h4).trans<|(aH hi).trans ?_;refine a6 (aV _ p) ?_;rfl
theorem tK{w:V}(h:a st=some (.ok v,st1))(g:b st1=some (.ok w,st2))(hi:Ee v st2.H=true)(p:uM v w st2.H=some (e,H3)):sb a b st=some (e,⟨H3,st2.loc⟩):=by refine(lG.at h).trans<|(lG.at g).trans<|(aH hi).trans ?_;rw[p];rfl
theorem nW(h:a st=some (.ok v,st1))(p:Fp v x st1.H=some m)(g:Kd l st1=some (.ok vs,st2))(hk:(Wt m.1 st2.H||EM m.1 st2.H)=true)(q:lS (lF fu n) fu m.1 (m.2++vs) [] st2.H=some (e,H2)):ml fu n a x l st=some (e,⟨H2,st2.loc⟩):=by refine(lG.at h).trans ?_;refine p▸?_;refine(lG.at rfl).trans<|(lG.at<|(lG.at g).trans rfl).trans<|(aH hk).trans ?_;refine a6 (aV _ q) ?_;rfl
theorem C9(h:a st=some (.ok v,st1))(p:Fp v x st1.H=some m)(g:Kd l st1=some (.ok vs,st2))(hk:Wt m.1 st2.H=true)(q:nC m.1 (m.2++vs) [] st2.H=some (e,H2)):mq a x l st=some (e,⟨H2,st2.loc⟩):=by refine(lG.at h).trans ?_;refine p▸?_;refine(lG.at rfl).trans<|(lG.at<|(lG.at g).trans rfl).trans<|(aH hk).trans ?_;refine a6 (aV _ q) ?_;rfl
theorem oE(h:a st=some (.ok v,st1))(g:Kd l st1=some (.ok vs,st2))(hk:(Wt v st2.H||EM v st2.H)=true)(q:lS (lF fu n) fu v vs [] st2.H=some (e,H2)):cl fu n a l st=some (e,⟨H2,st2.loc⟩):=(lG.at h).trans<|(lG.at<|(lG.at g).trans rfl).trans<|(aH hk).trans<|q▸rfl
theorem Ly(h:a st=some (.ok v,st1))(g:Kd l st1=some (.ok vs,st2))(hk:Wt v st2.H=true)(q:nC v vs [] st2.H=some (e,H2)):cq a l st=some (e,⟨H2,st2.loc⟩):=(lG.at h).trans<|(lG.at<|(lG.at g).trans rfl).trans<|(aH hk).trans<|q▸rfl
theorem mI(q:nC v vs [] H1=some (e,H2)):lS (lF fu n) fu v vs [] H1=some (e,H2):=by unfold lS;simp only[q];rfl
theorem rZ(h:vV (lF fu n) fu (.top A) vs [] H1=some p):lS (lF fu n) fu (.top A) vs [] H1=some p:=by unfold lS;simp only[h];rfl
theorem lK{s:SF}{z}(h:s st=some (.ok .next,st1))(g:r st1=z):sq s r st=z:=(lG.at h).trans g
theorem xM{s:SF}(h:s st=some (.ok<|.ret v,st1)):sq s r st=some (.ok<|.ret v,st1):=(lG.at h).trans rfl
theorem JK{s:SF}(h:s st=some (.ok .brk,st1)):sq s r st=some (.ok .brk,st1):=(lG.at h).trans rfl
theorem Cp{s:SF}(h:s st=some (.ok .cont,st1)):sq s r st=some (.ok .cont,st1):=(lG.at h).trans rfl
theorem JU{s:SF}(h:s st=some (.exc v,st1)):sq s r st=some (.exc v,st1):=lG.ex h
theorem qB(h:a st=some (.ok v,st1)):xp a st=some (.ok .next,st1):=lG.at h
theorem MF(h:a st=some (.exc v,st1)):xp a st=some (.exc v,st1):=lG.ex h
theorem rK(h:a st=some (.ok v,st1)):rt a st=some (.ok<|.ret v,st1):=lG.at h
theorem mC(h:a st=some (.ok v,st1)):pH a (qG x) st=some (.ok .next,⟨st1.H,put x v st1.loc⟩):=(lG.at h).trans rfl
theorem CC(h:a st=some (.exc v,st1)):pH a g st=some (.exc v,st1):=lG.ex h
theorem wS(h:a st=some (.ok v,st1))(g:b st1=some (.ok o,st2))(p:qC o x v st2.H=some H2):pH a (sa b x) st=some (.ok .next,⟨H2,st2.loc⟩):=by refine(lG.at h).trans<|(lG.at (b:=()) ?_).trans rfl;exact(lG.at g).trans<|p▸rfl
theorem EW{i:V}{H2:Hp}(g:a st=some (.ok o,st1))(g2:b st1=some (.ok i,st2))(p:qY o i v st2.H=some H2):ss a b v st=some (.ok (),⟨H2,st2.loc⟩):=(lG.at g).trans<|(lG.at g2).trans<|p▸rfl
theorem FJ{i:V}(h:c st=some (.ok v,st1))(g:a st1=some (.ok o,st2))(g2:b st2=some (.ok i,DK))(p:qY o i v DK.H=some H2):pH c (ss a b) st=some (.ok .next,⟨H2,DK.loc⟩):=
 (lG.at h).trans ((lG.at<|EW g g2 p).trans rfl)
theorem NO{i:V}(h:c st=some (.ok v,st1))(g:a st1=some (.ok o,st2))(g2:b st2=some (.ok i,DK))(p:qY o i v DK.H=some H2):as2 c (ss a b) (qG x) st=some (.ok .next,⟨H2,put x v DK.loc⟩):=
 (lG.at h).trans ((lG.at<|EW g g2 p).trans rfl)
theorem Ik{w i:V}{op}(h:a st=some (.ok o,st1))(p1:N0 fu n o x st1.H=some (.ok v,H1))(g:b ⟨H1,st1.loc⟩=some (.ok w,st2))(p2:Ge op v w st2.H=some (i,H2))(p3:qC o x i H2=some H3):UV fu n a op x b st=some (.ok .next,⟨H3,st2.loc⟩):=by refine(lG.at h).trans<|(lG.at (by rw[p1];rfl)).trans<|(lG.at g).trans<|(lG.at (by rw[p2];rfl)).trans ?_;exact(lG.at (b:=())<|p3▸rfl).trans rfl
theorem sZ{s:SF}{z}(h:t st=some (.ok true,st1))(g:s st1=z):fi t s r st=z:=(lG.at h).trans g
theorem pF{s:SF}{z}(h:t st=some (.ok false,st1))(g:r st1=z):fi t s r st=z:=(lG.at h).trans g
theorem XE{i:V}(g:a st=some (.ok o,st1))(g2:b st1=some (.ok i,st2))(p:vM o i st2.H=some H2):dl a b st=some (.ok .next,⟨H2,st2.loc⟩):=by refine(lG.at g).trans<|(lG.at g2).trans<|(lG.at (b:=())<|p▸rfl).trans rfl
theorem qh{s:SF}{h:SF}(e:s st=some (.ok f,st1)):Rr s T h st=some (.ok f,st1):=by dsimp only[Rr,wm];rw[e]
theorem T9{s:SF}{h:SF}(e:s st=some (.exc v,st1))(hx:vi v T=true)(g:h st1=some (.ok f,st2)):Rr s T h st=some (.ok f,st2):=by dsimp only[Rr];rw[e];refine a6 (aH hx) ?_;rw[g];rfl
theorem WP{s:SF}{I:List V->St->Prop}(h:a st=some (.ok v,st1))(hi:lZ v st1.H=some xs)(h0:I xs.2 st1)(hk:∀l st,I l st->lZ v st.H=some xs)
 (step:∀w l st,I (w::l) st->∃f k6,s ⟨st.H,put x w st.loc⟩=some (.ok f,k6)/\(f=.next\/f=.cont)/\I l k6):∃k6,fr a x s st=some (.ok .next,k6)/\I [] k6:=by
  have key:∀l st,I l st->∃k6,Cw (lZ v) xs (qG x) s l st=some (.ok .next,k6)/\I [] k6:=by
   exists l;induction l with
   |nil=>intro st hI;exact⟨st,aH<|hk _ _ hI,hI⟩
   |cons w l ih=> intro st hI;obtain⟨f,k6,lW⟩:=step w l st hI;obtain⟨st2,q9⟩:=ih k6 lW.2.2;refine⟨st2,(aH<|hk _ _ hI).trans<|(lG.at rfl).trans<|(lG.at lW.1).trans ?_,q9.2⟩;rcases lW.2.1 with rfl|rfl<;>exact q9.1
  obtain⟨k6,q8⟩:=key xs.2 st1 h0;refine⟨k6,(lG.at h).trans ?_,q8.2⟩;exact hi▸q8.1
theorem NU{s:SF}{x:Str}{v:V}{st st1:St}{I:List V->St->Prop}{R:V->St->Prop}{xs:List Nat×List V}(h:a st=some (.ok v,st1))(hi:lZ v st1.H=some xs)(h0:I xs.2 st1)(hk:∀l st,I l st->lZ v st.H=some xs)
 (step:∀w l st,I (w::l) st->∃f k6,s ⟨st.H,put x w st.loc⟩=some (.ok f,k6)/\(((f=.next\/f=.cont)/\I l k6)\/∃z,f=.ret z/\R z k6)):∃f k6,fr a x s st=some (.ok f,k6)/\((f=.next/\I [] k6)\/∃z,f=.ret z/\R z k6):=by
 exists a,s,x,v,st,st1,I,R,xs,_;have key:∀l st,I l st->∃f k6,Cw (lZ v) xs (qG x) s l st=some (.ok f,k6)/\((f=.next/\I [] k6)\/∃z,f=.ret z/\R z k6):=by
  exists l;induction l with
  |nil=>exists st;intro hI;exact⟨.next,st,aH<|hk _ _ hI,.inl ⟨rfl,hI⟩⟩
  |cons w l ih=>
   exists w,l,[ih];exists st;intro hI;exists _;exists f,k6,(q_:step w l st hI);obtain⟨e,hf⟩:=q_;have go:Cw (lZ v) xs (qG x) s (w::l) st=lG.then (s ⟨st.H,put x w st.loc⟩) _:=(aH<|hk _ _ hI).trans<|lG.at rfl;rcases hf with⟨hf,hI'⟩|⟨z,rfl,hz⟩
   .exists f2,st2,(q9:ih k6 hI');refine k9 ⟨f2,st2,go.trans<|(lG.at e).trans ?_,q9.2⟩;rcases hf with rfl|rfl<;>exact q9.1
   .exact k9 ⟨_,k6,go.trans<|(lG.at e).trans rfl,.inr ⟨z,rfl,hz⟩⟩
 exists f,k6,(q8:key xs.2 st1 h0);refine⟨f,k6,(lG.at h).trans ?_,q8.2⟩;exact hi▸q8.1
section
variable{H L:Hp}{i j:Nat}{a b c:AO}
theorem nE(h:H[i]?=some a):i<H.length:=(aU.mp h).1
theorem lC(h:H[i]?=some a):(H++L)[i]?=some a:=by exact a6 (bO<|nE h)<|h
theorem mP:(H++[a])[H.length]?=some a:=by refine a6 (aS<|aI _) ?_;rw[cD];rfl
theorem n0(h:H[i]?=some a):(H.set i b)[i]?=some b:=eU<|nE h
theorem m8(hn:i≠j)(h:H[j]?=some a):(H.set i b)[j]?=some a:=by exact a6 (dB hn)<|h
theorem M5(h:H[i]?=some a)(h':H[j]?=some b)(n:a≠b):i≠j:=by rintro rfl;exact n<|aA<|h.symm.trans h'
theorem lN(h:H[i]?=some a)(h':H[j]?=some b)(n:a≠b):(H.set i c)[j]?=some b:=m8 (M5 h h' n) h'
end
section
variable{H:Hp}{i j d m l:Nat}{x y:Str}{xs ys:List V}{v u w:V}{es:List (Str×V)}{fu n:Nat}{ks:List Str}
theorem WH(h:H[i]?=some (.set ks)):sE H i=some ks:=by unfold sE;rw[h];rfl
theorem wV{γ:Type}{f:Nat->List V->Hp->Option γ}(h:H[i]?=some (.list xs))(hz:xs.length<big):vL f (.ref i) H=f i xs H:=by show(lE H i).bind _=_;exact(qW h)▸(aH hz)
theorem J4{k:Nat}(h:H[i]?=some (.inst 77 d xs))(hd:H[d]?=some (.dict es))(hs:vP x=some k)(hv:xs[k]?=some v)(hb:yR v=true):zF (.ref i) x H=some (.ok v,H):=by show(iE H i).bind _=_;rw[D3 h hd,bY,aH rfl,hs,bY,hv,bY,aH hb]
theorem EJ(h:H[i]?=some (.inst 174 d xs))(hd:H[d]?=some (.dict es))(hs:sA.contains (174,x)=true)(hv:es.lookup x=some v)(hb:yR v=true):zF (.ref i) x H=some (.ok v,H):=by show(iE H i).bind _=_;rw[D3 h hd,bY,aL<|show ¬174=77 by decide,aH ⟨hs,rfl⟩,hv,bY,aH hb]
theorem Pv{k:Nat}(h:H[i]?=some (.inst 77 d xs))(hd:H[d]?=some (.dict es))(hs:vP x=some k)(hk:k<=xs.length):qC (.ref i) x v H=some (H.set i<|.inst 77 d<|zL k v xs):=by show(iE H i).bind _=_;rw[D3 h hd,bY,aH rfl,hs,bY,aH hk]
theorem Eb(h:H[i]?=some (.inst 174 d xs))(hd:H[d]?=some (.dict es))(hs:sA.contains (174,x)=true)(hl:es.length<900):qC (.ref i) x v H=some (H.set d<|.dict<|put x v es):=by show(iE H i).bind _=_;rw[D3 h hd,bY,aL<|show ¬174=77 by decide,aH ⟨hs,rfl,hl⟩]
theorem ET{p:oV V×Hp}(h:zF v x H=some p):N0 fu n v x H=some p:=by unfold N0;rw[h];rfl
theorem atB{p:oV V×Hp}(h:zF v x H=some p):AV v x H=some p:=by unfold AV;rw[h];rfl
theorem xf{k:Nat}(h:H[i]?=some (.m6 l k)):N0 fu n (.ref i) "__next__" H=some (.ok<|.ref H.length,H++[.mw i]):=by
 have e:iE H i=none:=by delta iE;rw[h];rfl
 have e2:BI H i=some (l,k):=by delta BI;rw[h];rfl
 show((((iE H i).bind _).or<|(BI H i).bind _).or _)=_;rw[e,e2];rfl
theorem nL{mt:String}(h:H[i]?=some (.list xs))(hm:zI x=some mt):Fp (.ref i) x H=some (.bi mt,[.ref i]):=by show(wY (.ref i) x H).or _=_;rw[wB (by rw[qW h,bY,hm];rfl)];rfl
theorem Hv{mt:String}(h:H[i]?=some (.dict es))(hm:x5 x=some mt):Fp (.ref i) x H=some (.bi mt,[.ref i]):=by show(wY (.ref i) x H).or _=_;rw[wB (by rw[Lq h,bY,hm];delta lE;rw[h];rfl)];rfl
theorem aa{ep:Nat}(h:H[i]?=some (.lT es ep)):Fp (.ref i) "values" H=some (.bi "dict.values",[.ref i]):=by show(wY (.ref i) "values" H).or _=_;rw[wB (by delta lE dE sE fE;rw[h];rfl)];rfl
theorem QI(h:H[i]?=some (.set ks)):Fp (.ref i) "add" H=some (.bi "set.add",[.ref i]):=by show(wY (.ref i) "add" H).or _=_;rw[wB (by delta lE dE sE fE;rw[h];rfl)];rfl
theorem Al{mt:String}(hm:Jy x=some mt):Fp (.str y) x H=some (.bi mt,[.str y]):=by show(((Jy x).bind _).or _).or _=_;rw[hm];rfl
theorem Af{f:Addr}(h:H[i]?=some (.inst 174 d xs))(hd:H[d]?=some (.dict es))(hl:es.lookup x=none)(hm:B7.lookup (174,x)=some f):Fp (.ref i) x H=some (.top f,[.ref i]):=by
 have e:wY (.ref i) x H=none:=by show(((lE H i).bind λU=>zI x).or<|((dE H i).bind λU=>x5 x).or<|((sE H i).bind λU=>Ip x).or<|(fE H i).bind λU=>if x= "values" then some "dict.values" else none).bind _=_;delta lE dE sE fE;rw[h];rfl
 show((wY (.ref i) x H).or<|((iE H i).bind _).or _)=_;rw[e,D3 h hd];show((if es.lookup x=none then(B7.lookup (174,x)).bind _ else none).or _)=_;rw[aH hl,hm];rfl
theorem Gl(h:H[i]?=some (.list xs))(hz:xs.length<big):nC (.bi "len") [.ref i] [] H=some (.ok<|.int xs.length,H):=by refine(by rfl':_=(vL (λU xs H=>some (.ok<|.int xs.length,H)) (.ref i) H).or (((tE H i).bind λxs=>gv (xs.length<big) (.int xs.length) H).or none)).trans ?_;rw[wV h hz];rfl
theorem ph(h:H[i]?=some (.tuple xs))(hz:xs.length<big):nC (.bi "len") [.ref i] [] H=some (.ok<|.int xs.length,H):=by refine(by rfl':_=((lE H i).bind λxs=>if xs.length<big then some (.ok<|.int xs.length,H)else none).or (((tE H i).bind λxs=>gv (xs.length<big) (.int xs.length) H).or none)).trans ?_;delta lE tE;rw[h];show((gv _ _ _).or none)=_;unfold gv;rw[aH hz];rfl
theorem oK(h:H[i]?=some (.list xs))(hz:xs.length<big):nC (.bi "list.append") [.ref i,v] [] H=some (.ok .none,H.set i<|.list<|xs++[v]):=by refine(by rfl':_=(Ab i v H).bind (λH=>some (.ok .none,H))).trans ?_;unfold Ab;rw[qW h,bY,aH hz];rfl
theorem jq(h:H[i]?=some (.list xs))(h':H[j]?=some (.list ys))(hz:xs.length+ys.length<big):nC (.bi "list.extend") [.ref i,.ref j] [] H=some (.ok .none,H.set i<|.list<|xs++ys):=by refine(by rfl':_=vL (λi xs=>vL (λU ys H=>if xs.length+ys.length<big then some (.ok .none,H.set i<|.list<|xs++ys)else none)<|.ref j) (.ref i) H).trans ?_;rw[wV h<|bP hz,wV h'<|eH hz,aH hz]
theorem U7(h:H[i]?=some (.list xs))(hz:xs.length<big):nC (.ty "tuple") [.ref i] [] H=some (.ok<|.ref H.length,H++[.tuple xs]):=by refine(by rfl':_=vL (λU xs=>nw<|.tuple xs) (.ref i) H).trans ?_;refine a6 (wV h hz) ?_;rfl
theorem yr{k:Int}:nC (.ty "range") [.int k] [] H=some (.ok<|.ref H.length,H++[.range 0 k 1]):=by rfl'
theorem WF:nC (.ty "set") [] [] H=some (.ok<|.ref H.length,H++[.set []]):=by rfl'
theorem xz(h:H[i]?=some (.list xs))(hz:xs.length<big):nC (.bi "list.clear") [.ref i] [] H=some (.ok .none,H.set i<|.list []):=by refine(by rfl':_=vL (λi xs H=>some (.ok .none,H.set i<|.list [])) (.ref i) H).trans ?_;rw[wV h hz]
theorem Zk(h:H[i]?=some (.set ks))(hz:ks.length<900):nC (.bi "set.add") [.ref i,.str x] [] H=some (.ok .none,H.set i<|.set<|if ks.contains x then ks else ks++[x]):=by refine(by rfl':_=(sE H i).bind (λxs=>if xs.length<900 then some (.ok .none,H.set i<|.set<|if xs.contains x then xs else xs++[x])else none)).trans ?_;simp only[WH h];exact aH hz
theorem fp(h:H[i]?=some (.dict es)):nC (.bi "dict.get") [.ref i,.str x] [] H=some (.ok<|(es.lookup x).getD .none,H):=by refine(by rfl':_=(dE H i).bind (λes=>some (.ok<|(es.lookup x).getD .none,H))).trans ?_;rw[Lq h];rfl
theorem ll{ep:Nat}(h:H[i]?=some (.lT es ep)):nC (.bi "dict.values") [.ref i] [] H=some (.ok<|.ref H.length,H++[.vals i]):=by refine(by rfl':_=((dE H i).bind λU=>nw (.vals i) H).or ((fE H i).bind λU=>nw (.vals i) H)).trans ?_;delta dE fE;exact h▸rfl
theorem U0{k:Nat}(h:H[i]?=some (.list xs))(hz:xs.length<big)(ha:zZ xs=true)(hm:sQ x xs=some k):nC (.bi "list.index") [.ref i,.str x] [] H=some (.ok<|.int k,H):=by refine(by rfl':_=vL (λU xs H=>if zZ xs=true then(sQ x xs).bind λn=>some (.ok<|.int n,H)else none) (.ref i) H).trans ?_;rw[wV h hz,aH ha,hm];rfl
theorem HR(h:H[i]?=some (.list xs))(hz:xs.length<big):nC (.ty "bool") [.ref i] [] H=some (.ok<|.bool (!xs.isEmpty),H):=by refine(by rfl':_=vL (λU xs H=>some (.ok<|.bool (!xs.isEmpty),H)) (.ref i) H).trans ?_;rw[wV h hz]
theorem ky{r:oV V×Hp}(h:uD i H=some r):nC (.bi "sorted") [.ref i] [] H=some r:=(by rfl':_=uD i H).trans h
theorem FB(h:H[i]?=some (.list xs))(hz:xs.length<big)(hv:xs[xs.length-1]?=some v):nC (.bi "list.pop") [.ref i] [] H=some (.ok v,H.set i<|.list<|xs.eraseIdx<|xs.length-1):=by refine(by rfl':_=vL (λi xs H=>(xs[xs.length-1]?).map λv=>(.ok v,H.set i<|.list<|xs.eraseIdx<|xs.length-1)) (.ref i) H).trans ?_;simp only[wV h hz,hv];rfl
theorem VB{r:oV V×Hp}(h:um i H=some r):lS (lF fu n) fu (.bi "max") [.ref i] [] H=some r:=by refine(by rfl':_=none.or (none.or<|(um i H).or<|(K3 (.bi "max") [.ref i] H).or<|(D9 (.bi "max") [.ref i] H).or<|Hi (.bi "max") [.ref i] H)).trans ?_;rw[h];rfl
theorem QN(h:H[i]?=some (.list xs)):lS (lF fu n) fu (.bi "iter") [.ref i] [] H=some (.ok<|.ref H.length,H++[.m6 i 0]):=by
 refine(by rfl':_=none.or (none.or<|none.or<|none.or<|(D9 (.bi "iter") [.ref i] H).or<|Hi (.bi "iter") [.ref i] H)).trans ?_;have e:D9 (.bi "iter") [.ref i] H=some (.ok<|.ref H.length,H++[.m6 i 0]):=by refine(aH rfl).trans ?_;show(lE H i).bind _=_;rw[qW h];rfl
 rw[e];rfl
theorem XV{k:Nat}(h:H[m]?=some (.mw i))(h1:H[i]?=some (.m6 l k))(h2:H[l]?=some (.list xs)):lS (lF fu n) fu (.ref m) [] [] H=(TJ l k i H xs).or ((D9 (.ref m) [] H).or<|Hi (.ref m) [] H):=by
 refine(by rfl':_=none.or (none.or<|none.or<|(K3 (.ref m) [] H).or<|(D9 (.ref m) [] H).or<|Hi (.ref m) [] H)).trans ?_;have e:K3 (.ref m) [] H=TJ l k i H xs:=by refine(aH rfl).trans ?_;show(xt H m).bind _=_;rw[show xt H m=some i by delta xt;rw[h];rfl];show(BI H i).bind _=_;rw[show BI H i=some (l,k)by delta BI;rw[h1];rfl];show(lE H l).bind _=_;rw[qW h2];rfl
 rw[e];rfl
theorem NQ{k:Nat}(h:H[m]?=some (.mw i))(h1:H[i]?=some (.m6 l k))(h2:H[l]?=some (.list xs))(hv:xs[k]?=some v):lS (lF fu n) fu (.ref m) [] [] H=some (.ok v,H.set i<|.m6 l<|k+1):=by rw[XV h h1 h2];unfold TJ;rw[hv];rfl
theorem HP{k:Nat}(h:H[m]?=some (.mw i))(h1:H[i]?=some (.m6 l k))(h2:H[l]?=some (.list xs))(hv:xs[k]?=none):lS (lF fu n) fu (.ref m) [] [] H=some (.exc<|.ty "StopIteration",H.set i .lend):=by rw[XV h h1 h2];unfold TJ;rw[hv];rfl
theorem FO(h:H[m]?=some (.mw i)):(Wt (.ref m) H||EM (.ref m) H)=true:=by
 have e:xt H m=some i:=by delta xt;rw[h];rfl
 show(_||(xt H m).isSome)=true;rw[e];exact Bool.or_true _
theorem cy{k:Nat}(h:H[i]?=some (.list xs))(hz:xs.length<big):n7 (.ref i) (.int (k:Int)) .none .none H=some (.ref H.length,H++[.list<|xs.drop k]):=by rw[D8 (h▸rfl) hz rfl rfl rfl<|by decide,W6]
theorem oZ(h:H[i]?=some (.list xs)):lZ (.ref i) H=some ([1],xs):=by show(H[i]?).bind _=_;rw[h];rfl
theorem J8(h:H[i]?=some (.tuple xs)):lZ (.ref i) H=some ([2],xs):=by show(H[i]?).bind _=_;rw[h];rfl
theorem ut{ep:Nat}(h:H[i]?=some (.lT es ep)):lZ (.ref i) H=some ([4,ep],es.map λe=>V.str e.1):=by show(H[i]?).bind _=_;refine h▸?_;rfl
theorem mu{ep:Nat}(h:H[i]?=some (.vals d))(h':H[d]?=some (.lT es ep)):lZ (.ref i) H=some ([5,d,ep],es.map (·.2)):=by show(H[i]?).bind _=_;rw[h];show(fE H d).map _=_;unfold fE;rw[h'];rfl
theorem Dp(h:H[i]?=some (.list xs))(hz:xs.length<big):Xh (.ref i) H=some (!xs.isEmpty):=by show((lE H i).bind _).or _=_;rw[qW h,bY,aH hz];rfl
theorem BD(h:H[i]?=some (.dict es)):pP .In (.str y) (.ref i) H=some (.bool (es.lookup y).isSome):=by delta pP y4 Jx Eg vS vR lE tE dE;dsimp only;exact h▸rfl
theorem kx(h:H[i]?=some (.set ks)):pP .In (.str y) (.ref i) H=some (.bool<|ks.contains y):=by delta pP y4 Jx Eg vS vR lE tE dE sE;dsimp only;exact h▸rfl
theorem C5(hy:PyData.strOk y=true):∀{ks:List Str},(∀x∈ks,PyData.strOk x=true)->Ba y (ks.map V.str) H=some (ks.contains y):=by
 intro ks hk;have e1:∀ks:List Str,qK (λv=>rd 2 v H) (ks.map V.str)=some (ks.map PyData.str):=by
  exists ks;induction ks with
  |nil=>rfl
  |cons x ks ih=>refine(a6 (aV _ ih) ?_:Option.map (λl=>PyData.str x::l) (qK (λv=>rd 2 v H)<|ks.map V.str)=_);rfl
 have e2:∀ks:List Str,(∀x∈ks,PyData.strOk x=true)->PyData.canLayAll0 (ks.map PyData.str)=true:=by
  intro ks hk;induction ks with
  |nil=>rfl
  |cons x ks ih=>show(PyData.canLay0 (.str x)&&PyData.canLayAll0 (ks.map PyData.str))=true;rw[ih λz hz=>hk z<|.tail _ hz];simpa[PyData.canLay0]using hk x<|.head _
 unfold Ba;rw[e1,bY,aH (by simp only[e2 ks hk,hy];rfl)];rw[List.any_map,show((λd=>PyData.eqv d<|.str y)∘PyData.str)=λz=>y==z from funext λz=>Bool.beq_comm,<-List.contains_eq_any_beq]
theorem wx(h:H[i]?=some (.list<|ks.map V.str))(hy:PyData.strOk y=true)(hk:∀x∈ks,PyData.strOk x=true):pP .In (.str y) (.ref i) H=some (.bool<|ks.contains y):=by delta pP y4 Jx vS vR;dsimp only;simp only[qW h,bY,C5 hy hk];rfl
theorem Tg(h:H[i]?=some (.list<|ks.map V.str))(hy:PyData.strOk y=true)(hk:∀x∈ks,PyData.strOk x=true):pP .NotIn (.str y) (.ref i) H=some (.bool (!ks.contains y)):=by delta pP y4 Jx vS vR;dsimp only;simp only[qW h,bY,C5 hy hk];rfl
end
set_option genInjectivity false in
structure B5 where
 (s d0 m:Nat)
 (ad dd ld:Str->Nat)
theorem yAd:Nonempty B5:=⟨⟨0,0,0,λU=>0,λU=>0,λU=>0⟩⟩
def zb(fz:Option Nat)(es:List<|Str×V):AO:=match fz with
 |none=>.dict es
 |some ep=>.lT es ep
def qF(m:Nat)(rv:V)(po nf:Int):List<|Str×V:=[("_node2info",.ref m),("_ready_nodes",rv),("_npassedout",.int po),("_nfinished",.int nf)]
def l8(A:B5)(ns:List Str):List<|Str×V:=ns.map λx=>(x,.ref<|A.ad x)
structure qA(b:Nat)(A:B5)(fz:Option Nat)(rv:V)(po nf:Int)(ns:List Str)(p:Str->Int)(sc:Str->List Str)(H:Hp):Prop where
 hs:H[A.s]?=some (.inst 174 A.d0 [])
 hd:H[A.d0]?=some (.dict<|qF A.m rv po nf)
 hm:H[A.m]?=some (zb fz<|l8 A ns)
 hn:∀x∈ns,H[A.ad x]?=some (.inst 77 (A.dd x) [.str x,.int<|p x,.ref<|A.ld x])
 tC:∀x∈ns,H[A.dd x]?=some (.dict [])
 hl:∀x∈ns,H[A.ld x]?=some (.list<|(sc x).map .str)
 inj:∀x∈ns,∀y∈ns,A.ld x=A.ld y->x=y
 nd:ns.Nodup
 ls:b<=A.s
 K0:b<=A.d0
 lm:b<=A.m
 ln:∀x∈ns,b<=A.ad x/\b<=A.ld x
def nR(b:Nat)(H H':Hp):Prop:=∀j<b,H'[j]?=H[j]?
theorem nR.refl:nR b H H:=λU U=>rfl
theorem nR.trans(h:nR b H H1)(h':nR b H1 H2):nR b H H2:=λj hj=>(h' j hj).trans<|h j hj
theorem nR.set(h:nR b H H')(hi:b<=i):nR b H<|H'.set i o:=λj hj=>by exact a6 (dB (cX<|lk<|aC hj hi))<|h j hj
theorem nR.app(h:nR b H H')(hb:b<=H'.length):nR b H<|H'++L:=λj hj=>by exact a6 (bO<|bC ‹_› ‹_›)<|h j hj
theorem z7:∀{ns:List Str},(l8 A ns).lookup x=if x∈ns then some (.ref<|A.ad x)else none:=by
 exists zr;induction zr with
 |nil=> exact rfl
 |cons y ns mB=>
  show(match x==y with|true=>some (V.ref<|A.ad y)|false=>(l8 A ns).lookup x)=_;by_cases h:x=y
  .subst h;simp only[bM];simp
  .simp only[a7.mpr h,mB];simp[h]
theorem qA.len(R:qA b A fz rv po nf ns p sc H):b<=H.length:=bC R.ls<|bS<|nE R.hs
theorem JB:AO.inst a d xs≠zb fz es:=λe=>by induction fz<;>rcases e with _|_
theorem ic:AO.list xs≠zb fz es:=λe=>by induction fz<;>rcases e with _|_
theorem CH(R:qA b A fz rv po nf ns p sc H):zb fz (l8 A ns)≠.dict (qF A.m rv po nf):=λe=>by
 rcases fz with _|ep
 .have h:=aV (λl:List (Str×V)=>l[2]?)<|diI e;simp only[l8,bD]at h;rcases hx:ns[2]? with _|y
  .replace h:=hx▸h;exact nn h
  .replace h:=hx▸h;cases aA h
 .injection e
theorem qA.DL(R:qA b A fz rv po nf ns p sc H)(hx:x∈ns)(q):qA b A fz rv po nf ns (λy=>if y=x then q else p y) sc (H.set (A.ad x)<|.inst 77 (A.dd x) [.str x,.int q,.ref<|A.ld x])where
 hs:=lN (R.hn x hx) R.hs λe=>by rcases e with _|_
 hd:=lN (R.hn x hx) R.hd λh=>by injection h
 hm:=lN (R.hn x hx) R.hm JB
 hn y hy:=by
  by_cases e:y=x
  .subst e;exact(aH rfl)▸(n0<|R.hn y hy)
  .exact(aL e)▸(lN (R.hn x hx) (R.hn y hy) λh=>e (V.str.inj (b0<|inI h).1).symm)
 tC y hy:=lN (R.hn x hx) (R.tC y hy) λh=>by injection h
 hl y hy:=lN (R.hn x hx) (R.hl y hy) λh=>by injection h
 inj:=R.inj
 nd:=R.nd
 ls:=R.ls
 K0:=R.K0
 lm:=R.lm
 ln:=R.ln
theorem qA.adB(R:qA b A fz rv po nf ns p sc H)(hx:x∈ns)(q):qA b A fz rv po nf ns p (λy=>if y=x then q else sc y) (H.set (A.ld x)<|.list<|q.map .str)where
 hs:=lN (R.hl x hx) R.hs λh=>by injection h
 hd:=lN (R.hl x hx) R.hd λh=>by injection h
 hm:=lN (R.hl x hx) R.hm ic
 hn y hy:=lN (R.hl x hx) (R.hn y hy) λh=>by injection h
 tC y hy:=lN (R.hl x hx) (R.tC y hy) λh=>by injection h
 hl y hy:=by
  by_cases e:y=x
  .subst e;exact(aH rfl)▸(n0<|R.hl y hy)
  .exact(aL e)▸(m8 (λh=>e (R.inj x hx y hy h).symm)<|R.hl y hy)
 inj:=R.inj
 nd:=R.nd
 ls:=R.ls
 K0:=R.K0
 lm:=R.lm
 ln:=R.ln
theorem qA.other(R:qA b A fz rv po nf ns p sc H)(h:H[i]?=some (.list xs))(hi:∀x∈ns,A.ld x≠i):qA b A fz rv po nf ns p sc (H.set i<|.list ys)where
 hs:=lN h R.hs λh=>by injection h
 hd:=lN h R.hd λh=>by injection h
 hm:=lN h R.hm ic
 hn y hy:=lN h (R.hn y hy) λh=>by injection h
 tC y hy:=lN h (R.tC y hy) λh=>by injection h
 hl y hy:=m8 (λe=>hi y hy e.symm)<|R.hl y hy
 inj:=R.inj
 nd:=R.nd
 ls:=R.ls
 K0:=R.K0
 lm:=R.lm
 ln:=R.ln
theorem qA.app(R:qA b A fz rv po nf ns p sc H)(L):qA b A fz rv po nf ns p sc (H++L)where
 hs:=lC R.hs
 hd:=lC R.hd
 hm:=lC R.hm
 hn y hy:=lC<|R.hn y hy
 tC y hy:=lC<|R.tC y hy
 hl y hy:=lC<|R.hl y hy
 inj:=R.inj
 nd:=R.nd
 ls:=R.ls
 K0:=R.K0
 lm:=R.lm
 ln:=R.ln
theorem qA.attr(R:qA b A fz rv po nf ns p sc H)(rv')(po' nf'):qA b A fz rv' po' nf' ns p sc (H.set A.d0<|.dict<|qF A.m rv' po' nf')where
 hs:=lN R.hd R.hs λh=>by injection h
 hd:=n0 R.hd
 hm:=lN R.hd R.hm (CH R).symm
 hn y hy:=lN R.hd (R.hn y hy) λh=>by injection h
 tC y hy:=lN R.hd (R.tC y hy) nofun
 hl y hy:=lN R.hd (R.hl y hy) λh=>by injection h
 inj:=R.inj
 nd:=R.nd
 ls:=R.ls
 K0:=R.K0
 lm:=R.lm
 ln:=R.ln
theorem qA.congr(R:qA b A fz rv po nf ns p sc H)(hp:∀x∈ns,p x=p' x)(hc:∀x∈ns,sc x=sc' x):qA b A fz rv po nf ns p' sc' H where
 hs:=R.hs
 hd:=R.hd
 hm:=R.hm
 hn y hy:=by exact(hp y hy)▸(R.hn y hy)
 tC:=R.tC
 hl y hy:=by exact(hc y hy)▸(R.hl y hy)
 inj:=R.inj
 nd:=R.nd
 ls:=R.ls
 K0:=R.K0
 lm:=R.lm
 ln:=R.ln
theorem Vc:∀{es:List (Str×V)},es.lookup x=none->put x v es=es++[(x,v)]:=by
 exists zr;induction zr with
 |nil=> intro uZ;exact rfl
 |cons zh es mB=>
  obtain⟨y,u⟩:=zh;intro h;have h':(match x==y with|true=>some u|false=>es.lookup x)=none:=h;by_cases e:x=y
  .subst e;rw[bM]at h';injection h'
  .rw[a7.mpr e]at h';show(if y=x then _ else(y,u)::put x v es)=_;rw[aL λq=>e q.symm,mB h'];rfl
def nK(H:Hp)(m:Nat)(x:Str)(es:List<|Str×V):Hp:=(H++[AO.dict [],AO.inst 77 H.length [V.str x,V.int 0,V.ref<|H.length+2],AO.list []]).set m<|.dict<|es++[(x,.ref<|H.length+1)]
def B5.add(A:B5)(x:Str)(k:Nat):B5:=⟨A.s,A.d0,A.m,λy=>if y=x then k+1 else A.ad y,λy=>if y=x then k else A.dd y,λy=>if y=x then k+2 else A.ld y⟩
theorem V9(hx:x∉ns):l8 (A.add x k) (ns++[x])=l8 A ns++[(x,.ref<|k+1)]:=by
 refine a6 bE ?_;congr 1
 .refine dN λy hy=>?_;show(y,V.ref<|if y=x then k+1 else A.ad y)=_;rw[aL (λe=>hx (e▸hy):¬y=x)]
 .show[(x,V.ref<|if x=x then k+1 else A.ad x)]=_;rw[aH rfl]
theorem qA.node{H:Hp}(R:qA b A none rv po nf ns p sc H){x:Str}(hx:x∉ns)(hp:p x=0)(hc:sc x=[]):qA b (A.add x H.length) none rv po nf (ns++[x]) p sc<|nK H A.m x<|l8 A ns:=by
 exists b,A,rv,po,nf,ns,p,sc,H,x,[R,hx,hp,hc];have hm:(H++[AO.dict [],.inst 77 H.length [V.str x,.int 0,.ref<|H.length+2],.list []])[A.m]?=some (.dict<|l8 A ns):=lC R.hm;have hml:=nE R.hm;have ne:∀{y:Str},y∈ns->y≠x:=λhy e=>hx<|e▸hy;have g0:(nK H A.m x<|l8 A ns)[H.length]?=some (.dict []):=by unfold nK;rw[dB<|bI ‹_›,aS<|aI _,cD];rfl
 have g1:(nK H A.m x<|l8 A ns)[H.length+1]?=some (.inst 77 H.length [.str x,.int 0,.ref<|H.length+2]):=by unfold nK;rw[dB<|ktu_ne 1 hml,aS<|aT _ _,b5];rfl
 have g2:(nK H A.m x<|l8 A ns)[H.length+2]?=some (.list []):=by unfold nK;rw[dB<|ktu_ne 2 hml,aS<|aT _ _,b5];rfl
 exact{
  hs:=lN hm (lC R.hs) λe=>by injection e
  hd:=show(nK H A.m x<|l8 A ns)[A.d0]?=_ from lN hm (lC R.hd)<|CH R
  hm:=by rw[V9 hx];exact n0 hm
  hn:=λy hy=>by
   rcases aO.mp hy with hy|hy
   .show(nK H A.m x<|l8 A ns)[if y=x then _ else A.ad y]?=some (.inst 77 (if y=x then _ else A.dd y) [_,_,.ref<|if y=x then _ else A.ld y]);exact(aL<|ne hy)▸(aL<|ne hy)▸(aL<|ne hy)▸(lN hm (lC<|R.hn y hy) λe=>by injection e)
   .rw[aE]at hy;subst hy;show(nK H A.m y<|l8 A ns)[if y=y then _ else A.ad y]?=some (.inst 77 (if y=y then _ else A.dd y) [_,_,.ref<|if y=y then _ else A.ld y]);rw[aH rfl,aH rfl,aH rfl,hp];exact g1
  tC:=λy hy=>by
   rcases aO.mp hy with hy|hy
   .show(nK H A.m x<|l8 A ns)[if y=x then _ else A.dd y]?=_;refine(aL<|ne hy)▸?_;refine m8 (λe=>?_)<|lC<|R.tC y hy;have h1:=R.hm;rw[e,R.tC y hy]at h1;rcases ns with _|⟨z,l⟩
    .cases hy
    .injection(diI<|aA h1)
   .rw[aE]at hy;subst hy;show(nK H A.m y<|l8 A ns)[if y=y then _ else A.dd y]?=_;rw[aH rfl];exact g0
  hl:=λy hy=>by
   rcases aO.mp hy with hy|hy
   .show(nK H A.m x<|l8 A ns)[if y=x then _ else A.ld y]?=_;exact(aL<|ne hy)▸(lN hm (lC<|R.hl y hy) λe=>by injection e)
   .rw[aE]at hy;subst hy;show(nK H A.m y<|l8 A ns)[if y=y then _ else A.ld y]?=_;rw[aH rfl,hc];exact g2
  inj:=λy hy z hz e=>by
   have e':(if y=x then H.length+2 else A.ld y)=(if z=x then H.length+2 else A.ld z):=e;have l:∀{y},y∈ns++[x]->y≠x->y∈ns:=λhy n=>(aO.mp hy).elim id λh=>absurd (aE.mp h) n;by_cases h1:y=x<;>by_cases h2:z=x
   .simp[h1,h2]
   .rw[aH h1,aL h2]at e';have:=nE<|R.hl z<|l hz h2;lia
   .rw[aL h1,aH h2]at e';have:=nE<|R.hl y<|l hy h1;lia
   .rw[aL h1,aL h2]at e';exact R.inj y (l hy h1) z (l hz h2) e'
  nd:=cH.mpr ⟨R.nd,(by simp:[x].Nodup),λa ha c hc e=>hx (by rw[aE]at hc;obtain rfl:=hc.symm;obtain rfl:=e.symm;exact ha)⟩
  ls:=R.ls
  K0:=R.K0
  lm:=R.lm
  ln:=λy hy=>by
   have hb:=R.len;show b<=(if y=x then _ else A.ad y)/\b<=(if y=x then _ else A.ld y);by_cases h1:y=x
   .rw[aH h1,aH h1];exact⟨lk hb,lk hb⟩
   .rw[aL h1,aL h1];exact R.ln y ((aO.mp hy).elim id λh=>absurd (aE.mp h) h1)}
theorem lQ:∀{l:Loc},(put x v l).lookup x=some v:=by
 intro zr;induction zr with
 |nil=> show(match x==x with|true=>some v|false=>_)=_;rw[bM]
 |cons zh l mB=>
  obtain⟨y,u⟩:=zh;by_cases e:y=x
  .subst e;show(if y=y then(y,v)::l else _).lookup y=_;rw[aH rfl];show(match y==y with|true=>some v|false=>_)=_;rw[bM]
  .show(if y=x then _ else(y,u)::put x v l).lookup x=_;rw[aL e];show(match x==y with|true=>some u|false=>(put x v l).lookup x)=_;exact(a7.mpr<|dQ e)▸mB
theorem lL(h:(x==y)=false):∀{l:Loc},(put y v l).lookup x=l.lookup x:=by
 exists zr;induction zr with
 |nil=> show(match x==y with|true=>some v|false=>none)=_;exact h▸rfl
 |cons zh l mB=>
  obtain⟨z,u⟩:=zh;show(if z=y then(z,v)::l else(z,u)::put y v l).lookup x=(match x==z with|true=>some u|false=>l.lookup x);by_cases e:z=y
  .subst e;rw[aH rfl,h];show(match x==z with|true=>some v|false=>l.lookup x)=_;rw[h]
  .rw[aL e];show(match x==z with|true=>some u|false=>(put y v l).lookup x)=_;rw[mB]
abbrev lz(l:Loc)(x:Str):Option V:=l.lookup x
theorem z3{α:Type}{g:α->V}{a:EF}{s:SF}{x:Str}{v:V}{st st1:St}{k:List Nat}{r:List α}{I:List α->St->Prop}(h:a st=some (.ok v,st1))(h0:I [] st1)(hk:∀d st,I d st->lZ v st.H=some (k,r.map g))
 (step:∀done w rest st,r=done++w::rest->I done st->∃f k6,s ⟨st.H,put x (g w) st.loc⟩=some (.ok f,k6)/\(f=.next\/f=.cont)/\I (done++[w]) k6):∃k6,fr a x s st=some (.ok .next,k6)/\I r k6:=by
 obtain⟨k6,e,done,rest,hd,hr,hI⟩:=WP (I:=λl st=>∃done rest,r=done++rest/\l=rest.map g/\I done st) h (hk _ _ h0) ⟨[],r,rfl,rfl,h0⟩ (λl st q9=>by obtain⟨_,_,_,_,I⟩:=q9;exact hk _ _ I)
  (λw l st q9=>by
   exists _;obtain⟨done,rest,hr,lW⟩:=q9;rcases rest with _|⟨w',rest⟩
   .injection lW.1
   .obtain⟨rfl,rfl⟩:=b0 lW.1;obtain⟨f,k6,q8⟩:=step done w' rest st hr lW.2;exact k9 ⟨f,k6,q8.1,q8.2.1,done++[w'],rest,by simp only[hr,aJ];rfl,rfl,q8.2.2⟩)
 rcases rest with _|⟨_,_⟩
 .simp only[bF]at hd;subst hd;exact⟨k6,e,hI⟩
 .injection hr
theorem z8{s:SF}{x:Str}{v:V}{st st1:St}{k:List Nat}{r:List Str}{I:List Str->St->Prop}(h:a st=some (.ok v,st1))(h0:I [] st1)(hk:∀d st,I d st->lZ v st.H=some (k,r.map .str))
 (step:∀done w rest st,r=done++w::rest->I done st->∃f k6,s ⟨st.H,put x (.str w) st.loc⟩=some (.ok f,k6)/\(f=.next\/f=.cont)/\I (done++[w]) k6):∃k6,fr a x s st=some (.ok .next,k6)/\I r k6:=z3 h h0 hk step
theorem PD:lB (lF fu<|n+1) fu 73 [u,v] [] H=mL (ti fu n ⟨H,[("node",v),("self",u)]⟩):=
 w8 WA (by rfl')
theorem S8:lB (lF fu<|n+1) fu 117 [u,v] [] H=mL (Ky fu n ⟨H,[("node",v),("self",u)]⟩):=
 w8 NE (by rfl')
theorem BP{w:V}:oY (lF fu<|n+1) fu 124 [("self",u),("node",v),("predecessors",w)] H=mL (Sl fu n ⟨H,[("predecessors",w),("node",v),("self",u)]⟩):=
 w8 JN (by rfl')
theorem uw:lB (lF fu<|n+1) fu 110 [u] [] H=mL (Sk fu n ⟨H,[("graph",.none),("self",u)]⟩):=
 w8 KH (by rfl')
theorem WE(hi:H[i]?=some (.inst 77 d []))(hd:H[d]?=some (.dict [])):
 lB (lF fu<|n+1) fu 73 [.ref i,.str x] [] H=some (.ok .none,(H++[AO.list []]).set i<|.inst 77 d [.str x,.int 0,.ref H.length]):=by
 have i1:(H.set i<|.inst 77 d [.str x])[i]?=some (.inst 77 d [.str x]):=n0 hi;have d1:(H.set i<|.inst 77 d [.str x])[d]?=some (.dict []):=lN hi hd (λh=>by injection h);have e:ti fu n ⟨H,[("node",.str x),("self",.ref i)]⟩=some (.ok .next,⟨_,_⟩):=
  lK (wS (kY rfl) (kY rfl)<|Pv hi hd rfl<|aI 0)
   (lK (wS lA (kY rfl)<|Pv i1 d1 rfl<|aI 1)
    (wS (rU zX<|c6 _) (kY rfl)<|Pv (lC<|n0 i1) (lC<|lN i1 d1 λh=>by injection h) rfl<|aI 2))
 simp only[PD,e];show some (_,_)=_;congr 2
 show((H.set i _).set i _++[_]).set i (.inst 77 d [_,_,.ref ((H.set i _).set i _).length])=_;rw[jM,eQ,gK _ _ (by rw[eQ];exact nE hi),jM,gK _ _<|nE hi]
theorem QT:lS (lF fu<|n+1) fu (.top 77) [.str x] [] H=some (.ok<|.ref<|H.length+1,H++[AO.dict [],AO.inst 77 H.length [V.str x,V.int 0,V.ref<|H.length+2],AO.list []]):=by
 refine rZ<|(by rfl':_=Hh (H.length+1) (lB (lF fu<|n+1) fu 73 [.ref<|H.length+1,.str x] []<|H++[.dict [],.inst 77 H.length []])).trans ?_;rw[WE (by refine a6 (aS<|by omega) ?_;rw[b5];rfl) (by rw[aS<|aI _,cD];rfl)];congr 2
 rw[aJ,dO _ _<|by omega,b5,aG];rfl
theorem qA.at(R:qA b A fz rv po nf ns p sc H){k:Str}(hs:sA.contains (174,k)=true)(hv:(qF A.m rv po nf).lookup k=some v)(hb:yR v=true):N0 fu n (.ref A.s) k H=some (.ok v,H):=ET<|EJ R.hs R.hd hs hv hb
theorem P8(R:qA b A none rv po nf ns p sc H)(hx:x∉ns)(hl:ns.length<800):lB (lF fu<|n+2) fu 117 [.ref A.s,.str x] [] H=some (.ok<|.ref<|H.length+1,nK H A.m x<|l8 A ns):=by
 have hm:=R.hm;have ln:(l8 A ns).lookup x=none:=by rw[z7,aL hx]
 have e:Ky fu (n+1) ⟨H,[("node",.str x),("self",.ref A.s)]⟩=some (.ok<|.ret<|.ref<|H.length+1,⟨(H++[AO.dict [],AO.inst 77 H.length [V.str x,V.int 0,V.ref<|H.length+2],AO.list []]).set A.m<|.dict<|put x (.ref<|H.length+1)<|l8 A ns,_⟩):=
  lK (sZ (mH (v:=.none) (jp<|nW (o6 (kY rfl)<|R.at rfl rfl rfl) (Hv hm rfl) (pX<|kY rfl) rfl<|mI<|(fp hm).trans<|ln▸rfl) lA rfl)
   (NO (oE lA (pX<|kY rfl) rfl QT) (o6 (kY rfl)<|(R.app _).at rfl rfl rfl) (kY rfl)<|ed (lC hm) (by unfold l8;rw[aF];unfold big;exact lk hl)))
   (rK<|kY rfl)
 simp[S8,e,Vc ln];rfl
theorem Qr(R:qA b A none rv po nf ns p sc H)(hx:x∈ns):lB (lF fu<|n+1) fu 117 [.ref A.s,.str x] [] H=some (.ok<|.ref<|A.ad x,H):=by
 have hm:=R.hm;have e:Ky fu n ⟨H,[("node",.str x),("self",.ref A.s)]⟩=some (.ok<|.ret<|.ref<|A.ad x,⟨H,_⟩):=
  lK (pF (mH (jp<|nW (o6 (kY rfl)<|R.at rfl rfl rfl) (Hv hm rfl) (pX<|kY rfl) rfl<|mI<|(fp hm).trans (by rw[(by rw[z7,aH hx]:(l8 A ns).lookup x=some (.ref<|A.ad x))];rfl)) lA rfl) rfl)
   (rK<|kY rfl)
 simp[S8,e];rfl
def ins(x:Str)(ns:List Str):List Str:=if x∈ns then ns else ns++[x]
theorem Uw:x∈ins x ns:=by
 unfold ins;by_cases h:x∈ns
 .rw[aH h];exact h
 .rw[aL h];exact aW _<|.head _
theorem bq(R:qA b A none rv po nf ns p sc H)(hl:ns.length<800)(hz:∀y,y∉ns->p y=0/\sc y=[]):∃A' H',lB (lF fu<|n+2) fu 117 [.ref A.s,.str x] [] H=some (.ok<|.ref<|A'.ad x,H')/\A'.s=A.s/\qA b A' none rv po nf (ins x ns) p sc H'/\nR b H H'/\∀j o,H[j]?=some o->j≠A.m->H'[j]?=some o:=by
 by_cases hx:x∈ns
 .refine⟨A,H,Qr R hx,rfl,?_,.refl,λU U h U=>h⟩;unfold ins;exact(aH hx)▸R
 .refine⟨A.add x H.length,nK H A.m x<|l8 A ns,(P8 R hx hl).trans ?_,rfl,?_,(nR.refl.app R.len).set R.lm,λj o h hj=>m8 (dQ hj)<|lC h⟩
  .show some (oV.ok<|V.ref<|H.length+1,nK H A.m x<|l8 A ns)=some (oV.ok<|V.ref<|if x=x then H.length+1 else A.ad x,nK H A.m x<|l8 A ns);rw[aH rfl]
  .unfold ins;rw[aL hx];exact R.node hx (hz x hx).1 (hz x hx).2
theorem Uf(h:lB (lF fu n) fu 117 [u,v] [] H=some q):lS (lF fu n) fu (.top 117) [u,v] [] H=some q:=rZ<|(by rfl':_=lB (lF fu n) fu 117 [u,v] [] H).trans h
def nN(l:List Str)(ns:List Str):List Str:=l.foldl (λns x=>ins x ns) ns
theorem va:(ins x ns).length<=ns.length+1:=by
 unfold ins;by_cases h:x∈ns
 .rw[aH h];exact aT _ _
 .rw[aL h,aG];exact aI _
theorem xJ:∀{l ns:List Str},(nN l ns).length<=ns.length+l.length:=by
 intro zr;induction zr with
 |nil=> intro _;exact aI _
 |cons x l mB=> intro ns;have h1:(nN l<|ins x ns).length<=(ins x ns).length+l.length:=mB;have h2:=va (x:=x) (ns:=ns);show(nN l<|ins x ns).length<=ns.length+(l.length+1);exact lk<|aC h2 h1
theorem r9:∀{l ns:List Str},y∈nN l ns<->y∈l\/y∈ns:=by
 exists zr;induction zr with
 |nil=> intro ns;simp[nN]
 |cons x l mB=>
  intro ns;show y∈nN l (ins x ns)<->_;rw[mB,aK];have:y∈ins x ns<->y=x\/y∈ns:=by
   unfold ins;by_cases h:x∈ns
   .rw[aH h];exact⟨.inr,λq=>q.elim (λe=>e▸h) id⟩
   .rw[aL h,aO,aE];exact Or.comm
  rw[this];exact⟨λq=>q.elim (λh=>.inl<|.inr h) λq=>q.elim (λh=>.inl<|.inl h) .inr,λq=>q.elim (λq=>q.elim (λh=>.inr<|.inl h) .inl) λh=>.inr<|.inr h⟩
theorem Bm:nN (l++[y]) ns=ins y (nN l ns):=by unfold nN;refine a6 gD ?_;rfl
structure JA(b:Nat)(A:B5)(po nf:Int)(ns:List Str)(p:Str->Int)(sc:Str->List Str)(H:Hp)(k:Nat)(x:Str)(r done:List Str)(st:St):Prop where
 self:lz st.loc "self" =some (.ref A.s)
 node:lz st.loc "node" =some (.str x)
 rep:∃A',A'.s=A.s/\qA b A' none .none po nf (nN (x::done) ns) p (λy=>sc y++(done.filter (· ==y)).map λU=>x) st.H
 same:nR b H st.H
 tup:st.H[k]?=some (.tuple<|r.map .str)
theorem qr{n b:Nat}{A:B5}{po nf:Int}{ns:List Str}{p:Str->Int}{sc:Str->List Str}{H:Hp}{x:Str}{k:Nat}{r done rest:List Str}{w:Str}{st:St}(hr:r=done++w::rest)(I:JA b A po nf ns p sc H k x r done st)(hl:ns.length+r.length+2<800)(hb:∀y,(sc y).length+r.length<big)(hz:∀y,y∉nN (x::done) ns->p y=0/\sc y=[]):
 ∃k6,J9 fu (n+2) ⟨st.H,put "pred" (.str w) st.loc⟩=some (.ok .next,k6)/\JA b A po nf ns p sc H k x r (done++[w]) k6:=by
 exists fu,n,b,A,po,nf,ns,p,sc,H,x,k,r,done,rest,w,st,_;exists A1,(q9:I.rep);have aaz:done.length+1<=r.length:=by simp only[hr,aG,bA];exact by simp+arith only
 obtain⟨A2,H2,q8⟩:=bq q9.2 (by have:=xJ (l:=x::done) (ns:=ns);simp only[bA]at this;exact lk<|aC this<|aC aaz hl) λy hy=>⟨(hz y hy).1,by have:done.filter (· ==y)=[]:=b8.mpr λz rl q=>hy<|r9.mpr<|.inl<|(eq_of_beq q)▸.tail _ rl;simp only[(hz y hy).2,this];rfl⟩
 exists A2,H2,_;have hw:w∈ins w (nN (x::done) ns):=Uw;have hlen:(sc w++(done.filter (· ==w)).map λU=>x).length<big:=by simp[aG];have:=cU (· ==w) done;have:=hb w;lia
 have e:J9 fu (n+2) ⟨st.H,put "pred" (.str w) st.loc⟩=some (.ok .next,⟨H2.set (A2.ld w)<|.list<|((sc w++(done.filter (· ==w)).map λU=>x)++[x]).map .str,put "pred_info" (.ref<|A2.ad w)<|put "pred" (.str w) st.loc⟩):=by refine lK (mC<|nW (kY<|(lL rfl).trans<|I.self.trans<|by rw[<-q9.1]) (Af q9.2.hs q9.2.hd rfl rfl) (pX<|kY lQ) rfl<|Uf q8.1) ?_;exact bE▸(qB<|nW (o6 (kY lQ)<|ET<|J4 (q8.2.2.1.hn w hw) (q8.2.2.1.tC w hw) rfl rfl rfl) (nL (q8.2.2.1.hl w hw) rfl) (pX<|kY<|(lL rfl).trans<|(lL rfl).trans I.node) rfl<|mI<|oK (q8.2.2.1.hl w hw) (by rw[aF];exact hlen))
 refine⟨_,e,(lL rfl).trans<|(lL rfl).trans I.self,(lL rfl).trans<|(lL rfl).trans I.node,⟨A2,q8.2.1.trans q9.1,?_⟩,(I.same.trans q8.2.2.2.1).set (q8.2.2.1.ln w hw).2,lN (q8.2.2.1.hl w hw) (q8.2.2.2.2 _ _ I.tup<|M5 I.tup q9.2.hm λe=>by rcases e with _|_) λh=>by injection h⟩;rw[show x::(done++[w])=(x::done)++[w]from rfl,Bm];refine(q8.2.2.1.adB hw<|(sc w++(done.filter (· ==w)).map λU=>x)++[x]).congr (λU U=>rfl) ?_;exists y;intro z_;rw[dR];by_cases h:y=w
 .obtain rfl:=h.symm;rw[aH rfl,aJ];simp
 .refine a6 (aL h) ?_;have:([w].filter (· ==y))=[]:=b8.mpr λz hz q=>h (by rw[aE]at hz;obtain rfl:=hz.symm;exact(eq_of_beq q).symm);rw[this];simp
theorem HH{n b:Nat}{A:B5}{po nf:Int}{ns:List Str}{p:Str->Int}{sc:Str->List Str}{H:Hp}{x:Str}{r:List Str}(R:qA b A none .none po nf ns p sc H)(hl:ns.length+r.length+2<800)(hb:∀y,(sc y).length+r.length<big)(hz:∀y,y∉ns->p y=0/\sc y=[]):
 ∃A' H',oY (lF fu<|n+3) fu 124 [("self",.ref A.s),("node",.str x),("predecessors",.ref H.length)] (H++[.tuple<|r.map .str])=some (.ok .none,H')/\A'.s=A.s/\
  qA b A' none .none po nf (nN (x::r) ns) (λy=>if y=x then p x+r.length else p y) (λy=>sc y++(r.filter (· ==y)).map λU=>x) H'/\nR b H H':=by
 exists fu,n,b,A,po,nf,ns,p,sc,H,x,r,_;exists _;exists g9,_;have R0:=R.app [.tuple<|r.map .str];have t0:(H++[.tuple<|r.map .str])[H.length]?=some (.tuple<|r.map .str):=mP;obtain⟨A1,H1,lW⟩:=bq R0 (lk hl) hz;exists A1,H1,_;have hx:x∈ins x ns:=Uw;have t1:=lW.2.2.2.2 _ _ t0<|M5 t0 R0.hm (λe=>by rcases e with _|_);obtain⟨k6,ef,I'⟩:=z8 (s:=J9 fu<|n+2) (a:=lo "predecessors") (st:=⟨_,[("predecessors",.ref H.length),("node",.str x),("self",.ref A.s),("nodeinfo",.ref<|A1.ad x)]⟩)
  (I:=JA b A po nf ns (λy=>if y=x then p x+r.length else p y) sc H H.length x r) (kY rfl)
  ⟨rfl,rfl,⟨A1,lW.2.1,(lW.2.2.1.DL hx<|p x+r.length).congr (λU U=>rfl) λy U=>by simp⟩,((nR.refl.app R.len).trans lW.2.2.2.1).set (lW.2.2.1.ln x hx).1,lN (lW.2.2.1.hn x hx) t1 λh=>by injection h⟩
  (λd st I=>J8 I.tup)
  (λdone w rest st hr I=>by
   obtain⟨k6,q9⟩:=qr hr I hl hb λy hy=>by have hy':=λh=>hy<|r9.mpr<|.inr h;exact⟨by rw[aL λh=>hy<|r9.mpr<|.inl (by rw[h];exact cN)];exact(hz y hy').1,(hz y hy').2⟩
   exact⟨_,k6,q9.1,.inl rfl,q9.2⟩)
 exists A3,(q8:I'.rep);refine k9 ⟨A3,k6.H,?_,q8.1,q8.2,I'.same⟩;have e:Sl fu (n+2) ⟨H++[.tuple<|r.map .str],[("predecessors",.ref H.length),("node",.str x),("self",.ref A.s)]⟩=some (.ok .next,k6):=
  lK (pF (mH (o6 (kY rfl)<|R0.at rfl rfl rfl) lA rfl) rfl)
   (lK (mC<|nW (kY rfl) (Af R0.hs R0.hd rfl rfl) (pX<|kY rfl) rfl<|Uf lW.1)
    (lK (Ik (kY rfl) (ET<|J4 (lW.2.2.1.hn x hx) (lW.2.2.1.tC x hx) rfl rfl rfl) (oE lA (pX<|kY rfl) rfl<|mI<|ph t1 (by rw[aF];unfold big;exact eH<|hb x)) (by simp[aF];rfl)<|Pv (lW.2.2.1.hn x hx) (lW.2.2.1.tC x hx) rfl<|cR 1 2) ef))
 simp[BP,e];rfl
theorem DM{n b:Nat}{H:Hp}(hb:b<=H.length):∃A H',lS (lF fu<|n+1) fu (.top 174) [] [] H=some (.ok<|.ref A.s,H')/\qA b A none .none 0 0 [] (λU=>0) (λU=>[]) H'/\nR b H H':=by
 exists fu,n,b,H,_;have i0:(H++[AO.dict [],AO.inst 174 H.length []])[H.length+1]?=some (.inst 174 H.length []):=by rw[aS<|aT (List.length H) 1,b5];rfl
 have d0:(H++[AO.dict [],AO.inst 174 H.length []])[H.length]?=some (.dict []):=by rw[aS<|aI _,cD];rfl
 have m0:(H++[AO.dict [],AO.inst 174 H.length []]++[AO.dict []])[H.length+2]?=some (.dict []):=by rw[aJ,aS (by simp),b5];rfl
 generalize hH:H++[AO.dict [],AO.inst 174 H.length []]=H0 at i0 d0 m0;have hl0:H0.length=H.length+2:=by exact hH▸aG▸rfl
 have i1:=lC (L:=[.dict []]) i0;have d1:=lC (L:=[.dict []]) d0;have i2:=lN (c:=.dict [("_node2info",.ref H0.length)]) d1 i1 (λh=>by injection h);have d2:=n0 (b:=.dict [("_node2info",.ref H0.length)]) d1;have i3:=lN (c:=.dict [("_node2info",.ref H0.length),("_ready_nodes",.none)]) d2 i2 (λh=>by injection h);have d3:=n0 (b:=.dict [("_node2info",.ref H0.length),("_ready_nodes",.none)]) d2;have i4:=lN (c:=.dict [("_node2info",.ref H0.length),("_ready_nodes",.none),("_npassedout",.int 0)]) d3 i3 (λh=>by injection h);have d4:=n0 (b:=.dict [("_node2info",.ref H0.length),("_ready_nodes",.none),("_npassedout",.int 0)]) d3;have e:Sk fu n ⟨H0,[("graph",.none),("self",.ref<|H.length+1)]⟩=some (.ok .next,⟨_,_⟩):=
  lK (wS rfl (kY rfl)<|Eb i1 d1 rfl (by simp))
   (lK (wS lA (kY rfl)<|Eb i2 d2 rfl<|c5 rfl)
    (lK (wS lA (kY rfl)<|Eb i3 d3 rfl<|c5 rfl)
     (lK (wS lA (kY rfl)<|Eb i4 d4 rfl<|c5 rfl)<|pF (mH (kY rfl) lA rfl) rfl)))
 refine⟨⟨H.length+1,H.length,H0.length,λU=>0,λU=>0,λU=>0⟩,_,rZ<|(by rfl':_=Hh (H.length+1) (lB (lF fu<|n+1) fu 110 [.ref<|H.length+1] []<|H++[AO.dict [],AO.inst 174 H.length []])).trans ?_,⟨lN d4 i4 λh=>by injection h,n0 d4,?_,nofun,nofun,nofun,bH _,.nil,by exact dG hb,hb,by simp[hl0];exact dG hb,bH _⟩,?_⟩
 .simp only[hH,uw,e];rfl
 .rw[hl0]at*;have ne:H.length≠H.length+2:=(by simp);exact m8 ne<|m8 ne<|m8 ne<|m8 ne m0
 .refine((((nR.set ?_ hb).set hb).set hb).set hb);exact hH▸((nR.refl.app hb).app (by rw[aG];exact dG hb))
theorem zf:lB (lF fu<|n+1) fu 136 [u] [] H=mL (Sn fu n ⟨H,[("self",u)]⟩):=
 w8 ML (by rfl')
theorem ye:lB (lF fu<|n+1) fu 143 [u] [] H=mL (So fu n ⟨H,[("self",u)]⟩):=
 w8 HU (by rfl')
theorem zd:oY (lF fu<|n+1) fu 157 [("self",u),("nodes",v)] H=mL (Sp fu n ⟨H,[("nodes",v),("self",u)]⟩):=
 w8 MW (by rfl')
theorem Rw:pP .Eq (.int a) (.int c) H=some (.bool<|a==c):=by rfl
theorem na:pP .NotEq (.int a) (.int c) H=some (.bool (!(a==c))):=by rfl
theorem QV{rd:List V}(R:qA b A none (.ref r) po nf ns p sc H)(hr:H[r]?=some (.list rd))(hz:rd.length<big):lB (lF fu<|n+1) fu 143 [.ref A.s] [] H=some (.ok<|.bool<|decide (nf<po)||!rd.isEmpty,H):=by
 have e:So fu n ⟨H,[("self",.ref A.s)]⟩=some (.ok<|.ret<|.bool<|decide (nf<po)||!rd.isEmpty,⟨H,[("self",.ref A.s)]⟩):=by
  refine lK (pF (mH (o6 (kY rfl)<|R.at rfl rfl rfl) lA rfl) rfl)<|rK<|EX (v:=.bool<|decide<|nf<po) (M3 (o6 (kY rfl)<|R.at rfl rfl rfl) (o6 (kY rfl)<|R.at rfl rfl rfl) rfl) rfl ?_;rcases decide (nf<po)with _|_
  .exact oE lA (pX<|o6 (kY rfl)<|R.at rfl rfl rfl) rfl (mI<|HR hr hz)
  .rfl
 simp[ye,e];rfl
theorem SQ{n b:Nat}{A:B5}{po nf:Int}{ns:List Str}{p:Str->Int}{sc:Str->List Str}{H:Hp}{r:Nat}{rd:List Str}(R:qA b A none (.ref r) po nf ns p sc H)(hr:H[r]?=some (.list<|rd.map .str))(o9:∀x∈ns,A.ld x≠r)(hb:b<=r)(Ol:∀x∈rd,x∈ns)(hz:rd.length<big):
 ∃H',lB (lF fu<|n+1) fu 136 [.ref A.s] [] H=some (.ok<|.ref H.length,H')/\qA b A none (.ref r) (po+rd.length) nf ns (λy=>if y∈rd then-1 else p y) sc H'/\H'[r]?=some (.list [])/\H'[H.length]?=some (.tuple<|rd.map .str)/\nR b H H':=by
 exists fu,n,b,A,po,nf,ns,p,sc,H,r,rd,_;have rl:(rd.map V.str).length<big:=by rw[aF];exact hz
 have R0:=R.app [.tuple<|rd.map .str];obtain⟨k6,ef,l1,l2,R1,r1,lW⟩:=z8 (a:=lo "result") (st:=⟨H++[.tuple<|rd.map .str],[("self",.ref A.s),("result",.ref H.length),("n2i",.ref A.m)]⟩)
  (I:=λdone st=>lz st.loc "self" =some (.ref A.s)/\(lz st.loc "result" =some (.ref H.length)/\lz st.loc "n2i" =some (.ref A.m))/\qA b A none (.ref r) po nf ns (λy=>if y∈done then-1 else p y) sc st.H/\st.H[r]?=some (.list<|rd.map .str)/\nR b H st.H/\st.H[H.length]?=some (.tuple<|rd.map .str))
  (kY rfl) ⟨rfl,⟨rfl,rfl⟩,R0.congr (λy U=>by rfl) λU U=>rfl,lC hr,nR.refl.app R.len,mP⟩ (λd st I=>J8 I.2.2.2.2.2)
  (λdone w rest st hd q9=>by
   exists done,w,rest,st,_;obtain⟨l1,q8⟩:=q9;have hw:=Ol w<|hd▸(aW _<|.head _);have e:qk fu n ⟨st.H,put "node" (.str w) st.loc⟩=some (.ok .next,⟨st.H.set (A.ad w)<|.inst 77 (A.dd w) [.str w,.int (-1),.ref<|A.ld w],put "node" (.str w) st.loc⟩):=
    wS (st:=⟨st.H,put "node" (.str w) st.loc⟩) lA (tK (kY<|(lL rfl).trans q8.1.2) (kY lQ) (Iz q8.2.1.hm)<|P5 q8.2.1.hm<|by rw[z7,aH hw]) (Pv (q8.2.1.hn w hw) (q8.2.1.tC w hw) rfl<|cR 1 2)
   refine⟨_,_,e,.inl rfl,(lL rfl).trans l1,⟨(lL rfl).trans q8.1.1,(lL rfl).trans q8.1.2⟩,(q8.2.1.DL hw (-1)).congr (λy U=>?_) λU U=>rfl,lN (q8.2.1.hn w hw) q8.2.2.1 λh=>by injection h,q8.2.2.2.1.set (q8.2.1.ln w hw).1,lN (q8.2.1.hn w hw) q8.2.2.2.2 λh=>by injection h⟩;exists y,_;simp only[aO,aE];by_cases h:y=w
   .rw[aH h,aH<|.inr h]
   .rw[aL h];by_cases h':y∈done
    .rw[aH h',aH<|.inl h']
    .rw[aL h',aL λq=>q.elim h' h])
 have R2:=R1.other (ys:=[]) r1 o9;have t2:=lN (c:=.list []) r1 lW.2 (λh=>by injection h);have e:Sn fu n ⟨H,[("self",.ref A.s)]⟩=some (.ok<|.ret<|.ref H.length,⟨_,_⟩):=
  lK (pF (mH (o6 (kY rfl)<|R.at rfl rfl rfl) lA rfl) rfl)
   (lK (mC<|oE lA (pX<|o6 (kY rfl)<|R.at rfl rfl rfl) rfl<|mI<|U7 hr rl)
    (lK (mC<|o6 (kY rfl)<|R0.at rfl rfl rfl)
     (lK ef
      (lK (qB<|nW (o6 (kY l1)<|R1.at rfl rfl rfl) (nL r1 rfl) zX rfl<|mI<|xz r1 rl)
       (lK (Ik (kY l1) (R2.at rfl rfl rfl) (oE lA (pX<|kY l2.1) rfl<|mI<|ph t2 rl) (by rw[aF];rfl)<|Eb R2.hs R2.hd rfl<|c5 rfl)<|rK<|kY l2.1)))))
 exact⟨_,by simp[zf,e];rfl,(R2.attr (.ref r) (po+rd.length) nf).congr (λU U=>rfl) λU U=>rfl,lN R2.hd (n0 r1) λh=>by injection h,lN R2.hd t2 λh=>by injection h,(lW.1.set hb).set R2.K0⟩
def r5(q:(Str->Int)×List Str)(y:Str):(Str->Int)×List Str:=(λz=>if z=y then q.1 y-1 else q.1 z,if(q.1 y-1==0)=true then q.2++[y]else q.2)
def uO(sc:Str->List Str)(q:(Str->Int)×List Str)(x:Str):(Str->Int)×List Str:=(sc x).foldl r5 (λz=>if z=x then-2 else q.1 z,q.2)
structure DJ(b:Nat)(A:B5)(po nf:Int)(ns:List Str)(sc:Str->List Str)(H0:Hp)(k r:Nat)(E8:List V)(q:(Str->Int)×List Str)(st:St):Prop where
 self:lz st.loc "self" =some (.ref A.s)
 SR:lz st.loc "n2i" =some (.ref A.m)
 rep:qA b A none (.ref r) po nf ns q.1 sc st.H
 rdy:st.H[r]?=some (.list<|q.2.map .str)
 same:nR b H0 st.H
 tup:st.H[k]?=some (.tuple E8)
theorem DJ.put(J:DJ b A po nf ns sc H0 k r E8 q st)(h1:(("self" :Str)==x)=false)(h2:(("n2i" :Str)==x)=false):DJ b A po nf ns sc H0 k r E8 q ⟨st.H,put x v st.loc⟩:=
 ⟨(lL h1).trans J.self,(lL h2).trans J.SR,J.rep,J.rdy,J.same,J.tup⟩
theorem mo:(r5 q y).2.length<=q.2.length+1:=by
 unfold r5;dsimp only;by_cases h:(q.1 y-1==0)=true
 .rw[aH h,aG];exact aI _
 .rw[aL h];exact aT _ _
theorem nr:∀{l:List Str}{q:(Str->Int)×List Str},(l.foldl r5 q).2.length<=q.2.length+l.length:=by
 intro zr;induction zr with
 |nil=> intro _;exact aI _
 |cons y l mB=> intro q;have h1:=mo (q:=q) (y:=y);have h2:=mB (q:=r5 q y);show(l.foldl r5<|r5 q y).2.length<=q.2.length+(l.length+1);exact lk<|aC h2 h1
theorem Xp{n b:Nat}{A:B5}{po nf:Int}{ns:List Str}{sc:Str->List Str}{H0:Hp}{k r:Nat}{E8:List V}{q:(Str->Int)×List Str}{st:St}(o9:∀x∈ns,A.ld x≠r)(hb:b<=r)(J:DJ b A po nf ns sc H0 k r E8 q st){y:Str}(hy:y∈ns)(hq:q.2.length<big):∃k6,Cq fu n ⟨st.H,put "successor" (.str y) st.loc⟩=some (.ok .next,k6)/\DJ b A po nf ns sc H0 k r E8 (r5 q y) k6:=by
 have R:=J.rep;have hn:=R.hn y hy;have R1:=R.DL hy<|q.1 y-1;have r1:=lN (c:=.inst 77 (A.dd y) [.str y,.int<|q.1 y-1,.ref<|A.ld y]) hn J.rdy (λh=>by injection h);have t1:=lN (c:=.inst 77 (A.dd y) [.str y,.int<|q.1 y-1,.ref<|A.ld y]) hn J.tup (λh=>by injection h);have s1:=J.same.set (o:=.inst 77 (A.dd y) [.str y,.int<|q.1 y-1,.ref<|A.ld y]) (R.ln y hy).1;have J1:=(J.put (x:= "successor") (v:=.str y) rfl rfl).put (x:= "successor_info") (v:=.ref<|A.ad y) rfl rfl;have go:∀z,T8 fu n ⟨st.H.set (A.ad y)<|.inst 77 (A.dd y) [.str y,.int<|q.1 y-1,.ref<|A.ld y],put "successor_info" (.ref<|A.ad y)<|put "successor" (.str y) st.loc⟩=z->Cq fu n ⟨st.H,put "successor" (.str y) st.loc⟩=z:=λz hz=>
  lK (mC<|tK (kY<|(lL rfl).trans J.SR) (kY lQ) (Iz R.hm)<|P5 R.hm<|by rw[z7,aH hy])
   (lK (Ik (kY lQ) (ET<|J4 hn (R.tC y hy) rfl rfl rfl) lA rfl<|Pv hn (R.tC y hy) rfl<|cR 1 2) hz)
 have t:tc (al fu n (lo "successor_info") "npredecessors") (ct<|.int 0) .Eq ⟨st.H.set (A.ad y)<|.inst 77 (A.dd y) [.str y,.int<|q.1 y-1,.ref<|A.ld y],put "successor_info" (.ref<|A.ad y)<|put "successor" (.str y) st.loc⟩=some (.ok<|q.1 y-1==0,⟨st.H.set (A.ad y)<|.inst 77 (A.dd y) [.str y,.int<|q.1 y-1,.ref<|A.ld y],put "successor_info" (.ref<|A.ad y)<|put "successor" (.str y) st.loc⟩):=
  mH (o6 (kY lQ)<|ET<|J4 (n0 hn) (R1.tC y hy) rfl rfl rfl) lA Rw
 by_cases h:(q.1 y-1==0)=true
 .rw[h]at t;refine⟨_,go _<|sZ t<|qB<|nW (o6 (kY J1.self)<|R1.at rfl rfl rfl) (nL r1 rfl) (pX<|kY<|(lL rfl).trans lQ) rfl<|mI<|oK r1 (by rw[aF];exact hq),J1.self,J1.SR,R1.other r1 o9,?_,s1.set hb,lN r1 t1 λh=>by injection h⟩;refine(n0 r1).trans ?_;unfold r5;rw[aH h,bE];rfl
 .simp only[iT]at h;rw[h]at t;refine⟨_,go _<|pF t rfl,J1.self,J1.SR,R1,r1.trans ?_,s1,t1⟩;unfold r5;rw[aL (by rw[h];exact bV)]
theorem Yo{n b:Nat}{A:B5}{po nf:Int}{ns:List Str}{sc:Str->List Str}{H0:Hp}{k r:Nat}{E8:List V}{q:(Str->Int)×List Str}{st:St}(o9:∀x∈ns,A.ld x≠r)(hb:b<=r)(J:DJ b A po nf ns sc H0 k r E8 q st){x:Str}(hx:x∈ns)(hs:∀y∈sc x,y∈ns)(hq:q.2.length+(sc x).length<big)(hp:q.1 x=-1):∃k6,Jb fu n ⟨st.H,put "node" (.str x) st.loc⟩=some (.ok .next,k6)/\DJ b A po (nf+1) ns sc H0 k r E8 (uO sc q x) k6:=by
 exists fu,n,b,A,po,nf,ns,sc,H0,k,r,E8,q,st,x,[o9,hb,J,hx,hs,hq,hp];have R:=J.rep;have hn:=R.hn x hx;replace hn:=hp▸hn;have hm:=R.hm;have R1:=R.DL hx (-2);have J1:DJ b A po nf ns sc H0 k r E8 (λz=>if z=x then-2 else q.1 z,q.2) ⟨st.H.set (A.ad x)<|.inst 77 (A.dd x) [.str x,.int (-2),.ref<|A.ld x],put "stat" (.int (-1))<|put "nodeinfo" (.ref<|A.ad x)<|put "node" (.str x) st.loc⟩:=
  ⟨(lL rfl).trans<|(lL rfl).trans<|(lL rfl).trans J.self,(lL rfl).trans<|(lL rfl).trans<|(lL rfl).trans J.SR,R1,lN hn J.rdy λh=>by injection h,J.same.set (R.ln x hx).1,lN hn J.tup λh=>by injection h⟩
 have ni:lz (put "stat" (.int (-1))<|put "nodeinfo" (.ref<|A.ad x)<|put "node" (.str x) st.loc) "nodeinfo" =some (.ref<|A.ad x):=(lL rfl).trans lQ;obtain⟨k6,ef,J2⟩:=z8 (s:=Cq fu n) (a:=al fu n (lo "nodeinfo") "successors") (st:=⟨st.H.set (A.ad x)<|.inst 77 (A.dd x) [.str x,.int (-2),.ref<|A.ld x],put "stat" (.int (-1))<|put "nodeinfo" (.ref<|A.ad x)<|put "node" (.str x) st.loc⟩)
  (I:=λdone st=>DJ b A po nf ns sc H0 k r E8 (done.foldl r5 (λz=>if z=x then-2 else q.1 z,q.2)) st)
  (o6 (kY ni)<|ET<|J4 (n0 hn) (R1.tC x hx) rfl rfl rfl) J1 (λd st I=>oZ<|I.rep.hl x hx)
  (λdone w rest st hd I=>by
   have hl:=nr (l:=done) (q:=(λz=>if z=x then-2 else q.1 z,q.2));have p0:done.length<(sc x).length:=by simp only[hd,aG,bA];exact by simp+arith only
   obtain⟨k6,q8⟩:=Xp o9 hb I (hs w<|hd▸(aW _<|.head _)) (lk<|aC p0<|aC hl hq);exact⟨_,k6,q8.1,.inl rfl,by exact gD▸q8.2⟩)
 have R2:=J2.rep;have e:Jb fu n ⟨st.H,put "node" (.str x) st.loc⟩=some (.ok .next,⟨k6.H.set A.d0<|.dict<|qF A.m (.ref r) po<|nf+1,k6.loc⟩):=
  lK (pF (mH (jp<|nW (kY<|(lL rfl).trans J.SR) (Hv hm rfl) (pX<|kY lQ) rfl<|mI<|(fp hm).trans (by rw[(by rw[z7,aH hx]:(l8 A ns).lookup x=some (.ref<|A.ad x))];rfl)) lA rfl) rfl)
   (lK (mC<|o6 (kY lQ)<|ET<|J4 hn (R.tC x hx) rfl rfl rfl)
    (lK (pF (mH (kY lQ) lA na) rfl)
     (lK (wS lA (kY ni)<|Pv hn (R.tC x hx) rfl<|cR 1 2)
      (lK ef<|Ik (kY J2.self) (R2.at rfl rfl rfl) lA rfl<|Eb R2.hs R2.hd rfl<|c5 rfl))))
 exact⟨_,e,J2.self,J2.SR,R2.attr (.ref r) po<|nf+1,lN R2.hd J2.rdy λh=>by injection h,J2.same.set R2.K0,lN R2.hd J2.tup λh=>by injection h⟩
theorem JQ{H:Hp}{p:Str->Int}{rd E8:List Str}(R:qA b A none (.ref r) po nf ns p sc H)(hr:H[r]?=some (.list<|rd.map .str))(o9:∀x∈ns,A.ld x≠r)(hb:b<=r)(Ol:∀x∈E8,x∈ns)(hs:∀x,∀y∈sc x,y∈ns)
 (hz:∀done w rest,E8=done++w::rest->(done.foldl (uO sc) (p,rd)).1 w=-1/\(done.foldl (uO sc) (p,rd)).2.length+(sc w).length<big):
 ∃H',oY (lF fu<|n+1) fu 157 [("self",.ref A.s),("nodes",.ref H.length)] (H++[.tuple<|E8.map .str])=some (.ok .none,H')/\qA b A none (.ref r) po (nf+E8.length) ns (E8.foldl (uO sc) (p,rd)).1 sc H'/\H'[r]?=some (.list<|(E8.foldl (uO sc) (p,rd)).2.map .str)/\nR b H H':=by
 have R0:=R.app [.tuple<|E8.map .str];obtain⟨k6,lW⟩:=z8 (s:=Jb fu n) (a:=lo "nodes") (st:=⟨H++[.tuple<|E8.map .str],[("nodes",.ref H.length),("self",.ref A.s),("n2i",.ref A.m)]⟩)
  (I:=λdone st=>DJ b A po (nf+done.length) ns sc H H.length r (E8.map .str) (done.foldl (uO sc) (p,rd)) st)
  (kY rfl) ⟨rfl,rfl,by simpa using R0,lC hr,nR.refl.app R.len,mP⟩ (λd st I=>J8 I.tup)
  (λdone w rest st hd I=>by
   have q9:=hz done w rest hd;obtain⟨k6,q8⟩:=Yo o9 hb I (Ol w<|hd▸(aW _<|.head _)) (hs w) q9.2 q9.1;refine⟨_,k6,q8.1,.inl rfl,?_⟩;rw[gD,aG];have:nf+done.length+1=nf+(done.length+[w].length):=by simp;exact Int.add_assoc nf (↑done.length) 1
   exact this▸q8.2)
 refine⟨k6.H,?_,lW.2.rep,lW.2.rdy,lW.2.same⟩;have e:Sp fu n ⟨H++[.tuple<|E8.map .str],[("nodes",.ref H.length),("self",.ref A.s)]⟩=some (.ok .next,k6):=
  lK (pF (mH (o6 (kY rfl)<|R0.at rfl rfl rfl) lA rfl) rfl)
   (lK (mC<|o6 (kY rfl)<|R0.at rfl rfl rfl) lW.1)
 simp[zd,e];rfl
set_option genInjectivity false in
structure Ent where
 x:Str
 c:Nat
 m:Nat
 i:Nat
theorem yEn:Nonempty Ent:=⟨⟨"",0,0,0⟩⟩
def xB:List Ent->List (Str×V)
 |[]=>[]
 |e::S=>xB S++[(e.x,.int (S.length:Int))]
theorem Dd{es fs:List (Str×V)}:(es++fs).lookup x=(es.lookup x).or (fs.lookup x):=by grind
theorem Em{w:Str}{S:List Ent}(h:w∉S.map (·.x)):(xB S).lookup w=none:=by
 induction S with
 |nil=>rfl
 |cons e S ih=> refine Dd.trans ?_;rw[ih λq=>h<|.tail _ q];show(match w==e.x with|true=>some _|false=>none)=_;rw[a7.mpr λq=>h (by rw[q];exact .head _)]
theorem E9{w:Str}{S:List Ent}(h:w∈S.map (·.x)):∃k:Nat,(xB S).lookup w=some (.int (k:Int)):=by
 induction S with
 |nil=>cases h
 |cons e S ih=>
  show ∃k:Nat,(xB S++[(e.x,V.int S.length)]).lookup w=_;rw[Dd];by_cases hS:w∈S.map (·.x)
  .exact(ih hS).imp λk hk=>by rw[hk];rfl
  .rw[Em hS,(aK.mp h).resolve_right hS];refine⟨S.length,?_⟩;show(match e.x==e.x with|true=>some _|false=>none)=_;rw[bM]
theorem jy{S:List Ent}(h:p∈xB S):p.1∈S.map (·.x):=by
 induction S with
 |nil=>exact absurd h bG
 |cons e S ih=>
  rcases aO.mp h with h|h
  .exact .tail _ (ih h)
  .rw[aE.mp h];exact .head _
theorem fb{S:List Ent}(h:e.x∉S.map (·.x)):x6 e.x (xB (e::S))=xB S:=by show(xB S++[(e.x,V.int S.length)]).filter (λq=>decide<|q.1≠e.x)=xB S;simp only[dR,(jI.mpr λp hp=>b7 λq=>h (q▸jy hp):(xB S).filter (λq=>decide<|q.1≠e.x)=xB S)];simp
theorem Hz:∀{S:List Ent},(xB S).length=S.length
 |[]=>rfl
 |e::S=>by show(xB S++[_]).length=_;simp only[aG,Hz];rfl
def sH(sc:Str->List Str)(fin:List Str):List Str->List Ent->Prop
 |_,[]=>True
 |ok,e::S=>(∀y∈(sc e.x).take e.c,y∈fin\/y∈ok)/\(∀z∈ok,z∈sc e.x)/\sH sc fin [e.x] S
theorem sH.mono(hf:∀y∈fin,y∈wP){S:List Ent}:∀{ok:List Str},sH sc fin ok S->sH sc wP ok S:=by
 induction S with
 |nil=>exact λh=>h
 |cons e S ih=>exact λh=>⟨λy hy=>(h.1 y hy).imp (hf y) id,h.2.1,ih h.2.2⟩
theorem sH.solve{S:List Ent}{w:Str}(h:sH sc fin [w] S)(hw:w∈fin):sH sc fin [] S:=by
 rcases S with _|⟨e,S⟩
 .trivial
 .exact⟨λy hy=>.inl ((h.1 y hy).elim id λq=>by rw[aE]at q;rw[q];exact hw),λz hz=>absurd hz<|bG,h.2.2⟩
theorem sH.next{S:List Ent}{e:Ent}{w:Str}(h:sH sc fin [] (e::S))(hw:(sc e.x)[e.c]?=some w):sH sc fin [w] (⟨e.x,e.c+1,e.m,e.i⟩::S):=by
 refine⟨λy hy=>?_,λz hz=>?_,h.2.2⟩
 .simp only[List.take_add_one,hw]at hy;rcases aO.mp hy with hy|hy
  .exact .inl ((h.1 y hy).elim id λq=>absurd q<|bG)
  .exact .inr hy
 .rw[aE]at hz;simp[hz];exact aR hw
theorem sH.pop{S:List Ent}{e:Ent}(h:sH sc fin [] (e::S))(hw:(sc e.x)[e.c]?=none):(∀y∈sc e.x,y∈fin)/\sH sc (fin++[e.x]) [] S:=by refine⟨λy hy=>?_,((h.2.2).mono λy hy=>b6 _ hy).solve<|aW _<|.head _⟩;exact(h.1 y (by rw[eV<|bZ.mp hw];exact hy)).elim id λq=>absurd q<|bG
theorem sH.aaB{w:Str}{S:List Ent}:∀{v:Str},sH sc fin [v] S->w∈S.map (·.x)->∃C:List Str,w∈C/\(∃y∈C,v∈sc y)/\(∀x∈C,x∈S.map (·.x))/\∀x∈C,x=w\/∃y∈C,x∈sc y:=by
 induction S with
 |nil=>exact λU h=>by cases h
 |cons e S ih=>
  intro v h hw;have hv:=h.2.1 v<|.head _;by_cases he:e.x=w
  .exact⟨[w],.head _,⟨w,.head _,he▸hv⟩,λx hx=>aE.mp hx▸he▸.head _,λx hx=>.inl<|aE.mp hx⟩
  .obtain⟨C,h1,h2,q8⟩:=ih h.2.2<|(aK.mp hw).elim (λq=>absurd q.symm he) id;refine⟨e.x::C,.tail _ h1,⟨e.x,.head _,hv⟩,λx hx=>?_,λx hx=>?_⟩
   .exact(aK.mp hx).elim (λq=>q▸.head _) λq=>.tail _<|q8.1 x q
   .rcases aK.mp hx with q|q
    .exact .inr (h2.imp λy hy=>⟨.tail _ hy.1,q▸hy.2⟩)
    .exact(q8.2 x q).imp id λq9=>q9.imp λz hz=>⟨.tail _ hz.1,hz.2⟩
def jd(sc:Str->List Str)(fin:List Str):Prop:=∀l1 x l2,fin=l1++x::l2->∀y∈sc x,y∈l1
theorem jd.snoc(h:jd sc fin)(hx:∀y∈sc x,y∈fin):jd sc<|fin++[x]:=by
 exists sc,fin,x,_;exists l1,z,l2;intro e;exists y;intro hy;rcases List.append_eq_append_iff.mp e with⟨a,e1,e2⟩|⟨a,e1,e2⟩
 .rcases a with _|⟨b,a⟩
  .obtain⟨rfl,uZ⟩:=b0 e2;rw[e1,bF];exact hx y hy
  .rcases a with _|_<;>rcases e2 with _|_
 .rcases a with _|⟨b,a⟩
  .obtain⟨rfl,Os⟩:=b0 e2;simp only[bF]at e1;exact e1▸(hx y hy)
  .obtain⟨rfl,rfl⟩:=b0 e2;exact h l1 z a e1 y hy
def Cyc(sc:Str->List Str)(ns:List Str):Prop:=∃C:List Str,C≠[]/\(∀x∈C,x∈ns)/\∀x∈C,∃y∈C,x∈sc y
def wc(sc:Str->List Str)(ns:List Str):Prop:=∃fin:List Str,(∀x∈ns,x∈fin)/\jd sc fin
theorem rO{l:List Str}:∀{m:List Str},l.Nodup->(∀x∈l,x∈m)->l.length<=m.length:=by
 induction l with
 |nil=>exact λU U=>cV _
 |cons x l ih=> intro m hn hs;have hx:=hs x<|.head _;have hn:=c7.mp hn;have:=ih hn.2 λy hy=>(List.mem_erase_of_ne (λq:y=x=>hn.1<|q▸hy)).mpr<|hs y<|.tail _ hy;rw[List.length_erase_of_mem hx]at this;exact Nat.add_le_of_le_sub (List.length_pos_of_mem hx) this
def left(sc:Str->List Str)(S:List Ent):Nat:=(S.map λe=>(sc e.x).length-e.c).sum
def rG(ev:List Ev)(y:Str)(t:Nat×Nat):Prop:=(t,y)∈ev/\∀t',(t',y)∈ev->t'=t\/Op t' t
def Asc(ev:List Ev)(R:List Str):Prop:=R.Pairwise λa b=>∃ta tb,rG ev a ta/\rG ev b tb/\Op ta tb
structure Jv(E:n4)(D:List Str)(e0 zW:List Ev)(q:(Str->Int)×List Str):Prop where
 hp:∀y,y∉D->q.1 y=(uY E y:Int)-Jo (e0++zW) y
 asc:Asc (e0++zW) q.2
 mem:∀y,y∈q.2<->(∃t,(t,y)∈zW)/\Jo (e0++zW) y=uY E y
theorem rG.snoc(h:rG ev a ta)(hn:a≠y):rG (ev++[(t,y)]) a ta:=
 ⟨b6 _ h.1,λt' h'=>(aO.mp h').elim (h.2 t') λh'=>absurd (aV (·.2)<|aE.mp h') hn⟩
theorem Ec:Jo (ev++[(t,y)]) z=Jo ev z+if y=z then 1 else 0:=by
 refine a6 Ch ?_;unfold Jo;by_cases h:y=z
 .rw[aH h,bR (by rw[h];exact bM z)];rfl
 .rw[aL h,bN (p:=λq:Ev=>q.2==z) λx=>h<|eq_of_beq x];rfl
theorem DN(hs:ev.Pairwise λx y=>Op x.1 y.1):(∃u,(u,a)∈ev)->∃ta,rG ev a ta:=by
 induction hs with
 |nil=>exact λq9=>by exists u,(hu:q9);simp at hu
 |@cons x l hx _ ih=>
  rintro⟨u,hu⟩
  by_cases hl:∃u,(u,a)∈l
  .exists ta,(q8:ih hl);exact⟨ta,.tail _ q8.1,λt' h'=>(aK.mp h').elim (λe=>.inr (by rw[show t'=x.1 from aV (·.1) e];exact hx _ q8.1))<|q8.2 t'⟩
  .rcases aK.mp hu with e|h
   .exact⟨u,by rw[e];exact .head _,λt' h'=>(aK.mp h').elim (λe'=>.inl<|aV (·.1)<|e'.trans e.symm) λh=>absurd ⟨t',h⟩ hl⟩
   .exact absurd ⟨u,h⟩ hl
theorem Jv.step{D:List Str}{e0 zW:List Ev}{q:(Str->Int)×List Str}{t:Nat×Nat}{y:Str}(J:Jv E D e0 zW q)(hs:(e0++zW).Pairwise λx y=>Op x.1 y.1)(sJ:∀a∈e0++zW,Op a.1 t)(hy:y∉D)(hc:Jo (e0++zW) y<uY E y):Jv E D e0 (zW++[(t,y)])<|r5 q y:=by
 exists E,D,e0,zW,q,t,y,_;have hpy:=J.hp y hy;have hny:=λh=>by have:=((J.mem y).mp h).2;exact Nat.not_succ_le_zero 0<|lk<|aC (aN this.symm) hc
 have old:∀z,z≠y->((∃u,(u,z)∈zW++[(t,y)])<->∃u,(u,z)∈zW):=λz hz=>
  ⟨λq9=>by exists u,(hu:q9);exact(aO.mp hu).elim (λh=>⟨u,h⟩) λh=>absurd (aV (·.2)<|aE.mp h) hz,λq9=>by exists u,(hu:q9);exact⟨u,b6 _ hu⟩⟩
 have aaC:Asc (e0++(zW++[(t,y)])) q.2:=by rw[<-aJ];refine gX (λha hb qq=>?_) J.asc;obtain⟨ta,tb,h1,h2,h3⟩:=qq;exact⟨ta,tb,h1.snoc λe=>hny<|e▸ha,h2.snoc λe=>hny<|e▸hb,h3⟩
 have hz:((q.1 y-1==0)=true)<->Jo (e0++zW) y+1=uY E y:=by rw[hpy,a5];lia
 have isl:rG (e0++(zW++[(t,y)])) y t:=by rw[<-aJ];exact⟨aW _<|.head _,λt' h'=>(aO.mp h').elim (λh=>.inr<|sJ _ h) λh=>.inl<|aV (·.1)<|aE.mp h⟩
 refine⟨λz hzD=>?_,?_,λz=>?_⟩
 .rw[<-aJ,Ec];show(if z=y then q.1 y-1 else q.1 z)=_;by_cases h:z=y
  .rw[aH h,aH h.symm,hpy,h];lia
  .rw[aL h,aL λx=>h x.symm,J.hp z hzD];rfl
 .show Asc _ (if(q.1 y-1==0)=true then q.2++[y]else q.2);by_cases h:(q.1 y-1==0)=true
  .rw[aH h];refine gE.mpr ⟨aaC,iF _ _,?_⟩;exists a;intro ha;exists b;intro hb;rw[aE]at hb;obtain rfl:=hb.symm;obtain⟨⟨u,hu⟩,hca⟩:=(J.mem a).mp ha;exists ta,(FX:(DN hs<|(aO.mp<|aW e0 hu).elim (λh=>⟨u,b6 _ h⟩) λh=>⟨u,aW _ h⟩));refine⟨ta,t,?_,isl,sJ _ FX.1⟩;rw[<-aJ];exact FX.snoc λe=>hny<|e▸ha
  .rw[aL h];exact aaC
 .exists z,[];show z∈(if(q.1 y-1==0)=true then q.2++[y]else q.2)<->_;rw[<-aJ,Ec];by_cases hzy:z=y
  .subst hzy;rw[aH rfl];by_cases h:(q.1 z-1==0)=true
   .rw[aH h];exact⟨λU=>⟨⟨t,aW _<|.head _⟩,hz.mp h⟩,λU=>aW _<|.head _⟩
   .rw[aL h];exact⟨λx=>absurd x hny,λx=>absurd (hz.mpr x.2) h⟩
  .simp only[aL (λx=>hzy x.symm:¬y=z),Nat.add_zero,old z hzy,<-J.mem z];by_cases h:(q.1 y-1==0)=true
   .rw[aH h,aO,aE];exact⟨λx=>x.elim id λx=>absurd x hzy,.inl⟩
   .rw[aL h]
theorem Jv.steps{D:List Str}(J:Jv E D e0 zW q)(hs:(e0++(zW++evn)).Pairwise λx y=>Op x.1 y.1)(hD:∀a∈evn,a.2∉D)(hc:∀y,y∉D->Jo (e0++(zW++evn)) y<=uY E y):Jv E D e0 (zW++evn)<|(evn.map (·.2)).foldl r5 q:=by
 induction evn generalizing zW q with
 |nil=>rw[bF];exact J
 |cons a l ih=>
  obtain⟨t,y⟩:=a;have q8:=gE.mp (by rw[aJ];exact hs);have hy:=hD _<|.head _;have hcy:=hc y hy;have e1:zW++(t,y)::l=(zW++[(t,y)])++l:=by rw[aJ];rfl
  have sJ:Jo (e0++zW) y<uY E y:=by rw[e1,(by rw[aJ,aJ,aJ]:e0++((zW++[(t,y)])++l)=((e0++zW)++[(t,y)])++l),Ch,Ec,aH rfl]at hcy;exact lk hcy
  exact e1▸ih (J.step q8.1 (λa ha=>q8.2.2 a ha _<|.head _) hy sJ) (e1▸hs) (λa ha=>hD a<|.tail _ ha) (e1▸hc)
theorem Nb{w:Str}{ts:List Str}(h:∀a∈ts,a≠w):(ts.foldl r5 q).1 w=q.1 w:=by
 induction ts generalizing q with
 |nil=>rfl
 |cons a l ih=> exact a6 (ih λb hb=>h b<|.tail _ hb)<|aL (h a<|.head _).symm
theorem Jv.mark{D:List Str}{e0 zW:List Ev}{q:(Str->Int)×List Str}{w:Str}(J:Jv E D e0 zW q)(hw:w∈D):Jv E D e0 zW (λz=>if z=w then-2 else q.1 z,q.2):=
 ⟨λy hy=>by refine a6 (aL (λe=>hy (e▸hw):¬y=w)) ?_;exact J.hp y hy,J.asc,J.mem⟩
theorem u8{α:Type}{P:List α->Prop}(h0:P [])(h1:∀l x,P l->P (l++[x]))(l):P l:=by
 rw[<-List.reverse_reverse l];generalize l.reverse=m;induction m with
 |nil=>exact h0
 |cons a m ih=>rw[cY];exact h1 _ _ ih
structure C3(E:n4)(O:List Str)(R:List Str)(p:Str->Int):Prop where
 nd:(O++R).Nodup
 cl:∀e∈E,e.1∈O->e.2∈O
 rd:∀e∈E,e.1∈R->e.2∈O
 hp:∀y,y∉O->p y=(uY E y:Int)-Bs E O y
theorem ei(S:C3 E O R p)(hp1:∀y,y∉R->p1 y=p y)(hr:∀y∈R,p1 y=-1):
 (∀done w rest,R=done++w::rest->(done.foldl (uO<|pV E) (p1,[])).1 w=-1/\(done.foldl (uO<|pV E) (p1,[])).2.length<=E.length)/\
  Jv E (O++R) (s8 E 0 O) (s8 E O.length R) (R.foldl (uO<|pV E) (p1,[])):=by
  exists E,O,R,p,p1,_;have hnD:∀a∈s8 E O.length R,a.2∉O++R:=λa ha hD=>by obtain⟨⟨i,k⟩,y⟩:=a;obtain⟨j,z,nO⟩:=sN.mp ha;have he:=aR nO.2.2;exact(cH.mp S.nd).2.2 z ((aO.mp hD).elim (S.cl _ he)<|S.rd _ he) z (aR nO.2.1) rfl
  have aaE:(s8 E 0 O++s8 E O.length R).Pairwise λx y=>Op x.1 y.1:=by have:=Z4 (E:=E) (O:=O++R) (i:=0);rw[y7,dF]at this;exact this
  have adC:∀y,Jo (s8 E 0 O++s8 E O.length R) y<=uY E y:=λy=>by have:=I5 (E:=E) (y:=y) (i:=0) S.nd;rw[y7,dF]at this;rw[this];exact U1
  have key:∀done rest,R=done++rest->Jv E (O++R) (s8 E 0 O) (s8 E O.length done) (done.foldl (uO<|pV E) (p1,[]))/\∀w∈rest,(done.foldl (uO<|pV E) (p1,[])).1 w=-1:=by
   refine u8 (λrest hd=>?_) λdone x ih rest hd=>?_
   .refine⟨⟨λy hy=>?_,.nil,λy=>⟨by simp,λh=>nomatch h.1⟩⟩,λw hw=>hr w<|hd▸hw⟩;simp only[show s8 E O.length []=[]from rfl,bF,I5<|(cH.mp S.nd).1];exact a6 (hp1 y λh=>hy<|aW _ h)<|S.hp y λh=>hy<|b6 _ h
   .have p0:R=done++x::rest:=by simp only[hd,aJ];rfl
    obtain⟨J,hw⟩:=ih (x::rest) p0;have eR:s8 E O.length R=(s8 E O.length done++Fc (O.length+done.length) x 0 E)++s8 E (O.length+done.length+1) rest:=by simp only[p0,y7,aJ];rfl
    have e1:s8 E O.length (done++[x])=s8 E O.length done++Fc (O.length+done.length) x 0 E:=by refine a6 y7 ?_;show _++(Fc _ x 0 E++[])=_;rw[bF]
    have sub:∀a∈Fc (O.length+done.length) x 0 E,a∈s8 E O.length R:=λa ha=>by rw[eR];exact b6 _<|aW _ ha
    have Ff:(s8 E 0 O++(s8 E O.length done++Fc (O.length+done.length) x 0 E)).Pairwise λx y=>Op x.1 y.1:=by have:=aaE;rw[eR,<-aJ]at this;exact(gE.mp this).1
    have J2:=(J.mark<|aW _ (by rw[p0];exact aW _<|.head _)).steps Ff (λa ha=>hnD a<|sub a ha) (λy U=>by refine bC ?_<|adC y;simp only[eR,Ch];exact by simp+arith only)
    refine gD▸e1▸?_;simp only[Uu]at J2;refine⟨J2,λw hwr=>?_⟩;have hwx:w≠x:=λe=>by have h1:=(cH.mp S.nd).2.1;rw[p0]at h1;exact(c7.mp<|(cH.mp h1).2.1).1<|e▸hwr
    show((pV E x).foldl r5 (λz=>if z=x then-2 else _,_)).1 w=-1;rw[Nb]
    .exact a6 (aL hwx) (hw w<|.tail _ hwr)
    .intro a ha e;rw[<-Uu]at ha;obtain⟨ev,lW⟩:=cA.mp ha;refine hnD ev (sub ev lW.1)<|aW _ ?_;simp only[lW.2,e,p0];exact aW _<|.tail _ hwr
  refine⟨λdone w rest hd=>?_,(key R [] (bF R).symm).1⟩;obtain⟨J,h1⟩:=key done (w::rest) hd;refine⟨h1 w<|.head _,?_⟩;have Ct:(done.foldl (uO<|pV E) (p1,[])).2.Nodup:=List.Pairwise.imp (λ{a b}q9 e=>by
   obtain⟨ta,tb,h1,h2,h3⟩:=q9;subst e;rcases h1.2 _ h2.1 with e|e
   .simp only[e]at h3;exact B6 h3
   .exact B6 (Hb h3 e)) J.asc
  have:=rO (m:=E.map (·.1)) Ct λy hy=>by obtain⟨⟨⟨i,k⟩,ht⟩,_⟩:=(J.mem y).mp hy;obtain⟨j,z,q8⟩:=sN.mp ht;exact cA.mpr ⟨_,aR q8.2.2,rfl⟩
  simp only[aF]at this;exact this
def tR(E:n4)(O:List Str)(x:Str):Bool:=!O.contains x&&E.all λe=>!(e.1==x)||O.contains e.2
theorem q7:tR E O x=true<->x∉O/\∀e∈E,e.1=x->e.2∈O:=by
 unfold tR;simp only[aQ,dA,aX];refine and_congr ⟨λh q=>(by replace h:=(bB.mpr q)▸h;rcases h with _|_),λh=>eF.mpr λq=>h<|bB.mp q⟩ ⟨λh e he hx=>?_,λh e he=>?_⟩
 .have:=h e he;rw[hx,bM]at this;exact bB.mp this
 .induction hx:e.1==x
  .rfl
  .exact bB.mpr (h e he<|eq_of_beq hx)
def qf(E:n4)(O:List Str)(x:Str)(q:Int×Int):Prop:=(q=(-1,-1)/\uY E x=0)\/∃i k:Nat,q=((i:Int),(k:Int))/\rG (s8 E 0 O) x (i,k)
def TI(E:n4)(ns O:List Str)(x:Str)(k:(Int×Int)×Int):Prop:=qf E O x k.1/\∃j:Nat,ns[j]?=some x/\k.2=(j:Int)
def xh(E:n4)(ns O:List Str)(a b:Str):Prop:=∃ka kb,TI E ns O a ka/\TI E ns O b kb/\qR ka kb=true
structure nH(E:n4)(ns O R:List Str):Prop where
 perm:R.Perm<|ns.filter<|tR E O
 asc:R.Pairwise<|xh E ns O
theorem rG.uniq(h:rG ev x a)(h':rG ev x b):a=b:=by
 rcases h.2 _ h'.1 with e|h1
 .exact e.symm
 .rcases h'.2 _ h.1 with e|h2
  .exact e
  .exact absurd (Hb h1 h2) B6
theorem Ea(h:uY E x=0):∀e∈E,e.1≠x:=λe he hx=>by have:=i8 h;exact absurd (b8.mp this e he)<|by simp[hx]
theorem L3(h:rG (s8 E 0 O) x t):uY E x≠0:=λh0=>by obtain⟨j,z,q8⟩:=sN.mp h.1;exact Ea h0 _ (aR q8.2.2) rfl
theorem TI.uniq{k k':(Int×Int)×Int}(hn:ns.Nodup)(h:TI E ns O x k)(h':TI E ns O x k'):k=k':=by
 exists E,ns,O,x,k,k',_;obtain⟨k1,k2⟩:=k;exists k1,k2,_;obtain⟨k1',k2'⟩:=k';exists k1',k2',_;obtain⟨h1,j,q9⟩:=h;obtain⟨TS,j',q8⟩:=h';have e2:k2=k2':=q9.2.trans<|(aV Nat.cast<|(j5 (aU.mp q9.1).1 hn).mp<|q9.1.trans q8.1.symm).trans q8.2.symm;have e3:k1=k1':=by
  rcases h1 with⟨a,b⟩|⟨i,q,a,b⟩<;>rcases TS with⟨a',b'⟩|⟨i',q',a',b'⟩
  .exact a.trans a'.symm
  .exact absurd b (L3 b')
  .exact absurd b' (L3 b)
  .have:=b.uniq b';obtain⟨rfl,rfl⟩:=bQ this;exact a.trans a'.symm
 simp[e2,e3]
theorem Cn:TO qR:=(TO.int.lex TO.int).lex TO.int
theorem Xc(h:qR a b=true)(h':qR b a=true):False:=Cn.CW h h'
theorem xh.CW(hn:ns.Nodup)(h:xh E ns O a b)(h':xh E ns O b a):False:=by exists E,ns,O,a,b,_;exists ka,kb,(q_:h);obtain⟨h1,h2,h3⟩:=q_;exists kb',ka',(q8:h');rw[h2.uniq hn q8.1]at h3;rw[h1.uniq hn q8.2.1]at h3;exact Xc h3 q8.2.2
theorem W5{α:Type}{r:α->α->Prop}(ha:∀a b,r a b->r b a->False){l:List α}:∀{m:List α},l.Perm m->l.Pairwise r->m.Pairwise r->l=m:=by
 induction l with
 |nil=>exact λp U U=>(List.perm_nil.mp p.symm).symm
 |cons a l ih=>
  intro m p h1 h2;rcases m with _|⟨b,m⟩
  .exact List.perm_nil.mp p
  .have h1:=List.pairwise_cons.mp h1;have h2:=List.pairwise_cons.mp h2;have Fs:=dY λo9=>
    ha a b (h1.1 b<|(aK.mp<|p.symm.subset<|.head _).resolve_left λe=>o9 e.symm) (h2.1 a<|(aK.mp<|p.subset<|.head _).resolve_left o9)
   subst Fs;rw[ih (List.Perm.cons_inv p) h1.2 h2.2]
theorem nH.uniq(hn:ns.Nodup)(h:nH E ns O R)(h':nH E ns O R'):R=R':=
 W5 (λa b x y=>x.CW hn y) (h.perm.trans h'.perm.symm) h.asc h'.asc
theorem nH.mem(h:nH E ns O R):y∈R<->y∈ns/\y∉O/\∀e∈E,e.1=y->e.2∈O:=by rw[h.perm.mem_iff,dT,q7]
set_option tactic.hygienic true in
theorem Rz{E:n4}{ns O R:List Str}{p p1:Str->Int}(hn:ns.Nodup)(hE:∀e∈E,e.1∈ns/\e.2∈ns)(S:C3 E O R p)(hR:nH E ns O R)(J:Jv E (O++R) (s8 E 0 O) (s8 E O.length R) (p1,R')):
 C3 E (O++R) R' p1/\nH E ns (O++R) R':=by
 exists R',E,ns,O,R,p,p1,_;have eA:s8 E 0 (O++R)=s8 E 0 O++s8 E O.length R:=by rw[y7,dF]
 have hc:∀y,Jo (s8 E 0 O++s8 E O.length R) y=Bs E (O++R) y:=λy=>by rw[<-eA,I5 S.nd]
 have Ct:R'.Nodup:=List.Pairwise.imp (λ{a b}qq e=>by obtain⟨ta,tb,h1,h2,h3⟩:=qq;subst e;rw[h1.uniq h2]at h3;exact B6 h3) J.asc;have UD:∀y,(∃t,(t,y)∈s8 E O.length R)<->∃z∈R,(y,z)∈E:=λy=>by
  exists y,[];constructor
  .rintro⟨⟨i,k⟩,h⟩
   exists j,z,(q8:sN.mp h);exact⟨z,aR q8.2.1,aR q8.2.2⟩
  .rintro⟨z,h1,h2⟩
   exists z,_;exists j,(hj:cE h1);exists k,(hk:cE h2);exact⟨(O.length+j,k),sN.mpr ⟨j,z,rfl,hj,hk⟩⟩
 have vZ:∀y,y∈R'<->(∃z∈R,(y,z)∈E)/\∀e∈E,e.1=y->e.2∈O++R:=λy=>by rw[<-CM,<-hc,<-UD];exact J.mem y
 have aaF:∀y∈R',y∉O++R:=λy hy hD=>by obtain⟨⟨z,h1,h2⟩,uZ⟩:=(vZ y).mp hy;exact(cH.mp S.nd).2.2 z ((aO.mp hD).elim (S.cl _ h2)<|S.rd _ h2) z h1 rfl
 refine⟨⟨cH.mpr ⟨S.nd,Ct,λa ha b hb e=>aaF b hb<|e▸ha⟩,λe he h=>b6 _<|(aO.mp h).elim (S.cl e he)<|S.rd e he,λe he h=>((vZ _).mp h).2 e he rfl,λy hy=>(J.hp y hy).trans<|by rw[hc]⟩,⟨?_,?_⟩⟩
 .refine(List.perm_ext_iff_of_nodup Ct<|hn.filter _).mpr ?_;exists y;rw[dT,q7,vZ];constructor
  .intro h;obtain⟨⟨z,Os,h2⟩,h3⟩:=id h;exact⟨(hE _ h2).1,aaF y<|(vZ y).mpr h,h3⟩
  .rintro⟨h1,h2,h3⟩
   refine⟨dY λhno=>h2<|aW _<|hR.mem.mpr ⟨h1,λq=>h2<|b6 _ q,λe he hy=>?_⟩,h3⟩;exact(aO.mp<|h3 e he hy).elim id λq=>absurd ⟨e.2,q,by exact hy▸he⟩ hno
 .refine gX (λ{a b}ha hb qq=>?_) J.asc;obtain⟨ta,tb,h1,h2,h3⟩:=qq;obtain⟨ia,ka⟩:=ta;obtain⟨ib,kb⟩:=tb;obtain⟨ja,hja⟩:=cE (by obtain⟨⟨z,rc,h⟩,DB⟩:=(vZ a).mp ha;exact(hE _ h).1);obtain⟨jb,hjb⟩:=cE (by obtain⟨⟨z,TY,h⟩,z6_⟩:=(vZ b).mp hb;exact(hE _ h).1);refine⟨((ia,ka),ja),((ib,kb),jb),⟨.inr ⟨ia,ka,rfl,by rw[eA];exact h1⟩,ja,hja,rfl⟩,⟨.inr ⟨ib,kb,rfl,by rw[eA];exact h2⟩,jb,hjb,rfl⟩,?_⟩;unfold Op at h3;dsimp only[qR];dsimp only at*;rw[aL (by intro q;have:=eq_of_beq q;simp only[Prod.mk.injEq]at this;lia)];by_cases e:ia=ib
  .exact a6 (aH<|e▸(bM _)) (b7<|by simp_all)
  .exact a6 (aL (by intro q;exact e<|j8.mp<|eq_of_beq q)) (b7<|by simp_all)
theorem zp{s:SF}{x:Str}{v:V}{st st1:Nat->St}{k:Nat->List Nat}{r:List Str}{I:List Str->(Nat->St)->Prop}{Q:V->(Nat->St)->Prop}(h:∀i,a (st i)=some (.ok v,st1 i))(h0:I [] st1)(hk:∀d st,I d st->∀i,lZ v (st i).H=some (k i,r.map .str))
 (step:∀done w rest st,r=done++w::rest->I done st->∃f k6,(∀i,s ⟨(st i).H,put x (.str w) (st i).loc⟩=some (.ok f,k6 i))/\(((f=.next\/f=.cont)/\I (done++[w]) k6)\/∃z,f=.ret z/\Q z k6)):
  ∃f k6,(∀i,fr a x s (st i)=some (.ok f,k6 i))/\((f=.next/\I r k6)\/∃z,f=.ret z/\Q z k6):=by
  have key:∀rest done st,r=done++rest->I done st->∃f k6,(∀i,Cw (lZ v) (k i,r.map .str) (qG x) s (rest.map .str) (st i)=some (.ok f,k6 i))/\((f=.next/\I r k6)\/∃z,f=.ret z/\Q z k6):=by
   exists rest;induction rest with
   |nil=>intro done st hd hI;simp only[bF]at hd;subst hd;exact⟨.next,st,λi=>aH<|hk _ _ hI i,.inl ⟨rfl,hI⟩⟩
   |cons w l ih=>
    intro done st hd hI;obtain⟨f,k6,e,hf⟩:=step done w l st hd hI;have go:∀i,Cw (lZ v) (k i,r.map .str) (qG x) s ((w::l).map .str) (st i)=lG.then (s ⟨(st i).H,put x (.str w) (st i).loc⟩) _:=λi=>(aH<|hk _ _ hI i).trans<|lG.at rfl;rcases hf with⟨hf,hI'⟩|⟨z,rfl,hz⟩
    .obtain⟨f2,st2,q9⟩:=ih (done++[w]) k6 (by simp only[hd,aJ];rfl) hI';refine⟨f2,st2,λi=>(go i).trans<|(lG.at<|e i).trans ?_,q9.2⟩;rcases hf with rfl|rfl<;>exact q9.1 i
    .exact⟨_,k6,λi=>(go i).trans<|(lG.at<|e i).trans rfl,.inr ⟨z,rfl,hz⟩⟩
  obtain⟨f,k6,q8⟩:=key r [] st1 rfl h0;refine⟨f,k6,λi=>(lG.at<|h i).trans ?_,q8.2⟩;rw[hk _ _ h0 i];exact q8.1 i
set_option tactic.hygienic true in
theorem FF{s r:SF}{I:Nat->(Nat->St)->Prop}{Q:Fl->(Nat->St)->Prop}
 (step:∀k st,I k st->(∃f st2,(∀i,t (st i)=some (.ok true,st i))/\(∀i,s (st i)=some (.ok f,st2 i))/\(((f=.next\/f=.cont)/\∃k',k'<k/\I k' st2)\/(f=.brk/\Q .next st2)\/∃v,f=.ret v/\Q (.ret v) st2))\/
  ∃f st2,(∀i,t (st i)=some (.ok false,st i))/\(∀i,r (st i)=some (.ok f,st2 i))/\Q f st2):∀fu k st,I k st->k<fu->∃f k6,(∀i,qP t s r fu (st i)=some (.ok f,k6 i))/\Q f k6:=by
  exists zr;induction zr with
  |zero=> intro _ _ _ h;exact absurd h<|kN _
  |succ fu mB=>
   intro k st hI h;exists _;rcases step k st hI with⟨f,st2,e1,e2,hf⟩|⟨f,st2,e1,e2,hQ⟩
   .have go:∀i,qP t s r (fu+1) (st i)=lG.then (s<|st i) _:=λi=>lG.at<|e1 i;rcases hf with⟨hf,k',hk,hI'⟩|⟨rfl,hQ⟩|⟨v,rfl,hQ⟩
    .obtain⟨f3,DK,q8⟩:=mB k' st2 hI' (lk<|aC hk h);refine k9 ⟨f3,DK,λi=>(go i).trans<|(lG.at<|e2 i).trans ?_,q8.2⟩;rcases hf with rfl|rfl<;>exact q8.1 i
    .exact k9 ⟨_,_,λi=>(go i).trans<|(lG.at<|e2 i).trans rfl,hQ⟩
    .exact k9 ⟨_,_,λi=>(go i).trans<|(lG.at<|e2 i).trans rfl,hQ⟩
   .exact k9 ⟨f,st2,λi=>(lG.at<|e1 i).trans<|e2 i,hQ⟩
def Y7(J:List Nat)(H H':Hp):Prop:=∀(j:Nat)(o:AO),H[j]?=some o->j∉J->H'[j]?=some o
theorem Y7.set(h:Y7 J H H')(hi:i∈J):Y7 J H<|H'.set i o:=λj o hj hn=>m8 (λe=>hn<|e▸hi)<|h j o hj hn
theorem Y7.app(h:Y7 J H H'):Y7 J H<|H'++L:=λj o hj hn=>lC<|h j o hj hn
structure Cy(k:Nat)(A:B5)(ns:List Str)(sc:Str->List Str)(S:List Ent)(seen fin:List Str)(T:Hp)(loc:Loc):Prop where
 l0:lz loc "n2i" =some (.ref A.m)
 l1:lz loc "stack" =some (.ref<|k+0)
 l2:lz loc "itstack" =some (.ref<|k+1)
 l3:lz loc "seen" =some (.ref<|k+2)
 l4:lz loc "node2stacki" =some (.ref<|k+3)
 h0:T[0]?=some (.list<|S.reverse.map λe=>.str e.x)
 h1:T[1]?=some (.list<|S.reverse.map λe=>.ref<|k+e.m)
 h2:T[2]?=some (.set seen)
 h3:T[3]?=some (.dict<|xB S)
 hm:∀e∈S,T[e.m]?=some (.mw<|k+e.i)
 hl:∀e∈S,T[e.i]?=some (.m6 (A.ld e.x) e.c)
 hi:(S.map (·.i)).Nodup
 nd:(S.map (·.x)).Nodup
 sn:∀x,x∈seen<->x∈fin\/x∈S.map (·.x)
 snd:seen.Nodup
 Fa:∀x∈seen,x∈ns
 Y3:jd sc fin
theorem Cy.put{S:List Ent}{seen:List Str}(C:Cy k A ns sc S seen fin T loc):Cy k A ns sc S seen fin T<|put "node" v loc:=
 {C with l0:=(lL rfl).trans C.l0,l1:=(lL rfl).trans C.l1,l2:=(lL rfl).trans C.l2,l3:=(lL rfl).trans C.l3,l4:=(lL rfl).trans C.l4}
theorem Cy.len{S:List Ent}{seen:List Str}(C:Cy k A ns sc S seen fin T loc):S.length<=ns.length:=by have:=rO C.nd λx hx=>C.Fa x<|(C.sn x).mpr<|.inr hx;rw[aF]at this;exact this
theorem oO(hk:H.length=k)(h:T[j]?=some o):(H++T)[k+j]?=some o:=by rw[<-hk,aS<|aT _ _,b5];exact h
theorem sC(hk:H.length=k):(H++T).set (k+j) o=H++T.set j o:=by rw[<-hk,dO _ _<|aT _ _,b5]
theorem zA(hk:H.length=k):(H++T).length=k+T.length:=by simp only[aG,hk]
theorem ji{S:List Ent}{seen:List Str}(C:Cy k A ns sc S seen fin T loc){j:Nat}(hj:T[j]?=some o)(a1:∀xs,o≠.list xs)(a2:∀xs,o≠.set xs)(a3:∀xs,o≠.dict xs):j∉[0,1,2,3]:=λhJ=>by
 simp only[aK,bG,kX]at hJ;rcases hJ with rfl|rfl|rfl|rfl
 .exact a1 _ (aA<|hj.symm.trans C.h0)
 .exact a1 _ (aA<|hj.symm.trans C.h1)
 .exact a2 _ (aA<|hj.symm.trans C.h2)
 .exact a3 _ (aA<|hj.symm.trans C.h3)
theorem ux{k:Nat}{A:B5}{rv:V}{po nf:Int}{ns:List Str}{p:Str->Int}{sc:Str->List Str}{Hf:Nat->Hp}{T:Hp}{loc:Loc}{S:List Ent}{seen fin:List Str}{w:Str}(R:∀i,qA b A (some i) rv po nf ns p sc<|Hf i)(hk:∀i,(Hf i).length=k)(hN:ns.length<800)(C:Cy k A ns sc S seen fin T loc)(hw:lz loc "node" =some (.str w))(hn:w∈ns)(hs:w∉seen):
 ∃e T',e.x=w/\e.c=0/\(∀i,Jh fu n ⟨Hf i++T,loc⟩=some (.ok .next,⟨Hf i++T',loc⟩))/\Cy k A ns sc (e::S) (seen++[w]) fin T' loc:=by
 exists fu,n,b,k,A,rv,po,nf,ns,p,sc,Hf,T,loc,S,seen,fin,w,_;have uk:=C.len;have aaG:seen.length<=ns.length:=rO C.snd C.Fa;have FZ:w∉S.map (·.x):=λq=>hs<|(C.sn w).mpr<|.inr q;have F0:=m8 (b:=.set<|seen++[w]) (show 2≠0 by decide) C.h0;have F1:=m8 (b:=.set<|seen++[w]) (show 2≠1 by decide) C.h1;have F2:=n0 (b:=.set<|seen++[w]) C.h2;have F3:=m8 (b:=.set<|seen++[w]) (show 2≠3 by decide) C.h3;have X:Y7 [0,1,2,3] T<|T.set 2<|.set<|seen++[w]:=Y7.set (λU U h U=>h)<|.tail _<|.tail _<|.head _;have hlen:(T.set 2<|.set<|seen++[w]).length=T.length:=eQ;generalize hT1:T.set 2 (.set<|seen++[w])=T1 at*;have GL:(T1++[AO.m6 (A.ld w) 0])[T.length]?=some (.m6 (A.ld w) 0):=by exact hlen▸mP
 have X2:=X.app (L:=[.m6 (A.ld w) 0]);have G0:=lC (L:=[.m6 (A.ld w) 0]) F0;have G1:=lC (L:=[.m6 (A.ld w) 0]) F1;have G2:=lC (L:=[.m6 (A.ld w) 0]) F2;have G3:=lC (L:=[.m6 (A.ld w) 0]) F3;have Om:(T1++[AO.m6 (A.ld w) 0]).length=T.length+1:=by rw[aG,hlen];rfl
 generalize hT2:T1++[AO.m6 (A.ld w) 0]=T2 at*;have HM:(T2++[AO.mw<|k+T.length])[T.length+1]?=some (.mw<|k+T.length):=by exact Om▸mP
 have HL:=lC (L:=[.mw<|k+T.length]) GL;have X3:=X2.app (L:=[.mw<|k+T.length]);have H0:=lC (L:=[.mw<|k+T.length]) G0;have H1:=lC (L:=[.mw<|k+T.length]) G1;have H2:=lC (L:=[.mw<|k+T.length]) G2;have H3:=lC (L:=[.mw<|k+T.length]) G3;generalize hT3:T2++[AO.mw<|k+T.length]=T3 at*;have I0:=m8 (b:=.list<|(S.reverse.map λe=>V.ref<|k+e.m)++[V.ref<|k+(T.length+1)]) (show 1≠0 by decide) H0;have I1:=n0 (b:=.list<|(S.reverse.map λe=>V.ref<|k+e.m)++[V.ref<|k+(T.length+1)]) H1;have I2:=m8 (b:=.list<|(S.reverse.map λe=>V.ref<|k+e.m)++[V.ref<|k+(T.length+1)]) (show 1≠2 by decide) H2;have I3:=m8 (b:=.list<|(S.reverse.map λe=>V.ref<|k+e.m)++[V.ref<|k+(T.length+1)]) (show 1≠3 by decide) H3;have IL:=lN (c:=.list<|(S.reverse.map λe=>V.ref<|k+e.m)++[V.ref<|k+(T.length+1)]) H1 HL nofun;have IM:=lN (c:=.list<|(S.reverse.map λe=>V.ref<|k+e.m)++[V.ref<|k+(T.length+1)]) H1 HM nofun;have X4:=X3.set (i:=1) (o:=.list<|(S.reverse.map λe=>V.ref<|k+e.m)++[V.ref<|k+(T.length+1)])<|.tail _<|.head _;generalize hT4:T3.set 1 (.list<|(S.reverse.map λe=>V.ref<|k+e.m)++[V.ref<|k+(T.length+1)])=T4 at*;have J0:=m8 (b:=.dict<|xB S++[(w,.int (S.length:Int))]) (show 3≠0 by decide) I0;have J1:=m8 (b:=.dict<|xB S++[(w,.int (S.length:Int))]) (show 3≠1 by decide) I1;have J2:=m8 (b:=.dict<|xB S++[(w,.int (S.length:Int))]) (show 3≠2 by decide) I2;have J3:=n0 (b:=.dict<|xB S++[(w,.int (S.length:Int))]) I3;have JL:=lN (c:=.dict<|xB S++[(w,.int (S.length:Int))]) I3 IL nofun;have JM:=lN (c:=.dict<|xB S++[(w,.int (S.length:Int))]) I3 IM nofun;have X5:=X4.set (i:=3) (o:=.dict<|xB S++[(w,.int (S.length:Int))])<|.tail _<|.tail _<|.tail _<|.head _;generalize hT5:T4.set 3 (.dict<|xB S++[(w,.int (S.length:Int))])=T5 at*;have X6:=X5.set (i:=0) (o:=.list<|(S.reverse.map λe=>V.str e.x)++[.str w])<|.head _;have hz0:(S.reverse.map λe=>V.str e.x).length<big:=by rw[aF,d5];unfold big;exact lk<|aC uk hN
 have hc:(if seen.contains w then seen else seen++[w])=seen++[w]:=aL (by rw[bB];exact hs);refine⟨⟨w,0,T.length+1,T.length⟩,T5.set 0<|.list<|(S.reverse.map λe=>V.str e.x)++[.str w],rfl,rfl,λi=>?_,?_⟩
 .have u0:=hk i;have Ri:=R i;refine lK (qB<|nW (kY C.l3) (QI<|oO u0 C.h2) (pX<|kY hw) rfl<|mI<|(Zk (oO u0 C.h2) (lk<|aC aaG hN)).trans<|by rw[hc,sC u0,hT1]) ?_;refine lK (qB<|nW (kY C.l2) (nL (oO u0 F1) rfl) (pX<|o6 (st1:=⟨Hf i++T2,loc⟩) (v:=.ref<|k+T.length) ?_ ?_) rfl<|mI<|(oK (oO u0 H1) (by rw[aF,d5];unfold big;omega)).trans<|by rw[sC u0,hT4]) ?_
  .exact oE lA (pX<|o6 (tK (kY C.l0) (kY hw) (bf<|lC Ri.hm)<|CT (lC Ri.hm)<|by rw[z7,aH hn])<|ET<|J4 (lC<|Ri.hn w hn) (lC<|Ri.tC w hn) rfl rfl rfl) rfl ((QN<|lC<|Ri.hl w hn).trans<|by simp only[zA u0,hlen,aJ,hT2])
  .exact(xf<|oO u0 GL).trans (by simp only[zA u0,Om,aJ,hT3])
  exact lK (FJ (oE lA (pX<|kY C.l1) rfl<|mI<|Gl (oO u0 I0) hz0) (kY C.l4) (kY hw)<|(ed (oO u0 I3) (by rw[Hz];unfold big;omega)).trans<|by rw[(by simp only[Vc<|Em FZ,aF,d5]:put w (.int (S.reverse.map λe=>V.str e.x).length) (xB S)=xB S++[(w,.int S.length)]),sC u0,hT5])
   (qB<|nW (kY C.l1) (nL (oO u0 J0) rfl) (pX<|kY hw) rfl<|mI<|(oK (oO u0 J0) hz0).trans<|by rw[sC u0])
 exact{
  l0:=C.l0,l1:=C.l1,l2:=C.l2,l3:=C.l3,l4:=C.l4
  h0:=(n0 J0).trans (by rw[cY,bE];rfl)
  h1:=(m8 (by decide) J1).trans (by rw[cY,bE];rfl)
  h2:=m8 (by decide) J2
  h3:=m8 (by decide) J3
  hm:=λe he=>by
   rcases aK.mp he with rfl|he
   .exact lN J0 JM (λh=>by injection h)
   .exact X6 _ _ (C.hm e he) (ji C (C.hm e he) (λU h=>by injection h) (λU h=>by injection h) λU h=>by injection h)
  hl:=λe he=>by
   rcases aK.mp he with rfl|he
   .exact lN J0 JL (λh=>by injection h)
   .exact X6 _ _ (C.hl e he) (ji C (C.hl e he) (λU h=>by injection h) (λU h=>by injection h) λU h=>by injection h)
  hi:=c7.mpr ⟨λq=>by exists e,(q8:cA.mp q);have:=nE<|C.hl e q8.1;rw[q8.2]at this;exact dJ _ this,C.hi⟩
  nd:=c7.mpr ⟨FZ,C.nd⟩
  sn:=λx=>by rw[aO,aE,C.sn,cW,aK];exact⟨λq=>q.elim (λq=>q.imp id .inr) λq=>.inr<|.inl q,λq=>q.elim (λq=>.inl<|.inl q) λq=>q.elim .inr λq=>.inl<|.inr q⟩
  snd:=cH.mpr ⟨C.snd,by simp,λa ha c hc q=>hs (by rw[aE]at hc;simp[<-hc,<-q];exact ha)⟩
  Fa:=λx hx=>(aO.mp hx).elim (C.Fa x) λq=>by rw[aE]at q;rw[q];exact hn
  Y3:=C.Y3}
theorem x4{S:List Ent}{α:Type}{f:Ent->α}:((e::S).reverse.map f)[((e::S).reverse.map f).length-1]?=some (f e):=by simp only[cY,bE,aG];show(_++[f e])[_+1-1]?=_;simp only[jY,aS<|aI _,cD];rfl
theorem U5{S:List Ent}{α:Type}{f:Ent->α}:((e::S).reverse.map f).eraseIdx (((e::S).reverse.map f).length-1)=S.reverse.map f:=by grind
set_option tactic.hygienic true in
theorem AS{Hf:Nat->Hp}{S:List Ent}{seen:List Str}{w:Str}(R:∀i,qA b A (some i) rv po nf ns p sc<|Hf i)(hk:∀i,(Hf i).length=k)(hN:ns.length<800)(C:Cy k A ns sc (e::S) seen fin T loc)(hw:(sc e.x)[e.c]?=some w):
 ∃T',(∀i,Ke fu n ⟨Hf i++T,loc⟩=some (.ok .brk,⟨Hf i++T',put "node" (.str w) loc⟩))/\Cy k A ns sc (⟨e.x,e.c+1,e.m,e.i⟩::S) seen fin T' (put "node" (.str w) loc):=by
 have uk:=C.len;have hm:=C.hm e<|.head _;have hl:=C.hl e<|.head _;have X:Y7 [e.i] T<|T.set e.i<|.m6 (A.ld e.x)<|e.c+1:=Y7.set (λU U h U=>h)<|.head _;have ni:∀{j:Nat}{o:AO},T[j]?=some o->(∀l k,o≠.m6 l k)->(T.set e.i<|.m6 (A.ld e.x)<|e.c+1)[j]?=some o:=λhj a=>X _ _ hj (by rw[aE];rintro rfl;exact a _ _<|aA<|hj.symm.trans hl);refine⟨T.set e.i<|.m6 (A.ld e.x)<|e.c+1,λi=>qh (lK
  (mC (oE (tK (kY C.l2) (Nf lA rfl) (qU<|oO (hk i) C.h1)<|It (oO (hk i) C.h1) (by simp only[aF,d5];unfold big;exact lk<|aC uk hN) x4) zX (FO<|oO (hk i) hm)
   ((NQ (oO (hk i) hm) (oO (hk i) hl) (lC<|(R i).hl _<|C.Fa _<|(C.sn _).mpr<|.inr<|.head _) (by simp only[bD,hw];rfl)).trans<|by rw[sC<|hk i]))) (JK rfl)),?_⟩
 exact{C.put with
  h0:=by exact cY▸((ni C.h0 nofun).trans (by simp only[cY,bE];rfl))
  h1:=by exact cY▸((ni C.h1 nofun).trans (by simp only[cY,bE];rfl))
  h2:=ni C.h2<|by simp
  h3:=ni C.h3<|by simp
  hm:=λa ha=>(aK.mp ha).elim (λq=>by simp[q];exact ni hm nofun) λq=>ni (C.hm a<|.tail _ q) nofun
  hl:=λa ha=>(aK.mp ha).elim (λq=>by exact q▸(n0 hl)) λq=>X _ _ (C.hl a<|.tail _ q) (by rw[aE];intro q';exact(c7.mp C.hi).1<|cA.mpr ⟨a,q,q'⟩)
  hi:=C.hi
  nd:=C.nd
  sn:=C.sn}
theorem QQ{k:Nat}{A:B5}{rv:V}{po nf:Int}{ns:List Str}{p:Str->Int}{sc:Str->List Str}{Hf:Nat->Hp}{T:Hp}{loc:Loc}{S:List Ent}{seen fin:List Str}{e:Ent}(R:∀i,qA b A (some i) rv po nf ns p sc<|Hf i)(hk:∀i,(Hf i).length=k)(hN:ns.length<800)(C:Cy k A ns sc (e::S) seen fin T loc)(hw:(sc e.x)[e.c]?=none)(hs:∀y∈sc e.x,y∈fin):
 ∃T',(∀i,Ke fu n ⟨Hf i++T,loc⟩=some (.ok .next,⟨Hf i++T',loc⟩))/\Cy k A ns sc S seen (fin++[e.x]) T' loc:=by
 exists fu,n,b,k,A,rv,po,nf,ns,p,sc,Hf,T,loc,S,seen,fin,e,_;have uk:S.length+1<=ns.length:=C.len;have ZO:((e::S).reverse.map λe=>V.ref<|k+e.m).length<big:=by rw[aF,d5];show S.length+1<big;unfold big;exact lk<|aC uk hN
 have hm:=C.hm e<|.head _;have hl:=C.hl e<|.head _;exists q,(hq:E9 (S:=e::S)<|.head _);have F0:=lN (c:=.lend) hl C.h0 (λh=>by injection h);have F1:=lN (c:=.lend) hl C.h1 (λh=>by injection h);have F2:=lN (c:=.lend) hl C.h2 (λh=>by injection h);have F3:=lN (c:=.lend) hl C.h3 (λh=>by injection h);have X1:Y7 [e.i,0,1,2,3] T<|T.set e.i .lend:=Y7.set (λU U h U=>h)<|.head _;generalize hT1:T.set e.i .lend=T1 at*;have G0:=n0 (b:=.list<|S.reverse.map λe=>V.str e.x) F0;have G1:=m8 (b:=.list<|S.reverse.map λe=>V.str e.x) (show 0≠1 by decide) F1;have G2:=m8 (b:=.list<|S.reverse.map λe=>V.str e.x) (show 0≠2 by decide) F2;have G3:=m8 (b:=.list<|S.reverse.map λe=>V.str e.x) (show 0≠3 by decide) F3;have X2:=X1.set (o:=.list<|S.reverse.map λe=>V.str e.x)<|.tail _<|.head _;generalize hT2:T1.set 0 (.list<|S.reverse.map λe=>V.str e.x)=T2 at*;have J0:=m8 (b:=.dict<|xB S) (show 3≠0 by decide) G0;have J1:=m8 (b:=.dict<|xB S) (show 3≠1 by decide) G1;have J2:=m8 (b:=.dict<|xB S) (show 3≠2 by decide) G2;have J3:=n0 (b:=.dict<|xB S) G3;have X3:=X2.set (o:=.dict<|xB S)<|.tail _<|.tail _<|.tail _<|.tail _<|.head _;generalize hT3:T2.set 3 (.dict<|xB S)=T3 at*;have X4:=X3.set (o:=.list<|S.reverse.map λe=>V.ref<|k+e.m)<|.tail _<|.tail _<|.head _;have nm:∀{j:Nat}{o:AO},T[j]?=some o->(∀xs,o≠.list xs)->(∀xs,o≠.set xs)->(∀xs,o≠.dict xs)->j≠e.i->j∉[e.i,0,1,2,3]:=λhj a1 a2 a3 a4 hJ=>(aK.mp hJ).elim a4<|ji C hj a1 a2 a3;refine⟨T3.set 1<|.list<|S.reverse.map λe=>V.ref<|k+e.m,λi=>?_,?_⟩
 .have u0:=hk i;refine T9 (JU<|CC (oE (tK (kY C.l2) (Nf lA rfl) (qU<|oO u0 C.h1)<|It (oO u0 C.h1) ZO x4) zX (FO<|oO u0 hm)
   ((HP (oO u0 hm) (oO u0 hl) (lC<|(R i).hl _<|C.Fa _<|(C.sn _).mpr<|.inr<|.head _) (by simp only[bD,hw];rfl)).trans<|by rw[sC u0,hT1]))) rfl ?_
  exact lK
   (XE (kY C.l4) (C9 (kY C.l1) (nL (oO u0 F0) rfl) zX rfl<|(FB (oO u0 F0) (by rw[aF,d5];show S.length+1<big;unfold big;omega) x4).trans<|by rw[U5,sC u0,hT2])<|(LF (oO u0 G3) (by rw[hq];rfl) (by rw[Hz];show S.length+1<big;unfold big;omega)).trans<|by rw[fb<|(c7.mp C.nd).1,sC u0,hT3])
   (qB<|C9 (kY C.l2) (nL (oO u0 J1) rfl) zX rfl<|(FB (oO u0 J1) ZO x4).trans<|by rw[U5,sC u0])
 exact{
  l0:=C.l0,l1:=C.l1,l2:=C.l2,l3:=C.l3,l4:=C.l4
  h0:=m8 (by decide) J0
  h1:=n0 J1
  h2:=m8 (by decide) J2
  h3:=m8 (by decide) J3
  hm:=λa ha=>X4 _ _ (C.hm a<|.tail _ ha)<|nm (C.hm a<|.tail _ ha) (λU h=>by injection h) (λU h=>by injection h) (λU h=>by injection h)<|M5 (C.hm a<|.tail _ ha) hl λh=>by injection h
  hl:=λa ha=>X4 _ _ (C.hl a<|.tail _ ha)<|nm (C.hl a<|.tail _ ha) (λU h=>by injection h) (λU h=>by injection h) (λU h=>by injection h) λq=>(c7.mp C.hi).1<|cA.mpr ⟨a,ha,q⟩
  hi:=(c7.mp C.hi).2
  nd:=(c7.mp C.nd).2
  sn:=λx=>by rw[C.sn,aO,aE,cW,aK];exact⟨λq=>q.elim (λq=>.inl<|.inl q) λq=>q.elim (λq=>.inl<|.inr q) .inr,λq=>q.elim (λq=>q.elim .inl λq=>.inr<|.inl q) λq=>.inr<|.inr q⟩
  snd:=C.snd
  Fa:=C.Fa
  Y3:=C.Y3.snoc hs}
theorem DX(h:H[i]?=some (.list xs))(h':H[j]?=some (.list ys))(hz:xs.length+ys.length<big):Qs .Add (.ref i) (.ref j) H=some (.ref H.length,H++[.list<|xs++ys]):=by refine(rfl:_=(none:rh).or (none.or<|vL (λU xs=>vL (λU ys H=>if xs.length+ys.length<big then some (.ref H.length,H++[.list<|xs++ys])else none)<|.ref j) (.ref i) H)).trans ?_;rw[wV h<|bP hz,wV h'<|eH hz,aH hz];rfl
theorem Tc:lB (lF fu<|n+1) fu 164 [u] [] H=mL (Sq fu n ⟨H,[("self",u)]⟩):=
 w8 NI (by rfl')
def Um(Hf:Nat->Hp)(T:Hp)(loc:Loc)(i:Nat):St:=⟨Hf i++T,loc⟩
def abX(k:Nat)(A:B5)(ns:List Str)(sc:Str->List Str)(Hf:Nat->Hp)(seen:List Str)(m:Nat)(st:Nat->St):Prop:=∃S fin w T loc,st=Um Hf T loc/\Cy k A ns sc S seen fin T loc/\lz loc "node" =some (.str w)/\w∈ns/\sH sc fin [w] S/\S≠[]/\left sc S<m
def nj(k:Nat)(A:B5)(ns:List Str)(sc:Str->List Str)(Hf:Nat->Hp)(seen:List Str)(st:Nat->St):Prop:=∃fin T loc,st=Um Hf T loc/\Cy k A ns sc [] seen fin T loc
set_option tactic.hygienic true in
theorem ki{k:Nat}{A:B5}{ns:List Str}{sc:Str->List Str}{S:List Ent}{seen:List Str}(R:∀i,qA b A (some i) rv po nf ns p sc<|Hf i)(hk:∀i,(Hf i).length=k)(hN:ns.length<800)(Au:ns.length<fu)(E3:∀x,∀y∈sc x,y∈ns)(C:Cy k A ns sc S seen fin T loc)(L:sH sc fin [] S):
 ∃f k6,(∀i,Uj fu n ⟨Hf i++T,loc⟩=some (.ok f,k6 i))/\((f=.brk/\nj k A ns sc Hf seen k6)\/(f=.next/\abX k A ns sc Hf seen (left sc S) k6)):=
 FF (I:=λm st=>∃S' wP T' loc',st=Um Hf T' loc'/\m=S'.length/\Cy k A ns sc S' seen wP T' loc'/\sH sc wP [] S'/\left sc S'<=left sc S)
  (λm st q9=>by
  exists _;obtain⟨S',wP,T',loc',uK,nO⟩:=q9;subst uK;have uk:=nO.2.1.len;have hz0:(S'.reverse.map λe=>V.str e.x).length<big:=by simp only[aF,d5];unfold big;exact lk<|aC uk hN
  rcases S' with _|⟨e,S'⟩
  .exact k9 (.inr ⟨.brk,_,λi=>Hd (kY nO.2.1.l1)<|Dp (oO (hk i) nO.2.1.h0) hz0,λi=>rfl,.inl ⟨rfl,wP,T',loc',rfl,nO.2.1⟩⟩)
  .have ht:∀i,te (lo "stack") (Um Hf T' loc' i)=some (.ok true,Um Hf T' loc' i):=λi=>Hd (kY nO.2.1.l1)<|(Dp (oO (hk i) nO.2.1.h0) hz0).trans (by rw[cY];simp);have hle:left sc (e::S')=((sc e.x).length-e.c)+left sc S':=rfl;cases hw:(sc e.x)[e.c]? with
   |some w=> obtain⟨T2,lW⟩:=AS R hk hN nO.2.1 hw;have sJ:=(aU.mp hw).1;refine k9<|.inl ⟨_,_,ht,lW.1,.inr<|.inl ⟨rfl,.inr ⟨rfl,_,wP,w,T2,_,rfl,lW.2,lQ,E3 _ w<|aR hw,nO.2.2.1.next hw,eL _ _,?_⟩⟩⟩;have:left sc (⟨e.x,e.c+1,e.m,e.i⟩::S')=((sc e.x).length-(e.c+1))+left sc S':=rfl;grind
   |none=> have sD:=nO.2.2.1.pop hw;obtain⟨T2,q8⟩:=QQ R hk hN nO.2.1 hw sD.1;refine k9 ?_;exact .inl ⟨_,_,ht,q8.1,.inl ⟨.inl rfl,S'.length,by rw[nO.1];exact dX _,S',_,T2,loc',rfl,rfl,q8.2,sD.2,(lk<|aC (aN hle.symm) nO.2.2.2)⟩⟩)
  fu S.length (Um Hf T loc) ⟨S,fin,T,loc,rfl,rfl,C,L,aI _⟩ (bW C.len Au)
def CQ(sc:Str->List Str)(ns:List Str)(k:Nat)(Hf:Nat->Hp)(v:V)(st:Nat->St):Prop:=∃j xs T loc,st=Um Hf T loc/\v=.ref (k+j)/\T[j]?=some (.list xs)/\xs≠[]/\xs.length<big/\Cyc sc ns
theorem gk{n k:Nat}{A:B5}{ns:List Str}{sc:Str->List Str}{Hf:Nat->Hp}{T:Hp}{loc:Loc}{S:List Ent}{seen fin:List Str}{w:Str}(hk:∀i,(Hf i).length=k)(hN:ns.length<800)(C:Cy k A ns sc S seen fin T loc)(hw:lz loc "node" =some (.str w))(L:sH sc fin [w] S)(hs:w∈S.map (·.x)):∃v k6,(∀i,Jr fu n ⟨Hf i++T,loc⟩=some (.ok<|.ret v,k6 i))/\CQ sc ns k Hf v k6:=by
 exists fu,n,k,A,ns,sc,Hf,T,loc,S,seen,fin,w,_;exists q,(hq:E9 hs);have uk:=C.len;have hd:((S.reverse.map λe=>V.str e.x).drop q).length<=ns.length:=by simp[eX];exact dG uk
 have GD:((S.reverse.map λe=>V.str e.x).drop q).length+[V.str w].length<big:=by show _+1<big;unfold big;exact lk<|aC hd hN
 exists D,(q8:L.aaB hs);refine⟨.ref<|k+(T.length+2),Um Hf (T++[.list<|(S.reverse.map λe=>V.str e.x).drop q]++[.list [.str w]]++[.list<|(S.reverse.map λe=>V.str e.x).drop q++[.str w]]) loc,λi=>?_,T.length+2,(S.reverse.map λe=>V.str e.x).drop q++[.str w],_,loc,rfl,rfl,?_,?_,?_,⟨D,List.ne_nil_of_mem q8.1,λx hx=>C.Fa x<|(C.sn x).mpr<|.inr<|q8.2.2.1 x hx,λx hx=>(q8.2.2.2 x hx).elim (λq=>by exact q▸q8.2.1) id⟩⟩
 .have u0:=hk i;have e1:Jr fu n ⟨Hf i++T,loc⟩=some (.ok<|.ret<|.ref _,⟨_,_⟩):=
   rK (vF (F9 (s1:=⟨Hf i++T,loc⟩) (kY C.l1) (tK (kY C.l4) (kY hw) (Iz<|oO u0 C.h3)<|P5 (oO u0 C.h3) hq) lA lA (qU<|oO u0 C.h0)<|cy (oO u0 C.h0) (by simp only[aF,d5];unfold big;exact lk<|aC uk hN)) (rU (pX<|kY hw)<|c5 rfl)<|DX (lC<|mP) mP GD)
  simp only[e1];show some (oV.ok<|Fl.ret<|V.ref (Hf i++T++[AO.list<|(S.reverse.map λe=>V.str e.x).drop q]++[AO.list [V.str w]]).length,(⟨_,_⟩:St))=some (_,⟨_,_⟩);rw[show(Hf i++T++[AO.list<|(S.reverse.map λe=>V.str e.x).drop q]++[AO.list [V.str w]]).length=k+(T.length+2)by simp only[aG,u0];rfl];simp only[aJ]
 .exact(show T.length+2=(T++[AO.list<|(S.reverse.map λe=>V.str e.x).drop q]++[AO.list [V.str w]]).length by simp only[aG];rfl)▸mP
 .simp
 .rw[aG];exact GD
theorem dg{n b k:Nat}{A:B5}{rv:V}{po nf:Int}{ns:List Str}{p:Str->Int}{sc:Str->List Str}{Hf:Nat->Hp}{T:Hp}{loc:Loc}{seen fin:List Str}{w:Str}{K:Nat}(R:∀i,qA b A (some i) rv po nf ns p sc<|Hf i)(hk:∀i,(Hf i).length=k)(hN:ns.length<800)(E3:∀x,∀y∈sc x,y∈ns)(hK:∀x,(sc x).length<=K)(Au:ns.length*(K+1)<fu)(C:Cy k A ns sc [] seen fin T loc)(hw:lz loc "node" =some (.str w))(hn:w∈ns)(hs:w∉seen):
 ∃f k6,(∀i,oj fu n ⟨Hf i++T,loc⟩=some (.ok f,k6 i))/\((f=.next/\∃nG,nj k A ns sc Hf nG k6/\w∈nG/\∀x∈seen,x∈nG)\/∃v,f=.ret v/\CQ sc ns k Hf v k6):=by
 exists fu,n,b,k,A,rv,po,nf,ns,p,sc,Hf,T,loc,seen,fin,w,K,_;refine FF (I:=λm st=>∃S nG wP w' T' loc',st=Um Hf T' loc'/\Cy k A ns sc S nG wP T' loc'/\lz loc' "node" =some (.str w')/\w'∈ns/\sH sc wP [w'] S/\(w∈nG\/w'=w)/\(∀x∈seen,x∈nG)/\m=(ns.length-nG.length)*(K+1)+left sc S)
  (λm st qq=>?_) fu _ (Um Hf T loc) ⟨[],seen,fin,w,T,loc,rfl,C,hw,hn,trivial,.inr rfl,λU h=>h,rfl⟩ (bW (Nat.mul_le_mul_right _<|kI _ _) Au)
 obtain⟨S,nG,wP,w',T',loc',uK,C,hw,hn,L,hww,Ol,hm⟩:=qq;subst uK;refine .inl ?_;have ht:∀i,te (ct<|.bool true) (Um Hf T' loc' i)=some (.ok true,Um Hf T' loc' i):=λi=>Hd lA rfl;have Vr:∀i,tc (lo "node") (lo "seen") .In (Um Hf T' loc' i)=some (.ok<|nG.contains w',Um Hf T' loc' i):=λi=>mH (kY hw) (kY C.l3)<|kx<|oO (hk i) C.h2;exists _;have after:∀{S1:List Ent}{Vs:List Str}{T1:Hp},(∀i,fi (tc (lo "node") (lo "seen") .In) (To fu n) (Jh fu n) (Um Hf T' loc' i)=some (.ok .next,⟨Hf i++T1,loc'⟩))->Cy k A ns sc S1 Vs wP T1 loc'->sH sc wP [] S1->w∈Vs->(∀x∈seen,x∈Vs)->(ns.length-Vs.length)*(K+1)+left sc S1<=m->
  ∃f st2,(∀i,te (ct<|.bool true) (Um Hf T' loc' i)=some (.ok true,Um Hf T' loc' i))/\(∀i,nl fu n (Um Hf T' loc' i)=some (.ok f,st2 i))/\(((f=.next\/f=.cont)/\∃m',m'<m/\∃S nG wP w' T' loc',st2=Um Hf T' loc'/\Cy k A ns sc S nG wP T' loc'/\lz loc' "node" =some (.str w')/\w'∈ns/\sH sc wP [w'] S/\(w∈nG\/w'=w)/\(∀x∈seen,x∈nG)/\m'=(ns.length-nG.length)*(K+1)+left sc S)\/(f=.brk/\((Fl.next=.next/\∃nG,nj k A ns sc Hf nG st2/\w∈nG/\∀x∈seen,x∈nG)\/∃v,Fl.next=.ret v/\CQ sc ns k Hf v st2))\/∃v,f=.ret v/\((Fl.ret v=.next/\∃nG,nj k A ns sc Hf nG st2/\w∈nG/\∀x∈seen,x∈nG)\/∃u,Fl.ret v=.ret u/\CQ sc ns k Hf u st2)):=λe1 C1 L1 hw1 hs1 hk1=>by
  obtain⟨f,st2,lW⟩:=ki R hk hN (bW (Nat.le_mul_of_pos_right _<|c6 K) Au) E3 C1 L1;refine⟨f,st2,ht,λi=>lK (e1 i)<|lW.1 i,?_⟩;exists _;rcases lW.2 with⟨rfl,hB⟩|⟨rfl,S2,adH,w2,T2,rC,g0,C2,g1,g2,g3,g4,g5⟩
  .exact k9 (.inr<|.inl ⟨rfl,.inl ⟨rfl,_,hB,hw1,hs1⟩⟩)
  .exact k9 (.inl ⟨.inl rfl,_,(lk<|aC g5 hk1),S2,_,adH,w2,T2,rC,g0,C2,g1,g2,g3,.inl hw1,hs1,rfl⟩)
 by_cases Zf:w'∈nG
 .have hc:=bB.mpr Zf;replace Vr:=hc▸Vr;have tm:∀i,tc (lo "node") (lo "node2stacki") .In (Um Hf T' loc' i)=some (.ok ((xB S).lookup w').isSome,Um Hf T' loc' i):=λi=>mH (kY hw) (kY C.l4)<|BD<|oO (hk i) C.h3;by_cases uK:w'∈S.map (·.x)
  .obtain⟨j,hj⟩:=E9 uK;replace tm:=hj▸tm;obtain⟨v,st2,q9⟩:=gk hk hN C hw L uK;exact k9 ⟨.ret v,st2,ht,λi=>xM<|sZ (Vr i)<|sZ (tm i)<|q9.1 i,.inr<|.inr ⟨v,rfl,.inr ⟨v,rfl,q9.2⟩⟩⟩
  .rw[Em uK]at tm;exact k9<|after (λi=>sZ (Vr i)<|pF (tm i) rfl) C (L.solve<|((C.sn w').mp Zf).elim id λq=>absurd q uK) (hww.elim id λq=>q▸Zf) Ol<|aN hm.symm
 .have hc:nG.contains w'=false:=by rw[eF];intro q;exact Zf (bB.mp q)
  replace Vr:=hc▸Vr;obtain⟨e,T1,rfl,he0,q8⟩:=ux R hk hN C hw hn Zf;have hl1:nG.length+1<=ns.length:=by have:=rO q8.2.snd q8.2.Fa;rw[aG]at this;exact this
  refine k9 ?_;refine after (λi=>pF (Vr i)<|q8.1 i) q8.2 ⟨by rw[he0];intro y hy;simp only[List.take_zero]at hy;exact(nomatch hy),λz hz=>(nomatch hz),L⟩ (hww.elim (λq=>b6 _ q) λq=>aW _<|q▸(.head _)) (λx hx=>b6 _<|Ol x hx) ?_;have h1:left sc (e::S)=((sc e.x).length-e.c)+left sc S:=rfl;have h2:=hK e.x;have h3:(ns.length-nG.length)*(K+1)=(ns.length-(nG++[e.x]).length)*(K+1)+(K+1):=by rw[aG,<-Nat.succ_mul];congr 1;show _=ns.length-(nG.length+1)+1;grind
  simp only[hm,h3];exact lk<|aC (aN<|aY ((lk<|aN he0):e.c<=(sc e.x).length))<|aC h2<|aN h1
theorem SS{n b k:Nat}{A:B5}{rv:V}{po nf:Int}{ns:List Str}{p:Str->Int}{sc:Str->List Str}{Hf:Nat->Hp}{K:Nat}(R:∀i,qA b A (some i) rv po nf ns p sc<|Hf i)(hk:∀i,(Hf i).length=k)(hN:ns.length<800)(E3:∀x,∀y∈sc x,y∈ns)(hK:∀x,(sc x).length<=K)(Au:ns.length*(K+1)<fu):
 ∃v T,(∀i,lB (lF fu<|n+1) fu 164 [.ref A.s] [] (Hf i)=some (.ok v,Hf i++T))/\((v=.none/\wc sc ns)\/∃j xs,v=.ref (k+j)/\T[j]?=some (.list xs)/\xs≠[]/\xs.length<big/\Cyc sc ns):=by
 exists fu,n,b,k,A,rv,po,nf,ns,p,sc,Hf,K,_;exists _;have C0:Cy k A ns sc [] [] [] [.list [],.list [],.set [],.dict []] [("self",.ref A.s),("n2i",.ref A.m),("stack",.ref<|k+0),("itstack",.ref<|k+1),("seen",.ref<|k+2),("node2stacki",.ref<|k+3)]:={
  l0:=rfl,l1:=rfl,l2:=rfl,l3:=rfl,l4:=rfl,h0:=rfl,h1:=rfl,h2:=rfl,h3:=rfl
  hm:=bH _,hl:=bH _,hi:=.nil,nd:=.nil,sn:=λx=>⟨nofun,λq=>q.elim nofun nofun⟩,snd:=.nil,Fa:=bH _,Y3:=λl1 x l2 e=>by rcases l1 with _|_<;>injection e}
 obtain⟨f,k6,e1,hf⟩:=zp (a:=lo "n2i") (s:=Zz fu n)
  (I:=λdone st=>∃seen,nj k A ns sc Hf seen st/\∀x∈done,x∈seen) (λi=>kY rfl) ⟨[],⟨[],_,_,rfl,C0⟩,bH _⟩
  (λd st qq i=>by obtain⟨seen,⟨fin,T,loc,uK,C⟩,_⟩:=qq;subst uK;exact(ut<|lC (R i).hm).trans (by simp only[l8,bX];rfl))
  (λdone w rest st hd qq=>by
   obtain⟨seen,⟨fin,T,loc,uK,C⟩,hs⟩:=qq;subst uK;have C':=C.put (v:=.str w);have Vr:∀i,tc (lo "node") (lo "seen") .In ⟨Hf i++T,put "node" (.str w) loc⟩=some (.ok<|seen.contains w,⟨Hf i++T,put "node" (.str w) loc⟩):=λi=>mH (kY lQ) (kY C'.l3)<|kx<|oO (hk i) C.h2;by_cases Zf:w∈seen
   .replace Vr:=(bB.mpr Zf)▸Vr;exact⟨.cont,_,λi=>Cp<|sZ (Vr i)<|Cp rfl,.inl ⟨.inr rfl,seen,⟨fin,T,_,rfl,C'⟩,λx hx=>(aO.mp hx).elim (hs x) λq=>by rw[aE]at q;simp[q];exact Zf⟩⟩
   .replace Vr:=(show seen.contains w=false by rw[eF];intro q;exact Zf<|bB.mp q)▸Vr;obtain⟨f,k6,e2,h⟩:=dg R hk hN E3 hK Au C' lQ (hd▸(aW _<|.head _)) Zf;refine⟨f,k6,λi=>lK (pF (Vr i) rfl)<|e2 i,?_⟩;rcases h with⟨rfl,nG,hB,h1,h2⟩|h
    .exact .inl ⟨.inl rfl,nG,hB,λx hx=>(aO.mp hx).elim (λq=>h2 x<|hs x q) λq=>by rw[aE]at q;simp[q];exact h1⟩
    .exact .inr h)
 have go:∀i z,bt fu n (Um Hf [AO.list [],AO.list [],AO.set [],AO.dict []] [("self",.ref A.s),("n2i",.ref A.m),("stack",.ref<|k+0),("itstack",.ref<|k+1),("seen",.ref<|k+2),("node2stacki",.ref<|k+3)] i)=z->Sq fu n ⟨Hf i,[("self",.ref A.s)]⟩=z:=λi z hz=>by refine lK (mC<|o6 (kY rfl)<|(R i).at rfl rfl rfl)<|lK (mC<|rU zX<|by decide)<|lK (mC<|rU zX<|by decide)<|lK (mC<|oE lA zX rfl<|mI WF)<|lK (mC rfl) ?_;simp only[<-hz];simp[hk i];rfl
 rcases hf with⟨rfl,seen,⟨fin,T,loc,uK,C⟩,hs⟩|⟨v,rfl,j,xs,T,loc,uK,rfl,h1,h2,h3,h4⟩
 .replace uK:=uK.symm;subst uK;exact k9 ⟨.none,T,λi=>by simp[Tc,go i _<|lK (e1 i)<|rK lA];rfl,.inl ⟨rfl,fin,λx hx=>((C.sn x).mp<|hs x hx).elim id nofun,C.Y3⟩⟩
 .subst uK;exact k9 ⟨.ref<|k+j,T,λi=>by simp[Tc,go i _<|xM<|e1 i];rfl,.inr ⟨j,xs,rfl,h1,h2,h3,h4⟩⟩
section
variable{H:Hp}{a:EF}{st st1 st2:St}{v:V}{loc:Loc}{j:Nat}{xs:List V}
theorem zM{β:Type}{o:lG β}{b:β}(h:o=some (.ok b,st1))(hl:st1.loc=loc):wT loc o=some (b,st1.H):=a6 (aV _ h)<|aH hl
theorem QD(h:H[j]?=some (.list xs))(hz:xs.length<big):Ab j v H=some (H.set j<|.list<|xs++[v]):=by unfold Ab;exact(qW h)▸(aH hz)
theorem wD(h:a st=some (.ok v,st1))(hl:st1.loc=st.loc)(hj:st1.H[j]?=some (.list xs))(hz:xs.length<big):nB a j st=some ⟨st1.H.set j<|.list<|xs++[v],st.loc⟩:=by unfold nB;rw[zM h hl];show(Ab j v st1.H).bind _=_;rw[QD hj hz];rfl
theorem jz{t:TF}{leaf:rB}{z:Option St}(h:t st=some (.ok true,st1))(hl:st1.loc=st.loc)(g:leaf ⟨st1.H,st.loc⟩=z):q0 t leaf st=z:=by unfold q0;exact(zM h hl)▸g
theorem nv{t:TF}{leaf:rB}(h:t st=some (.ok false,st1))(hl:st1.loc=st.loc):q0 t leaf st=some ⟨st1.H,st.loc⟩:=by unfold q0;exact(zM h hl)▸rfl
theorem Uv{α:Type}{f:α->V}{it:Hp->Option (List Nat×List V)}{ks:Nat->List Nat}{asg:V->St->Option Loc}{turn:rB}{r:List α}{I:List α->(Nat->St)->Prop}(hk:∀d st,I d st->∀i,it (st i).H=some (ks i,r.map f))
 (step:∀done w rest st,r=done++w::rest->I done st->∃k6,(∀i,((asg (f w)<|st i).bind λloc=>turn ⟨(st i).H,loc⟩)=some (k6 i))/\I (done++[w]) k6){st:Nat->St}(h0:I [] st):
 ∃k6,(∀i,pJ it (ks i,r.map f) asg turn (r.map f) (st i)=some (k6 i))/\I r k6:=by
 have key:∀rest done st,r=done++rest->I done st->∃k6,(∀i,pJ it (ks i,r.map f) asg turn (rest.map f) (st i)=some (k6 i))/\I r k6:=by
  exists rest;induction rest with
  |nil=>intro done st hd hI;simp only[bF]at hd;subst hd;exact⟨st,λi=>aH<|hk _ _ hI i,hI⟩
  |cons w l ih=>
   intro done st hd hI;obtain⟨k6,q9⟩:=step done w l st hd hI;obtain⟨st2,q8⟩:=ih (done++[w]) k6 (by simp only[hd,aJ];rfl) q9.2;refine⟨st2,λi=>(aH<|hk _ _ hI i).trans ?_,q8.2⟩;have e1:=q9.1 i;rcases hq:asg (f w) (st i)with _|l'
   .have e1:=hq▸e1;rcases e1 with _|_
   .rw[hq]at e1;show(turn ⟨(st i).H,l'⟩).bind _=_;exact(show turn ⟨(st i).H,l'⟩=some (k6 i)from e1)▸(q8.1 i)
 exact key r [] st rfl h0
theorem Id{rs:Scope}{Zb:V->St->Option Loc}{turn:Nat->rB}{xs:List Nat×List V}(h:a st=some (.ok v,st1))(hl:st1.loc=st.loc)(hi:lZ v st1.H=some xs)(hc:pJ (lZ v) xs Zb (turn st1.H.length) xs.2 ⟨st1.H++[.list []],Ku rs st.loc⟩=some st2):oF a rs Zb turn st=some (.ok<|.ref st1.H.length,⟨st2.H,st.loc⟩):=by unfold oF;rw[zM h hl];simp[hi];rw[hc];rfl
end
section
variable{fu n b K:Nat}{A:B5}{rv u:V}{po nf:Int}{ns:List Str}{p:Str->Int}{sc:Str->List Str}{H:Hp}
theorem qA.freeze(R:qA b A none rv po nf ns p sc H)(ep):qA b A (some ep) rv po nf ns p sc (H.set A.m<|.lT (l8 A ns) ep)where
 hs:=lN R.hm R.hs λe=>by injection e
 hd:=lN R.hm R.hd<|CH R
 hm:=n0 R.hm
 hn y hy:=lN R.hm (R.hn y hy) λe=>by injection e
 tC y hy:=by
  refine m8 (λe=>?_)<|R.tC y hy;have h1:=R.hm;simp only[e,R.tC y hy]at h1;rcases ns with _|⟨z,l⟩
  .simp at hy
  .injection(diI<|aA h1)
 hl y hy:=lN R.hm (R.hl y hy) λe=>by injection e
 inj:=R.inj
 nd:=R.nd
 ls:=R.ls
 K0:=R.K0
 lm:=R.lm
 ln:=R.ln
theorem Tw:lB (lF fu<|n+1) fu 129 [u] [] H=mL (Sm fu n ⟨H,[("self",u)]⟩):=
 w8 JR (by rfl')
theorem yo{q:oV V×Hp}(h:lB (lF fu n) fu 164 [u] [] H=some q):lS (lF fu n) fu (.top 164) [u] [] H=some q:=rZ<|(by rfl':_=lB (lF fu n) fu 164 [u] [] H).trans h
theorem IC{l:List EF}{vs:List V}{st st1:St}(h:Kd l st=some (.ok vs,st1))(hb:vs.length<big):rzc l st=some (.exc<|.top 92,st1):=lG.ex<|(lG.at h).trans<|aH hb
theorem Ir{a c:V}:[a,c].length<big:=by show 2<big;decide
def zeros(p:Str->Int)(ns:List Str):List Str:=ns.filter λx=>p x==0
theorem NJ(R:qA b A none .none po nf ns p sc H)(hN:ns.length<800)(E3:∀x,∀y∈sc x,y∈ns)(hK:∀x,(sc x).length<=K)(Au:ns.length*(K+1)<fu):
 ∃r rr H',lS (lF fu<|n+2) fu (.top 129) [.ref A.s] [] H=some (r,H')/\qA b A none (.ref rr) po nf ns p sc H'/\H'[rr]?=some (.list<|(zeros p ns).map .str)/\(∀x∈ns,A.ld x≠rr)/\b<=rr/\nR b H H'/\((r=.ok .none/\wc sc ns)\/(r=.exc (.top 92)/\Cyc sc ns)):=by
 exists fu,n,b,K,A,po,nf,ns,p,sc,H,_;have hlen:∀ep,(H.set A.m<|.lT (l8 A ns) ep).length=H.length:=λep=>eQ;have RF:=λep=>R.freeze ep;obtain⟨k6,ec,loc,uK⟩:=Uv (α:=Str) (f:=λx=>.ref<|A.ad x) (it:=lZ<|.ref<|H.length+0) (ks:=λep=>[5,A.m,ep]) (asg:=y6 "i") (turn:=q0 (tc (ab (lo "i") "npredecessors") (ct<|.int 0) .Eq)<|nB (ab (lo "i") "node")<|H.length+1) (r:=ns)
  (I:=λdone st=>∃loc,st=Um (λep=>H.set A.m<|.lT (l8 A ns) ep) [.vals A.m,.list<|(zeros p done).map .str] loc)
  (λd st q9 ep=>by obtain⟨loc,uK⟩:=q9;subst uK;exact(mu (oO (T:=[.vals A.m,.list<|(zeros p d).map .str]) (hlen ep) rfl)<|lC (RF ep).hm).trans (by unfold l8;rw[bX];rfl))
  (λdone w rest st hd q9=>by
   obtain⟨loc,uK⟩:=q9;subst uK;have hw:w∈ns:=by rw[hd];exact aW _<|.head _
   have ST:done.length<=ns.length:=by simp only[hd,aG];exact aT done.length (w::rest).length
   have ht:∀ep,tc (ab (lo "i") "npredecessors") (ct<|.int 0) .Eq ⟨H.set A.m (.lT (l8 A ns) ep)++[.vals A.m,.list<|(zeros p done).map .str],put "i" (.ref<|A.ad w) loc⟩=some (.ok<|p w==0,⟨H.set A.m (.lT (l8 A ns) ep)++[.vals A.m,.list<|(zeros p done).map .str],put "i" (.ref<|A.ad w) loc⟩):=λep=>
    mH (jh (kY lQ)<|atB<|J4 (v:=.int<|p w) (lC<|(RF ep).hn w hw) (lC<|(RF ep).tC w hw) rfl rfl rfl) lA Rw
   refine⟨Um (λep=>H.set A.m<|.lT (l8 A ns) ep) [.vals A.m,.list<|(zeros p<|done++[w]).map .str]<|put "i" (.ref<|A.ad w) loc,λep=>?_,_,rfl⟩;have hz:zeros p (done++[w])=zeros p done++zeros p [w]:=dR ..;cases hc:p w==0 with
   |true=>
    rw[hc]at ht;have h1:zeros p [w]=[w]:=by unfold zeros;rw[bR<|by exact hc];rfl
    refine jz (ht ep) rfl<|(wD (jh (kY lQ)<|atB<|J4 (v:=.str w) (lC<|(RF ep).hn w hw) (lC<|(RF ep).tC w hw) rfl rfl rfl) rfl (oO (T:=[.vals A.m,.list<|(zeros p done).map .str]) (hlen ep) rfl) (by have:=(λl=>by rw[aF];exact cU _ _:∀l:List Str,((zeros p l).map V.str).length<=l.length) done;unfold big;exact lk<|aC this<|aC ST hN)).trans ?_;rw[sC<|hlen ep,hz,h1,bE];rfl
   |false=>
    rw[hc]at ht;have h1:zeros p [w]=[]:=by unfold zeros;rw[bN<|by exact hc▸bV];rfl
    refine(nv (ht ep) rfl).trans ?_;rw[hz,h1,bF];rfl)
  (st:=Um (λep=>H.set A.m<|.lT (l8 A ns) ep) [.vals A.m,.list []] []) ⟨[],rfl⟩
 subst uK;have Om:∀ep,((H.set A.m (.lT (l8 A ns) ep)++[AO.vals A.m,.list<|(zeros p ns).map V.str]).set A.d0<|.dict<|qF A.m (.ref<|H.length+1) po nf).length=H.length+2:=λep=>by simp only[eQ,aG,hlen ep];rfl
 exists v,T,(q_:SS (fu:=fu) (n:=n) (λep=>((RF ep).app [AO.vals A.m,.list<|(zeros p ns).map V.str]).attr (.ref<|H.length+1) po nf) Om hN E3 hK Au);obtain⟨e2,hv⟩:=q_;have hd0:=nE R.hd;have hml:=nE R.hm;have go:∀ep z,ny fu (n+1) ⟨(H.set A.m (.lT (l8 A ns) ep)++[AO.vals A.m,.list<|(zeros p ns).map V.str]).set A.d0 (.dict<|qF A.m (.ref<|H.length+1) po nf)++T,[("self",.ref A.s),("cycle",v)]⟩=z->Sm fu (n+1) ⟨H.set A.m<|.lT (l8 A ns) ep,[("self",.ref A.s)]⟩=z:=λep z hz=>by
  refine lK (pF (mH (v:=.none) (w:=.none) (o6 (kY rfl)<|(RF ep).at rfl rfl rfl) lA rfl) rfl) ?_;have R1:=(RF ep).app [AO.vals A.m,.list<|(zeros p ns).map V.str];have c1:oF (mq (ab (lo "self") "_node2info") "values" []) Tv (y6 "i") (λj=>q0 (tc (ab (lo "i") "npredecessors") (ct<|.int 0) .Eq)<|nB (ab (lo "i") "node") j) ⟨H.set A.m<|.lT (l8 A ns) ep,[("self",.ref A.s)]⟩=some (.ok<|.ref<|H.length+1,⟨H.set A.m (.lT (l8 A ns) ep)++[AO.vals A.m,.list<|(zeros p ns).map V.str],[("self",.ref A.s)]⟩):=by
   have a1:mq (ab (lo "self") "_node2info") "values" [] ⟨H.set A.m<|.lT (l8 A ns) ep,[("self",.ref A.s)]⟩=some (.ok<|.ref (H.set A.m<|.lT (l8 A ns) ep).length,⟨H.set A.m (.lT (l8 A ns) ep)++[.vals A.m],[("self",.ref A.s)]⟩):=
    C9 (jh (kY rfl)<|atB<|EJ (v:=.ref A.m) (RF ep).hs (RF ep).hd rfl rfl rfl) (aa (RF ep).hm) zX rfl (ll (RF ep).hm)
   refine(Id a1 rfl
    (xs:=([5,A.m,ep],ns.map λx=>.ref<|A.ad x)) ((mu mP<|lC (RF ep).hm).trans (by unfold l8;rw[bX];rfl)) (st2:=⟨H.set A.m (.lT (l8 A ns) ep)++[AO.vals A.m,.list<|(zeros p ns).map V.str],loc⟩) ?_).trans ?_
   .have:=ec ep;simp[aG,hlen ep];exact this
   .rw[aG,hlen ep];rfl
  have R2:=R1.attr (.ref<|H.length+1) po nf;exact lK (wS c1 (kY rfl)<|Eb R1.hs R1.hd rfl<|c5 rfl)
   (lK (mC<|nW (kY rfl) (Af R2.hs R2.hd rfl rfl) zX rfl<|yo<|e2 ep) hz)
 have DA:∀ep,(H.set A.m (.lT (l8 A ns) ep)++[AO.vals A.m,.list<|(zeros p ns).map V.str]).set A.d0 (.dict<|qF A.m (.ref<|H.length+1) po nf)++T=((H++[AO.vals A.m,.list<|(zeros p ns).map V.str]).set A.d0 (.dict<|qF A.m (.ref<|H.length+1) po nf)++T).set A.m (.lT (l8 A ns) ep):=λep=>by symm;rw[gK _ _ (show A.m<((H++[AO.vals A.m,.list<|(zeros p ns).map V.str]).set A.d0<|.dict<|qF A.m (.ref<|H.length+1) po nf).length by simp[eQ,aG];exact Nat.lt_add_right 2 hml),List.set_comm _ _ (M5 R.hm R.hd<|CH R).symm,gK _ _ hml]
 have R3:qA b A none (.ref<|H.length+1) po nf ns p sc<|(H++[AO.vals A.m,.list<|(zeros p ns).map V.str]).set A.d0 (.dict<|qF A.m (.ref<|H.length+1) po nf)++T:=((R.app _).attr (.ref<|H.length+1) po nf).app T;have hm3:((H++[AO.vals A.m,.list<|(zeros p ns).map V.str]).set A.d0 (.dict<|qF A.m (.ref<|H.length+1) po nf)++T)[A.m]?=some (.dict<|l8 A ns):=R3.hm;have aaJ:((H++[AO.vals A.m,.list<|(zeros p ns).map V.str]).set A.d0 (.dict<|qF A.m (.ref<|H.length+1) po nf)++T).set A.m (.dict<|l8 A ns)=(H++[AO.vals A.m,.list<|(zeros p ns).map V.str]).set A.d0 (.dict<|qF A.m (.ref<|H.length+1) po nf)++T:=by
  refine List.ext_getElem? λj=>?_;by_cases hj:A.m=j
  .subst hj;simp[eU<|nE hm3,hm3]
  .rw[dB hj]
 have hfz:Gu A.s H=some (A.m,l8 A ns):=by unfold Gu;rw[D3 R.hs R.hd,bY,aH rfl];show(dE H A.m).map _=_;rw[Lq R.hm];rfl
 have fin:∀r,(∀ep,lB (lF fu<|n+2) fu 129 [.ref A.s] [] (H.set A.m<|.lT (l8 A ns) ep)=some (r,(H.set A.m (.lT (l8 A ns) ep)++[AO.vals A.m,.list<|(zeros p ns).map V.str]).set A.d0 (.dict<|qF A.m (.ref<|H.length+1) po nf)++T))->lS (lF fu<|n+2) fu (.top 129) [.ref A.s] [] H=some (r,(H++[AO.vals A.m,.list<|(zeros p ns).map V.str]).set A.d0 (.dict<|qF A.m (.ref<|H.length+1) po nf)++T):=λr hr=>
  rZ ((show _=Vu (lF fu<|n+2) fu A.s H from by rfl').trans<|(QU hfz (nE hm3) λep=>(hr ep).trans<|by rw[DA ep]).trans<|by rw[aaJ])
 have hrr:((H++[AO.vals A.m,.list<|(zeros p ns).map V.str]).set A.d0 (.dict<|qF A.m (.ref<|H.length+1) po nf)++T)[H.length+1]?=some (.list<|(zeros p ns).map V.str):=lC<|m8 (ktu_ne 1 hd0)<|oO rfl rfl;have o9:=λx hx=>by have:=nE<|R.hl x hx;exact ktu_ne 1 this
 have hb:=R.len;have GZ:nR b H<|(H++[AO.vals A.m,.list<|(zeros p ns).map V.str]).set A.d0 (.dict<|qF A.m (.ref<|H.length+1) po nf)++T:=((nR.refl.app hb).set R.K0).app (by simp[eQ];exact dG hb);rcases hv with⟨rfl,hF⟩|⟨j,xs,rfl,h1,h2,h3,h4⟩
 .exact⟨_,_,_,fin _ (λep=>by simp[Tw,go ep _<|pF (Hd (kY rfl) rfl) rfl];rfl),R3,hrr,o9,by lia,GZ,.inl ⟨rfl,hF⟩⟩
 .refine⟨_,_,_,fin _ λep=>?_,R3,hrr,o9,by lia,GZ,.inr ⟨rfl,h4⟩⟩;simp[Tw,go ep (some (.exc<|.top 92,⟨_,_⟩))<|sZ (Hd (kY rfl)<|(Dp (oO (Om ep) h1) h3).trans<|by rw[(by induction xs with|nil=>exact absurd rfl h2|cons=>rfl:(!xs.isEmpty)=true)])<|IC (Y6 lA<|pX<|kY rfl) Ir];rfl
end
theorem yd{ns:List Str}:ns.Pairwise λa b=>∃i j:Nat,ns[i]?=some a/\ns[j]?=some b/\i<j:=
 dC.mpr λi j hi hj Kh=>⟨i,j,aP hi,aP hj,Kh⟩
theorem tX:uY E x=0<->∀e∈E,e.1≠x:=by
 constructor
 .exact Ea
 .intro h;unfold uY;rw[b8.mpr λe he q=>h e he<|eq_of_beq q];rfl
theorem QJ{p:Str->Int}(hn:ns.Nodup)(hp:∀x,p x=uY E x):C3 E [] (zeros p ns) p/\nH E ns [] (zeros p ns):=by
 have h0:∀x,(p x==0)=true<->uY E x=0:=λx=>by rw[hp,a5];exact Int.ofNat_eq_zero
 have hz:zeros p ns=ns.filter (tR E []):=List.filter_congr λx U=>by rw[eO,h0,q7,tX];exact⟨λh=>⟨bG,λe he hx=>absurd hx<|h e he⟩,λh e he hx=>nomatch h.2 e he hx⟩
 have hm:∀x∈zeros p ns,uY E x=0:=λx hx=>(h0 x).mp (dT.mp hx).2;refine⟨⟨hn.filter _,λe U h=>absurd h<|bG,λe he h=>absurd rfl<|Ea (hm _ h) e he,λy U=>?_⟩,⟨by rw[hz],?_⟩⟩
 .have:Bs E [] y=0:=by unfold Bs;rw[b8.mpr λe U=>by simp];rfl
  simp only[hp,this];exact Int.neg_inj.mp rfl
 .have h1:=(yd (ns:=ns)).filter λx=>p x==0;refine gX (λ{a b}ha hb qq=>?_) h1;obtain⟨i,j,h2,h3,h4⟩:=qq;exact⟨((-1,-1),i),((-1,-1),j),⟨.inl ⟨rfl,hm a ha⟩,i,h2,rfl⟩,⟨.inl ⟨rfl,hm b hb⟩,j,h3,rfl⟩,a6 (aH<|bM _)<|b7<|iM.mpr h4⟩
inductive sY(E:n4)(ns:List Str):List Str->List (List Str)->List Str->Prop
 |nil {O}:(∀x∈ns,tR E O x=false)->sY E ns O [] O
 |cons {O R RS O'}:R≠[]->nH E ns O R->sY E ns (O++R) RS O'->sY E ns O (R::RS) O'
theorem nH.nodup(hn:ns.Nodup)(h:nH E ns O R)(hO:O.Nodup):(O++R).Nodup:=
 cH.mpr ⟨hO,h.perm.nodup_iff.mpr<|hn.filter _,λa ha b hb e=>(h.mem.mp hb).2.1<|e▸ha⟩
theorem O9(h:sY E ns O RS O')(hn:ns.Nodup)(hO:O.Nodup)(hs:∀x∈O,x∈ns):O'.Nodup/\(∀x∈O',x∈ns)/\∀x∈ns,tR E O' x=false:=by
 induction h with
 |nil h=>exact⟨hO,hs,h⟩
 |cons _ hR _ ih=>exact ih (hR.nodup hn hO) λx hx=>(aO.mp hx).elim (hs x) λq=>(hR.mem.mp q).1
theorem Px{C:List Str}(h:sY E ns O RS O')(hC:∀x∈C,∃y∈C,(x,y)∈E)(h0:∀x∈C,x∉O):∀x∈C,x∉O':=by
 induction h with
 |nil _=>exact h0
 |cons _ hR _ ih=> refine ih λx hx q=>(aO.mp q).elim (h0 x hx) λq=>?_;obtain⟨y,q8⟩:=hC x hx;exact h0 y q8.1<|(hR.mem.mp q).2.2 _ q8.2 rfl
theorem v7{x y:Str}:x∈pV E y<->(x,y)∈E:=by
 unfold pV;rw[cA];constructor
 .rintro⟨⟨a,b⟩,h1,h2⟩
  have q8:=dT.mp h1;have h5:=eq_of_beq q8.2;subst h5;subst h2;exact q8.1
 .exact λh=>⟨(x,y),dT.mpr ⟨h,bM y⟩,rfl⟩
theorem ms{O:List Str}(F:wc (pV E) ns)(hE:∀e∈E,e.1∈ns/\e.2∈ns)(hr:∀x∈ns,x∉O->∃e∈E,e.1=x/\e.2∉O):∀x∈ns,x∈O:=by
 obtain⟨fin,hf,T⟩:=F;have key:∀k x,x∈ns->fin.length<=k+fin.idxOf x->x∈O:=by
  exists k;induction k with
  |zero=> intro x hx h;have:=c0.mpr<|hf x hx;lia
  |succ k ih=>
   intro x hx h;refine dY λhO=>?_;obtain⟨⟨x',z⟩,he,rfl,hz⟩:=hr x hx hO;have hzn:=(hE _ he).2;refine hz<|ih z hzn ?_;have sJ:=c0.mpr<|hf z hzn;have hsp:fin=fin.take (fin.idxOf z)++z::fin.drop (fin.idxOf z+1):=by have:=List.take_append_drop (fin.idxOf z) fin;rw[dZ sJ,jZ sJ]at this;exact this.symm
   have Zc:=T _ z _ hsp x'<|v7.mpr he;have:fin.idxOf x'<fin.idxOf z:=by
    have h1:fin.idxOf x'=(fin.take<|fin.idxOf z).idxOf x':=by
     conv=>lhs;rw[hsp]
     rw[List.idxOf_append,aH Zc]
    rw[h1];have:=c0.mpr Zc;simp only[fQ]at this;grind
   exact lk<|aC this h
 exact λx hx=>key fin.length x hx<|aT _ _
theorem W1(h:sY E ns [] RS O')(hn:ns.Nodup)(hE:∀e∈E,e.1∈ns/\e.2∈ns):(wc (pV E) ns->¬O'.length<ns.length)/\(Cyc (pV E) ns->O'.length<ns.length):=by
 have q8:=O9 h hn .nil<|bH _;constructor
 .intro F;have:=ms F hE λx hx hO=>dY λhno=>by have h4:=q8.2.2 x hx;replace h4:=(q7.mpr ⟨hO,λe he hex=>dY λq=>hno ⟨e,he,hex,q⟩⟩)▸h4;rcases h4 with _|_
  have:=rO hn this;exact gF.mpr this
 .rintro⟨C,o9,hC,hc⟩
  have h4:=Px h (λx hx=>by obtain⟨y,hy,hxy⟩:=hc x hx;exact⟨y,hy,v7.mp hxy⟩) λx U=>bG;rcases C with _|⟨c,C⟩
  .exact absurd rfl o9
  .exact rO (c7.mpr ⟨h4 c<|.head _,q8.1⟩) λx hx=>(aK.mp hx).elim (λq=>by rw[q];exact hC c<|.head _)<|q8.2.1 x
theorem BR{α:Type}[Inhabited α]{L:List α}{kf:α->(Int×Int)×Int}{rf:α->V}(hn:(L.map kf).Nodup):∃R:List α,R.Perm L/\R.Pairwise (λa b=>qR (kf a) (kf b)=true)/\vJ (L.map kf) (L.map rf)=R.map rf:=by
 exists α,_;exists L,kf,rf,_;unfold vJ;rw[aF];by_cases h2:L.length<2
 .refine⟨L,.refl _,?_,by rw[aH h2]⟩;rcases L with _|⟨a,L⟩
  .exact .nil
  ·(rcases L with _|⟨b,L⟩;(exact iF _ _);(exact absurd h2<|by simp))
 .rw[aL h2];have O:Y8 L.length λi j=>qR ((L.map kf).getD i default)<|(L.map kf).getD j default:=⟨λa b c h h'=>Cn.tr h h',λa=>Cn.ir _,λa b ha hb o9=>by
   refine Cn.uY λe=>o9 ?_;have N4:a<(L.map kf).length:=by rw[aF];exact ha
   have RZ:b<(L.map kf).length:=by rw[aF];exact hb
   simp only[c9,aP N4,aP RZ]at e;exact(j5 N4 hn).mp (by simp only[aP N4,aP RZ];exact aV some e)⟩
  have q8:=Xl O<|dU ‹_›;generalize pQ (λi j=>qR ((L.map kf).getD i default)<|(L.map kf).getD j default) (kas_sort L.length)=q at*;have sJ:∀i∈q.toList,i<L.length:=λi hi=>cJ.mp<|(List.Perm.mem_iff q8.1).mp hi;refine⟨q.toList.map λi=>L.getD i default,?_,?_,?_⟩
  .have h3:L=(List.range L.length).map λi=>L.getD i default:=by
    refine List.ext_getElem? ?_;exists i;rw[bD];by_cases hi:i<L.length
    .rw[eT hi];show _=some (L.getD i default);simp only[c9,aP hi];rfl
    .refine a6 (List.getElem?_eq_none<|by omega) ?_;rw[List.getElem?_eq_none (by rw[cG];omega)];rfl
   have:=q8.1.map λi=>L.getD i default;simp only[<-h3]at this;exact this
  .rw[iP];refine dC.mpr ?_;exists i,j;intro hi hj Kh;have h4:=q8.2 i j Kh<|(q8.1.size)▸eS▸hj;have e1:∀k hk,oU q k=q.toList[k]:=λk hk=>U3<|eS▸hk;rw[e1 i hi,e1 j hj]at h4;have e2:∀k,k<L.length->(L.map kf).getD k default=kf (L.getD k default):=λk hk=>by simp only[c9,bD,aP hk];rfl
   simp only[e2 _<|sJ _<|gM hi,e2 _<|sJ _<|gM hj]at h4;exact h4
  .rw[bX];refine dN ?_;exists i;intro hi;show(L.map rf).getD i .none=rf (L.getD i default);simp only[c9,bD,aP<|sJ i hi];rfl
theorem Pa{α:Type}[Inhabited α]{H:Hp}{i:Nat}{L:List α}{kf:α->(Int×Int)×Int}{rn pn:α->Nat}{nm:α->Str}(h:H[i]?=some (.list<|L.map λx=>V.ref<|rn x))(h1:1<=L.length)(h2:L.length<64)(hn:(L.map kf).Nodup)
 (ht:∀x∈L,H[rn x]?=some (.tuple [.ref<|pn x,.int (kf x).2,.str<|nm x])/\H[pn x]?=some (.tuple [.int (kf x).1.1,.int (kf x).1.2])):
 ∃R:List α,R.Perm L/\R.Pairwise (λa b=>qR (kf a) (kf b)=true)/\uD i H=some (.ok<|.ref H.length,H++[.list<|R.map λx=>V.ref<|rn x]):=by
 have hk:∀x∈L,Gy H (.ref<|rn x)<|kf x:=λx hx=>⟨_,_,_,rfl,ht x hx⟩;have e:(L.map λx=>V.ref<|rn x).map (Bt H)=L.map kf:=by exact a6 bX<|dN λx hx=>Ta<|hk x hx
 obtain⟨R,q8⟩:=BR hn;refine⟨R,q8.1,q8.2.1,?_⟩;delta uD lE;rw[h];show @ite _ _ (_) _ _=_;rw[e,aH ⟨⟨by rw[aF];exact h1,by rw[aF];exact h2⟩,List.forall_mem_map.mpr λx hx=>⟨_,hk x hx⟩,hn⟩,q8.2.2]
theorem U6:n9 a b=true<->a.1>b.1\/(a.1=b.1/\a.2>b.2):=by
 unfold n9;by_cases e:a.1=b.1
 .rw[aH<|e▸bM _,j0];exact⟨λh=>.inr ⟨e,h⟩,λh=>h.elim (λq=>absurd e<|Int.ne_of_gt q) And.right⟩
 .rw[aL λq=>e<|eq_of_beq q,j0];exact⟨.inl,λh=>h.elim id λq=>absurd q.1 e⟩
def P4(P:List<|Int×Int)(b:Int×Int):Int×Int:=P.foldl (λb q=>if n9 q b=true then q else b) b
theorem uv:∀{P:List (Int×Int)}{b:Int×Int},(P4 P b=b\/P4 P b∈P)/\∀a∈b::P,a=P4 P b\/n9 (P4 P b) a=true:=by
 exists zr;induction zr with
 |nil=> exact⟨.inl rfl,λa ha=>.inl<|aE.mp ha⟩
 |cons q P mB=>
  exists q,P,[mB];exists b;have e:P4 (q::P) b=P4 P (if n9 q b=true then q else b):=rfl;obtain⟨h1,h2⟩:=mB;rw[<-e]at h1 h2;generalize P4 (q::P) b=m at*;have tr:∀{a c d:Int×Int},n9 a c=true->n9 c d=true->n9 a d=true:=λh h'=>Zg.tr h h';have h3:=h2 _<|.head _;by_cases hg:n9 q b=true
  .rw[aH hg]at h1 h2 h3;refine⟨.inr<|h1.elim (λx=>by rw[x];exact .head _) λx=>.tail _ x,?_⟩;exists a;intro ha;rcases aK.mp ha with rfl|ha
   .exact .inr (h3.elim (λx=>by exact x▸hg) λx=>tr x hg)
   .exact h2 a ha
  .rw[aL hg]at h1 h2 h3;refine⟨h1.imp id λx=>.tail _ x,?_⟩;exists a;intro ha;rcases aK.mp ha with rfl|ha
   .exact h2 _ (.head _)
   .rcases aK.mp ha with rfl|ha
    .have hle:a=b\/n9 b a=true:=by
      by_cases e1:a=b
      .exact .inl e1
      .exact .inr ((Zg.uY e1).resolve_left hg)
     rcases hle with rfl|hle
     .exact h3
     .exact .inr (h3.elim (λx=>by exact x▸hle) λx=>tr x hle)
    .exact h2 a (.tail _ ha)
def qJ(E:n4)(x:Str):List Nat:=(List.range E.length).filter λk=>((E[k]?).map (·.1))==some x
theorem tS:k∈qJ E x<->∃z,E[k]?=some (x,z):=by
 unfold qJ;rw[dT,cJ];constructor
 .rintro⟨h,e⟩
  rw[aP h]at e;have:=eq_of_beq e;exact⟨(E[k]).2,by refine a6 (aP h) ?_;exact aV some<|fM (aA this) rfl⟩
 .rintro⟨z,h⟩
  exact⟨(aU.mp h).1,by rw[h];exact bM _⟩
def pairsOf(E:n4)(O:List Str)(x:Str):List<|Int×Int:=(qJ E x).map λ(k:Nat)=>(((((E[k]?).map λ(e:Str×Str)=>O.idxOf e.2).getD 0:Nat):Int),(k:Int))
theorem AQ{x:Str}(hO:O.Nodup)(hx:∀e∈E,e.1=x->e.2∈O):qf E O x<|P4 (pairsOf E O x) (-1,-1):=by
 exists E,O,x,_;obtain⟨h1,h2⟩:=uv;generalize P4 (pairsOf E O x) (-1,-1)=q at*;have hp:∀(k:Nat)z,E[k]?=some (x,z)->((O.idxOf z:Int),(k:Int))∈pairsOf E O x:=λk z h=>cA.mpr ⟨k,tS.mpr ⟨z,h⟩,by rw[h];rfl⟩;have hq:∀a∈pairsOf E O x,∃(k:Nat)(z:Str),E[k]?=some (x,z)/\a=((O.idxOf z:Int),(k:Int)):=λa ha=>by exists a,_;exists k,(q_:cA.mp ha);obtain⟨hk,rfl⟩:=q_;exists z,(hz:tS.mp hk);exact⟨k,z,hz,by rw[hz];rfl⟩
 by_cases hn:pairsOf E O x=[]
 .rw[hn]at h1;refine .inl ⟨h1.elim id λh=>absurd h<|bG,tX.mpr ?_⟩;exists e;intro he hex;exists k,(hk:cE he);have:=hp k e.2 (by simp[hk,<-hex]);replace this:=hn▸this;cases this
 .have hqm:q∈pairsOf E O x:=by
   refine h1.elim (λh=>?_) id;exists a,(ha:List.exists_mem_of_ne_nil _ hn);exists k,z,(q_:hq a ha);obtain⟨uZ,rfl⟩:=q_;rcases h2 _ (.tail _ ha)with e|e
   .simp only[h]at e;have:=aV (·.2) e;contradiction
   .rw[h,U6]at e;omega
  exists k,z,(q_:hq q hqm);obtain⟨hz,rfl⟩:=q_;have hi:O[O.idxOf z]?=some z:=by have sJ:=c0.mpr<|hx _ (aR hz) rfl;simp[aP sJ]
  refine .inr ⟨O.idxOf z,k,rfl,sN.mpr ⟨_,z,(dF _).symm,hi,hz⟩,?_⟩;exists t';intro ht';obtain⟨i',k'⟩:=t';exists i',k',_;exists j,z',(q_:sN.mp ht');obtain⟨e1,q8⟩:=q_;simp only[dF]at e1;subst e1;have hj:O.idxOf z'=i':=by have sJ:=c0.mpr<|aR q8.1;refine(j5 sJ hO).mp ?_;simp[aP sJ,q8.1]
  have hm:=h2 _<|.tail _<|hp k' z' q8.2;rw[hj]at hm;rcases hm with e|e
  .have a1:=aV (·.1) e;have a2:=aV (·.2) e;dsimp only at a1 a2;left;simp[j8.mp a1,j8.mp a2]
  .rw[U6]at e;dsimp only at e;right;dsimp only[Op];grind
theorem vp(h:(rs.names.lookup x==some .cell)=true):∀{l:Loc},lz (Ku rs l) x=lz l x:=by
 exists zr;induction zr with
 |nil=> exact rfl
 |cons zh l mB=>
  obtain⟨y,v⟩:=zh;have ih:=mB;show List.lookup x (List.filter (λp=>rs.names.lookup p.1==some .cell) ((y,v)::l))=(match x==y with|true=>some v|false=>List.lookup x l);rcases hy:x==y with _|_
  .by_cases hc:(rs.names.lookup y==some .cell)=true
   .rw[bR<|by exact hc];show(match x==y with|true=>some v|false=>_)=_;rw[hy];exact ih
   .rw[bN<|by exact hc];exact ih
  .have:=eq_of_beq hy;subst this;rw[bR<|by exact h];show(match x==x with|true=>some v|false=>_)=some v;rw[bM]
theorem A6(h1:rd 3 a H=some da)(h2:rd 3 c H=some dc)(c1:da.canLay0=true)(c2:dc.canLay0=true):pP .Eq a c H=some (.bool<|PyData.eqv da dc)/\pP .NotEq a c H=some (.bool (!PyData.eqv da dc)):=by constructor<;>(delta pP y4;dsimp only;exact(by unfold VA;exact h1▸h2▸aH (by simp only[c1,c2];rfl):VA a c H=some (PyData.eqv da dc))▸rfl)
theorem sK(h:H[i]?=some (.list xs))(hd:qK (λv=>rd n v H) xs=some ds):rd (n+1) (.ref i) H=some (.list ds):=by show(lE H i).elim ((tE H i).bind λxs=>(qK (λv=>rd n v H) xs).bind λds=>some<|PyData.tuple ds) (λxs=>(qK (λv=>rd n v H) xs).bind λds=>some<|PyData.list ds)=_;rw[qW h];show(qK (λv=>rd n v H) xs).bind _=_;rw[hd];rfl
theorem yK(h:H[i]?=some (.tuple xs))(hd:qK (λv=>rd n v H) xs=some ds):rd (n+1) (.ref i) H=some (.tuple ds):=by show(lE H i).elim ((tE H i).bind λxs=>(qK (λv=>rd n v H) xs).bind λds=>some<|PyData.tuple ds) (λxs=>(qK (λv=>rd n v H) xs).bind λds=>some<|PyData.list ds)=_;rw[(by unfold lE;rw[h];rfl:lE H i=none),(by unfold tE;rw[h];rfl:tE H i=some xs)];show(qK (λv=>rd n v H) xs).bind _=_;rw[hd];rfl
theorem qQ{α:Type}{f:α->V}{g:α->PyData}:∀{l:List α},(∀x∈l,rd n (f x) H=some (g x))->qK (λv=>rd n v H) (l.map f)=some (l.map g):=by
 exists zr;induction zr with
 |nil=> intro uZ;exact rfl
 |cons x l mB=> intro h;show(rd n (f x) H).bind _=_;rw[h x<|.head _];rw[mB λy hy=>h y<|.tail _ hy];rfl
theorem zH{α:Type}{g:α->PyData}:∀{l:List α},(∀x∈l,(g x).canLay0=true)->PyData.canLayAll0 (l.map g)=true:=by
 intro zr;induction zr with
 |nil=> intro _;exact rfl
 |cons x l mB=> intro h;show(_&&_)=true;simp only[h x<|.head _,mB λy hy=>h y<|.tail _ hy];rfl
theorem Jd:PyData.eqv (.list ds) (.list [])=ds.isEmpty:=by
 rcases ds with _|⟨d,ds⟩
 .rfl
 .exact PySem.SeqAt.eqvAll_other_length (by simp)
theorem Ci:((H++(a::M))++L).set H.length b=H++(b::(M++L)):=by rw[aJ,dO _ _<|aI _,cD];rfl
theorem C4:(H++(a::M))[H.length]?=some a:=oO rfl (j:=0) rfl
theorem Ix:(H++(a::M)).length=H.length+1+M.length:=by simp[aG];exact Eq.symm<|j6 (List.length H)<|List.length M
section
variable{α:Type}
def CL(rs:Scope)(y:Str)(loc loc':Loc):Prop:=∀z,(z==y)=false->(rs.names.lookup z==some .cell)=true->lz loc' z=lz loc z
theorem CL.put{w:V}(h:CL rs y loc l'):CL rs y loc<|put y w l':=λz hz hc=>(lL hz).trans<|h z hz hc
theorem zJ{turn:Nat->rB}{a:EF}{I:List α->Hp->List V->Prop}(h:a ⟨H0,loc⟩=some (.ok v,⟨H1,loc⟩))(hi:∀L,lZ v (H1++L)=some (ks,r.map f))(h0:I [] [] [])
 (step:∀done w rest M xs loc',r=done++w::rest->I done M xs->CL rs y loc loc'->lz loc' y=some (f w)->
  ∃M' RK l',turn H1.length ⟨H1++(.list xs::M),loc'⟩=some ⟨H1++(.list RK::M'),l'⟩/\CL rs y loc l'/\I (done++[w]) M' RK):
 ∃M xs,oF a rs (y6 y) turn ⟨H0,loc⟩=some (.ok<|.ref H1.length,⟨H1++(.list xs::M),loc⟩)/\I r M xs:=by
 exists _;obtain⟨k6,ec,M,xs,loc',uK,hc,hI⟩:=Uv (asg:=y6 y)
  (I:=λdone st=>∃M xs loc',st=(λU=>⟨H1++(.list xs::M),loc'⟩)/\CL rs y loc loc'/\I done M xs)
  (λd st q9 U=>by obtain⟨M,xs,loc',uK,_⟩:=q9;subst uK;exact hi _)
  (λdone w rest st hd q9=>by obtain⟨M,xs,loc',uK,hc,hI⟩:=q9;exists _;subst uK;obtain⟨M',RK,l',q8⟩:=step done w rest M xs (put y (f w) loc') hd hI hc.put lQ;exact k9 ⟨λU=>⟨H1++(.list RK::M'),l'⟩,λU=>q8.1,M',RK,_,rfl,q8.2.1,q8.2.2⟩)
  ⟨[],[],_,rfl,λz U hc=>vp hc,h0⟩
 subst uK;exact k9 ⟨M,xs,Id h rfl (by have:=hi [];rw[bF]at this;exact this)<|ec 0,hI⟩
theorem Mu{r:List α}{g:α->V}(h:a ⟨H0,loc⟩=some (.ok v,⟨H1,loc⟩))(hi:∀L,lZ v (H1++L)=some (ks,r.map f))(hz:r.length<big)
 (ht:∀w∈r,∀L loc',CL rs y loc loc'->lz loc' y=some (f w)->t ⟨H1++L,loc'⟩=some (.ok<|p w,⟨H1++L,loc'⟩)/\(p w=true->e ⟨H1++L,loc'⟩=some (.ok<|g w,⟨H1++L,loc'⟩))):
 oF a rs (y6 y) (λj=>q0 t<|nB e j) ⟨H0,loc⟩=some (.ok<|.ref H1.length,⟨H1++[.list<|(r.filter p).map g],loc⟩):=by
 obtain⟨M,xs,e,hM,hx⟩:=zJ (turn:=λj=>q0 t<|nB e j) (I:=λdone M xs=>M=[]/\xs=(done.filter p).map g) h hi ⟨rfl,rfl⟩
  (λdone w rest M xs loc' hd q9 hc hl=>by
   obtain⟨hM,hx⟩:=q9;subst hM;subst hx;obtain⟨h1,h2⟩:=ht w (by rw[hd];exact aW _<|.head _) [.list<|(done.filter p).map g] loc' hc hl;refine⟨[],_,_,?_,hc,rfl,rfl⟩;rw[dR];cases hp:p w with
   |true=> rw[hp]at h1;simp only[bR hp,bE];refine jz h1 rfl<|(wD (h2 hp) rfl mP (by rw[aF];exact bW (by simp only[hd,aG];exact bC (cU _ _)<|aT _ _) hz)).trans ?_;rw[dO _ _<|aI _,cD];rfl
   |false=> rw[hp]at h1;simp[bN<|hp▸bV];exact nv h1 rfl)
 simp[e,hM,hx]
theorem Dg{r:List α}(h:a ⟨H0,loc⟩=some (.ok v,⟨H1,loc⟩))(hi:∀L,lZ v (H1++L)=some (ks,r.map f))(hz:r.length<big)
 (ht:∀w∈r,∀L loc',CL rs y loc loc'->lz loc' y=some (f w)->t ⟨H1++L,loc'⟩=some (.ok<|p w,⟨H1++L,loc'⟩)):
 oF a rs (y6 y) (λj=>q0 t<|nB (lo y) j) ⟨H0,loc⟩=some (.ok<|.ref H1.length,⟨H1++[.list<|(r.filter p).map f],loc⟩):=
 Mu h hi hz λw hw L loc' hc hl=>⟨ht w hw L loc' hc hl,λU=>kY hl⟩
theorem K6{loc:Loc}{r:List α}{O:α->AO}(h:a ⟨H0,loc⟩=some (.ok v,⟨H1,loc⟩))(hi:∀L,lZ v (H1++L)=some (ks,r.map f))(hz:r.length<big)
 (ht:∀w∈r,∀L loc',CL rs y loc loc'->lz loc' y=some (f w)->e ⟨H1++L,loc'⟩=some (.ok<|.ref (H1++L).length,⟨(H1++L)++[O w],loc'⟩)):
 oF a rs (y6 y) (λj=>nB e j) ⟨H0,loc⟩=some (.ok<|.ref H1.length,⟨H1++(.list (((List.range r.length).map λi=>H1.length+1+i).map .ref)::r.map O),loc⟩):=by
 obtain⟨M,xs,lW⟩:=zJ (I:=λdone M xs=>M=done.map O/\xs=((List.range done.length).map λi=>H1.length+1+i).map .ref) h hi ⟨rfl,rfl⟩
  (λdone w rest M xs loc' hd q9 hc hl=>by have q8:=q9;have h2:=wD (ht w (hd▸(aW _<|.head _)) (.list xs::M) loc' hc hl) rfl (lC C4) (by simp only[q8.2,aF,cG];exact bW (by simp only[hd,aG];exact aT _ _) hz);rw[Ci,Ix]at h2;refine⟨_,_,_,h2,hc,by simp only[q8.1,bE];rfl,?_⟩;simp only[q8.2,q8.1,aF,show(done++[w]).length=done.length+1 from aG,kM,bE];rfl)
 simp only[lW.1,lW.2.1,lW.2.2]
end
theorem xC(m c:Nat)(hc:1<=c):Builtin.Range.rangeSize 0 (m:Int) (c:Int)=(((m+c-1)/c:Nat):Int):=by
 refine a6 (aH<|iM.mpr hc) ?_;rcases m with _|m
 .rw[dF,Nat.div_eq_of_lt<|Nat.sub_lt hc Nat.one_pos];rfl
 .refine a6 (aH<|iM.mpr<|c6 m) ?_;rw[eY,jY,j4 _ hc,Int.sub_zero,show((m+1:Nat):Int)-1=m from Int.add_sub_cancel m 1];rfl
theorem xZ(h0:0<=x)(h1:x<10000000):Builtin.Range.rangeFitsLong x=true:=by unfold Builtin.Range.rangeFitsLong;simp only[aQ,d6];lia
theorem ft{m c:Nat}(hm:m<100000)(hc0:1<=c)(hc:c<=3):Builtin.Range.small 0 (m:Int) (c:Int)=true:=by unfold Builtin.Range.small;have hd:(m+c-1)/c<=m+c-1:=Nat.div_le_self _ _;rw[xC m c hc0];generalize(m+c-1)/c=d at*;rw[xZ (by decide) (by simp),xZ (by lia)<|by lia,xZ (by simp)<|by lia,xZ (by lia)<|by lia,aH<|Int.natCast_pos.mpr hc0,xZ (by omega)<|by omega];simp
theorem Hy{i m c:Nat}(h:H[i]?=some (.range 0 (m:Int) (c:Int)))(hm:m<100000)(hc:1<=c)(hc3:c<=3):lZ (.ref i) H=some ([3],(List.range<|(m+c-1)/c).map λk=>V.int ((k*c:Nat):Int)):=by show(H[i]?).bind _=_;rw[h];rw[bY];unfold dy;dsimp only;rw[aH ⟨ft hm hc hc3,by rw[xC m c hc];exact eK _⟩];unfold qL;simp only[xC m c hc,Int.toNat_natCast,(λl=>dN λk U=>by simp only[Int.zero_add,Int.natCast_mul]:∀l:List Nat,l.map (λ(k:Nat)=>V.int<|0+k*c)=l.map (λk=>V.int (k*c:Nat)))]
theorem ow(hx:PyData.strOk x=true)(hy:PyData.strOk y=true):pP .Eq (.str x) (.str y) H=some (.bool<|x==y)/\pP .NotEq (.str x) (.str y) H=some (.bool (!(x==y))):=by have h:=A6 (H:=H) (a:=.str x) (c:=.str y) rfl rfl (by simpa[PyData.canLay0]using hx) (by simpa[PyData.canLay0]using hy);rw[show PyData.eqv (.str x) (.str y)=(x==y)by simp[PyData.eqv]]at h;exact h
theorem tD:1000<big:=by unfold big;decide
def zk(E:List<|Str×Str)(j:Nat):Str:=(E[j]?).elim "" (·.2)
structure Lv(k nI eI oI rI:Nat)(loc:Loc):Prop where
 ln:lz loc "names" =some (.ref<|k+nI)
 le:lz loc "edges" =some (.ref<|k+eI)
 lo:lz loc "order" =some (.ref<|k+oI)
 lr:lz loc "rounds" =some (.ref<|k+rI)
structure Rv(k nI eI oI rI:Nat)(ns O:List Str)(ES:List<|Nat×Str×Str)(RS:List<|Nat×List Str)(T:Hp):Prop where
 hn:T[nI]?=some (.list<|ns.map .str)
 he:T[eI]?=some (.list<|ES.map λq=>.ref<|k+q.1)
 het:∀q∈ES,T[q.1]?=some (.tuple [.str q.2.1,.str q.2.2])
 ho:T[oI]?=some (.list<|O.map .str)
 hr:T[rI]?=some (.list<|RS.map λq=>.ref<|k+q.1)
 Ox:∀q∈RS,T[q.1]?=some (.list<|q.2.map .str)/\q.1≠oI/\q.1≠rI
 ne:oI≠nI/\oI≠eI/\oI≠rI/\rI≠nI/\rI≠eI
structure Ok(ns O:List Str)(ES:List<|Nat×Str×Str):Prop where
 z:ES.length<1000
 sn:∀x∈ns,PyData.strOk x=true
 so:∀x∈O,PyData.strOk x=true
 se:∀q∈ES,PyData.strOk q.2.1=true/\PyData.strOk q.2.2=true
abbrev Eo(ES:List<|Nat×Str×Str):n4:=ES.map (·.2)
theorem Lv.put(L:Lv k nI eI oI rI loc)(h1:(("names" :Str)==z)=false)(h2:(("edges" :Str)==z)=false)(h3:(("order" :Str)==z)=false)(h4:(("rounds" :Str)==z)=false):Lv k nI eI oI rI<|put z v loc:=
 ⟨(lL h1).trans L.ln,(lL h2).trans L.le,(lL h3).trans L.lo,(lL h4).trans L.lr⟩
theorem Rv.same(R:Rv k nI eI oI rI ns O ES RS T)(h:nR T.length T T1):Rv k nI eI oI rI ns O ES RS T1 where
 hn:=(h _<|nE R.hn).trans R.hn
 he:=(h _<|nE R.he).trans R.he
 het q hq:=(h _<|nE<|R.het q hq).trans<|R.het q hq
 ho:=(h _<|nE R.ho).trans R.ho
 hr:=(h _<|nE R.hr).trans R.hr
 Ox q hq:=⟨(h _<|nE (R.Ox q hq).1).trans (R.Ox q hq).1,(R.Ox q hq).2⟩
 ne:=R.ne
theorem Iu(hk:H.length=k)(L){w:Nat}(R:Rv k nI eI oI rI ns O ES RS T)(hz:ES.length<1000)(hw:ES[w]?=some e)
 (h1:lz loc' "edges" =some (.ref<|k+eI))(h2:lz loc' "k" =some (.int (w:Int))):
  sb (sb (lo "edges")<|lo "k") (ct<|.int 0) ⟨(H++T)++L,loc'⟩=some (.ok<|.str e.2.1,⟨(H++T)++L,loc'⟩)/\sb (sb (lo "edges")<|lo "k") (ct<|.int 1) ⟨(H++T)++L,loc'⟩=some (.ok<|.str e.2.2,⟨(H++T)++L,loc'⟩):=by
  have g1:((H++T)++L)[k+eI]?=some (.list<|ES.map λq=>.ref<|k+q.1):=lC<|oO hk R.he;have g2:((H++T)++L)[k+e.1]?=some (.tuple [.str e.2.1,.str e.2.2]):=lC<|oO hk<|R.het e<|aR hw;have i1:sb (lo "edges") (lo "k") ⟨(H++T)++L,loc'⟩=some (.ok<|.ref<|k+e.1,⟨(H++T)++L,loc'⟩):=tK (kY h1) (kY h2) (qU g1)<|I6 g1 (by rw[aF];exact cK hz tD) (by simp only[bD,hw];rfl);exact⟨tK i1 lA (Nj g2)<|Td g2 Ir rfl,tK i1 lA (Nj g2)<|Td g2 Ir rfl⟩
theorem AH(hk:H.length=k)(R:Rv k nI eI oI rI ns O ES RS T)(L:Lv k nI eI oI rI loc)(K:Ok ns O ES)(hx:lz loc "name" =some (.str x))(hsx:PyData.strOk x=true):
 oF (cq (ct<|.ty "range") [cq (ct<|.bi "len") [lo "edges"]]) Un (y6 "k") (λj=>q0 (tc (sb (sb (lo "edges")<|lo "k")<|ct<|.int 0) (lo "name") .Eq)<|nB (lo "k") j) ⟨H++T,loc⟩=
  some (.ok<|.ref<|k+(T.length+1),⟨H++(T++[.range 0 (ES.length:Int) 1,.list<|(qJ (Eo ES) x).map λ(j:Nat)=>.int (j:Int)]),loc⟩):=by
 have hr:∀L,lZ (.ref (H++T).length) ((H++T)++[.range 0 (ES.map λq=>V.ref<|k+q.1).length 1]++L)=some ([3],(List.range ES.length).map λ(j:Nat)=>V.int j):=λL=>by have:=Hy (lC (L:=L)<|mP (H:=H++T) (a:=.range 0 (ES.map λq=>V.ref<|k+q.1).length 1)) (by rw[aF];exact cK K.z (by simp)) (aI _)<|c6 _;refine a6 this ?_;rw[aF,jY,Nat.div_one];exact aV (λl=>some ([3],l))<|dN λj U=>by rw[Nat.mul_one]
 refine(Dg (loc:=loc) (p:=λj=>(((Eo ES)[j]?).map (·.1))==some x) (Ly lA (pX<|Ly lA (pX<|kY L.le) rfl<|Gl (oO hk R.he) (by rw[aF];exact cK K.z tD)) rfl yr) hr
  (cG▸(cK K.z tD)) (λw hw M loc' hc hl=>?_)).trans ?_
 .have SU:=cJ.mp hw;have h0:=aP SU;rw[aJ<|H++T];simp only[show((((Eo ES)[w]?).map (·.1))==some x)=(ES[w].2.1==x)by simp only[bD,h0];rfl];exact mH (Iu hk _ R K.z h0 ((hc _ rfl rfl).trans L.le) hl).1 (kY<|(hc _ rfl rfl).trans hx) (ow (K.se _<|gM SU).1 hsx).1
 .unfold qJ;simp only[aG,hk,aJ,aF];rfl
theorem qb(hk:H.length=k)(R:Rv k nI eI oI rI ns O ES RS T)(L:Lv k nI eI oI rI loc)(K:Ok ns O ES){r:List Nat}(hm:lz loc "mine" =some (.ref<|k+m))(hT:T[m]?=some (.list<|r.map λ(j:Nat)=>.int (j:Int)))(hr:∀j∈r,j<ES.length)(SV:r.length<big):
 oF (lo "mine") Kb (y6 "k") (λj=>q0 (tc (sb (sb (lo "edges")<|lo "k")<|ct<|.int 1) (lo "order") .NotIn)<|nB (lo "k") j) ⟨H++T,loc⟩=
  some (.ok<|.ref (H++T).length,⟨(H++T)++[.list<|(r.filter λj=>!O.contains (zk (Eo ES) j)).map λ(j:Nat)=>.int (j:Int)],loc⟩):=
 Dg (kY hm) (λL=>oZ<|lC<|oO hk hT) SV λw hw M loc' hc hl=>by have SU:=hr w hw;have h0:=aP SU;exact(show zk (Eo ES) w=ES[w].2.2 by unfold zk;rw[bD,h0];rfl)▸(mH (Iu hk _ R K.z h0 ((hc _ rfl rfl).trans L.le) hl).2 (kY<|(hc _ rfl rfl).trans L.lo)<|Tg (lC<|oO hk R.ho) (K.se _<|gM SU).2 K.so)
theorem Be:∀{O:List Str},x∈O->sQ x (O.map .str)=some (O.idxOf x):=by
 intro zr;induction zr with
 |nil=> intro h;simp at h
 |cons y O mB=>
  intro h;show(if y=x then some 0 else(sQ x<|O.map .str).map (· +1))=_;rw[List.idxOf_cons];by_cases e:y=x
  .rw[aH e,a5.mpr e];rfl
  .rw[aL e,a7.mpr e,mB<|(aK.mp h).resolve_left λq=>e q.symm];rfl
theorem Dc:∀{O:List Str},zZ (O.map V.str)=true:=by
 intro zr;induction zr with
 |nil=> exact rfl
 |cons _ O mB=> exact mB
theorem fe(is:List Nat):∀ks{b:Nat}{kb:Int×Int},KP H (.ref b) kb->is.length=ks.length->(∀(j i:Nat)q,is[j]?=some i->ks[j]?=some q->KP H (.ref i) q)->
 ∃i,PL H (.ref b) (is.map .ref)=.ref i/\KP H (.ref i) (P4 ks kb):=by
 revert H is;exists H,is;induction is with
 |nil=>intro ks b kb h hl _;obtain rfl:=cC.mp hl.symm;exact⟨b,rfl,h⟩
 |cons i is ih=>
  intro ks b kb h hl hk;rcases ks with _|⟨q,ks⟩
  .injection hl
  have hq:=hk 0 i q rfl rfl;have e:PL H (.ref b) ((i::is).map .ref)=PL H (if n9 q kb=true then .ref i else .ref b) (is.map .ref):=by rw[<-S7 hq,<-S7 h];rfl
  rw[e,show P4 (q::ks) kb=P4 ks (if n9 q kb=true then q else kb)from rfl];by_cases hg:n9 q kb=true
  .rw[aH hg,aH hg];exact ih ks hq (Nat.succ.inj hl) λj=>hk<|j+1
  .rw[aL hg,aL hg];exact ih ks h (Nat.succ.inj hl) λj=>hk<|j+1
theorem kc(h:j<E.length):E[j]?=some ((E[j]).1,zk E j):=by unfold zk;rw[aP h];rfl
theorem Jw(h:j∈qJ E x):j<E.length:=cJ.mp (dT.mp h).1
theorem BQ(hO:x∉O):((qJ E x).filter λj=>!O.contains (zk E j)).isEmpty=tR E O x:=by
 rw[eO,cI,b8,q7];refine⟨λh=>⟨hO,λe he hx=>?_⟩,λh j hj q=>?_⟩
 .obtain⟨j,hj⟩:=cE he;have h2:=h j<|tS.mpr ⟨e.2,by refine a6 hj ?_;rw[<-hx]⟩;unfold zk at h2;rw[hj]at h2;exact bB.mp<|by simpa using h2
 .obtain⟨z,hz⟩:=tS.mp hj;have h2:=h.2 _ (aR hz) rfl;unfold zk at q;replace q:=hz▸q;rw[show(some (x,z)).elim ("" :Str) (·.2)=z from rfl,bB.mpr h2]at q;injection q
theorem DO(hk:H.length=k)(R:Rv k nI eI oI rI ns O ES RS T)(L:Lv k nI eI oI rI loc)(K:Ok ns O ES)(hx:lz loc "name" =some (.str x))(hsx:PyData.strOk x=true)(hm:lz loc "mine" =some (.ref<|k+m))(hT:T[m]?=some (.list<|(qJ (Eo ES) x).map λ(j:Nat)=>.int (j:Int))):
 ∃M,(tb .Or (tc (lo "name") (lo "order") .In)<|tb .Or (tc (oF (lo "mine") Kb (y6 "k") λj=>q0 (tc (sb (sb (lo "edges")<|lo "k")<|ct<|.int 1) (lo "order") .NotIn)<|nB (lo "k") j) (ls []) .NotEq)<|tk .Or) ⟨H++T,loc⟩=some (.ok (!tR (Eo ES) O x),⟨H++(T++M),loc⟩):=by
 have h1:=mH (kY hx) (kY (st:=⟨H++T,loc⟩) L.lo)<|wx (oO hk R.ho) hsx K.so;by_cases hO:x∈O
 .refine⟨[],?_⟩;rw[bB.mpr hO]at h1;rw[bF,show tR (Eo ES) O x=false from eF.mpr λq=>(q7.mp q).1 hO];exact UU h1
 .refine⟨[.list<|((qJ (Eo ES) x).filter λj=>!O.contains (zk (Eo ES) j)).map λ(j:Nat)=>.int j,.list []],?_⟩;rw[eF.mpr λq=>hO<|bB.mp q]at h1;refine Ii h1 ?_;have h2:=qb hk R L K hm hT (λj hj=>by have:=Jw hj;rwa[aF]at this)<|bW (cU _ _) (by rw[cG,aF];exact cK K.z tD);generalize hF:(qJ (Eo ES) x).filter (λj=>!O.contains (zk (Eo ES) j))=F at h2⊢;have h3:=(A6 (H:=(H++T++[AO.list<|F.map λ(j:Nat)=>.int j])++[.list []])
   (sK (lC mP)<|qQ λU U=>rfl) (sK mP rfl) (zH λU U=>rfl) rfl).2
  replace h3:=Jd▸h3;have h4:=mH h2 (rU zX<|by decide) h3;rw[show(F.map λ(j:Nat)=>PyData.int j).isEmpty=tR (Eo ES) O x by refine(by refine hF▸?_;exact BQ hO:F.isEmpty=tR (Eo ES) O x)▸?_;rcases F with _|_<;>rfl]at h4
  refine(by rw[aJ,aJ];rfl:(H++T++[AO.list<|F.map λ(j:Nat)=>.int j])++[.list []]=H++(T++[AO.list<|F.map λ(j:Nat)=>.int j,.list []]))▸?_;rcases hr:tR (Eo ES) O x with _|_
  .rw[hr]at h4;exact UU h4
  .rw[hr]at h4;exact Ii h4 Tu
def Fk(O:List Str)(E:n4)(j:Nat):AO:=.tuple [.int (O.idxOf (zk E j):Nat),.int (j:Int)]
theorem IV(hk:H.length=k)(R:Rv k nI eI oI rI ns O ES RS T)(Lo:Lv k nI eI oI rI loc)(K:Ok ns O ES){r:List Nat}(hO:O.length<big)(hm:lz loc "mine" =some (.ref<|k+m))(hT:T[m]?=some (.list<|r.map λ(j:Nat)=>.int (j:Int)))(hr:∀j∈r,j<ES.length/\zk (Eo ES) j∈O)(SV:r.length<big):
 oF (lo "mine") Ja (y6 "k") (λj=>nB (tp [mq (lo "order") "index" [sb (sb (lo "edges")<|lo "k")<|ct<|.int 1],lo "k"]) j) ⟨H++T++M0,loc⟩=
  some (.ok<|.ref (H++T++M0).length,⟨(H++T++M0)++(.list (((List.range r.length).map λi=>(H++T++M0).length+1+i).map .ref)::r.map (Fk O<|Eo ES)),loc⟩):=by
 refine K6 (kY hm) (λL=>oZ<|lC<|lC<|oO hk hT) SV λw hw L loc' hc hl=>?_;obtain⟨SU,hwO⟩:=hr w hw;have h0:=aP SU;have h1:=(Iu hk (M0++L) R K.z h0 ((hc _ rfl rfl).trans Lo.le) hl).2;rw[<-aJ,<-(by unfold zk;rw[bD,h0];rfl:zk (Eo ES) w=ES[w].2.2)]at h1;have go:(H++T++M0++L)[k+oI]?=some (.list<|O.map .str):=lC<|lC<|oO hk R.ho;exact C8 (Y6 (C9 (kY<|(hc _ rfl rfl).trans Lo.lo) (nL go rfl) (pX h1) rfl<|U0 go (by rw[aF];exact hO) Dc<|Be hwO)<|pX<|kY hl)<|show 2<1000 by decide
theorem DP{H T:Hp}{loc:Loc}{x:Str}(hk:H.length=k)(R:Rv k nI eI oI rI ns O ES RS T)(L:Lv k nI eI oI rI loc)(K:Ok ns O ES){m:Nat}(hO:O.length<big)(hm:lz loc "mine" =some (.ref<|k+m))(hT:T[m]?=some (.list<|(qJ (Eo ES) x).map λ(j:Nat)=>.int (j:Int)))(hx:∀e∈Eo ES,e.1=x->e.2∈O):
 ∃M i,(cl fu n (ct<|.bi "max") [bn (ls [tp [un (ct<|.int 1) .USub,un (ct<|.int 1) .USub]]) (oF (lo "mine") Ja (y6 "k") λj=>nB (tp [mq (lo "order") "index" [sb (sb (lo "edges")<|lo "k")<|ct<|.int 1],lo "k"]) j) .Add]) ⟨H++T,loc⟩=some (.ok<|.ref i,⟨H++(T++M),loc⟩)/\
  (H++(T++M))[i]?=some (.tuple [.int (P4 (pairsOf (Eo ES) O x) (-1,-1)).1,.int (P4 (pairsOf (Eo ES) O x) (-1,-1)).2]):=by
 exists fu,n,k,nI,eI,oI,rI,ns,O,ES,RS,H,T,loc,x,m,[hk,R,L,K,hO,hm,hT,hx];have hl:(qJ (Eo ES) x).length<1000:=bW (cU _ _) (by rw[cG,aF];exact K.z);have hr:∀j∈qJ (Eo ES) x,j<ES.length/\zk (Eo ES) j∈O:=λj hj=>by exists j,_;have h1:=Jw hj;refine⟨by rwa[aF]at h1,?_⟩;exists z,(hz:tS.mp hj);have h2:=kc h1;replace h2:=hz▸h2;have:=hx _ (aR hz) rfl;rcases h2 with _|_;exact this
 have hp:=IV hk R L K (M0:=[.tuple [.int (-1),.int (-1)]]++[.list [.ref (H++T).length]]) hO hm hT hr<|cK hl tD;have hpr:pairsOf (Eo ES) O x=(qJ (Eo ES) x).map λj=>(((O.idxOf (zk (Eo ES) j):Nat):Int),(j:Int)):=dN λj hj=>by rw[kc<|Jw hj];rfl
 rw[hpr];generalize qJ (Eo ES) x=r at*;have ha:=aJ H T;generalize H++T=X at*;rw[<-aJ]at hp;have l0:ls [tp [un (ct<|.int 1) .USub,un (ct<|.int 1) .USub]] ⟨X,loc⟩=some (.ok<|.ref (X++[AO.tuple [.int (-1),.int (-1)]]).length,⟨X++[.tuple [.int (-1),.int (-1)]]++[.list [.ref X.length]],loc⟩):=
  rU (pX<|C8 (Y6 (Nf lA rfl)<|pX<|Nf lA rfl)<|show 2<1000 by decide) (show 1<1000 by decide)
 have gt:(X++[.tuple [.int (-1),.int (-1)]]++[.list [.ref X.length]])[X.length]?=some (.tuple [.int (-1),.int (-1)]):=lC mP;have gl:(X++[AO.tuple [.int (-1),.int (-1)]]++[.list [.ref X.length]])[(X++[AO.tuple [.int (-1),.int (-1)]]).length]?=some (.list [.ref X.length]):=mP;have hc:X++[.tuple [.int (-1),.int (-1)]]++[.list [.ref X.length]]=X++[.tuple [.int (-1),.int (-1)],.list [.ref X.length]]:=by simp only[aJ];rfl
 generalize X++[.tuple [.int (-1),.int (-1)]]++[.list [.ref X.length]]=Y at*;have e1:((List.range r.length).map λi=>Y.length+1+i).length=r.length:=by simp[aF,cG]
 have q:∀i z,(((List.range r.length).map λi=>Y.length+1+i)[i]?=some z)->(r[i]?).map (Fk O<|Eo ES)=(Y++(AO.list (((List.range r.length).map λi=>Y.length+1+i).map .ref)::r.map (Fk O<|Eo ES)))[z]? :=λi z hz=>by
  rw[bD]at hz;have hi:i<r.length:=by rw[<-e1];rw[<-bD]at hz;exact(aU.mp hz).1
  rw[eT hi]at hz;obtain rfl:Y.length+1+i=z:=aA hz;rw[aS (by simp+arith only),show Y.length+1+i-Y.length=i+1 by exact cM (lk<|aN<|aY<|show List.length Y<=List.length Y+1+i from(by simp+arith only))<|lk<|aN (aY<|show List.length Y<=List.length Y+1+i from(by simp+arith only)).symm,kG,bD]
 generalize(List.range r.length).map (λi=>Y.length+1+i)=is at*;have gl2:=lC (L:=AO.list (is.map .ref)::r.map (Fk O<|Eo ES)) gl;have gt2:=lC (L:=AO.list (is.map .ref)::r.map (Fk O<|Eo ES)) gt;have gr:(Y++(AO.list (is.map .ref)::r.map (Fk O<|Eo ES)))[Y.length]?=some (.list<|is.map .ref):=oO rfl (j:=0) rfl;have YT:Y++(AO.list (is.map .ref)::r.map (Fk O<|Eo ES))=X++([.tuple [.int (-1),.int (-1)],.list [.ref X.length]]++(AO.list (is.map .ref)::r.map (Fk O<|Eo ES))):=by simp only[hc,aJ]
 generalize Y++(AO.list (is.map .ref)::r.map (Fk O<|Eo ES))=Z at*;have hk:∀k z w,is[k]?=some z->(r.map λj=>(((O.idxOf (zk (Eo ES) j):Nat):Int),(j:Int)))[k]?=some w->KP (Z++[.list (V.ref X.length::is.map .ref)]) (.ref z) w:=λk z w hz hw=>by have hq:=q k z hz;rw[bD]at hw;obtain⟨j,hj,rfl⟩:=a9.mp hw;rw[hj]at hq;exact⟨z,rfl,lC hq.symm⟩
 have hX:KP (Z++[.list (V.ref X.length::is.map .ref)]) (.ref X.length) (-1,-1):=⟨_,rfl,lC gt2⟩;obtain⟨i,q8⟩:=fe is _ hX (by rw[aF];exact e1) hk;refine⟨[.tuple [.int (-1),.int (-1)],.list [.ref X.length]]++(AO.list (is.map .ref)::r.map (Fk O<|Eo ES))++[.list (V.ref X.length::is.map .ref)],i,?_,?_⟩
 .rw[<-ha,<-aJ,<-YT];refine oE lA (pX<|vF l0 hp<|DX gl2 gr (by simp only[aF,e1];show 1+r.length<big;have:=hl;have:=tD;exact lk<|aC this hl)) rfl<|VB ?_;show(lE _ _).bind _=_;rw[qW mP];refine(aH ⟨eL _ _,λv hv=>?_⟩).trans<|aV (λv=>some (oV.ok v,Z++[AO.list (V.ref X.length::is.map .ref)])) q8.1;rcases aK.mp hv with rfl|hv
  .exact⟨_,hX⟩
  .obtain⟨z,hz,rfl⟩:=cA.mp hv;obtain⟨k,hz⟩:=cE hz;have h:=(aU.mp hz).1;rw[e1]at h;exact⟨_,hk k z _ hz (by rw[bD,aP h];rfl)⟩
 .rw[<-ha,<-aJ,<-YT];obtain⟨j,e,h⟩:=q8.2;obtain rfl:=V.ref.inj e;exact h
noncomputable abbrev IN:=Nat×Nat×Str
def xe(ns O:List Str)(E:n4)(q:IN):(Int×Int)×Int:=(P4 (pairsOf E O q.2.2) (-1,-1),((ns.idxOf q.2.2:Nat):Int))
structure Fv(k nI eI oI rI:Nat)(ns O:List Str)(ES:List<|Nat×Str×Str)(H T0:Hp)(done:List Str)(T:Hp)(RD:List IN)(loc:Loc):Prop where
 lv:Lv k nI eI oI rI loc
 HA:lz loc "ready" =some (.ref<|k+T0.length)
 sm:nR T0.length T0 T
 hy:T[T0.length]?=some (.list<|RD.map λq=>.ref<|k+q.1)
 hq:∀q∈RD,T[q.1]?=some (.tuple [.ref q.2.1,.int (xe ns O (Eo ES) q).2,.str q.2.2])/\(H++T)[q.2.1]?=some (.tuple [.int (xe ns O (Eo ES) q).1.1,.int (xe ns O (Eo ES) q).1.2])
 hd:RD.map (·.2.2)=done.filter (tR (Eo ES) O)
theorem Fv.app(F:Fv k nI eI oI rI ns O ES H T0 done T RD loc)(M):Fv k nI eI oI rI ns O ES H T0 done (T++M) RD loc where
 lv:=F.lv
 HA:=F.HA
 sm:=F.sm.app<|bS<|nE F.hy
 hy:=lC F.hy
 hq q hq:=⟨lC (F.hq q hq).1,by rw[<-aJ];exact lC (F.hq q hq).2⟩
 hd:=F.hd
theorem Fv.mv(F:Fv k nI eI oI rI ns O ES H T0 done T RD loc)(l:Lv k nI eI oI rI loc')(h:lz loc' "ready" =lz loc "ready"):Fv k nI eI oI rI ns O ES H T0 done T RD loc':=⟨l,h.trans F.HA,F.sm,F.hy,F.hq,F.hd⟩
theorem Fv.skip(F:Fv k nI eI oI rI ns O ES H T0 done T RD loc)(h:tR (Eo ES) O x=false):Fv k nI eI oI rI ns O ES H T0 (done++[x]) T RD loc:=
 {F with hd:=by simp[bN<|h▸bV];exact F.hd}
theorem Fv.push(F:Fv k nI eI oI rI ns O ES H T0 done T RD loc)(hk:H.length=k){t i:Nat}(ht:T[t]?=some (.tuple [.ref i,.int (xe ns O (Eo ES) (t,i,x)).2,.str x]))(hi:(H++T)[i]?=some (.tuple [.int (xe ns O (Eo ES) (t,i,x)).1.1,.int (xe ns O (Eo ES) (t,i,x)).1.2]))(hr:tR (Eo ES) O x=true):
 Fv k nI eI oI rI ns O ES H T0 (done++[x]) (T.set T0.length<|.list<|(RD.map λq=>.ref<|k+q.1)++[.ref<|k+t]) (RD++[(t,i,x)]) loc where
 lv:=F.lv
 HA:=F.HA
 sm:=F.sm.set<|aI _
 hy:=by simp only[bE];exact n0 F.hy
 hq q hq:=by
  refine(sC hk)▸?_;have g:=oO hk F.hy;rcases aO.mp hq with hq|hq
  .exact⟨lN F.hy (F.hq q hq).1 λh=>by injection h,lN g (F.hq q hq).2 λh=>by injection h⟩
  .rw[aE.mp hq];exact⟨lN F.hy ht λh=>by injection h,lN g hi λh=>by injection h⟩
 hd:=by simp only[bE,dR,F.hd,bR hr];rfl
theorem Vy{n k nI eI oI rI:Nat}{ns O done:List Str}{ES:List (Nat×Str×Str)}{RS:List (Nat×List Str)}{RD:List IN}{H T T0:Hp}{loc:Loc}{x:Str}(hk:H.length=k)(R:Rv k nI eI oI rI ns O ES RS T0)(K:Ok ns O ES)(hO:O.length<big)(hN:ns.length<big)(F:Fv k nI eI oI rI ns O ES H T0 done T RD loc)(hx:x∈ns)(hl:RD.length<big):
 ∃f T' RD' loc',Cj fu n ⟨H++T,put "name" (.str x) loc⟩=some (.ok f,⟨H++T',loc'⟩)/\(f=.next\/f=.cont)/\Fv k nI eI oI rI ns O ES H T0 (done++[x]) T' RD' loc':=by
 exists fu,n,k,nI,eI,oI,rI,ns,O,done,ES,RS,RD,H,T,T0,loc,x,_;exists _;have sx:=K.sn x hx;have l1:=F.lv.put (z:= "name") (v:=.str x) rfl rfl rfl rfl;have h1:=mC (x:= "mine")<|AH hk (R.same F.sm) l1 K lQ sx;have F1:=F.app [.range 0 ES.length 1,.list<|(qJ (Eo ES) x).map λ(j:Nat)=>.int j];have hT:(T++[AO.range 0 ES.length 1,.list<|(qJ (Eo ES) x).map λ(j:Nat)=>.int j])[T.length+1]?=some (.list<|(qJ (Eo ES) x).map λ(j:Nat)=>.int j):=oO rfl rfl;generalize T++[AO.range 0 ES.length 1,.list<|(qJ (Eo ES) x).map λ(j:Nat)=>.int j]=T1 at*;have l2:=l1.put (z:= "mine") (v:=.ref<|k+(T.length+1)) rfl rfl rfl rfl;have hn2:lz (put "mine" (.ref<|k+(T.length+1))<|put "name" (.str x) loc) "name" =some (.str x):=(lL rfl).trans lQ;have F2:=F1.mv l2<|(lL rfl).trans<|lL rfl;have hm2:lz (put "mine" (.ref<|k+(T.length+1))<|put "name" (.str x) loc) "mine" =some (.ref<|k+(T.length+1)):=lQ;generalize put "mine" (.ref<|k+(T.length+1)) (put "name" (.str x) loc)=rC at*;exists M,(h3:DO hk (R.same F2.sm) l2 K hn2 sx hm2 hT);have F3:=F2.app M;have hT3:=lC (L:=M) hT;generalize T1++M=T3 at*;rcases hr:tR (Eo ES) O x with _|_
 .rw[hr]at h3;exact k9 ⟨.cont,T3,RD,rC,lK h1<|Cp<|sZ h3<|Cp rfl,.inr rfl,F3.skip hr⟩
 .rw[hr]at h3;exists M4,i,(q8:DP (fu:=fu) (n:=n) hk (R.same F3.sm) l2 K hO hm2 hT3 (q7.mp hr).2);have F4:=(F3.app M4).mv (l2.put (z:= "last") (v:=.ref i) rfl rfl rfl rfl)<|lL rfl;have R4:=R.same F4.sm;generalize T3++M4=T4 at*;have hn4:lz (put "last" (.ref i) rC) "name" =some (.str x):=(lL rfl).trans hn2;have e7:=qB<|nW (fu:=fu) (n:=n) (x:= "append") (kY F4.HA) (nL (oO hk F4.hy) rfl) (pX<|C8 (Y6 (kY (st:=⟨H++T4,put "last" (.ref i) rC⟩) lQ)<|Y6 (nW (fu:=fu) (n:=n) (x:= "index") (kY F4.lv.ln) (nL (oO hk R4.hn) rfl) (pX<|kY hn4) rfl<|mI<|U0 (oO hk R4.hn) (by rw[aF];exact hN) Dc<|Be hx)<|pX<|kY hn4)<|show 3<1000 by decide) rfl<|mI<|oK (lC<|oO hk F4.hy) (by rw[aF];exact hl);rw[zA hk]at e7;rw[aJ,sC hk]at e7;exact k9 ⟨.next,_,_,_,lK h1<|lK (pF h3 rfl)<|lK (mC q8.1) e7,.inl rfl,(F4.app [.tuple [.ref i,.int<|ns.idxOf x,.str x]]).push hk mP (by rw[<-aJ];exact lC q8.2) hr⟩
theorem Rv.round{j:Nat}(V0:Rv k nI eI oI rI ns O ES RS T)(hj:T[j]?=some (.list<|R.map .str))(n1:j≠oI)(n2:j≠rI):
 Rv k nI eI oI rI ns (O++R) ES (RS++[(j,R)]) ((T.set rI<|.list<|(RS.map λq=>.ref<|k+q.1)++[.ref<|k+j]).set oI<|.list<|O.map .str++R.map .str)where
 hn:=m8 V0.ne.1<|m8 V0.ne.2.2.2.1 V0.hn
 he:=m8 V0.ne.2.1<|m8 V0.ne.2.2.2.2 V0.he
 het q hq:=lN (m8 V0.ne.2.2.1.symm V0.ho) (lN V0.hr (V0.het q hq) λh=>by injection h) λh=>by injection h
 ho:=by exact bE▸(n0<|m8 V0.ne.2.2.1.symm V0.ho)
 hr:=by simp only[bE];exact m8 V0.ne.2.2.1<|n0 V0.hr
 Ox q hq:=by
  rcases aO.mp hq with hq|hq
  .have:=V0.Ox q hq;exact⟨m8 this.2.1.symm<|m8 this.2.2.symm this.1,this.2⟩
  .rw[aE.mp hq];exact⟨m8 n1.symm<|m8 n2.symm hj,n1,n2⟩
 ne:=V0.ne
theorem Pq(hk:H.length=k)(V0:Rv k nI eI oI rI ns O ES RS T0)(L:Lv k nI eI oI rI loc)(K:Ok ns O ES)(hO:O.length<big)(hN:ns.length<big)(hr:lz loc "ready" =some (.ref<|k+T0.length)):
 ∃T RD loc',fr (lo "names") "name" (Cj fu n) ⟨H++(T0++[.list []]),loc⟩=some (.ok .next,⟨H++T,loc'⟩)/\Fv k nI eI oI rI ns O ES H T0 ns T RD loc':=by
 exists k,n,fu,H,loc,nI,eI,oI,rI,ns,O,ES,RS,T0,[hk,V0,L,K,hO,hN,hr];obtain⟨k6,e,T,RD,loc',rfl,F⟩:=z8 (s:=Cj fu n)
  (I:=λdone st=>∃T RD loc',st=⟨H++T,loc'⟩/\Fv k nI eI oI rI ns O ES H T0 done T RD loc') (kY L.ln) ⟨_,_,_,rfl,⟨L,hr,nR.refl.app<|aI _,mP,λU h=>absurd h bG,rfl⟩⟩
  (λd st qq=>by exists d,st,[qq];exists T,RD,loc',(q_:qq);obtain⟨h,F⟩:=q_;subst h;exact oZ<|oO hk (V0.same F.sm).hn)
  (λdone w rest st hd qq=>by
   exists done,w,rest,st,[hd,qq];exists T,RD,loc',(q_:qq);obtain⟨h,F⟩:=q_;subst h;have hl:RD.length<big:=by have h1:=aV List.length F.hd;rw[aF]at h1;have h2:=cU (tR (Eo ES) O) done;have h3:=aV List.length hd;simp only[aG]at h3;exact lk<|aC (aN h3.symm)<|aC h2<|aC (aN h1) hN
   obtain⟨f,T',RD',rC,q8⟩:=Vy hk V0 K hO hN F (by rw[hd];exact aW _<|.head _) hl;exact⟨f,_,q8.1,q8.2.1,T',RD',rC,rfl,q8.2.2⟩)
 exact⟨T,RD,loc',e,F⟩
theorem Xs{r:List IN}{Z:Hp}(h:cq (ct<|.bi "sorted") [lo "ready"] ⟨Z,loc⟩=some (.ok<|.ref Z.length,⟨Z++[.list<|r.map λq=>.ref<|k+q.1],loc⟩))
 (ht:∀q∈r,∃a b,Z[k+q.1]?=some (.tuple [a,b,.str q.2.2]))(hl:r.length<big):
 oF (cq (ct<|.bi "sorted") [lo "ready"]) Tq (AL ["last","place","name"] 3) (λj=>nB (lo "name") j) ⟨Z,loc⟩=
  some (.ok<|.ref (Z++[AO.list<|r.map λq=>.ref<|k+q.1]).length,⟨(Z++[.list<|r.map λq=>.ref<|k+q.1])++[.list<|(r.map (·.2.2)).map .str],loc⟩):=by
 exists k,loc,r,Z,_;have g0:(Z++[AO.list<|r.map λq=>.ref<|k+q.1])[Z.length]?=some (.list<|r.map λq=>.ref<|k+q.1):=mP;have ht':∀q∈r,∃a b,(Z++[AO.list<|r.map λq=>.ref<|k+q.1])[k+q.1]?=some (.tuple [a,b,.str q.2.2]):=λq hq=>by exists a,b,(h:ht q hq);exact⟨a,b,lC h⟩
 generalize Z++[AO.list<|r.map λq=>.ref<|k+q.1]=Y at*;obtain⟨k6,ec,rC,rfl⟩:=Uv (α:=IN) (asg:=AL ["last","place","name"] 3) (turn:=nB (lo "name") Y.length)
  (I:=λdone st=>∃loc',st=λU=>⟨Y++[.list<|(done.map (·.2.2)).map .str],loc'⟩) (λd st q9 U=>by obtain⟨_,h⟩:=q9;subst h;exact oZ<|lC g0)
  (λdone w rest st hd q9=>by
   obtain⟨loc',h⟩:=q9;subst h;obtain⟨a,b,hw⟩:=ht' w (by rw[hd];exact aW _<|.head _);refine⟨_,λU=>?_,put "name" (.str w.2.2)<|put "place" b<|put "last" a loc',rfl⟩;have e1:AL ["last","place","name"] 3 (.ref<|k+w.1) ⟨Y++[.list<|(done.map (·.2.2)).map .str],loc'⟩=some (put "name" (.str w.2.2)<|put "place" b<|put "last" a loc'):=by have e:qV (.ref<|k+w.1) 3 (Y++[AO.list<|(done.map (·.2.2)).map .str])=some _:=ql (lC hw) rfl;show(qV (.ref<|k+w.1) 3<|Y++[AO.list<|(done.map (·.2.2)).map .str]).bind _=_;rw[e];rfl
   simp only[e1];refine(wD (kY lQ) rfl mP ?_).trans ?_
   .simp only[aF];have:=aV List.length hd;simp only[aG]at this;exact lk<|aC (aN this.symm) hl
   .rw[dO _ _<|aI _,cD,bE,bE];rfl) ⟨_,rfl⟩
 exact Id h rfl (oZ g0)<|ec 0
theorem BF{RD:List IN}(Ct:ns.Nodup)(hs:∀q∈RD,q.2.2∈ns)(hd:(RD.map (·.2.2)).Nodup):(RD.map<|xe ns O<|Eo ES).Nodup:=by refine iP.mpr<|(iP.mp hd).imp_of_mem λ{a b}ha hb h e=>h ?_;have h1:=Int.ofNat.inj<|aV (·.2) e;exact(jZ<|c0.mpr<|hs a ha)▸(jZ<|c0.mpr<|hs b hb)▸(List.getElem_of_eq rfl _|>.trans (by congr 1))
theorem bp(ul:O.Nodup)(hx:x∈ns)(hr:tR (Eo ES) O x=true)(a b):TI (Eo ES) ns O x<|xe ns O (Eo ES) (a,b,x):=by refine⟨AQ ul (q7.mp hr).2,ns.idxOf x,?_,rfl⟩;have h2:=c0.mpr hx;simp[aP h2]
theorem gc(hk:H.length=k)(K:Ok ns O ES)(F:Fv k nI eI oI rI ns O ES H T0 ns T RD loc):
 tc (lo "ready") (ls []) .Eq ⟨H++T,loc⟩=some (.ok RD.isEmpty,⟨(H++T)++[.list []],loc⟩):=by
 have h1:=(A6 (H:=(H++T)++[.list []])
  (sK (lC<|oO hk F.hy)<|qQ λq hq=>yK (lC<|oO hk (F.hq q hq).1) (show(rd 1 (.ref q.2.1) _).bind _=_ by rw[yK (lC (F.hq q hq).2) rfl];rfl)) (sK mP rfl) (zH λq hq=>?_) rfl).1
 .replace h1:=Jd▸h1;refine(mH (kY F.HA) (rU zX<|by decide) h1).trans ?_;rcases RD with _|_<;>rfl
 .show PyData.canLayAll0 [.tuple [.int _,.int _],.int _,.str q.2.2]=true;have:q.2.2∈RD.map (·.2.2):=fL hq;rw[F.hd]at this;show(_&&(_&&(PyData.strOk q.2.2&&_)))=true;rw[K.sn _ (dT.mp this).1];rfl
inductive Qc(fu n k nI eI oI rI:Nat)(ns O:List Str)(ES:List<|Nat×Str×Str)(RS:List<|Nat×List Str)(H:Hp)(st:St):Prop
 |stop {T t loc'}:(∀x∈ns,tR (Eo ES) O x=false)->Jf fu n st=some (.ok<|.ret<|.ref<|k+t,⟨H++T,loc'⟩)->T[t]?=some (.tuple [.ref<|k+rI,.bool<|decide<|O.length<ns.length])->Rv k nI eI oI rI ns O ES RS T->Qc fu n k nI eI oI rI ns O ES RS H st
 |next {T R j loc'}:R≠[]->nH (Eo ES) ns O R->Jf fu n st=some (.ok .next,⟨H++T,loc'⟩)->Rv k nI eI oI rI ns (O++R) ES (RS++[(j,R)]) T->Lv k nI eI oI rI loc'->Qc fu n k nI eI oI rI ns O ES RS H st
set_option tactic.hygienic true in
theorem Zo{n k nI eI oI rI:Nat}{ns O:List Str}{ES:List (Nat×Str×Str)}{RS:List (Nat×List Str)}{H T0:Hp}{loc:Loc}(hk:H.length=k)(V0:Rv k nI eI oI rI ns O ES RS T0)(L:Lv k nI eI oI rI loc)(K:Ok ns O ES)(ul:O.Nodup)(hO:O.length<=ns.length)(hN:ns.length<64)(Ct:ns.Nodup)(HB:RS.length<=O.length):Qc fu n k nI eI oI rI ns O ES RS H ⟨H++T0,loc⟩:=by
 exists fu,n,k,nI,eI,oI,rI,ns,O,ES,RS,H,T0,loc,_;exists _;exists g9,_;have b64:=tD;have h0:pH (ls []) (qG "ready") ⟨H++T0,loc⟩=_:=mC<|rU zX (by decide);simp only[zA hk,aJ]at h0;obtain⟨T,RD,rC,h1,F⟩:=Pq (fu:=fu) (n:=n) hk V0 (L.put (z:= "ready") (v:=.ref<|k+T0.length) rfl rfl rfl rfl) K (by lia) (by lia) lQ;exists T,RD,rC,_;have h2:=gc hk K F;have F2:=F.app [.list []];have V2:=V0.same F2.sm;rw[aJ]at h2;have hlen:RD.length<=ns.length:=by have:=aV List.length F.hd;simp only[aF]at this;rw[this];exact cU _ _
 generalize T++[AO.list []]=T2 at*;rcases UE:RD.isEmpty with _|_
 .replace h2:=UE▸h2;have o9:RD≠[]:=λq=>by replace UE:=q▸UE;injection UE
  have vZ:∀q∈RD,q.2.2∈ns/\tR (Eo ES) O q.2.2=true:=λq hq=>by have h3:q.2.2∈RD.map (·.2.2):=fL hq;rw[F.hd]at h3;exact dT.mp h3
  obtain⟨r,hp,q8⟩:=Pa (kf:=xe ns O<|Eo ES) (oO hk F2.hy) (jJ.mpr o9) (bW ‹_› ‹_›) (BF Ct (λq hq=>(vZ q hq).1) (by simp[F.hd];exact Ct.filter _)) λq hq=>⟨oO hk (F2.hq q hq).1,(F2.hq q hq).2⟩;exists r,_;have SV:=hp.length_eq;have h4:=Xs (loc:=rC) (Ly lA (pX<|kY F.HA) rfl<|ky q8.2) (λq hq=>⟨_,_,oO hk (F2.hq q<|hp.mem_iff.mp hq).1⟩) (lk<|aC (aN SV)<|aC hlen<|aC b64 hN);have hR:nH (Eo ES) ns O<|r.map (·.2.2):=by refine⟨by refine F.hd▸?_;exact hp.map _,iP.mpr<|q8.1.imp_of_mem λ{a b}ha hb h=>?_⟩;have N4:=vZ a<|hp.mem_iff.mp ha;have RZ:=vZ b<|hp.mem_iff.mp hb;exact⟨_,_,bp ul N4.1 N4.2 a.1 a.2.1,bp ul RZ.1 RZ.2 b.1 b.2.1,h⟩
  have hb:(r.map (·.2.2)).length<=ns.length:=by rw[aF];exact le_of_eq_of_le SV hlen
  have V3:=V2.same (T1:=T2++[.list<|r.map λq=>.ref<|k+q.1])<|nR.refl.app<|aI _;have adP:r.map (·.2.2)≠[]:=λq=>o9<|i8<|SV▸(cC.mpr<|List.map_eq_nil_iff.mp q);rw[aJ H,zA hk]at h4;generalize T2++[AO.list<|r.map λq=>.ref<|k+q.1]=T3 at*;generalize r.map (·.2.2)=R at*;have V4:=V3.same (T1:=T3++[.list<|R.map .str])<|nR.refl.app<|aI _;have hj:(T3++[AO.list<|R.map .str])[T3.length]?=some (.list<|R.map .str):=mP;have n2:T3.length≠rI:=λq=>by have:=nE V3.hr;omega
  rw[aJ]at h4;generalize T3++[AO.list<|R.map .str]=T4 at*;have h5:=qB<|nW (fu:=fu) (n:=n) (x:= "append") (kY F.lv.lr) (nL (oO hk V2.hr) rfl) (pX h4) rfl<|mI<|oK (oO hk V4.hr) (by rw[aF];exact lk<|aC b64<|aC HB<|aC hN hO);have V5:=V4.round hj (λq=>by have:=nE V3.ho;omega) n2;have g2:=oO hk<|n0 (b:=.list<|(RS.map λq=>V.ref<|k+q.1)++[.ref<|k+T3.length]) V4.hr;have g3:=oO hk<|m8 n2.symm (b:=.list<|(RS.map λq=>V.ref<|k+q.1)++[.ref<|k+T3.length]) hj;have g4:=oO hk<|m8 V4.ne.2.2.1.symm (b:=.list<|(RS.map λq=>V.ref<|k+q.1)++[.ref<|k+T3.length]) V4.ho;rw[sC hk]at h5;generalize T4.set rI (.list<|(RS.map λq=>V.ref<|k+q.1)++[.ref<|k+T3.length])=T5 at*;have h6:=qB<|nW (fu:=fu) (n:=n) (x:= "extend") (kY F.lv.lo) (nL g4 rfl) (pX (tK (kY F.lv.lr) (Nf lA rfl) (qU g2) (It g2 (by rw[aG,aF];show RS.length+1<big;exact lk<|aC b64<|aC HB<|aC hN hO) (by rw[aG,aF];show(_++_)[RS.length]?=_;rw[aS (by rw[aF];exact aI _),aF,cD];rfl)):sb (lo "rounds") (un (ct<|.int 1) .USub) ⟨H++T5,rC⟩=some (.ok<|.ref<|k+T3.length,⟨H++T5,rC⟩))) rfl<|mI<|jq g4 g3 (by simp[aF];lia);rw[sC hk]at h6;exact k9<|.next adP hR (lK h0<|lK h1<|lK (pF h2 rfl)<|lK h5 h6) V5 F.lv
 .replace h2:=UE▸h2;have h3:(cm (cl fu n (ct<|.bi "len") [lo "order"]) (cl fu n (ct<|.bi "len") [lo "names"]) .Lt) ⟨H++T2,rC⟩=some (.ok<|.bool<|decide<|O.length<ns.length,⟨H++T2,rC⟩):=by refine M3 (oE lA (pX<|kY F.lv.lo) rfl<|mI<|Gl (oO hk V2.ho) (by rw[aF];lia)) (oE lA (pX<|kY F.lv.ln) rfl<|mI<|Gl (oO hk V2.hn) (by rw[aF];lia)) ?_;rw[aF,aF];show some (V.bool<|decide<|(O.length:Int)<ns.length)=_;rw[show decide ((O.length:Int)<ns.length)=decide (O.length<ns.length)from decide_eq_decide.mpr iM]
  refine k9<|.stop (loc':=rC) (λx hx=>?_) (lK h0<|lK h1<|xM<|sZ h2<|rK<|(C8 (Y6 (kY F.lv.lr)<|pX h3)<|show 2<1000 by decide).trans ?_) mP<|V2.same<|nR.refl.app<|aI _
  .have:=F.hd;rw[cI.mp UE]at this;exact eF.mpr<|b8.mp this.symm x hx
  .simp[zA hk]
section
variable{fu n k nI eI oI rI:Nat}{ns O R:List Str}{ES:List (Nat×Str×Str)}{RS:List (Nat×List Str)}{RD r:List IN}{H T T0 T1 M:Hp}{loc loc':Loc}{x:Str}{j:Nat}
set_option tactic.hygienic true in
theorem K4(hk:H.length=k)(hN:ns.length<64)(Ct:ns.Nodup):∀{m:Nat}{O:List Str}{RS:List (Nat×List Str)}{T:Hp}{loc:Loc},ns.length<m+O.length->Rv k nI eI oI rI ns O ES RS T->Lv k nI eI oI rI loc->Ok ns O ES->O.Nodup->(∀x∈O,x∈ns)->RS.length<=O.length->
 ∃RS2 O' T' t loc',qP (te<|ct<|.bool true) (Jf fu n) nx m ⟨H++T,loc⟩=some (.ok<|.ret<|.ref<|k+t,⟨H++T',loc'⟩)/\T'[t]?=some (.tuple [.ref<|k+rI,.bool<|decide<|O'.length<ns.length])/\sY (Eo ES) ns O (RS2.map (·.2)) O'/\
  T'[rI]?=some (.list<|(RS++RS2).map λq=>.ref<|k+q.1)/\∀q∈RS++RS2,T'[q.1]?=some (.list<|q.2.map .str):=by
 exists fu,n,k,nI,eI,oI,rI,ns,ES,H,[hk,hN,Ct];exists zr;induction zr with
 |zero=> exists O,RS,T,loc;intro hm V0 L K ul hO hl;have:=rO ul hO;grind
 |succ m mB=>
  exists m,[mB];exists O,RS,T,loc;intro hm V0 L K ul hO hl;have ht:te (ct<|.bool true) ⟨H++T,loc⟩=some (.ok true,⟨H++T,loc⟩):=Hd lA rfl;rcases Zo hk V0 L K ul (rO ul hO) hN Ct hl with⟨h0,e,h1,h2⟩|⟨o9,hR,e,V1,L1⟩
  .exact⟨[],O,_,_,_,(lG.at ht).trans<|(lG.at e).trans rfl,h1,.nil h0,by rw[bF];exact h2.hr,by rw[bF];exact λq hq=>(h2.Ox q hq).1⟩
  .exists _;rename_i T1 R j qT;have hs:=λx hx=>(aO.mp hx).elim (hO x) λh=>(hR.mem.mp h).1;have On:=jJ.mpr o9;obtain⟨RS2,O',T',t,loc',e2,h1,h2,h3,h4⟩:=mB (by rw[aG];exact lk<|aC On hm) V1 L1 ⟨K.z,K.sn,λx hx=>K.sn x<|hs x hx,K.se⟩ (hR.nodup Ct ul) hs (by simp only[aG];exact aC hl On);rw[aJ]at h3 h4;exact k9 ⟨(j,R)::RS2,O',T',t,loc',(lG.at ht).trans<|(lG.at e).trans e2,h1,.cons o9 hR h2,h3,h4⟩
theorem Xy{i:Nat}{row:List Str}(hk:H.length=k)(hr:H[i]?=some (.list<|row.map .str))(hs:∀x∈row,PyData.strOk x=true)(RW:∀x∈ns,PyData.strOk x=true)(hz:ns.length+row.length<big)(l1:lz loc "rows" =some (.ref j))(l2:lz loc "names" =some (.ref<|k+0))(l3:lz loc "row" =some (.ref i)):
 ∃loc',P9 fu n ⟨H++[.list<|ns.map .str],loc⟩=some (.ok .next,⟨H++[.list<|(nN row ns).map .str],loc'⟩)/\lz loc' "rows" =some (.ref j)/\lz loc' "names" =some (.ref<|k+0):=by
 exists fu,n,k,ns,H,loc,j,i,row,_;obtain⟨k6,e,loc',rfl,h1,h2⟩:=z8 (s:=ck fu n)
  (I:=λdone st=>∃loc',st=⟨H++[.list<|(nN done ns).map .str],loc'⟩/\lz loc' "rows" =some (.ref j)/\lz loc' "names" =some (.ref<|k+0)) (kY l3) ⟨_,rfl,l1,l2⟩
  (λd st q9=>by exists d,st,_;exists uZ,(q_:q9);obtain⟨h,Os⟩:=q_;subst h;exact oZ<|lC hr)
  (λdone w rest st hd q9=>by
   exists done,w,rest,st,_;exists loc',(q_:q9);obtain⟨h,q8⟩:=q_;subst h;have hlen:(nN done ns).length<big:=by have h3:=xJ (l:=done) (ns:=ns);have h4:=aV List.length hd;simp only[aG]at h4;exact lk<|aC (aN h4.symm)<|aC h3 hz
   have g:=oO (j:=0) (T:=[.list<|(nN done ns).map .str]) hk rfl;have TS:lz (put "name" (.str w) loc') "rows" =some (.ref j):=(lL rfl).trans q8.1;have h2':lz (put "name" (.str w) loc') "names" =some (.ref<|k+0):=(lL rfl).trans q8.2;have ht:=mH (kY (st:=⟨H++[.list<|(nN done ns).map .str],put "name" (.str w) loc'⟩) lQ) (kY h2')<|Tg g (hs w (by rw[hd];exact aW _<|.head _)) λx hx=>(r9.mp hx).elim (λh=>hs x (by rw[hd];exact b6 _ h))<|RW x;rw[Bm];by_cases hc:w∈nN done ns
   .rw[bB.mpr hc]at ht;exact⟨_,_,pF ht rfl,.inl rfl,_,by unfold ins;rw[aH hc],TS,h2'⟩
   .rw[eF.mpr λq=>hc<|bB.mp q]at ht;refine⟨_,_,sZ ht<|qB<|nW (kY h2') (nL g rfl) (pX<|kY lQ) rfl<|mI<|oK g (by rw[aF];exact hlen),.inl rfl,_,?_,TS,h2'⟩;unfold ins;rw[aL hc,sC hk,bE];rfl)
 exact⟨loc',e,h1,h2⟩
end
noncomputable abbrev uW:=Nat×Str×List Str
def mJ(rws:List uW):n4:=rws.flatMap λq=>q.2.2.map λz=>(q.2.1,z)
structure TG(i:Nat)(rws:List uW)(H:Hp):Prop where
 hl:H[i]?=some (.list<|rws.map λq=>.ref q.1)
 hr:∀q∈rws,H[q.1]?=some (.list<|(q.2.1::q.2.2).map .str)
def sW(d:Nat)(PS:List<|Nat×Str×Str):List V:=PS.map λq=>.ref<|d+q.1
def Pz(M:Hp)(PS:List<|Nat×Str×Str):Prop:=∀q∈PS,M[q.1]?=some (.tuple [.str q.2.1,.str q.2.2])
theorem Pz.app{PS:List (Nat×Str×Str)}(h:Pz M PS)(L):Pz (M++L) PS:=λq hq=>lC<|h q hq
theorem Qx{loc loc':Loc}{x:Str}{r:List Str}{PS:List (Nat×Str×Str)}{j:Nat}(hj:H1[j]?=some (.list<|(x::r).map .str))(hl:lz loc' "row" =some (.ref j))(hc:CL x9 "row" loc loc')(hM:Pz M PS)(hz:PS.length+r.length+1<big):
 ∃M' SW l',Dm (sl (lo "row") (ct<|.int 1) (ct .none)<|ct .none) (y6 "need") (nB (tp [sb (lo "row")<|ct<|.int 0,lo "need"]) H1.length) ⟨H1++(.list (sW (H1.length+1) PS)::M),loc'⟩=some ⟨H1++(.list (sW (H1.length+1) SW)::M'),l'⟩/\
  CL x9 "row" loc l'/\SW.map (·.2)=PS.map (·.2)++r.map (λz=>(x,z))/\Pz M' SW:=by
 exists H1,M,loc,loc',x,r,PS,j,_;have hb:((x::r).map V.str).length<big:=by simp only[aF];exact eH hz
 have gj:(H1++(.list (sW (H1.length+1) PS)::M))[j]?=some (.list<|(x::r).map .str):=lC hj;obtain⟨k6,ec,M',SW,l',rfl,q8⟩:=Uv (it:=lZ<|.ref<|H1.length+(M.length+1)) (asg:=y6 "need") (turn:=nB (tp [sb (lo "row")<|ct<|.int 0,lo "need"]) H1.length)
  (I:=λdone st=>∃M2 DQ l2,st=(λU=>⟨H1++(.list (sW (H1.length+1) DQ)::M2),l2⟩)/\CL x9 "row" loc l2/\lz l2 "row" =some (.ref j)/\DQ.map (·.2)=PS.map (·.2)++done.map (λz=>(x,z))/\Pz M2 DQ/\M2[M.length]?=some (.list<|r.map .str))
  (λd st qq U=>by obtain⟨M2,DQ,l2,h,_,_,_,_,h5⟩:=qq;subst h;exact oZ<|oO rfl h5)
  (λdone w rest st hd qq=>by
   obtain⟨M2,DQ,l2,h,h1,h2,h3,h4,h5⟩:=qq;subst h;have hw:lz (put "need" (.str w) l2) "row" =some (.ref j):=(lL rfl).trans h2;have gj2:(H1++(.list (sW (H1.length+1) DQ)::M2))[j]?=some (.list<|(x::r).map .str):=lC hj;have hP:DQ.length<big:=by have h6:=aV List.length h3;have h7:=aV List.length hd;simp only[aG,aF]at h6;simp only[aG]at h7;exact lk<|aC (aN h7.symm)<|aC (aN h6) hz
   have e2:=wD (C8 (Y6 (tK (kY (st:=⟨H1++(.list (sW (H1.length+1) DQ)::M2),put "need" (.str w) l2⟩) hw) (lA (v:=.int 0)) (qU gj2)<|I6 gj2 hb rfl)<|pX<|kY lQ)<|show 2<1000 by decide) rfl (lC C4) (by unfold sW;rw[aF];exact hP);simp only[Ci,Ix]at e2;refine⟨_,λU=>e2,M2++[.tuple [.str x,.str w]],DQ++[(M2.length,x,w)],_,?_,λz hz hc=>?_,hw,?_,?_,lC h5⟩
   .unfold sW;exact bE▸rfl
   .by_cases hn:z= "need"
    .subst hn;rcases hc with _|_
    .exact(lL<|a7.mpr hn).trans (h1 z hz hc)
   .simp only[h3,bE,aJ];rfl
   .exact λq hq=>(aO.mp hq).elim (λhq=>lC<|h4 q hq) λhq=>by exact(aE.mp hq)▸mP)
  ⟨_,PS,_,rfl,hc,hl,(bF _).symm,hM.app _,mP⟩
 refine⟨M',SW,l',?_,q8.1,q8.2.2.1,q8.2.2.2.1⟩;unfold Dm;rw[zM (F9 (kY (st:=⟨H1++(.list (sW (H1.length+1) PS)::M),loc'⟩) hl) (lA (v:=.int 1)) (lA) (lA) (qU gj)<|cy gj hb) rfl];show(lZ (.ref (H1++(AO.list (sW (H1.length+1) PS)::M)).length)<|(H1++(AO.list (sW (H1.length+1) PS)::M))++[.list<|r.map .str]).bind _=_;rw[aA (by simp only[Ix,Nat.add_assoc,iH 1]:(some<|V.ref (H1++(AO.list (sW (H1.length+1) PS)::M)).length)=some (.ref<|H1.length+(M.length+1)))|>V.ref.inj,aJ];show(lZ _<|H1++(AO.list _::(M++[_]))).bind _=_;rw[show lZ (.ref<|H1.length+(M.length+1)) (H1++(AO.list (sW (H1.length+1) PS)::(M++[.list<|r.map .str])))=some ([1],r.map .str)from oZ<|oO rfl mP];rw[aJ];exact ec 0
theorem mf{H T0:Hp}{loc:Loc}(hk:H.length=k)(R:TG i rws H)(hl:lz loc "rows" =some (.ref i))(hz:(mJ rws).length<1000)(hb:∀q∈rws,q.2.2.length<1000):
 ∃M PS,oF (lo "rows") x9 (y6 "row") (λj=>Dm (sl (lo "row") (ct<|.int 1) (ct .none)<|ct .none) (y6 "need")<|nB (tp [sb (lo "row")<|ct<|.int 0,lo "need"]) j) ⟨H++T0,loc⟩=
  some (.ok<|.ref<|k+T0.length,⟨H++(T0++(.list (PS.map λq=>.ref<|k+q.1)::M)),loc⟩)/\Eo PS=mJ rws/\∀q∈PS,(T0++(.list (PS.map λq=>.ref<|k+q.1)::M))[q.1]?=some (.tuple [.str q.2.1,.str q.2.2]):=by
 exists k,i,rws,H,T0,loc,_;exists _;obtain⟨M,xs,e,PS,hx,h1,h2⟩:=zJ (turn:=λj=>Dm (sl (lo "row") (ct<|.int 1) (ct .none)<|ct .none) (y6 "need")<|nB (tp [sb (lo "row")<|ct<|.int 0,lo "need"]) j)
  (I:=λdone M xs=>∃PS,xs=sW ((H++T0).length+1) PS/\PS.map (·.2)=mJ done/\Pz M PS) (kY hl) (λL=>oZ<|lC<|lC R.hl) ⟨[],rfl,rfl,bH _⟩
  (λdone w rest M xs loc' hd q9 hc ZR=>by
   exists _;obtain⟨PS,hx,h1,h2⟩:=q9;subst hx;have hw:w∈rws:=by rw[hd];exact aW _<|.head _
   have hlen:PS.length<1000:=by
    have h3:=aV List.length h1;rw[aF]at h3;have h4:(mJ rws).length=(mJ done).length+(mJ (w::rest)).length:=by rw[hd];unfold mJ;simp only[gV,aG]
    exact lk<|aC (aN h4.symm)<|aC (aN h3) hz
   obtain⟨M',SW,l',q8⟩:=Qx (lC<|R.hr w hw) ZR hc h2 (by have:=hb w hw;unfold big;exact lk<|aC this hlen);refine k9 ⟨M',_,l',q8.1,q8.2.1,SW,rfl,?_,q8.2.2.2⟩;simp[q8.2.2.1,h1];unfold mJ;simp only[gV];simp)
 subst hx;refine k9 ?_;refine⟨M,PS.map λq=>(T0.length+1+q.1,q.2),?_,by simp only[bX,<-h1];rfl,λq hq=>?_⟩
 .rw[e,zA hk,aJ,bX];congr 6
  exact aV AO.list<|dN λq U=>aV V.ref<|show k+T0.length+1+q.1=k+(T0.length+1+q.1)by lia
 .obtain⟨p,hp,rfl⟩:=cA.mp hq;exact(aS<|by lia).trans<|a6 (aV _<|show T0.length+1+p.1-T0.length=p.1+1 by exact cM (lk<|aN<|aY ((by simp+arith only):List.length T0<=List.length T0+1+p.fst))<|lk<|aN (aY ((by simp+arith only):List.length T0<=List.length T0+1+p.fst)).symm)<|h2 p hp
def pI(rws:List uW):List Str:=rws.foldl (λns q=>nN (q.2.1::q.2.2) ns) []
theorem tM{w:uW}:pI (d++[w])=nN (w.2.1::w.2.2) (pI d):=by unfold pI;refine a6 gD ?_;rfl
theorem tL:∀{d:List uW},x∈pI d<->∃q∈d,x∈q.2.1::q.2.2:=λ{d}=>by
 induction d using u8 with
 |h0=>exact⟨nofun,λq9=>by obtain⟨_,h,_⟩:=q9;simp at h⟩
 |h1 d w ih=>
  rw[tM,r9,ih];constructor
  .rintro(h|⟨q,hq,h⟩)
   .exact⟨w,aW _<|.head _,h⟩
   .exact⟨q,b6 _ hq,h⟩
  .rintro⟨q,hq,h⟩
   rcases aO.mp hq with hq|hq
   .exact .inr ⟨q,hq,h⟩
   .rw[aE.mp hq]at h;exact .inl h
theorem Iq:∀{l ns:List Str},ns.Nodup->(nN l ns).Nodup:=by
 intro zr;induction zr with
 |nil=> intro _ h;exact h
 |cons x l mB=>
  intro ns h;exact mB (by
  show(if x∈ns then ns else ns++[x]).Nodup;by_cases hx:x∈ns
  .rw[aH hx];exact h
  .rw[aL hx];exact cH.mpr ⟨h,iF _ _,λa ha c hc e=>hx (by simp[<-aE.mp hc,<-e];exact ha)⟩)
theorem Dy:(pI d).Nodup:=by
 induction d using u8 with
 |h0=>exact .nil
 |h1 d w ih=>rw[tM];exact Iq ih
theorem wC:e∈mJ rws->e.1∈pI rws/\e.2∈pI rws:=λh=>by obtain⟨q,q8⟩:=iY.mp h;obtain⟨z,hz,rfl⟩:=cA.mp q8.2;exact⟨tL.mpr ⟨q,q8.1,.head _⟩,tL.mpr ⟨q,q8.1,.tail _ hz⟩⟩
def uQ(rws:List uW):Nat:=(rws.map λq=>q.2.2.length+1).sum
theorem tH:uQ (d++e)=uQ d+uQ e:=by unfold uQ;simp only[bE,List.sum_append]
theorem yX:(pI d).length<=uQ d:=by
 induction d using u8 with
 |h0=>exact aI _
 |h1 d w ih=> have:=xJ (l:=w.2.1::w.2.2) (ns:=pI d);simp only[tM,tH];show _<=_+(w.2.2.length+1+0);simp only[bA]at this;exact lk<|aC this ih
theorem z9:(mJ d).length<=uQ d:=by
 induction d using u8 with
 |h0=>exact aI _
 |h1 d w ih=> simp[(by unfold mJ;rw[gV];simp:(mJ<|d++[w]).length=(mJ d).length+w.2.2.length),tH];show _<=_+(w.2.2.length+1+0);exact lk ih
theorem yj:lB (lF fu<|n+1) fu 927 [u] [] H=mL (Sv fu n ⟨H,[("rows",u)]⟩):=
 w8 HY (by rfl')
theorem MR{n k i:Nat}{rws:List uW}{H:Hp}(hk:H.length=k)(R:TG i rws H)(hs:∀q∈rws,∀x∈q.2.1::q.2.2,PyData.strOk x=true)(hz:uQ rws<64)(Au:64<fu):
 ∃(T:Hp)(t rI:Nat)(RS:List<|Nat×List Str)(O':List Str),lB (lF fu<|n+1) fu 927 [.ref i] [] H=some (.ok<|.ref<|k+t,H++T)/\T[t]?=some (.tuple [.ref<|k+rI,.bool<|decide<|O'.length<(pI rws).length])/\sY (mJ rws) (pI rws) [] (RS.map (·.2)) O'/\
  T[rI]?=some (.list<|RS.map λq=>.ref<|k+q.1)/\∀q∈RS,T[q.1]?=some (.list<|q.2.map .str):=by
 exists fu,n,k,i,rws,H,_;exists _;exists g9,_;have kb:=tD;have SX:∀x∈pI rws,PyData.strOk x=true:=λx hx=>by exists q,(q_:tL.mp hx);obtain⟨hq,h⟩:=q_;exact hs q hq x h
 have h0:pH (ls []) (qG "names") ⟨H,[("rows",.ref i)]⟩=some (.ok .next,⟨H++[.list []],[("rows",.ref i),("names",.ref<|k+0)]⟩):=by exact hk▸(mC<|rU zX<|by decide)
 obtain⟨k6,h1,qT,rfl,sD⟩:=z3 (g:=λq:uW=>V.ref q.1) (s:=P9 fu n) (a:=lo "rows") (x:= "row") (st:=⟨H++[.list []],[("rows",.ref i),("names",.ref<|k+0)]⟩) (r:=rws) (k:=[1])
  (I:=λdone st=>∃loc',st=⟨H++[.list<|(pI done).map .str],loc'⟩/\lz loc' "rows" =some (.ref i)/\lz loc' "names" =some (.ref<|k+0)) (kY rfl) ⟨_,rfl,rfl,rfl⟩
  (λd st q9=>by exists d,st,_;exists uZ,(q_:q9);obtain⟨h,Os⟩:=q_;subst h;exact oZ<|lC R.hl)
  (λdone w rest st hd q9=>by
   exists done,w,rest,st,_;exists loc',(q_:q9);obtain⟨h,h1,h2⟩:=q_;subst h;have hw:w∈rws:=by rw[hd];exact aW _<|.head _
   have Ko:uQ rws=uQ done+(w.2.2.length+1+uQ rest):=by simp only[hd,tH];rfl
   have hn:=yX (d:=done);obtain⟨rC,nO⟩:=Xy (fu:=fu) (n:=n) (ns:=pI done) hk (R.hr w hw) (hs w hw) (λx hx=>SX x (by exists q,(lW:tL.mp hx);exact tL.mpr ⟨q,by rw[hd];exact b6 _ lW.1,lW.2⟩)) (by simp only[bA];exact lk<|aC hn<|aC (aN Ko.symm)<|aC kb hz) ((lL rfl).trans h1) ((lL rfl).trans h2) lQ
   exact⟨_,_,nO.1,.inl rfl,rC,by rw[tM],nO.2.1,nO.2.2⟩)
 exists qT,_;have UF:=z9 (d:=rws);obtain⟨M,PS,h2,e1,e2⟩:=mf (T0:=[.list<|(pI rws).map .str]) hk R sD.1 (lk<|aC UF hz) (λq hq=>by exists q,_;exists a,b,(q_:List.append_of_mem hq);obtain rfl:=q_;rw[tH]at hz;have:uQ (q::b)=q.2.2.length+1+uQ b:=rfl;exact lk<|aC (aN this.symm) hz)
 exists M,PS,_;have V1:([AO.list<|(pI rws).map .str]++(.list (PS.map λq=>.ref<|k+q.1)::M))[0]?=some (.list<|(pI rws).map .str):=rfl;have V2:([AO.list<|(pI rws).map .str]++(.list (PS.map λq=>.ref<|k+q.1)::M))[1]?=some (.list<|PS.map λq=>.ref<|k+q.1):=rfl;have On:2<=([AO.list<|(pI rws).map .str]++(.list (PS.map λq=>.ref<|k+q.1)::M)).length:=by show 2<=(_::_::M).length;simp only[bA];exact cR 2 M.length
 generalize[AO.list<|(pI rws).map .str]++(.list (PS.map λq=>.ref<|k+q.1)::M)=T1 at*;have h4:pH (ls []) (qG "order") ⟨H++T1,put "edges" (.ref<|k+1) qT⟩=_:=mC<|rU zX (by decide);simp only[zA hk,aJ]at h4;have h5:pH (ls []) (qG "rounds") ⟨H++(T1++[.list []]),put "order" (.ref<|k+T1.length)<|put "edges" (.ref<|k+1) qT⟩=_:=mC<|rU zX (by decide);simp only[zA hk,aJ]at h5;rw[aG]at h5;have L:Lv k 0 1 T1.length (T1.length+1)<|put "rounds" (.ref<|k+(T1.length+1))<|put "order" (.ref<|k+T1.length)<|put "edges" (.ref<|k+1) qT:=
  ⟨(lL rfl).trans<|(lL rfl).trans<|(lL rfl).trans sD.2,(lL rfl).trans<|(lL rfl).trans<|lQ,(lL rfl).trans lQ,lQ⟩
 have V0:Rv k 0 1 T1.length (T1.length+1) (pI rws) [] PS []<|T1++[.list [],.list []]:=
  ⟨lC V1,lC V2,λq hq=>lC<|e2 q hq,oO rfl (j:=0) rfl,oO rfl rfl,bH _,⟨cX<|lk On,⟨cX<|lk On,⟨bI<|by simp+arith only,⟨cX<|by simp+arith only,cX<|lk On⟩⟩⟩⟩⟩
 have hlen:PS.length<1000:=by have:=aV List.length e1;rw[aF]at this;exact lk<|aC (aN this)<|aC UF hz
 have hse:∀q∈PS,PyData.strOk q.2.1=true/\PyData.strOk q.2.2=true:=λq hq=>by
  have:q.2∈mJ rws:=by exact e1▸(fL hq)
  have:=wC this;exact⟨SX _ this.1,SX _ this.2⟩
 have CY:=yX (d:=rws);obtain⟨RS,O',T',t,loc',h6,h7,h8,q8⟩:=K4 hk (bW ‹_› ‹_›) Dy (m:=fu) (lk<|aC CY<|aC Au hz) V0 L ⟨hlen,SX,bH _,hse⟩ .nil (bH _)<|aI _;rw[e1]at h8;refine k9 ⟨T',t,T1.length+1,RS,O',?_,h7,h8,q8.1,q8.2⟩;have e:Sv fu n ⟨H,[("rows",.ref i)]⟩=some (.ok<|.ret<|.ref<|k+t,⟨H++T',loc'⟩):=
  lK h0 (lK h1<|lK (mC h2)<|lK h4<|lK h5 h6)
 simp[yj,e];rfl
theorem qc(h:t st=some (.ok false,k6)):qP t b o (f+1) st=o k6:=by show lG.then (t st) _=_;rw[h];rfl
section
variable(fu n:Nat)(x:Str)(p:Int)(s:V)(R:Hp)
def g7(i:Nat)(st:St):lG Fl:=mW (lF fu<|n+4) fu 40 false (mA 827) ((lP 827).drop i) st
def gk7(i:Nat):Fl->St->lG Fl:=kl<|w3 (Bb (lF fu<|n+4) fu (mW (lF fu<|n+4) fu 39) false<|mA 827)<|(lP 827).drop i
def NP:Loc:=[("self",.ref 1)]
theorem ab0(st)(hs:st=⟨lM x p s (.str "") R,NP⟩):g7 fu n 0 st=lG.then (lG.then (mV st<|(mL<|t8 fu n 0 st).or none) λv st=>(mX (mA 827) "raw" v st).then Bf) (gk7 fu n 2):=by subst hs;rfl'
def ey(v:V):Loc:=[("self",.ref 1),("raw",v)]
def g7w(st:St):lG Fl:=qP (rT (lF fu (n+4) false) (mA 827)<|whT<|pB (lP 827) 3) (mW (lF fu<|n+4) fu 39 false (mA 827)<|whB<|pB (lP 827) 3) (mW (lF fu<|n+4) fu 39 false (mA 827) []) fu st
theorem ab8(v):g7 fu n 2 ⟨lM x p s (.str "") R,ey v⟩=(g7w fu n ⟨lM x p s (.str "") R,ey v⟩).then (gk7 fu n 4):=by rfl'
theorem acb(st)(v)(hs:st=⟨lM x p s (.str "") R,ey v⟩):rT (lF fu (n+4) false) (mA 827) (whT<|pB (lP 827) 3) st=(pE st<|(y4 .Eq v .none st.H).or none).then λc st=>pE st<|(lF fu (n+4) false).Hm c st.H:=by subst hs;rfl'
theorem abU:g7 (fu+1) n 2 ⟨lM x p s (.str "") R,ey .none⟩=some (.ok<|.ret .none,⟨lM x p s (.str "") R,ey .none⟩):=by rfl'
theorem abB(v):g7 fu n 4 ⟨lM x p s (.str "") R,ey v⟩=some (.ok<|.ret v,⟨lM x p s (.str "") R,ey v⟩):=by rfl'
end
theorem Uq(h:∀d∈t,d<128)(H):y4 .Eq (.str<|lJ t) .none H=some (.bool false):=by show((if(PyData.canLay0 (.str<|lJ t)&&PyData.canLay0 .none)=true then some (PyData.eqv (.str<|lJ t) .none)else none).bind _)=_;simp only[PyData.canLay0,qZ h];rfl
def kt(e:Ow):Prop:=∀t,e.tok=some t->∀d∈t,d<128
theorem QS{n:Nat}{x:Str}{R:Hp}{p:Int}{s:V}{z:Option Ow}(hf:0<fu)(hz:∀e,z=some e->kt e)(T:Xb x R (t8 fu n 0 ⟨lM x p s (.str "") R,NP⟩) z):Xb x R (g7 fu n 0 ⟨lM x p s (.str "") R,NP⟩) z:=by
 exists fu,n,x,R,p,s,z,_;obtain⟨f,rfl⟩:∃g,fu=g+1:=⟨fu-1,(eZ hf).mp rfl⟩;exists f,_;have e0:=ab0 (f+1) n x p s R _ rfl;induction T with
 |bad h=>exact .bad<|e0.trans (by rw[h];rfl)
 |@good e lc h=>
  have hk:=hz e rfl;refine .good (lc:=ey<|Ms e.tok)<|(e0.trans (by rw[h];rfl'):g7 (f+1) n 0 ⟨lM x p s (.str "") R,NP⟩=g7 (f+1) n 2 ⟨lM x e.k e.sv (.str "") R,ey<|Ms e.tok⟩).trans ?_;rcases ht:e.tok with _|t
  .exact abU f n x e.k e.sv R
  .rw[ab8];have e2:rT (lF (f+1) (n+4) false) (mA 827) (whT<|pB (lP 827) 3) ⟨lM x e.k e.sv (.str "") R,ey<|Ms<|some t⟩=some (.ok false,⟨lM x e.k e.sv (.str "") R,ey<|Ms<|some t⟩):=by refine a6 (acb (f+1) n x e.k e.sv R _ _ rfl) ?_;rw[show y4 .Eq (Ms<|some t) .none _=_ from Uq (hk t ht) _];rfl'
   simp[show g7w (f+1) n _=_ from qc e2];exact abB (f+1) n x e.k e.sv R _
section
variable(fu n:Nat)(x:Str)(p:Int)(s:V)(R:Hp)
def h3(i:Nat)(st:St):lG Fl:=mW (lF fu<|n+5) fu 40 false (mA 863) ((lP 863).drop i) st
def hk3(i:Nat):Fl->St->lG Fl:=kl<|w3 (Bb (lF fu<|n+5) fu (mW (lF fu<|n+5) fu 39) false<|mA 863)<|(lP 863).drop i
theorem acr(st)(hs:st=⟨lM x p s (.str "") R,NP⟩):h3 fu n 0 st=lG.then (lG.then (mV st<|(mL<|g7 fu n 0 st).or none) λv st=>(mX (mA 863) "token" v st).then Bf) (hk3 fu n 1):=by subst hs;rfl'
def TH(v:V):Loc:=[("self",.ref 1),("token",v)]
theorem af2:h3 fu n 1 ⟨lM x p s (.str "") R,TH .none⟩=some (.exc<|.ty "StopIteration",⟨lM x p s (.str "") R,TH .none⟩):=by rfl'
theorem abT(st)(v)(hs:st=⟨lM x p s (.str "") R,TH v⟩):h3 fu n 1 st=lG.then (lG.then (lG.then (pE st<|(y4 .Eq v .none st.H).or none) λc st=>pE st<|(lF fu (n+5) false).Hm c st.H) λc st=>bif c then mW (lF fu<|n+5) fu 39 false (mA 863) (fk<|pB (lP 863) 1) st else mW (lF fu<|n+5) fu 39 false (mA 863) (OH<|pB (lP 863) 1) st) (hk3 fu n 2):=by subst hs;rfl'
theorem abK(h:∀d∈t,d<128):h3 fu n 1 ⟨lM x p s (.str "") R,TH<|.str<|lJ t⟩=some (.ok<|.ret<|.str<|lJ t,⟨lM x p s (.str "") R,TH<|.str<|lJ t⟩):=by rw[abT fu n x p s R _ _ rfl,Uq h];rfl'
end
def oL:LM->List Nat->List Nat->Option (List<|List Nat)
 |.bl,_,[]=>some []
 |.wd,tk,[]=>some [tk]
 |.qu _,_,[]=>none
 |.bl,_,c::r=>if c=32 then oL .bl [] r else if uc c=true then oL (.qu c) [] r else oL .wd [c] r
 |.wd,tk,c::r=>if c=32 then(oL .bl [] r).map (tk:: ·)else if uc c=true then oL (.qu c) tk r else oL .wd (tk++[c]) r
 |.qu q,tk,c::r=>if c=q then oL .wd tk r else oL (.qu q) (tk++[c]) r
theorem pC:oL .bl tn []=some []:=rfl
theorem pD:oL .wd tn []=some [tn]:=rfl
theorem pR:oL (.qu q) tn []=none:=rfl
theorem pO:oL .bl tn (c::r)=if c=32 then oL .bl [] r else if uc c=true then oL (.qu c) [] r else oL .wd [c] r:=rfl
theorem uA:oL .wd tn (c::r)=if c=32 then(oL .bl [] r).map (tn:: ·)else if uc c=true then oL (.qu c) tn r else oL .wd (tn++[c]) r:=rfl
theorem Js:oL (.qu q) tn (c::r)=if c=q then oL .wd tn r else oL (.qu q) (tn++[c]) r:=rfl
section
variable(fu n:Nat)(x:Str)(p:Int)(s:V)(R:Hp)
theorem abI:lB (lF fu<|n+5) fu 863 [.ref 1] [] (lM x p s (.str "") R)=mL (h3 fu n 0 ⟨lM x p s (.str "") R,NP⟩):=by rfl'
end
inductive Th(x:Str)(R:Hp)(o:mM):Option Ow->Prop
 |bad {H:Hp} (h:o=some (.exc<|.ty "ValueError",H)):Th x R o none
 |stop {e:Ow} (ht:e.tok=none) (h:o=some (.exc<|.ty "StopIteration",lM x e.k e.sv (.str "") R)):Th x R o<|some e
 |item {e:Ow} {t:List Nat} (ht:e.tok=some t) (h:o=some (.ok<|.str<|lJ t,lM x e.k e.sv (.str "") R)):Th x R o<|some e
theorem Va{s:V}(hf:0<fu)(hz:∀e,z=some e->kt e)(T:Xb x R (t8 fu n 0 ⟨lM x p s (.str "") R,NP⟩) z):Th x R (lB (lF fu<|n+5) fu 863 [.ref 1] []<|lM x p s (.str "") R) z:=by
 have e0:=(abI fu n x p s R).trans<|aV mL<|acr fu n x p s R _ rfl;induction(QS hf hz T)with
 |bad h=>exact .bad<|e0.trans (by rw[h];rfl)
 |@good e lc h=>
  have e1:=e0.trans (show _=mL (h3 fu n 1 ⟨lM x e.k e.sv (.str "") R,TH<|Ms e.tok⟩)by rw[h];rfl');have hk:=hz e rfl;rcases ht:e.tok with _|t
  .exact .stop ht (e1.trans (by rw[ht];rfl))
  .exact .item ht (e1.trans (by simp[ht,show Ms (some t)=.str (lJ t)from rfl,abK fu n x _ _ R<|hk t ht];rfl))
set_option tactic.hygienic true in
theorem wz{l:List Nat}:∀rest m tk qd k,l.drop k=rest->Rh m tk qd->oL m tk rest=match lx m tk qd k rest with
 |none=>none
 |some e=>match e.tok with
  |none=>some []
  |some t=>if e.sv=.none then some [t]else(oL .bl []<|l.drop e.k).map (t:: ·):=by
 revert l;exists l;have tw:∀{tk:List Nat}{qd:Bool}{sv:V}{k:Nat}{nc:List Nat},Rh .wd tk qd->Ow.tok ⟨sv,k,tk,qd,nc⟩=some tk:=by
  intro tk qd sv k nc h;rcases qd with _|_
  .rcases h with h|h
   .rcases tk with _|⟨_,_⟩
    .exact absurd rfl h
    .rfl
   .rcases h with _|_
  .rfl
 intro rest;induction rest with
 |nil=>
  intro m tk qd k hd hI;rcases m with _|_|q
  .obtain⟨rfl,rfl⟩:=hI;rfl
  .show some [tk]=match Ow.tok ⟨.none,k,tk,qd,[]⟩with
    |none=>some []
    |some t=>if V.none=V.none then some [t]else _
   exact(tw hI)▸rfl
  .rfl
 |cons c r ih=>
  intro m tk qd k hd hI;have p0:l.drop (k+1)=r:=by have:=aV List.tail hd;simpa using this
  refine Iv▸?_;rcases m with _|_|q
  .simp[pC,pD,pR,pO,rY];split
   .exact ih _ _ _ _ p0 ⟨rfl,rfl⟩
   .split
    .rename_i hq;refine ih _ _ _ _ p0 ?_;simpa[uc,Rh]using hq
    .exact ih _ _ _ _ p0 (.inl<|eL _ _)
  .simp[pC,pD,pR,pO,uA,rY];split
   .dsimp only;exact(tw hI)▸p0▸rfl
   .split
    .rename_i hq;refine ih _ _ _ _ p0 ?_;simpa[uc,Rh]using hq
    .exact ih _ _ _ _ p0 (.inl<|by simp)
  .simp[pC,pD,pR,pO,uA,Js,rY];split
   .exact ih _ _ _ _ p0 (.inr rfl)
   .exact ih _ _ _ _ p0 hI
theorem UN{l:List Nat}:∀rest m tk qd k e,l.drop k=rest->lx m tk qd k rest=some e->(e.sv=.none/\l.drop e.k=[])\/(e.sv=.str " " /\(l.drop e.k).length<rest.length):=by
 exists l,[];exists rest;induction rest with
 |nil=>intro m tk qd k e hd h;induction m<;>rcases h with _|_<;>exact .inl ⟨rfl,hd⟩
 |cons c r ih=>
  intro m tk qd k e hd h;have p0:l.drop (k+1)=r:=by have:=aV List.tail hd;simpa using this
  rw[Iv]at h;rcases hS:rY m tk qd c with _|z
  .rw[hS]at h;obtain rfl:=aA h;exact .inr ⟨rfl,by simp only[p0];exact Nat.lt_add_one r.length⟩
  .obtain⟨m',Hs,Ov⟩:=z;rw[hS]at h;rcases ih m' Hs Ov (k+1) e p0 h with h|h
   .exact .inl h
   .exact .inr ⟨h.1,by simp only[bA];exact lk h.2⟩
inductive D2(x:Str)(acc:List V)(o:mM):Option (List<|List Nat)->Prop
 |bad {H:Hp} (h:o=some (.exc<|.ty "ValueError",H)):D2 x acc o none
 |good {ws:List (List Nat)} {k:Nat} {s:V} (h:o=some (.ok<|.ref 8,lM x k s (.str "") [.list<|acc++ws.map (V.str∘lJ)])):D2 x acc o<|some ws
theorem XG(S)(m)(x)(p)(s t)(R):o4 S fu 1 8 (m+1) (lM x p s t R)=ik (lB S fu 863 [.ref 1] []<|lM x p s t R) (λv H'=>(Ab 8 v H').bind<|o4 S fu 1 8 m) (λH'=>some (.ok<|.ref 8,H')):=by rfl'
theorem abE{s t v:V}(h:acc.length<big):Ab 8 v (lM x p s t [.list acc])=some (lM x p s t [.list<|acc++[v]]):=aH h
theorem PI{l:List Nat}(hl:∀c∈l,c∈mK)(h:lx .bl [] false k (l.drop k)=some e):kt e:=by
 intro t ht d hd;refine No<|Zs _ _ _ _ _ _ (λd hd=>hl d<|gJ hd) (by decide) h d ?_;unfold Ow.tok at ht;split at ht
 .obtain rfl:=aA ht;exact hd
 .split at ht
  .exact nn ht
  .obtain rfl:=aA ht;exact hd
theorem fx{n:Nat}{l:List Nat}(Au:1000<=fu)(hl:∀c∈l,c∈mK)(hz:l.length<900):∀N k acc m,(l.drop k).length<N->N<m->acc.length+N<2000->
 D2 (lJ l) acc (o4 (lF fu<|n+5) fu 1 8 m<|lM (lJ l) k (.str " ") (.str "") [.list acc]) (oL .bl []<|l.drop k):=by
 exists fu,n,l,[Au,hl,hz];exists N;induction N with
 |zero=>exists k,acc,m;intro h;lia
 |succ N ih=>
  exists N,[ih];exists k,acc,m;intro h1 h2 h3;obtain⟨m,rfl⟩:∃g,m=g+2:=⟨m-2,(cM (lk<|aN (aY<|show 2<=m from(lk h2)).symm)<|lk<|aN<|aY<|show 2<=m from(lk h2))⟩;exists m,_;rw[wz (l.drop k) .bl [] false k rfl ⟨rfl,rfl⟩,XG];have T:=NX fu n [.list acc] hl (lk hz) Au (k:=k);have hsv:=λe h=>UN (l.drop k) .bl [] false k e rfl h;have xX:=λe(h:lx .bl [] false k (l.drop k)=some e)=>PI hl h;generalize lx .bl [] false k (l.drop k)=z at T hsv xX;have X:=Va (by omega) xX T;induction X with
  |bad h=>exact h▸(.bad rfl)
  |@stop e ht h=> rw[h];simp only[ht];exact .good (by rw[List.map_nil,bF];rfl)
  |@item e t ht h=>
   exists e,t,_;rw[h];dsimp only;rw[ht];dsimp only;show D2 _ _ ((Ab 8 (.str<|lJ t) _).bind _) _;rw[abE (by unfold big;exact lk h3)];show D2 _ _ (o4 (lF fu<|n+5) fu 1 8 (m+1) _) _;rcases hsv e rfl with⟨e1,e2⟩|⟨e1,e2⟩
   .rw[aH e1,e1,XG];have X:=Va (z:=some ⟨.none,e.k,[],false,[]⟩) (by omega) (λe h=>by cases h;exists t;intro ht;exact nomatch ht)<|.good<|wt fu n [.list<|acc++[.str<|lJ t]] (by unfold big;exact lk hz) (fG.mp e2) (by omega);cases X with
    |stop ht h=>exact h▸(.good rfl)
    |item ht h=>exact nn ht
   .rw[aL<|e1▸(λh=>by injection h),e1];have I:=ih e.k (acc++[.str<|lJ t]) (m+1) (lk<|aC e2 h1) (iG ‹_›) (by simp only[aG,fB];exact lk h3);generalize oL .bl [] (l.drop e.k)=w at I;induction I with
    |bad h=>exact h▸(.bad rfl)
    |good h=>exact h▸(.good (by rw[cW,aJ];rfl))
def IT:Stmt->List ExceptHandler
 |.Try _ h _ _ _=>h
 |_=>[]
section
variable(fu n:Nat)(x:Str)(H:Hp)
def lp0:Loc:=[("posix",.bool true),("comments",.bool false),("s",.str x)]
def lp1:Loc:=lp0 x++([("lex",.ref 1)]:Loc)
theorem ab3:mW (lF fu<|n+6) fu 40 false (mA 878) (lP 878) ⟨[],lp0 x⟩=lG.then (mV ⟨lM x 0 (.str " ") (.str "") [],lp1 x⟩<|(o4 (lF fu<|n+5) fu 1 8 fu<|lM x 0 (.str " ") (.str "") [.list []]).or none) λv st=>some (.ok<|.ret v,st):=by rfl'
theorem abP:lB (lF fu<|n+6) fu 878 [.str x] [] []=mL (mW (lF fu<|n+6) fu 40 false (mA 878) (lP 878) ⟨[],lp0 x⟩):=by rfl'
def sR(o:mM):mM:=(o.map λp=>(y5 H.length p.1,H++p.2.map (AO.sh H.length))).or none
theorem HV(st)(hs:st=⟨H,[("line",.str x)]⟩):mW (lF fu<|n+7) fu 40 false (mA 922) (lP 922) st=nh (lF fu<|n+7) (mW (lF fu<|n+7) fu 39) (mA 922) (λU=>lG.then (mV st<|sR H<|lB (lF fu<|n+6) fu 878 [.str x] [] []) λv st=>some (.ok<|.ret v,st)) (IT<|pB (lP 922) 0) st:=by subst hs;rfl'
theorem QF(st)(hs:st=⟨H,[("line",.str x)]⟩)(H'):nh (lF fu<|n+7) (mW (lF fu<|n+7) fu 39) (mA 922) (λU=>some (.exc<|.ty "ValueError",⟨H',st.loc⟩)) (IT<|pB (lP 922) 0) st=some (.ok<|.ret .none,⟨H',st.loc⟩):=by subst hs;rfl'
theorem AY(st k6)(hs:st=⟨H,[("line",.str x)]⟩)(v):nh (lF fu<|n+7) (mW (lF fu<|n+7) fu 39) (mA 922) (λU=>some (.ok<|.ret v,k6)) (IT<|pB (lP 922) 0) st=some (.ok<|.ret v,k6):=by subst hs;rfl'
theorem acn:lB (lF fu<|n+7) fu 922 [.str x] [] H=mL (mW (lF fu<|n+7) fu 40 false (mA 922) (lP 922) ⟨H,[("line",.str x)]⟩):=by rfl'
end
inductive Q8(o:mM)(H:Hp):Option (List<|List Nat)->Prop
 |bad {G:Hp} (h:o=some (.ok .none,H++G)):Q8 o H none
 |good {ws:List (List Nat)} {G:Hp} {i:Nat} (h:o=some (.ok<|.ref<|H.length+i,H++G)) (hi:G[i]?=some (.list<|ws.map<|V.str∘lJ)):Q8 o H<|some ws
theorem OZ(ws:List<|List Nat):(ws.map<|V.str∘lJ).map (V.sh k)=ws.map (V.str∘lJ):=by refine a6 bX ?_;rfl
theorem BH{n:Nat}{l:List Nat}{H:Hp}(Au:1000<=fu)(hl:∀c∈l,c∈mK)(hz:l.length<900):Q8 (lB (lF fu<|n+7) fu 922 [.str<|lJ l] [] H) H<|oL .bl [] l:=by
 exists fu,n,l,H,_;have W:=fx (n:=n) Au hl hz (l.length+1) 0 [] fu (by rw[jX];exact Nat.lt_add_one l.length) (lk<|aC hz Au) (by simp[fW];exact lk hz);have e0:=acn fu n (lJ l) H;simp only[HV fu n (lJ l) H _ rfl,abP,ab3]at e0;replace W:=jX▸W;generalize oL .bl [] l=z at W;induction W with
 |bad h=> rw[show o4 (lF fu<|n+5) fu 1 8 fu (lM (lJ l) 0 (.str " ") (.str "") [.list []])=_ from h]at e0;exact .bad<|e0.trans<|aV mL<|QF fu n (lJ l) H _ rfl<|H++_
 |good h=> rw[show o4 (lF fu<|n+5) fu 1 8 fu (lM (lJ l) 0 (.str " ") (.str "") [.list []])=_ from h]at e0;refine .good (e0.trans<|aV mL<|AY fu n (lJ l) H _ ⟨H++_,[("line",.str<|lJ l)]⟩ rfl<|.ref<|H.length+8) ?_;show some (AO.list<|([]++_).map<|V.sh H.length)=_;simp only[List.nil_append,OZ]
theorem Qt{S:Bool->lR}(h:nC f uP kv H=some r):lS S fu f uP kv H=some r:=by show(nC f uP kv H).or _=_;simp only[h];rfl
theorem Ai:∀ps:List<|List Nat,rN (ps.map λp=>V.str<|lJ p)=some (ps.map lJ):=by
 intro zr;induction zr with
 |nil=> exact rfl
 |cons p ps mB=> simp only[cW,rN,mB];rfl
theorem Aq{s:List Nat}{ps:List (List Nat)}(h:(ps.map List.length).sum+ps.length*s.length<big):JoinOk (lJ s) (ps.map lJ)=true:=by unfold JoinOk;rw[StrLaws.joinTotal];unfold Builtin.Str.tooLong;rw[dA,decide_eq_false_iff_not,bX];simp only[show((λx:Str=>x.length)∘lJ)=List.length from(funext λl=>n5 l),aF,n5];have:=n8;grind
theorem Jm{S:Bool->lR}(hi:lE H i=some (ws.map λp=>V.str<|lJ p))(hb:ws.length<big)(hj:(ws.map List.length).sum+ws.length*x.length<big):lS S fu (.bi "str.join") [.str<|lJ x,.ref i] [] H=some (.ok<|.str<|lJ<|jn x ws,H):=Qt (by show(lE H i).bind _=_;rw[hi];show(if _ then _ else none)=_;rw[aH (by rw[aF];exact hb),Ai];show(if _ then _ else none)=_;rw[aH<|Aq hj,z0])
def rtE:Stmt->Expr
 |.Return (some e) _=>e
 |_=>.Name "" ⟨0,0,0,0⟩
section
variable(fu n:Nat)(l:List Nat)(ps:List V)
def Hx(i:Nat)(st:St):lG Fl:=mW (lF fu<|n+1) fu 40 false (mA 910) ((lP 910).drop i) st
def HS(i:Nat):Fl->St->lG Fl:=kl<|w3 (Bb (lF fu<|n+1) fu (mW (lF fu<|n+1) fu 39) false<|mA 910)<|(lP 910).drop i
theorem acj:lB (lF fu<|n+1) fu 910 [.str<|lJ l] [] []=mL (Hx fu n 0 ⟨[],[("line",.str<|lJ l)]⟩):=by rfl'
theorem LB(st)(hs:st=⟨[],[("line",.str<|lJ l)]⟩):Hx fu n 0 st=lG.then (lG.then (mV st<|lS (lF fu n) fu (.bi "str.split") [.str<|lJ l,.str<|lJ [34]] [] []) λv st=>(mX (mA 910) "parts" v st).then Bf) (HS fu n 1):=by subst hs;rfl'
def tB:Loc:=[("line",.str<|lJ l),("parts",.ref 0)]
theorem abS{S:Bool->lR}(h:ps.length<big):lS S fu (.bi "len") [.ref 0] [] [.list ps]=some (.ok<|.int ps.length,[.list ps]):=Qt (by show(if ps.length<big then some (oV.ok<|V.int ps.length,[AO.list ps])else none).or _=_;rw[aH h];rfl)
theorem QM(st)(hs:st=⟨[.list ps],tB l⟩):rT (lF fu (n+1) false) (mA 910) (ifT<|pB (lP 910) 1) st=lG.then (lG.then (lG.then (mV st<|lS (lF fu n) fu (.bi "len") [.ref 0] [] st.H) λa st=>rD st<|Qs .Mod a (.int 2) st.H) λa st=>pE st<|(lF fu (n+1) false).cmp .Eq a (.int 0) st.H) (λc st=>pE st<|(lF fu (n+1) false).Hm c st.H):=by subst hs;rfl'
theorem PH(h:ps.length<big):rT (lF fu (n+1) false) (mA 910) (ifT<|pB (lP 910) 1) ⟨[.list ps],tB l⟩=some (.ok<|(ps.length:Int).fmod 2==0,⟨[.list ps],tB l⟩):=by rw[QM fu n l ps _ rfl,abS fu ps h];rfl'
theorem KQ(st)(hs:st=⟨[.list ps],tB l⟩):Hx fu n 1 st=lG.then (lG.then (rT (lF fu (n+1) false) (mA 910) (ifT<|pB (lP 910) 1) st) λc st=>bif c then mW (lF fu<|n+1) fu 39 false (mA 910) (fk<|pB (lP 910) 1) st else mW (lF fu<|n+1) fu 39 false (mA 910) (OH<|pB (lP 910) 1) st) (HS fu n 2):=by subst hs;rfl'
def acp(S:lR)(f:V)(b:V)(o:lG V):lG Fl:=lG.then (lG.then (lG.then (o.then λv st=>some (.ok [v],st)) λuP st=>some (.ok (uP,([]:List<|Str×V)),st)) λa st=>if S.kp f st.H then mV st (S.call f ([b]++a.1) a.2 st.H)else none) λv st=>some (.ok<|.ret v,st)
theorem LC(st)(hs:st=⟨[.list ps],tB l⟩):Hx fu n 2 st=acp (lF fu (n+1) false) (.bi "str.join") (.str "") (rD st<|n7 (.ref 0) .none .none (.int 2) st.H):=by subst hs;rfl'
theorem wj(h:ps.length<big):Hx fu n 2 ⟨[.list ps],tB l⟩=(mV ⟨[.list ps,.list<|l5 ps],tB l⟩<|lS (lF fu n) fu (.bi "str.join") [.str "",.ref 1] [] [.list ps,.list<|l5 ps]).then λv st=>some (.ok<|.ret v,st):=by
 have e:n7 (.ref 0) .none .none (.int 2) [.list ps]=some (.ref 1,[.list ps,.list<|l5 ps]):=by rw[D8 rfl h rfl rfl rfl<|by decide,zq];rfl
 simp[LC fu n l ps _ rfl,e];rfl'
def di(S:lR)(f:V)(b:V)(o:lG V):lG V:=lG.then (lG.then (o.then λv st=>some (.ok [v],st)) λuP st=>some (.ok (uP,([]:List<|Str×V)),st)) λa st=>if S.kp f st.H then mV st (S.call f ([b]++a.1) a.2 st.H)else none
def ab9:Expr->Expr
 |.BinOp _ _ r _=>r
 |e=>e
def OE:Expr:=ab9<|rtE<|pB (fk<|pB (lP 910) 1) 0
theorem QK(st)(hs:st=⟨[.list ps],tB l⟩):mW (lF fu<|n+1) fu 39 false (mA 910) (fk<|pB (lP 910) 1) st=lG.then (lG.then (lG.then (di (lF fu (n+1) false) (.bi "str.join") (.str "")<|rD st<|n7 (.ref 0) .none (.int (-1)) (.int 2) st.H) λa st=>rD st<|(lF fu (n+1) false).bin .Add a (.str "\"") st.H) λa st=>((EV (lF fu (n+1) false) (mA 910) 23).1 OE st).then λb st=>rD st<|(lF fu (n+1) false).bin .Add a b st.H) λv st=>some (.ok<|.ret v,st):=by subst hs;rfl'
theorem aj(h:ps.length<big):n7 (.ref 0) .none (.int (-1)) (.int 2) [.list ps]=some (.ref 1,[.list ps,.list<|l5 ps.dropLast]):=by rw[D8 rfl h rfl rfl rfl<|by decide,gy];rfl
theorem CD(h:ps.length<big):di (lF fu (n+1) false) (.bi "str.join") (.str "") (rD ⟨[.list ps],tB l⟩<|n7 (.ref 0) .none (.int (-1)) (.int 2) [.list ps])=mV ⟨[.list ps,.list<|l5 ps.dropLast],tB l⟩ (lS (lF fu n) fu (.bi "str.join") [.str "",.ref 1] [] [.list ps,.list<|l5 ps.dropLast]):=by rw[aj ps h];rfl'
theorem Mi(h:x.length+y.length<big):Qs .Add (.str<|lJ x) (.str<|lJ y) H=some (.str<|lJ<|x++y,H):=by
 have e:ii (lJ x) (lJ y) H=some (.str<|lJ<|x++y,H):=by
  refine(aH h).trans ?_;rcases x with _|⟨a,x⟩
  .rfl
  .rcases y with _|⟨b,y⟩
   .rw[bF];rfl
   .rw[<-yN];rfl
 show none.or ((ii (lJ x) (lJ y) H).or _)=_;rw[e];rfl
theorem QO(H)(st)(hs:st=⟨.list ps::H,tB l⟩):(EV (lF fu (n+1) false) (mA 910) 23).1 OE st=mV st ((lF fu (n+1) false).item (.ref 0) (.int (-1)) st.H):=by subst hs;rfl'
theorem Xi{w:List Nat}(h:(ws++[w]).length<big):uM (.ref 0) (.int (-1)) (.list ((ws++[w]).map λp=>V.str<|lJ p)::H)=some (.ok<|.str<|lJ w,.list ((ws++[w]).map λp=>V.str<|lJ p)::H):=It rfl (by rw[aF];exact h)<|by simp
def uP(ws:List<|List Nat):List V:=ws.map λp=>V.str<|lJ p
theorem Ro{w:List Nat}(hb:(ws++[w]).length<big)(hj:((l5 ws).map List.length).sum+(l5 ws).length*0<big)(he:(l5 ws).length<big)(h1:(jn []<|l5 ws).length+1<big)(h2:(jn [] (l5 ws)++[34]).length+w.length<big):mW (lF fu<|n+1) fu 39 false (mA 910) (fk<|pB (lP 910) 1) ⟨[.list<|uP<|ws++[w]],tB l⟩=some (.ok<|.ret<|.str<|lJ<|jn [] (l5 ws)++[34]++w,⟨[.list<|uP<|ws++[w],.list<|uP<|l5 ws],tB l⟩):=by
 exists fu,n,l,ws,w,_;have ec:di (lF fu (n+1) false) (.bi "str.join") (.str "") (rD ⟨[.list<|uP<|ws++[w]],tB l⟩<|n7 (.ref 0) .none (.int (-1)) (.int 2) [.list<|uP<|ws++[w]])=some (.ok<|.str<|lJ<|jn []<|l5 ws,⟨[.list<|uP<|ws++[w],.list<|uP<|l5 ws],tB l⟩):=by rw[CD fu n l _ (by unfold uP;rw[aF];exact hb),(by unfold uP;simp only[bE,List.map_singleton,List.dropLast_concat,Gx]:l5 (uP<|ws++[w]).dropLast=uP (l5 ws))];exact aV (mV _)<|Jm (x:=[]) rfl he hj
 have e1:∀H,(lF fu (n+1) false).bin .Add (.str<|lJ<|jn []<|l5 ws) (.str "\"") H=some (.str<|lJ<|jn [] (l5 ws)++[34],H):=λH=>Mi h1;have e2:∀H,(lF fu (n+1) false).bin .Add (.str<|lJ<|jn [] (l5 ws)++[34]) (.str<|lJ w) H=some (.str<|lJ<|jn [] (l5 ws)++[34]++w,H):=λH=>Mi h2;have e4:(lF fu (n+1) false).item (.ref 0) (.int (-1)) [.list<|uP<|ws++[w],.list<|uP<|l5 ws]=_:=Xi hb;refine a6 (QK fu n l _ _ rfl) ?_;rw[ec];show lG.then (lG.then (rD _ _) _) _=_;rw[e1];show lG.then (lG.then ((EV (lF fu (n+1) false) (mA 910) 23).1 OE _) _) _=_;rw[QO fu n l (uP<|ws++[w]) [.list<|uP<|l5 ws] _ rfl];rw[e4];show lG.then (rD _ _) _=_;rw[e2];rfl
theorem Xd(hb:ws.length<big)(hj:((l5 ws).map List.length).sum+(l5 ws).length*0<big)(he:(l5 ws).length<big):Hx fu n 2 ⟨[.list<|uP ws],tB l⟩=some (.ok<|.ret<|.str<|lJ<|jn []<|l5 ws,⟨[.list<|uP ws,.list<|uP<|l5 ws],tB l⟩):=by rw[wj fu n l _ (by unfold uP;rw[aF];exact hb),(by unfold uP;rw[Gx]:l5 (uP ws)=uP (l5 ws))];exact aV (λo=>lG.then (mV _ o) _)<|Jm (x:=[]) rfl he hj
theorem yy{S:Bool->lR}(h1:l.length+2<big)(c):lS S fu (.bi "str.split") [.str<|lJ l,.str<|lJ [c]] [] []=some (.ok<|.ref 0,[.list<|uP<|oJ c l]):=Qt (by have hl:=Dz l c;show(if _ then _ else none)=_;rw[aH ⟨rfl,by rw[n5];exact bP h1,by exact bW ‹_› ‹_›⟩,Pp,bX];rfl)
theorem yc(h1:l.length+2<big):Hx fu n 0 ⟨[],[("line",.str<|lJ l)]⟩=Hx fu n 1 ⟨[.list<|uP<|oJ 34 l],tB l⟩:=by rw[LB fu n l _ rfl,yy fu l h1];rfl'
theorem JT(h:(uP<|oJ 34 l).length<big):Hx fu n 1 ⟨[.list<|uP<|oJ 34 l],tB l⟩=lG.then (bif(((uP<|oJ 34 l).length:Int).fmod 2==0)then mW (lF fu<|n+1) fu 39 false (mA 910) (fk<|pB (lP 910) 1) ⟨[.list<|uP<|oJ 34 l],tB l⟩else some (.ok .next,⟨[.list<|uP<|oJ 34 l],tB l⟩)) (HS fu n 2):=by simp[KQ fu n l _ _ rfl,PH fu n l _ h];rfl
end
def mG(l:List Nat):List Nat:=if(oJ 34 l).length%2=0 then jn [] (l5 (oJ 34 l).dropLast)++[34]++(oJ 34 l).getLast (xO 34 l)else jn []<|l5<|oJ 34 l
set_option tactic.hygienic true in
theorem Ka(c)(l):((oJ c l).map List.length).sum<=l.length:=by
 induction l with
 |nil=>exact aI _
 |cons d r ih=>
  dsimp only[Da];split
  .simp;exact lk ih
  .split
   .rename_i h;rw[h]at ih;simp at ih⊢;exact lk ih
   .simp
theorem Gk(ps:List<|List Nat):((l5 ps).map List.length).sum<=(ps.map List.length).sum/\(l5 ps).length<=ps.length:=by
 induction ps using Ij with
 |h0=>exact⟨aI _,aI _⟩
 |h1 a=>exact⟨aI _,aI _⟩
 |h2 a b r ih=>exact⟨fJ (bC ih.1<|cR _ _) _,gQ<|bC ih.2<|dM _⟩
theorem T6{ps:List (List Nat)}(h:p∈ps):p.length<=(ps.map List.length).sum:=by
 induction h with
 |head=>exact aT _ _
 |tail _ _ ih=>exact bC ih<|cR _ _
theorem Po(ps):(jn [] ps).length=(ps.map List.length).sum:=by
 induction ps using ng with
 |h0=>rfl
 |h1 p=>rfl
 |h2 p q r ih=>simp only[NT,bF,aG,ih,cW,kW]
theorem tq{fu n:Nat}{l:List Nat}(hl:l.length<1000):∃G,lB (lF fu<|n+1) fu 910 [.str<|lJ l] [] []=some (.ok<|.str<|lJ<|mG l,G):=by
 exists fu,n,l,_;have adQ:5000<big:=(by decide);have a1:=Ig 34 l;have a2:=Ka 34 l;have hv:(uP<|oJ 34 l).length=(oJ 34 l).length:=by unfold uP;rw[aF]
 simp[acj,yc fu n l (lk<|aC adQ hl),JT fu n l (by rw[hv];lia),hv];unfold mG;by_cases h:(oJ 34 l).length%2=0
 .rw[aH h,show(((oJ 34 l).length:Int).fmod 2==0)=true by rw[a5,eG _<|by omega];exact Int.natAbs_eq_zero.mp h];have e:=List.dropLast_concat_getLast<|xO 34 l;generalize(oJ 34 l).dropLast=ws at e;generalize(oJ 34 l).getLast (xO 34 l)=w at e;have b2:((oJ 34 l).map List.length).sum=(ws.map List.length).sum+w.length:=by simp only[<-e,bE,List.sum_append];rfl
  have b3:=Gk ws;have b4:=Po<|l5 ws;simp only[<-e,Ro fu n l (by rw[e];grind) (by omega) (by grind) (by omega) (by simp only[aG,fB];omega)];exact⟨_,rfl⟩
 .rw[aL h,show(((oJ 34 l).length:Int).fmod 2==0)=false by rw[a7,eG _<|by omega];exact Int.natAbs_ne_zero.mp h];have b3:=Gk<|oJ 34 l;refine⟨_,(aV mL rfl).trans<|(aV mL<|Xd fu n l (by grind) (by grind)<|by grind).trans rfl⟩
def Dt(c:Nat):Bool:=c==97||c==98
def Ax(l:List Nat):Bool:=l.all Dt
def rS(w:List Nat):List Nat:=if w.isEmpty=false/\Ax w=true then w else[39]++s9 39 [39,34,39,34,39] w++[39]
def mT(ws:List<|List Nat):List Nat:=jn [32]<|ws.map rS
theorem IU:Str.ofString "'" =lJ [39]:=by decide+kernel
theorem LQ:Str.ofString "'\"'\"'" =lJ [39,34,39,34,39]:=by decide+kernel
theorem HW:Str.ofString "ab" =lJ [97,98]:=by decide+kernel
theorem Sz:(lJ l==lJ m)=(l==m):=by rw[eO,a5,a5,Jk]
def rq(c:Nat):List Nat:=if c=39 then[39,34,39,34,39]else[c]
theorem y3(w):s9 39 [39,34,39,34,39] w=w.flatMap rq:=rfl
theorem QB(c):(rq c).length<=5:=by unfold rq;split<;>simp
theorem iy:∀w:List Nat,((w.map rq).map List.length).sum<=5*w.length/\(w.flatMap rq).length<=5*w.length:=by
 intro zr;induction zr with
 |nil=> simp
 |cons c w mB=> have h2:=QB c;simp only[cW,kW,List.flatMap_cons,aG,bA];exact⟨lk<|aC h2 mB.1,lk<|aC h2 mB.2⟩
theorem Do(ps):jn [] ps=ps.flatten:=by
 induction ps using ng with
 |h0=>rfl
 |h1 p=>exact(bF p).symm
 |h2 p q r ih=>rw[NT,bF,ih];rfl
theorem W9(w):((w.filter λc=>!Dt c).map λc=>[c]).isEmpty=Ax w:=by
 unfold Ax;induction w with
 |nil=>rfl
 |cons c w ih=> rcases h:Dt c with _|_<;>simp[h]at ih⊢<;>exact ih
theorem yZ(w):(rS w).length<=5*w.length+2:=by
 unfold rS;split
 .exact(by simp+arith only)
 .have:=(iy w).2;rw[<-y3]at this;simp[aG];exact String.Pos.Raw.mk_le_mk.mp this
def wL(f:List Nat->List Nat):List (List Nat)->List (List Nat)
 |[]=>[]
 |[a]=>[f a]
 |a::b::r=>f a::b::wL f r
theorem aek:wL f []=[]:=rfl
theorem VS:wL f [a]=[f a]:=rfl
theorem WD:wL f (a::b::r)=f a::b::wL f r:=rfl
def pT(l:List Nat):List Nat:=s9 32 [10] l
def vA(l:List Nat):Option<|List<|List Nat:=if(oJ 39 l).length%2=0 then none else if(l5<|oJ 39 l).any (λp=>decide<|34∈p)=true then none else
 some (((oJ 10<|jn [39]<|wL pT<|oJ 39 l).filter λp=>!p.isEmpty).map<|s9 39 [])
theorem Vf(f)(ps):(wL f ps).length=ps.length:=by
 induction ps using Ij with
 |h0=>rfl
 |h1 a=>rfl
 |h2 a b r ih=>exact aV (· +1+1) ih
theorem Z6(f)(ps:List<|List Nat):∀k p,ps[2*k]?=some p->(wL f (ps.take<|2*k)++ps.drop (2*k)).set (2*k) (f p)=wL f (ps.take<|2*(k+1))++ps.drop (2*(k+1))/\(wL f (ps.take<|2*k)++ps.drop (2*k))[2*k]?=some p:=by
 induction ps using Ij with
 |h0=>exact λU U h=>nn h
 |h1 a=>
  intro k p h;rcases k with _|k
  .obtain rfl:=aA h;exact⟨rfl,rfl⟩
  .exact nn h
 |h2 a b r ih=>
  intro k p h;rcases k with _|k
  .obtain rfl:=aA h;exact⟨rfl,rfl⟩
  .exact⟨aV (f a::b:: ·) (ih k p h).1,(ih k p h).2⟩
theorem F8(ps:List<|List Nat):∀k,(l5 ps)[k]?=ps[2*k]? :=by
 induction ps using Ij with
 |h0=>exact λU=>rfl
 |h1 a=>intro k;rcases k with _|k<;>rfl
 |h2 a b r ih=>
  intro k;rcases k with _|k
  .rfl
  .exact ih k
theorem Xw(ps:List<|List Nat):(l5 ps).length=(ps.length+1)/2:=by
 induction ps using Ij with
 |h0=>rfl
 |h1 a=>simp[Kg]
 |h2 a b r ih=>exact(aV (· +1) ih).trans (j4 (r.length+1)<|c6 1).symm
theorem ca(h:ps.length<=k)(f):wL f (ps.take k)++ps.drop k=wL f ps:=by simp[eV h,List.drop_of_length_le h]
theorem Pj(hz:∀d∈z,d<128)(hl:∀d∈l,d<128):∀d∈s9 c z l,d<128:=by
 intro d hd;obtain⟨e,he,hd⟩:=iY.mp hd;split at hd
 .exact hz d hd
 .rw[aE]at hd;subst hd;exact hl _ he
set_option tactic.hygienic true in
theorem Tk:∀{l:List Nat}{p:List Nat},p∈oJ c l->∀d∈p,d∈l:=by
 intro zr;induction zr with
 |nil=> intro p h d hd;simp only[yG,aE]at h;subst h;exact nomatch hd
 |cons e r mB=>
  intro p h d hd;dsimp only[yG,Da]at h;split at h
  .rcases aK.mp h with rfl|h
   .exact nomatch hd
   .exact cO _ (mB h d hd)
  .split at h
   .rename_i q qs e';rcases aK.mp h with rfl|h
    .rcases aK.mp hd with rfl|hd
     .exact cN
     .exact cO _ (mB (e'▸cN) d hd)
    .exact cO _ (mB (e'▸(cO _ h)) d hd)
   .simp only[aE]at h;subst h;simp only[aE]at hd;subst hd;exact cN
theorem Ll(l):(pT l).length=l.length:=by
 induction l with
 |nil=>rfl
 |cons c l ih=> have e:pT (c::l)=(if c=32 then[10]else[c])++pT l:=rfl;simp only[e];split<;>simp<;>exact Nat.add_right_cancel<|congrFun (aV HAdd.hAdd ih) c
theorem wn(ps):((wL pT ps).map List.length)=ps.map List.length:=by
 induction ps using Ij with
 |h0=>rfl
 |h1 a=>simp only[VS,cW,Ll]
 |h2 a b r ih=>simp[WD,Ll,ih]
theorem xo(s)(ps):(jn [s] ps).length<=(ps.map List.length).sum+ps.length:=by
 induction ps using ng with
 |h0=>exact aI _
 |h1 p=>exact dM _
 |h2 p q r ih=> simp only[NT,aG,cW,kW,bA,fW]at ih⊢;exact lk ih
theorem CS(hf:∀p,(∀c∈p,c<128)->∀c∈f p,c<128)(ps):(∀p∈ps,∀c∈p,c<128)->∀p∈wL f ps,∀c∈p,c<128:=by
 induction ps using Ij with
 |h0=>exact λh=>h
 |h1 a=>exact λh p hp=>aE.mp hp▸hf a (h a<|.head _)
 |h2 a b r ih=>
  intro h p hp;rcases aK.mp hp with rfl|hp
  .exact hf a (h a<|.head _)
  rcases aK.mp hp with rfl|hp
  .exact h _ (.tail _<|.head _)
  .exact ih (λq hq=>h q<|.tail _<|.tail _ hq) p hp
def oS:List<|List Nat:=[[97],[98],[39],[34],[32],[]]
def Bq(x:Int):List Nat:=oS.getD (x.fmod 6).toNat []
def wordOf(x:Int):List Nat:=Bq x++Bq (x.fdiv 6)
def pL(zs:List Int):List<|List Nat:=(zs.take 12).map wordOf
def Mp(ws:List<|List Nat)(k:Nat):List<|List Nat:=(ws.drop<|3*k).take 3
def Hk(ws:List<|List Nat):List<|List<|List Nat:=(List.range<|(ws.length+3-1)/3).map<|Mp ws
theorem tt(x:Int):∃m:Nat,m<6/\x.fmod 6=(m:Int):=by rw[eG _<|by decide];have h:=Int.emod_nonneg x (b:=6) (by decide);exact⟨(x%6).toNat,(Int.toNat_lt h).mpr<|Int.emod_lt_of_pos x<|by decide,(Int.toNat_of_nonneg h).symm⟩
theorem Ag(x){m:Nat}(hm:m<6)(e:x.fmod 6=(m:Int)):oS[m]?=some (Bq x):=by unfold Bq;rw[e,c9];have:m<oS.length:=hm;exact(aP this)▸rfl
theorem v6(x):(Bq x).length<=1/\∀c∈Bq x,c<128:=by obtain⟨m,q8⟩:=tt x;exact(by decide:∀p∈oS,p.length<=1/\∀c∈p,c<128) _<|aR<|Ag x q8.1 q8.2
theorem O4(x):(wordOf x).length<=2/\∀c∈wordOf x,c<128:=by
 have h1:=v6 x;have h2:=v6<|x.fdiv 6;unfold wordOf;refine⟨by rw[aG];exact lk<|aC h2.1 h1.1,λc hc=>?_⟩;rcases aO.mp hc with h|h
 .exact h1.2 c h
 .exact h2.2 c h
def rM:List Nat->List Nat->Option Nat->List Nat->List Nat
 |out,cur,_,[]=>out++cur
 |out,cur,none,c::r=>if c=34 then rM out (cur++[c]) (some cur.length) r else rM out (cur++[c]) none r
 |out,cur,some k,c::r=>if c=34 then rM (out++cur.take k) [] none r else rM out (cur++[c]) (some k) r
theorem aen:rM out cur o []=out++cur:=rfl
theorem aej:rM out cur none (c::r)=if c=34 then rM out (cur++[c]) (some cur.length) r else rM out (cur++[c]) none r:=rfl
theorem aee:rM out cur (some k) (c::r)=if c=34 then rM (out++cur.take k) [] none r else rM out (cur++[c]) (some k) r:=rfl
theorem qo(out cur r):rM out cur none (34::r)=rM out (cur++[34]) (some cur.length) r:=aH rfl
theorem jf(out cur r)(k):rM out cur (some k) (34::r)=rM (out++cur.take k) [] none r:=aH rfl
theorem jc(out cur r)(o)(h:¬c=34):rM out cur o (c::r)=rM out (cur++[c]) o r:=by
 rcases o with _|k
 .exact aL h
 .exact aL h
theorem yf(r):∀out cur o,(rM out cur o r).length<=out.length+cur.length+r.length:=by
 induction r with
 |nil=>exact λout cur o=>aN<|aG
 |cons c r ih=>
  intro out cur o;have s:out.length+(cur++[c]).length+r.length=out.length+cur.length+(c::r).length:=by simp only[aG,bA,fW];exact cM (by simp+arith only)<|by simp+arith only
  rcases o with _|k
  .exact iteInduction (motive:=λx=>List.length x<=_) (λU=>s▸ih out (cur++[c]) _) λU=>s▸ih out (cur++[c]) _
  .refine iteInduction (motive:=λx=>List.length x<=_) (λU=>bC (ih (out++cur.take k) [] none) ?_) λU=>s▸ih out (cur++[c]) _;simp only[aG,bA,fW,fQ];lia
theorem Wg{α:Type}(a b:α)(r):l5 (a::b::r)=a::l5 r:=rfl
theorem oW(h:34∉l):mG l=l:=by unfold mG;simp[yD 34 l h];rfl
theorem uH(hp:34∉p)(hr:34∉r):mG (p++34::r)=p++34::r:=by
 have e:oJ 34 (p++34::r)=[p,r]:=by simp[yY 34 p r hp,yD 34 r hr]
 unfold mG;simp[e];simp[Ua,Kg,abv,abH]
theorem tW(hp:34∉p)(hq:34∉q):mG (p++34::(q++34::r))=p++mG r:=by
 exists p,q,r,_;have e:oJ 34 (p++34::(q++34::r))=p::q::oJ 34 r:=by simp[yY 34 p _ hp,yY 34 q r hq]
 have o9:=xO 34 r;unfold mG;simp only[e];rw[(by simp[bA];lia:(p::q::oJ 34 r).length%2=(oJ 34 r).length%2)];split
 .have e1:(p::q::oJ 34 r).dropLast=p::q::(oJ 34 r).dropLast:=by
   rcases h:oJ 34 r with _|⟨a,b⟩
   .exact absurd h o9
   .rfl
  have e2:(p::q::oJ 34 r).getLast (by simp)=(oJ 34 r).getLast o9:=by rw[List.getLast_cons<|by simp,List.getLast_cons o9]
  simp only[e1,e2,Wg,Do];simp
 .simp[Do];rfl
theorem Co(hp:34∉p)(out cur r)(o):rM out cur o (p++r)=rM out (cur++p) o r:=by
 induction p generalizing cur with
 |nil=>simp
 |cons c p ih=> simp only[kB,jc _ _ _ _ (λe=>hp (e▸cN):¬c=34),ih λm=>hp<|cO _ m,aJ];rfl
theorem sM(l):34∉l\/∃p r,34∉p/\l=p++34::r:=by
 by_cases h:34∈l
 .obtain⟨p,r,e,q⟩:=List.eq_append_cons_of_mem h;exact .inr ⟨p,r,q,e⟩
 .exact .inl h
theorem Gc:∀N l out,l.length<=N->rM out [] none l=out++mG l:=by
 intro N;induction N with
 |zero=> intro l out h;have:=cC.mp<|Nat.eq_zero_of_le_zero h;subst this;rw[oW<|by simp];rfl
 |succ N ih=>
  intro l out h;rcases sM l with hf|⟨p,r,hp,rfl⟩
  .have:=Co hf out [] [] none;rw[bF]at this;simp only[this,oW hf];rfl
  .simp[Co hp,qo];rcases sM r with hf|⟨q,r',hq,rfl⟩
   .have:=Co hf out (p++[34]) []<|some p.length;simp only[bF]at this;simp only[this,uH hp hf];rw[aJ];rfl
   .simp only[Co hq,jf,tW hp hq];have e:(p++[34]++q).take p.length=p:=by simp only[aJ,List.take_left]
    rw[e,ih r' _ (by simp at h;lia),aJ]
def wQ(l:List Nat):List Nat:=s9 39 [] l
theorem vH(a b):wQ (a++b)=wQ a++wQ b:=by simp[wQ,s9]
theorem Qi:wQ [39]=[]:=rfl
theorem Dh(h:c≠39):wQ [c]=[c]:=by simp[wQ,s9,h]
def Wj:List Nat->List Nat->List (List Nat)
 |cur,[]=>if cur.isEmpty=true then[]else[wQ cur]
 |cur,c::r=>if c=10 then(if cur.isEmpty=true then Wj [] r else wQ cur::Wj [] r)else Wj (cur++[c]) r
theorem Ed:Wj cur []=if cur.isEmpty=true then[]else[wQ cur]:=rfl
theorem Lg:Wj cur (c::r)=if c=10 then(if cur.isEmpty=true then Wj [] r else wQ cur::Wj [] r)else Wj (cur++[c]) r:=rfl
def Pt:Bool->List Nat->List Nat
 |_,[]=>[]
 |b,c::r=>if c=39 then 39::Pt (!b) r else if b=false/\c=32 then 10::Pt b r else c::Pt b r
theorem G8:Pt b []=[]:=rfl
theorem Gq:Pt b (c::r)=if c=39 then 39::Pt (!b) r else if b=false/\c=32 then 10::Pt b r else c::Pt b r:=rfl
def FN:Bool->List Nat->Bool
 |b,[]=>b
 |b,c::r=>if c=39 then FN (!b) r else FN b r
theorem Dl:FN b []=b:=rfl
theorem Du:FN b (c::r)=if c=39 then FN (!b) r else FN b r:=rfl
def EZ:Bool->List Nat->Bool
 |_,[]=>false
 |b,c::r=>if c=39 then EZ (!b) r else(!b&&c==34)||EZ b r
theorem Ql:EZ b []=false:=rfl
theorem Qk:EZ b (c::r)=if c=39 then EZ (!b) r else(!b&&c==34)||EZ b r:=rfl
def wf(b:Bool)(cur l:List Nat):Option<|List<|List Nat:=if FN b l=true then none else if EZ b l=true then none else some<|Wj cur<|Pt b l
theorem F7:∀l tk,34∉l->oL (.qu 34) tk l=none:=by
 intro zr;induction zr with
 |nil=> intro tk _;exact rfl
 |cons c r mB=> intro tk h;rw[Js,aL (λe=>h (e▸cN):¬c=34)];exact mB _ λm=>h<|cO _ m
def sS(l:List Nat):Nat:=(l.filter (· ==34)).length
theorem Ef(c)(l):sS (c::l)=(if c=34 then 1 else 0)+sS l:=by
 unfold sS;by_cases h:c=34
 .simp[h];exact iH (List.filter (λx=>x==34) l).length 1
 .simp[h]
theorem Dx(h:sS l=0):34∉l:=by intro hm;have h0:=cC.mp h;rw[b8]at h0;exact h0 34 hm rfl
theorem Sy:∀l,(∀c∈l,c∈mK)->sS l<=1->
 oL .bl [] l=wf false [] l/\(∀cur,cur.isEmpty=false->oL .wd (wQ cur) l=wf false cur l)/\(∀cur,cur.isEmpty=false->oL (.qu 39) (wQ cur) l=wf true cur l):=by
 exists zr;induction zr with
 |nil=>
  intro uZ Os;refine⟨rfl,λcur h=>?_,λcur h=>?_⟩
  .simp[pC,pD,wf,Dl,Du,Ql,Qk,G8,Ed,h]
  .rfl
 |cons c r mB=>
  exists c,r,[mB];intro hl hc;rw[Ef]at hc;have hcs:=hl c cN;obtain⟨i1,q8⟩:=mB (λd hd=>hl d<|cO _ hd)<|Nat.le_of_add_left_le hc;have o9:∀(cur:List Nat)d,(cur++[d]).isEmpty=false:=λcur d=>by rcases cur with _|_<;>rfl
  simp only[mK,aK,bG,kX]at hcs;by_cases Fg:c=39
  .subst Fg;refine⟨?_,λcur h=>?_,λcur h=>?_⟩
   .have e:=q8.2 [39] rfl;simp only[Qi]at e;simp[pC,pD,pR,pO,e];rfl
   .have e:=q8.2 (cur++[39])<|o9 _ _;simp only[vH,Qi,bF]at e;simp[pC,pD,pR,pO,uA,e];rfl
   .have e:=q8.1 (cur++[39])<|o9 _ _;simp only[vH,Qi,bF]at e;simp[pC,pD,pR,pO,uA,Js,e];rfl
  .have inq:∀cur,cur.isEmpty=false->oL (.qu 39) (wQ cur) (c::r)=wf true cur (c::r):=by
    exists cur;intro h;have e:=q8.2 (cur++[c])<|o9 _ _;simp only[vH,Dh Fg]at e;have h10:c≠10:=by rcases hcs with rfl|rfl|rfl|rfl|rfl<;>decide
    simp[pC,pD,pR,pO,uA,Js,e];simp[wf,Dl,Du,Ql,Qk,G8,Gq,Ed,Lg,Fg,h10]
   refine⟨?_,λcur h=>?_,inq⟩
   .exists _;rcases hcs with rfl|rfl|rfl|rfl|rfl
    .have e:=q8.1 [97] rfl;rw[Dh<|by decide]at e;refine k9 ?_;simp[pC,pD,pR,pO,e];rfl
    .have e:=q8.1 [98] rfl;rw[Dh<|by decide]at e;refine k9 ?_;simp[pC,pD,pR,pO,e];rfl
    .exact k9 (absurd rfl Fg)
    .have hn:34∉r:=Dx (by simp at hc;omega);refine k9 ?_;simp only[pC,pD,pR,pO,show 34≠32 from by decide,show uc 34=true from rfl,F7 r [] hn];simp[wf,Dl,Du,Ql,Qk]
    .refine k9 ?_;simp[pC,pD,pR,pO,i1];rfl
   .exists cur,_;rcases hcs with rfl|rfl|rfl|rfl|rfl
    .have e:=q8.1 (cur++[97])<|o9 _ _;rw[vH,Dh<|by decide]at e;simp[pC,pD,pR,pO,uA,e];rfl
    .have e:=q8.1 (cur++[98])<|o9 _ _;rw[vH,Dh<|by decide]at e;simp[pC,pD,pR,pO,uA,e];rfl
    .exact absurd rfl Fg
    .have hn:34∉r:=Dx (by simp at hc;omega);simp[pC,pD,pR,pO,uA,show 34≠32 from by decide,show uc 34=true from rfl,F7 r _ hn];simp[wf,Dl,Du,Ql,Qk]
    .simp[pC,pD,pR,pO,uA,i1];simp[wf,Dl,Du,Ql,Qk,G8,Gq,Ed,Lg,h];split
     .rfl
     .split<;>rfl
theorem Dv{α:Type}(a:α)(ps):l5 (a::ps)=a::l5 ps.tail:=by rcases ps with _|_<;>rfl
def XZ:Bool->List (List Nat)->List (List Nat)
 |false,ps=>wL pT ps
 |true,[]=>[]
 |true,p::ps=>p::wL pT ps
theorem yQ(a)(ps):wL pT (a::ps)=pT a::XZ true ps:=by rcases ps with _|_<;>rfl
def MN(b:Bool)(ps:List<|List Nat):Bool:=(l5<|if b=true then ps.tail else ps).any λp=>decide<|34∈p
theorem Nc(h:c≠39)(e:oJ 39 r=p::ps):oJ 39 (c::r)=(c::p)::ps:=by
 show(if c=39 then[]::oJ 39 r else match oJ 39 r with
  |p::ps=>(c::p)::ps
  |[]=>[[c]])=_
 rw[aL h,e]
theorem Nm(r):oJ 39 (39::r)=[]::oJ 39 r:=rfl
theorem tu(r):∃p ps,oJ 39 r=p::ps:=by
 rcases h:oJ 39 r with _|⟨p,ps⟩
 .exact absurd h (xO 39 r)
 .exact⟨p,ps,rfl⟩
theorem Ia(s c)(p)(ps):jn [s] ((c::p)::ps)=c::jn [s] (p::ps):=by rcases ps with _|_<;>rfl
theorem yw:∀l b,FN b l=(b !=decide ((oJ 39 l).length%2=0))/\EZ b l=MN b (oJ 39 l)/\Pt b l=jn [39] (XZ b<|oJ 39 l):=by
 exists zr;induction zr with
 |nil=> exists b;induction b<;>exact⟨rfl,rfl,rfl⟩
 |cons c r mB=>
  exists c,r,[mB];exists b;exists p,ps,(e:tu r);by_cases Fg:c=39
  .subst Fg;have q8:=mB (!b);rw[Nm];refine⟨?_,?_,?_⟩
   .simp[Dl,Du,q8.1];by_cases hp:(oJ 39 r).length%2=0
    .have:¬((oJ 39 r).length+1)%2=0:=by lia
     simp only[b7 hp,cQ this];cases b<;>rfl
    .have:((oJ 39 r).length+1)%2=0:=by lia
     simp only[cQ hp,b7 this];cases b<;>rfl
   .simp[Ql,Qk,q8.2.1];unfold MN;cases b
    .simp[Dv]
    .rfl
   .simp[G8,Gq,q8.2.2,e];cases b
    .show 39::jn [39] (p::wL pT ps)=jn [39] (wL pT ([]::p::ps));rw[yQ];rfl
    .show 39::jn [39] (wL pT (p::ps))=jn [39] ([]::wL pT (p::ps));rw[yQ];rfl
  .obtain⟨i1,i2,i3⟩:=mB b;refine(Nc Fg e)▸?_;rw[e]at i1 i2 i3;refine⟨?_,?_,?_⟩
   .simp[Dl,Du,aL Fg,i1]
   .simp[Ql,Qk,aL Fg,i2];unfold MN;cases b
    .simp[Dv];rw[<-Bool.or_assoc];congr 1
     rw[eO];simp only[d8,a5,d6];constructor
     .rintro(h|h)
      .exact .inl h.symm
      .exact .inr h
     .rintro(h|h)
      .exact .inl h.symm
      .exact .inr h
    .rfl
   .rw[Gq,aL Fg,i3];cases b
    .show(if _ then _ else _)=jn [39] (wL pT ((c::p)::ps));rw[yQ];show(if false=false/\c=32 then 10::jn [39] (wL pT (p::ps))else c::jn [39] (wL pT (p::ps)))=_;rw[yQ];have e1:pT (c::p)=(if c=32 then[10]else[c])++pT p:=rfl;rw[e1];by_cases tv:c=32
     .rw[aH ⟨rfl,tv⟩,aH tv];exact(Ia 39 10 _ _).symm
     .rw[aL λh=>tv h.2,aL tv];exact(Ia 39 c _ _).symm
    .refine(a6 (aL<|by simp) ?_:(if true=false/\c=32 then _ else c::jn [39] (p::wL pT ps))=jn [39] ((c::p)::wL pT ps));rw[Ia]
theorem ON:∀T cur,10∉cur->Wj cur T=((oJ 10<|cur++T).filter λp=>!p.isEmpty).map wQ:=by
 intro zr;induction zr with
 |nil=> intro cur h;simp[yD 10 cur h];rcases cur with _|_<;>rfl
 |cons c r mB=>
  intro cur h;by_cases h10:c=10
  .subst h10;rw[yY 10 cur r h];have ih:=mB [] (by simp);rcases cur with _|_<;>simp[Ed,Lg,ih]
  .have ih:=mB (cur++[c]) (by simp[h];exact neN λa=>h10<|id<|Eq.symm a);simp only[aJ,List.singleton_append]at ih;rw[Lg,aL h10,ih]
theorem eg(hl:∀c∈l,c∈mK)(hc:sS l<=1):oL .bl [] l=vA l:=by
 exists l,_;refine a6 ((Sy l hl hc).1) ?_;obtain⟨i1,q8⟩:=yw l false;delta wf vA;simp only[i1,q8.1,q8.2,ON _ []<|by simp];simp only[(by rcases decide ((oJ 39 l).length%2=0)with _|_<;>rfl:(false !=decide ((oJ 39 l).length%2=0))=decide ((oJ 39 l).length%2=0))]
 simp only[d6];rfl
theorem Gg(a b):sS (a++b)=sS a+sS b:=by simp[sS]
theorem t4(h:34∉l):sS l=0:=by unfold sS;rw[cC,b8];intro c hc e;simp only[a5]at e;exact h<|e▸hc
theorem V6:∀N l,l.length<=N->sS (mG l)<=1/\∀c∈mG l,c∈l:=by
 intro N;induction N with
 |zero=> intro l h;have:=cC.mp<|Nat.eq_zero_of_le_zero h;subst this;rw[oW<|by simp];simp[sS]
 |succ N ih=>
  intro l h;rcases sM l with hf|⟨p,r,hp,rfl⟩
  .rw[oW hf,t4 hf];simp
  .rcases sM r with hf|⟨q,r',hq,rfl⟩
   .rw[uH hp hf,Gg,Ef,t4 hp,t4 hf];simp
   .obtain⟨i1,i2⟩:=ih r' (by simp at h;lia);rw[tW hp hq,Gg,t4 hp];refine⟨(lk i1),λc hc=>?_⟩;rcases aO.mp hc with h'|h'
    .simp[h']
    .simp[i2 c h']
theorem Wb(w):Dr (lJ w)=Ax w:=by refine a6 iX.symm ?_;rw[tN];rfl
theorem W4(w):qI (lJ w)=lJ (rS w):=by
 unfold qI;rw[n5,Wb];rcases w with _|⟨c,w⟩
 .decide+kernel
 .refine a6 (aL<|by simp) ?_;unfold rS;by_cases hg:Ax (c::w)=true
  .rw[aH hg,aH ⟨rfl,hg⟩]
  .rw[aL hg,aL λh=>hg h.2,IU,LQ,Lp,Zq,yN,yN]
theorem Wm:(oS.all λp=>oS.all λq=>pM.contains<|lJ<|p++q)=true:=by decide+kernel
theorem Ao(x):Bq x∈oS:=by obtain⟨m,q8⟩:=tt x;exact aR<|Ag x q8.1 q8.2
theorem QW(x):pM.contains (lJ<|wordOf x)=true:=aX.mp (aX.mp Wm _<|Ao x) _<|Ao<|x.fdiv 6
theorem Ye:(oS.all λp=>p.all λc=>mK.contains c)=true:=by decide+kernel
theorem vf(x):∀c∈wordOf x,c∈mK:=by
 have key:=λy c hc=>by exact bB.mp<|aX.mp (aX.mp Ye _<|Ao y) c hc
 intro c hc;rcases aO.mp hc with h|h
 .exact key _ c h
 .exact key _ c h
abbrev tx(w:List Nat):V:=.str<|lJ w
theorem L2{α:Type}{f g:α->V}{a e:EF}{rs:Scope}{y:Str}{H0 H1:Hp}{loc:Loc}{v:V}{ks:List Nat}{r:List α}(h:a ⟨H0,loc⟩=some (.ok v,⟨H1,loc⟩))(hi:∀L,lZ v (H1++L)=some (ks,r.map f))(hz:r.length<big)
 (ht:∀w∈r,∀L loc',CL rs y loc loc'->lz loc' y=some (f w)->e ⟨H1++L,loc'⟩=some (.ok<|g w,⟨H1++L,loc'⟩)):
 oF a rs (y6 y) (λj=>nB e j) ⟨H0,loc⟩=some (.ok<|.ref H1.length,⟨H1++[.list<|r.map g],loc⟩):=by
 obtain⟨M,xs,e,hM,hx⟩:=zJ (I:=λdone M xs=>M=[]/\xs=done.map g) h hi ⟨rfl,rfl⟩
  (λdone w rest M xs loc' hd q9 hc hl=>by obtain⟨hM,hx⟩:=q9;subst hM;subst hx;refine⟨[],_,_,(wD (ht w (by rw[hd];exact aW _<|.head _) [.list<|done.map g] loc' hc hl) rfl mP (by rw[aF];exact bW (by simp only[hd,aG];exact aT _ _) hz)).trans ?_,hc,rfl,rfl⟩;rw[dO _ _<|aI _,cD,bE];rfl)
 simp[e,hM,hx]
theorem EE(h:∀c∈l,c<128):lZ (tx l) H=some ([0],l.map λc=>tx [c]):=by
 have e:((lJ l).cps.all λc=>decide<|c<128)=true:=by rw[<-iX,tN,aX];intro c hc;exact b7<|h c hc
 refine a6 (aH e) ?_;unfold K9;dsimp only[tN]
theorem Gv(hl:∀c∈l,c<128)(hm:∀c∈m,c<128):pP .Eq (tx l) (tx m) H=some (.bool<|l==m)/\pP .NotEq (tx l) (tx m) H=some (.bool (!(l==m))):=by have:=ow (H:=H) (qZ hl)<|qZ hm;rwa[Sz]at this
theorem UK:pP .NotIn (tx [c]) (.str "ab") H=some (.bool (!Dt c)):=by
 show some (V.bool (!Ej (Str.ofString "ab") (lJ [c])))=_;rw[HW,Ad];congr 3
 unfold Dt;rw[eO,j0,d8,a5,a5,aK,aE]
theorem Vw{n:Nat}{H M:Hp}{loc:Loc}{acc:List V}{w:List Nat}(hl:∀c∈w,c<128)(hw:w.length<1000)(hz:acc.length<big)(h2:lz loc "written" =some (.ref H.length)):
 ∃M' loc',O6 fu n ⟨H++(.list acc::M),put "word" (tx w) loc⟩=some (.ok .next,⟨H++(.list (acc++[tx<|rS w])::M'),loc'⟩)/\lz loc' "written" =some (.ref H.length):=by
 exists fu,n,H,M,loc,acc,w,_;have kb:=tD;have h1:lz (put "word" (tx w) loc) "word" =some (tx w):=lQ;have h3:lz (put "word" (tx w) loc) "written" =some (.ref H.length):=(lL rfl).trans h2;generalize put "word" (tx w) loc=qT at*;have ne:=mH (kY (st:=⟨H++(.list acc::M),qT⟩) h1) (lA (v:=tx [])) (Gv (m:=[]) hl nofun).2;have els:∀M1,∃M' loc',jo fu n ⟨H++(.list acc::M1),qT⟩=some (.ok .next,⟨H++(.list (acc++[tx<|[39]++s9 39 [39,34,39,34,39] w++[39]])::M'),loc'⟩)/\lz loc' "written" =some (.ref H.length):=λM1=>by
  exists M1,[];have e1:=mC (x:= "inner")<|L2 (rs:=Uz) (y:= "sign") (e:=ix (ct<|tx [39,34,39,34,39]) (lo "sign")<|tc (lo "sign") (ct<|tx [39]) .Eq) (g:=λc=>tx<|rq c) (kY (st:=⟨H++(.list acc::M1),qT⟩) h1) (λL=>EE hl) (cK hw kb) (λc hc L loc' E3 Y4=>by
   have t1:=mH (kY (st:=⟨(H++(.list acc::M1))++L,loc'⟩) Y4) (lA (v:=tx [39])) (Gv (by exists d;intro hd;rw[aE.mp hd];exact hl c hc)<|by decide).1;unfold rq;by_cases Fg:c=39
   .subst Fg;rw[aH rfl];exact acA t1 lA
   .rw[aL Fg];rw[show([c]==[39])=false from a7.mpr λe=>Fg (b0 e).1]at t1;exact abA t1<|kY Y4)
  have hq:=iy w;have l2:lz (put "inner" (.ref (H++(AO.list acc::M1)).length) qT) "written" =some (.ref H.length):=(lL rfl).trans h3;have g2:=lC (L:=[.list<|w.map λc=>tx<|rq c])<|C4 (H:=H) (a:=.list acc) (M:=M1);have hj:(jn []<|w.map rq).length=(s9 39 [39,34,39,34,39] w).length:=by simp only[Do,y3,List.flatMap_def]
  have e3:=vF (vF (lA (v:=tx [39])) (nW (fu:=fu) (n:=n) (x:= "join") (lA (v:=tx []) (st:=⟨(H++(.list acc::M1))++[.list<|w.map λc=>tx<|rq c],put "inner" (.ref (H++(AO.list acc::M1)).length) qT⟩)) (Al rfl) (pX<|kY<|lQ) rfl<|Jm (S:=lF fu n) (fu:=fu) (by rw[qW mP,bX];rfl) (by rw[aF];omega) (by rw[aF];show _+_*0<_;have:=hq.1;unfold big;lia))<|Mi (by show 1+_<_;simp only[hj,y3];have:=hq.2;unfold big;omega)) (lA (v:=tx [39]))<|Mi (by simp only[aG,hj,y3];show 1+_+1<_;have:=hq.2;unfold big;omega);rw[Do,<-List.flatMap_def,<-y3]at e3;have e4:=qB<|nW (fu:=fu) (n:=n) (x:= "append") (kY l2) (nL g2 rfl) (pX e3) rfl<|mI<|oK g2 hz;simp only[Ci]at e4;exact⟨_,_,lK e1 e4,l2⟩
 unfold rS;rcases hw0:w.isEmpty with _|_
 .rw[(a7.mpr λe=>by replace hw0:=e▸hw0;injection hw0)]at ne;have eq:=(A6 (H:=((H++(.list acc::M))++[AO.list<|(w.filter λc=>!Dt c).map λc=>tx [c]])++[.list []]) (a:=.ref (H++(AO.list acc::M)).length) (c:=.ref ((H++(AO.list acc::M))++[AO.list<|(w.filter λc=>!Dt c).map λc=>tx [c]]).length) (da:=.list<|(w.filter λc=>!Dt c).map λc=>PyData.str<|lJ [c]) (dc:=.list [])
   (sK (lC mP)<|qQ λU U=>rfl) (sK mP rfl) (zH λc hc=>by exact qZ (by exists d;intro hd;rw[aE.mp hd];exact hl c (dT.mp hc).1)) rfl).1
  rw[Jd]at eq;have e2:=mH (Dg (rs:=Vb) (y:= "sign") (kY h1) (λL=>EE hl) (by omega) λc hc L loc' E3 Y4=>mH (kY Y4) lA UK) (rU zX<|by decide) eq;have hg:=W9 w;rw[kH]at hg;rw[kH,hg]at e2;rw[aJ,aJ,kB]at e2;by_cases Vt:Ax w=true
  .rw[aH ⟨rfl,Vt⟩];rw[Vt]at e2;generalize M++([.list<|(w.filter λc=>!Dt c).map λc=>tx [c]]++[.list []])=M2 at*;have e4:=qB<|nW (fu:=fu) (n:=n) (x:= "append") (kY (st:=⟨H++(.list acc::M2),qT⟩) h3) (nL C4 rfl) (pX<|kY h1) rfl<|mI<|oK (C4) hz;rw[<-bF (H++(AO.list acc::M2)),Ci,bF]at e4;exact⟨_,_,sZ (iz ne<|iz e2 KT) e4,h3⟩
  .rw[aL λh=>Vt h.2];rw[eF.mpr Vt]at e2;exists M',loc',(q8:els<|M++([.list<|(w.filter λc=>!Dt c).map λc=>tx [c]]++[.list []]));exact⟨M',loc',pF (iz ne<|FE e2) q8.1,q8.2⟩
 .have e0:=cI.mp hw0;subst e0;exists M',loc',(q_:els M);obtain⟨e,h⟩:=q_;rw[aL λh=>by injection h.1];exact⟨M',loc',pF (FE ne) e,h⟩
theorem AI:lB (lF fu<|n+1) fu 903 [u] [] H=mL (Su fu n ⟨H,[("words",u)]⟩):=
 w8 OG (by rfl')
theorem cu{α:Type}{f g:α->Nat}{l:List α}(h:∀x∈l,f x<=g x):(l.map f).sum<=(l.map g).sum:=by
 induction l with
 |nil=>exact aI _
 |cons a l ih=>exact aC (h a<|.head _)<|ih λx hx=>h x<|.tail _ hx
theorem SY{n:Nat}{H:Hp}{i:Nat}{ws:List (List Nat)}(hi:H[i]?=some (.list<|ws.map tx))(hl:∀w∈ws,∀c∈w,c<128)(hw:∀w∈ws,w.length<=2)(hn:ws.length<=3):∃G,lB (lF fu<|n+1) fu 903 [.ref i] [] H=some (.ok<|tx<|mT ws,H++G):=by
 exists fu,n,H,i,ws,_;have kb:=tD;obtain⟨k6,e,M,loc',rfl,h2⟩:=z3 (s:=O6 fu n) (a:=lo "words") (st:=⟨H++[.list []],[("words",.ref i),("written",.ref H.length)]⟩)
  (I:=λdone st=>∃M loc',st=⟨H++(.list (done.map λw=>tx<|rS w)::M),loc'⟩/\lz loc' "written" =some (.ref H.length)) (kY rfl) ⟨[],_,rfl,rfl⟩
  (λd st q9=>by exists d,st,_;exists uZ,Os,(q_:q9);obtain⟨h,rc⟩:=q_;subst h;exact oZ<|lC hi)
  (λdone w rest st hd q9=>by
   exists done,w,rest,st,_;exists M,loc',(q_:q9);obtain⟨h,h2⟩:=q_;subst h;have hwm:w∈ws:=by exact hd▸(aW _<|.head _)
   have ST:=aV List.length hd;simp only[aG]at ST;have:=hw w hwm;obtain⟨M',l2,q8⟩:=Vw (acc:=done.map λw=>tx<|rS w) (hl w hwm) (lk this) (by rw[aF];exact lk<|aC (aN ST.symm)<|aC kb hn) h2;exact⟨_,_,q8.1,.inl rfl,M',l2,by rw[bE];rfl,q8.2⟩)
 have hs:=cu (f:=λw=>(rS w).length) (g:=λU=>12) λw h=>by have:=yZ w;have:=hw w h;lia
 have hs2:(ws.map λU=>12).sum=12*ws.length:=by simp[List.map_const',kL]
 have e3:Su fu n ⟨H,[("words",.ref i)]⟩=_:=lK (mC<|rU zX<|by decide)<|lK e<|rK<|nW (lA) (Al rfl) (pX<|kY h2) rfl<|Jm (by refine a6 (qW C4) ?_;rw[bX];rfl) (by rw[aF];exact lk<|aC kb hn) (by simp only[aF,bX];show(ws.map λw=>(rS w).length).sum+_*1<_;unfold big;lia);simp[AI,e3];exact⟨_,rfl⟩
theorem wi{α:Type}{g:α->V}{a:EF}{s:SF}{x:Str}{v:V}{st st1:St}{k:List Nat}{r:List α}{I:List α->St->Prop}{R:V->St->Prop}(h:a st=some (.ok v,st1))(h0:I [] st1)(hk:∀d st,I d st->lZ v st.H=some (k,r.map g))
 (step:∀done w rest st,r=done++w::rest->I done st->∃f k6,s ⟨st.H,put x (g w) st.loc⟩=some (.ok f,k6)/\(((f=.next\/f=.cont)/\I (done++[w]) k6)\/∃z,f=.ret z/\R z k6)):∃f k6,fr a x s st=some (.ok f,k6)/\((f=.next/\I r k6)\/∃z,f=.ret z/\R z k6):=by
 obtain⟨f,k6,nO⟩:=NU (I:=λl st=>∃done rest,r=done++rest/\l=rest.map g/\I done st) h (hk _ _ h0) ⟨[],r,rfl,rfl,h0⟩ (λl st q9=>by obtain⟨_,_,_,_,I⟩:=q9;exact hk _ _ I)
  (λw l st q9=>by
   obtain⟨done,rest,lW⟩:=q9;rcases rest with _|⟨w',rest⟩
   .injection lW.2.1
   .obtain⟨rfl,rfl⟩:=b0 lW.2.1;obtain⟨f,k6,q8⟩:=step done w' rest st lW.1 lW.2.2;exact⟨f,k6,q8.1,q8.2.imp (λq9=>by obtain⟨h1,h2⟩:=q9;exact⟨h1,done++[w'],rest,by simp only[lW.1,aJ];rfl,rfl,h2⟩) id⟩)
 refine⟨f,k6,nO.1,nO.2.imp (λqq=>⟨qq.1,?_⟩) id⟩;obtain⟨h1,done,rest,hd,hr,hI⟩:=qq;induction rest with
 |nil=>simp only[bF]at hd;subst hd;exact hI
 |cons=>rcases hr with _|_
theorem Ut(h1:l.length+2<big):nC (.bi "str.split") [tx l,tx [c]] [] H=some (.ok<|.ref H.length,H++[.list<|(oJ c l).map tx]):=by have hl:=Dz l c;show(if _ then _ else none)=_;rw[aH ⟨rfl,by rw[n5];exact bP h1,bW ‹_› ‹_›⟩,Pp,bX];rfl
theorem jw{i:Nat}{ws:List (List Nat)}(hi:lE H i=some (ws.map λp=>V.str<|lJ p))(hb:ws.length<big)(hj:(ws.map List.length).sum+ws.length*x.length<big):nC (.bi "str.join") [.str<|lJ x,.ref i] [] H=some (.ok<|.str<|lJ<|jn x ws,H):=by show(lE H i).bind _=_;rw[hi];show(if _ then _ else none)=_;rw[aH (by rw[aF];exact hb),Ai];show(if _ then _ else none)=_;rw[aH<|Aq hj,z0]
theorem FA(h:a st=some (.ok<|tx z,st1))(hx:x=lJ [c])(hy:y=lJ zs)(o9:([c]==zs)=false)(hz:z.length+(z.length+1)*zs.length<=16777216):rp a x y st=some (.ok<|tx<|s9 c zs z,st1):=by subst hx;subst hy;refine(lG.at h).trans ?_;show mV st1 (gv _ _ _)=_;unfold gv;rw[aH ⟨by exact a6 Sz o9,by rw[n5,n5];exact hz⟩,Lp,Zq];rfl
theorem YG:pP .In (tx [c]) (tx l) H=some (.bool<|decide<|c∈l):=by show some (V.bool<|Ej (lJ l)<|lJ [c])=_;rw[Ad]
structure WI(ps:List<|List Nat)(M:Hp)(j:Nat)(st:St):Prop where
 hH:st.H=.list ((wL pT (ps.take<|2*j)++ps.drop (2*j)).map tx)::M
 hl:lz st.loc "strands" =some (.ref 0)
 hf:∀i<j,∀p,ps[2*i]?=some p->34∉p
theorem Qn{ps:List (List Nat)}{j:Nat}{p:List Nat}{st:St}(hz:ps.length<1000)(qx:p.length<1000)(W:WI ps M j st)(hp:ps[2*j]?=some p):
 ∃f k6,Io fu n ⟨st.H,put "k" (.int ((j*2:Nat):Int)) st.loc⟩=some (.ok f,k6)/\(((f=.next\/f=.cont)/\WI ps M (j+1) k6)\/∃z,f=.ret z/\z=.none/\34∈p):=by
 exists fu,n,M,ps,j,p,st,_;obtain⟨H,loc⟩:=st;obtain⟨rfl,h2,hf⟩:=W;have kb:=tD;have l1:lz (put "k" (.int (j*2:Nat)) loc) "strands" =some (.ref 0):=(lL rfl).trans h2;have l2:lz (put "k" (.int (j*2:Nat)) loc) "k" =some (.int<|2*j):=by rw[kL];exact lQ
 generalize put "k" (.int (j*2:Nat)) loc=qT at*;have q8:=Z6 pT ps j p hp;have hlen:(wL pT (ps.take<|2*j)++ps.drop (2*j)).length=ps.length:=by rw[aG,Vf,<-aG,List.take_append_drop]
 have hl2:((wL pT (ps.take<|2*j)++ps.drop (2*j)).map tx).length=ps.length:=by simp only[aF,hlen]
 have hx:((wL pT (ps.take<|2*j)++ps.drop (2*j)).map tx)[2*j]?=some (tx p):=by simp only[bD,q8.2];rfl
 have hs:((wL pT (ps.take<|2*j)++ps.drop (2*j)).map tx).set (2*j) (tx<|pT p)=(wL pT (ps.take<|2*(j+1))++ps.drop (2*(j+1))).map tx:=by simp only[<-q8.1,List.map_set]
 generalize(wL pT (ps.take<|2*j)++ps.drop (2*j)).map tx=xs at*;have i1:sb (lo "strands") (lo "k") ⟨.list xs::M,qT⟩=some (.ok<|tx p,⟨.list xs::M,qT⟩):=tK (kY l1) (kY l2) (qU rfl)<|I6 rfl (by omega) hx;have t1:=mH (lA (v:=tx [34])) i1 YG;by_cases Oy:34∈p
 .rw[b7 Oy]at t1;exact⟨_,_,xM<|sZ t1<|rK lA,.inr ⟨_,rfl,rfl,Oy⟩⟩
 .rw[cQ Oy]at t1;refine⟨_,_,lK (pF t1 rfl)<|FJ (show rpl (sb (lo "strands")<|lo "k") " " "\n" ⟨.list xs::M,qT⟩=_ by unfold rpl;rw[FA (c:=32) (zs:=[10]) i1 (by decide+kernel) (by decide+kernel) rfl (by show p.length+(p.length+1)*1<=_;exact lk<|aC qx qx)];rfl) (kY l1) (kY l2)<|PJ rfl (place_lt hx)<|by omega,.inl ⟨.inl rfl,?_,l1,λi hi q hq=>?_⟩⟩
  .show AO.list (xs.set (2*j)<|tx<|pT p)::M=_;rw[hs]
  .by_cases e:i=j
   .obtain rfl:=e.symm;replace hq:=hp▸hq;obtain rfl:=aA hq;exact Oy
   .exact hf i (by lia) q hq
theorem ww:lB (lF fu<|n+1) fu 915 [u] [] H=mL (Kz fu n ⟨H,[("line",u)]⟩):=
 w8 OA (by rfl')
inductive Ru(o:mM):Option (List<|List Nat)->Prop
 |bad {G:Hp} (h:o=some (.ok .none,G)):Ru o none
 |good {ws:List (List Nat)} {G:Hp} {i:Nat} (h:o=some (.ok<|.ref i,G)) (hi:G[i]?=some (.list<|ws.map tx)):Ru o<|some ws
theorem Xn{loc:Loc}{ps:List (List Nat)}(hz:ps.length<1000)(hs:(ps.map List.length).sum<2000)(hl:∀p∈ps,∀c∈p,c<128)(h1:lz loc "strands" =some (.ref 0)):
 ∃M' i,P7 fu n ⟨.list (ps.map tx)::M,loc⟩=some (.ok<|.ret<|.ref i,⟨M',loc⟩)/\M'[i]?=some (.list<|(((oJ 10<|jn [39] ps).filter λp=>!p.isEmpty).map<|s9 39 []).map tx):=by
 exists fu,n,M,loc,ps,_;have kb2:100000<big:=by decide
 have hj:=xo 39 ps;have hsp:=Ka 10<|jn [39] ps;have FW:=Ig 10<|jn [39] ps;have e2:=C9 (x:= "split") (C9 (x:= "join") (lA (v:=tx [39]) (st:=⟨.list (ps.map tx)::M,loc⟩)) (Al rfl) (pX<|kY h1) rfl<|jw rfl (lk<|aC kb2 hz) (by show _+_*1<_;exact lk<|aC kb2<|aC hs hz)) (Al rfl) (pX<|lA (v:=tx [10])) rfl<|Ut (lk<|aC hj<|aC kb2<|aC hs hz);have vZ:∀p∈oJ 10 (jn [39] ps),∀c∈p,c<128:=λp hp c hc=>by
  have:∀qs,(∀p∈qs,∀c∈p,c<128)->∀c∈jn [39] qs,c<128:=by
   intro qs;induction qs with
   |nil=>intro _ c hc;cases hc
   |cons a qs ih=>
    intro h c hc;rcases qs with _|⟨b,r⟩
    .exact h a (.head _) c hc
    .rcases aO.mp (hc)with h3|h3
     .rcases aO.mp h3 with h3|h3
      .exact h a (.head _) c h3
      .rw[aE.mp h3];decide
     .exact ih (λp hp=>h p<|.tail _ hp) c h3
  exact this ps hl c<|Tk hp c hc
 have e3:=Mu (rs:=U4) (e:=rp (lo "part") "'" "") (p:=λp=>!p.isEmpty) (g:=λp=>tx<|s9 39 [] p) e2 (λL=>oZ<|lC mP) (by lia) (λp hp L loc' hc Y4=>by have qx:=T6 hp;refine⟨(mH (kY Y4) (lA) (Gv (m:=[]) (vZ p hp) nofun).2).trans ?_,λU=>FA (kY Y4) (by decide+kernel) (by decide+kernel) rfl (by show p.length+(p.length+1)*0<=_;lia)⟩;rcases p with _|_<;>rfl)
 refine⟨_,_,rK e3,?_⟩;rw[bX];exact mP
theorem OX{n:Nat}{l:List Nat}(hl:∀c∈l,c<128)(hz:l.length<900):Ru (lB (lF fu<|n+1) fu 915 [tx l] [] [])<|vA l:=by
 exists fu,n,l,_;have kb:=tD;have FW:=Ig 39 l;have hss:=Ka 39 l;have vZ:∀p∈oJ 39 l,∀c∈p,c<128:=λp hp c hc=>hl c<|Tk hp c hc;have e0:pH (ml fu n (lo "line") "split" [ct<|.str "'"]) (qG "strands") ⟨[],[("line",tx l)]⟩=some (.ok .next,⟨[.list<|(oJ 39 l).map tx],[("line",tx l),("strands",.ref 0)]⟩):=mC<|nW (kY rfl) (Al rfl) (pX<|lA) rfl<|mI<|Ut (lk<|aC kb hz);rw[ww];unfold vA;generalize oJ 39 l=ps at*;have el:cl fu n (ct<|.bi "len") [lo "strands"] ⟨[.list<|ps.map tx],[("line",tx l),("strands",.ref 0)]⟩=some (.ok<|.int ps.length,⟨[.list<|ps.map tx],[("line",tx l),("strands",.ref 0)]⟩):=by have:=oE (fu:=fu) (n:=n) (lA (st:=⟨[.list<|ps.map tx],[("line",tx l),("strands",.ref 0)]⟩)) (pX<|kY (x:= "strands") rfl) rfl<|mI<|Gl rfl (by rw[aF];exact lk<|aC FW<|aC kb hz);rwa[aF]at this
 have t0:tc (bn (cl fu n (ct<|.bi "len") [lo "strands"]) (ct<|.int 2) .Mod) (ct<|.int 0) .Eq ⟨[.list<|ps.map tx],[("line",tx l),("strands",.ref 0)]⟩=some (.ok<|((ps.length:Int).fmod 2)==0,⟨[.list<|ps.map tx],[("line",tx l),("strands",.ref 0)]⟩):=mH (vF el lA rfl) lA Rw;by_cases UD:ps.length%2=0
 .rw[aH UD];rw[show(((ps.length:Int).fmod 2)==0)=true by rw[a5,eG _ (by simp)];exact Int.natAbs_eq_zero.mp UD]at t0;have e:Kz fu n ⟨[],[("line",tx l)]⟩=_:=lK e0<|xM<|sZ t0<|rK lA;exact e▸(.bad rfl)
 .rw[aL UD];exists _;rw[show(((ps.length:Int).fmod 2)==0)=false by rw[a7,eG _<|Int.zero_le_ofNat 2];exact Int.natAbs_ne_zero.mp UD]at t0;obtain⟨f,k6,ef,hf⟩:=wi (s:=Io fu n) (I:=λdone st=>done=List.range done.length/\WI ps [.range 0 ps.length 2] done.length st) (R:=λz st=>z=.none/\(l5 ps).any (λp=>decide<|34∈p)=true) (oE (lA) (Y6 (lA)<|Y6 el<|pX<|lA) rfl<|mI<|show nC (.ty "range") [.int 0,.int ps.length,.int 2] [] [AO.list<|ps.map tx]=some (.ok<|.ref 1,[.list<|ps.map tx,.range 0 ps.length 2])from by rfl')
   ⟨rfl,by simp only[jX];rfl,rfl,λi hi=>absurd hi<|kN i⟩
   (λd st qq=>by obtain⟨_,W⟩:=qq;simp only[W.hH];exact Hy rfl (by grind) (dM _)<|dM _)
   (λdone w rest st hd qq=>by
    obtain⟨hr,W⟩:=qq;exists done,w,rest,st,_;have hw:(List.range<|(ps.length+2-1)/2)[done.length]?=some w:=by rw[hd,aS<|aI _,cD];rfl
    have sJ:done.length<(ps.length+2-1)/2:=by have:=(aU.mp hw).1;rwa[cG]at this
    replace hw:=(eT sJ)▸hw;obtain rfl:=aA hw;have hp:ps[2*done.length]?=some (ps[2*done.length]'(by omega)):=aP (by omega);obtain⟨f,k6,nO⟩:=Qn (by grind) (by have:=T6<|aR hp;exact lk<|aC this<|aC hss hz) W hp;refine⟨f,k6,nO.1,nO.2.imp (λqq=>⟨qq.1,?_,by rw[aG];exact qq.2⟩) λq9=>by exists z,(q_:q9);obtain⟨h1,h2,h3⟩:=q_;exact⟨z,h1,h2,iW.mpr ⟨_,aR<|F8 ps _|>.trans hp,b7 h3⟩⟩⟩;simp only[aG,fB,kM,<-hr])
  have e:∀z,sq (fr (cl fu n (ct<|.ty "range") [ct<|.int 0,cl fu n (ct<|.bi "len") [lo "strands"],ct<|.int 2]) "k"<|Io fu n) (P7 fu n) ⟨[.list<|ps.map tx],[("line",tx l),("strands",.ref 0)]⟩=z->Kz fu n ⟨[],[("line",tx l)]⟩=z:=λz hz=>lK e0<|lK (pF t0 rfl) hz;rcases hf with⟨rfl,hr,W⟩|⟨z,rfl,rfl,SZ⟩
  .replace W:=cG▸W;refine k9 ?_;refine(aL λSZ=>by obtain⟨p,lW⟩:=iW.mp SZ;exists i,(hi:cE lW.1);have hil:=(aU.mp hi).1;rw[Xw]at hil;rw[F8]at hi;exact W.hf i (by grind) p hi<|f0 lW.2)▸?_
   obtain⟨H',loc'⟩:=k6;have hH:=W.hH;have ZR:=W.hl;rw[ca<|by lia]at hH;subst hH;obtain⟨M',i,q8⟩:=Xn (ps:=wL pT ps) (by rw[Vf];grind) (by rw[wn];exact lk<|aC hss hz) (CS (λp hp=>Pj (by decide) hp) ps vZ) ZR;exact(e _<|lK ef q8.1)▸(.good rfl q8.2)
  .refine k9 ?_;rw[aH SZ,e _<|xM ef];exact .bad rfl
def SB6:SF:=pH (ct .none)<|qG "open_pos"
def SB5:SF:=sq (pH (bn (lo "pos") (ct<|.int 1) .Add)<|qG "start") SB6
def SB4:SF:=xp<|mq (lo "result") "append" [sl (lo "addr") (lo "start") (lo "open_pos")<|ct .none]
def SB3:SF:=sq (fi (tc (lo "start") (lo "open_pos") .NotEq) SB4 nx) SB5
def SB2:SF:=pH (lo "pos")<|qG "open_pos"
def SB1:SF:=fi (tc (lo "open_pos") (ct .none) .Is) SB2 SB3
def SB0:SF:=fi (tc (lo "ch") (ct<|.str "\"") .Eq) SB1 nx
theorem mj(st):nZ sG 0 true Bl nA st=SB0 st:=by rfl'
theorem QP(v)(st):mX Bl "pos" v st=qG "pos" v st:=by rfl'
theorem XK(v)(st):mX Bl "ch" v st=qG "ch" v st:=by rfl'
def u5(l:List Nat)(a i c:Nat)(o:Option Nat)(rs:List<|List Nat):List (List Nat)×Nat×Option Nat:=if c=34 then match o with
 |none=>(rs,a,some i)
 |some k=>(if a=k then rs else rs++[(l.drop a).take<|k-a],i+1,none)
 else(rs,a,o)
def opV:Option Nat->V
 |none=>.none
 |some k=>.int (k:Int)
theorem pt{i c:Nat}{rest:List Nat}(h:l.drop i=c::rest):(items<|lJ l).drop i=((i:Int),c)::(items<|lJ l).drop (i+1):=by
 have hi:i<l.length:=by have:=aV List.length h;simp only[eX]at this;exact c5 this
 have hc:l[i]=c:=by have:=aV (λl=>l[0]?) h;simp only[j1]at this;exact(aU.mp this).2
 refine a6 (dZ (by simp only[(by simp[items]:(items<|lJ l).length=l.length)];exact hi)) ?_;congr 1
 simp only[items];congr 1
 simp[hi,hc]
theorem Yp(h:l.drop i=[]):(items<|lJ l).drop i=[]:=by
 have hlen:(items<|lJ l).length=l.length:=by simp[items]
 rw[fG]at h⊢;exact le_of_eq_of_le hlen h
theorem jv{l:List Nat}{a i c:Nat}{rest:List Nat}(DR:a<=i)(h:l.drop i=c::rest):(l.drop a).take (i+1-a)=(l.drop a).take (i-a)++[c]:=by
 have hc:(l.drop a)[i-a]?=some c:=by rw[j1,Nat.add_sub_cancel' DR];exact(j1).symm.trans<|aV (·[0]?) h
 rw[Nat.sub_add_comm DR,List.take_add_one,hc];rfl
theorem vk{l:List Nat}(hi:i<=l.length)(DR:a<=i):((l.drop a).take<|i-a).length=i-a:=by rw[fQ,eX];exact jE<|Nat.sub_le_sub_right hi a
theorem Tm(rs)(p):jn [] (rs++[p])=jn [] rs++p:=by simp only[Do];simp
structure SL(l:List Nat)(a:Nat)(o:Option Nat)(loc:Loc):Prop where
 addr:lz loc "addr" =some (tx l)
 start:lz loc "start" =some (.int (a:Int))
 opn:lz loc "open_pos" =some (opV o)
 res:lz loc "result" =some (.ref 0)
theorem IY{a b:Nat}:pP .NotEq (.int (a:Int)) (.int (b:Int)) H=some (.bool (!(a==b))):=by
 refine a6 na ?_;congr 3
 rw[eO,a5,a5];exact j8
abbrev Fx(rs:List<|List Nat):Hp:=[.list<|rs.map tx]
theorem WR{b:Nat}(Fs:a<=b)(hb:b<=l.length)(hz:l.length<big):n7 (tx l) (.int (a:Int)) (.int (b:Int)) .none H=some (tx<|(l.drop a).take<|b-a,H):=by have e:=Hw l Fs hb;exact(de rfl rfl (by rw[e];simp[n5];lia)).trans<|by rw[e]
theorem JH{a:Nat}{H:Hp}(ha:a<=l.length)(hz:l.length<big):n7 (tx l) (.int (a:Int)) .none .none H=some (tx<|l.drop a,H):=by have e:=pe l ha;exact(de rfl rfl (by rw[e];simp[n5];exact Nat.sub_lt_of_lt hz)).trans<|by rw[e]
theorem Rn{a i c:Nat}{o:Option Nat}{loc:Loc}(S:SL l a o loc)(h1:lz loc "pos" =some (.int (i:Int)))(h2:lz loc "ch" =some (tx [c]))(hc:c<128)(hz:l.length<1000)(Ox:rs.length<1000)(hil:i<l.length)(ho:∀k,o=some k->a<=k/\k<i):
 ∃loc',SB0 ⟨Fx rs,loc⟩=some (.ok .next,⟨Fx (u5 l a i c o rs).1,loc'⟩)/\SL l (u5 l a i c o rs).2.1 (u5 l a i c o rs).2.2 loc':=by
 exists l,rs,a,i,c,o,loc,_;have kb:=tD;have t1:=mH (kY (st:=⟨Fx rs,loc⟩) h2) (lA (v:=tx [34])) (Gv (by exists d;intro hd;rw[aE.mp hd];exact hc) (by simp)).1;by_cases Oy:c=34
 .subst Oy;have mv:∀s(v:V),SL l s none<|put "open_pos" .none<|put "start" (.int s) loc:=λs v=>⟨(lL rfl).trans<|(lL rfl).trans S.addr,(lL rfl).trans lQ,lQ,(lL rfl).trans<|(lL rfl).trans S.res⟩;rcases o with _|k
  .exact⟨_,sZ t1<|sZ (mH (kY S.opn) (lA) rfl)<|mC<|kY h1,(lL rfl).trans S.addr,(lL rfl).trans S.start,lQ,(lL rfl).trans S.res⟩
  .exists k,_;have q8:=ho k rfl;have hop:=S.opn;have t2:=mH (kY (st:=⟨Fx rs,loc⟩) hop) (lA) (rfl:pP .Is (.int k) .none (Fx rs)=some (.bool false));have t3:=mH (kY (st:=⟨Fx rs,loc⟩) S.start) (kY hop) IY;have e5:∀H,SB5 ⟨H,loc⟩=some (.ok .next,⟨H,put "open_pos" .none<|put "start" (.int<|i+1) loc⟩):=λH=>lK (mC<|vF (kY h1) lA rfl)<|mC lA;by_cases hk:a=k
   .rw[show u5 l a i 34 (some k) rs=(rs,i+1,none)from by unfold u5;rw[aH rfl];dsimp only;rw[aH hk]];rw[a5.mpr hk]at t3;exact⟨_,sZ t1<|pF t2<|lK (pF t3 rfl)<|e5 _,mv (i+1) .none⟩
   .rw[show u5 l a i 34 (some k) rs=(rs++[(l.drop a).take<|k-a],i+1,none)from by unfold u5;rw[aH rfl];dsimp only;rw[aL hk]];rw[a7.mpr hk]at t3;have e6:SB4 ⟨Fx rs,loc⟩=_:=qB<|C9 (kY S.res) (nL rfl rfl) (pX<|F9 (kY S.addr) (kY S.start) (kY hop) lA rfl<|WR q8.1 (lk<|aC q8.2 hil)<|cK ‹_› ‹_›) rfl<|oK rfl (by rw[aF];exact cK ‹_› ‹_›);have e7:(Fx rs).set 0 (.list<|rs.map tx++[tx<|(l.drop a).take<|k-a])=Fx (rs++[(l.drop a).take<|k-a]):=by show[AO.list _]=[AO.list _];rw[bE];rfl
    rw[e7]at e6;exact⟨_,sZ t1<|pF t2<|lK (sZ t3 e6)<|e5 _,mv (i+1) .none⟩
 .refine(show u5 l a i c o rs=(rs,a,o)from aL Oy)▸?_;rw[show([c]==[34])=false from a7.mpr λe=>Oy (b0 e).1]at t1;exact⟨_,pF t1 rfl,S⟩
theorem Yi:qN (λst=>nZ sG 0 true Bl nA st) ((i,c)::r) ⟨H,loc⟩=(Cu<|SB0 ⟨H,put "ch" (tx [c])<|put "pos" (.int i) loc⟩).then λf st=>match f with
 |.next=>qN (λst=>nZ sG 0 true Bl nA st) r st
 |_=>none:=by
 conv=>lhs;dsimp only[qN]
 rw[QP];refine(lG.at rfl).trans ?_;rw[XK];refine(lG.at rfl).trans ?_;rw[mj];try rfl
set_option tactic.hygienic true in
theorem Qd(hl:∀c∈l,c<128)(hz:l.length<900):∀rest i rs a o loc,l.drop i=rest->i+rest.length=l.length->a<=i->(∀k,o=some k->a<=k/\k<i)->rs.length+rest.length<1000->SL l a o loc->
 ∃Oz a' o' loc',qN (λst=>nZ sG 0 true Bl nA st) ((items<|lJ l).drop i) ⟨Fx rs,loc⟩=some (.ok (),⟨Fx Oz,loc'⟩)/\SL l a' o' loc'/\a'<=l.length/\Oz.length<1000/\
  jn [] Oz++l.drop a'=rM (jn [] rs) ((l.drop a).take<|i-a) (o.map (· -a)) rest:=by
 exists l,[hl,hz];exists zr;induction zr with
 |nil=>
  exists i,rs,a,o,loc;intro hd hn DR ho Ox hS;refine⟨rs,a,o,loc,?_,hS,?_,by simpa using Ox,?_⟩
  .rw[Yp hd];rfl
  .simp only[fW]at hn;exact le_of_le_of_eq DR hn
  .have hi:i=l.length:=by simpa using hn
   rw[hi,eV<|by simp];induction o<;>rfl
 |cons c rest mB=>
  exists c,rest,[mB];exists i,rs,a,o,loc;intro hd hn DR ho Ox hS;simp only[bA]at hn Ox;have p0:l.drop (i+1)=rest:=by have:=aV List.tail hd;simpa using this
  obtain⟨loc',T,DS⟩:=Rn (⟨(lL rfl).trans<|(lL rfl).trans hS.addr,(lL rfl).trans<|(lL rfl).trans hS.start,(lL rfl).trans<|(lL rfl).trans hS.opn,(lL rfl).trans<|(lL rfl).trans hS.res⟩) ((lL rfl).trans lQ) lQ (hl c<|gJ<|hd▸cN) (lk hz) (bP Ox) (lk<|aN hn) ho;exists loc',_;have E3:=vk (Nat.le.intro hn) DR;have SX:=jv DR hd;have e0:qN (λst=>nZ sG 0 true Bl nA st) ((items<|lJ l).drop i) ⟨Fx rs,loc⟩=qN (λst=>nZ sG 0 true Bl nA st) ((items<|lJ l).drop<|i+1) ⟨Fx (u5 l a i c o rs).1,loc'⟩:=by rw[pt hd,Yi,T];rfl
  rw[e0];by_cases Oy:c=34
  .subst Oy;rcases o with _|k
   .exists _;obtain⟨Oz,a',o',Oo,lW⟩:=mB (i+1) rs a (some i) loc' p0 (by lia) (by omega) (λk hk=>by obtain rfl:=aA hk;exact⟨lk DR,by simp+arith only⟩) (by grind) DS;refine k9 ⟨Oz,a',o',Oo,lW.1,lW.2.1,lW.2.2.1,lW.2.2.2.1,lW.2.2.2.2.trans ?_⟩;rw[SX];simp[qo,E3]
   .exists k,_;have hq:=mB (i+1) (u5 l a i 34 (some k) rs).1 (i+1) none loc' p0 (by lia) (aI _) (λk hk=>nn hk) (by
     show(if a=k then rs else rs++[(l.drop a).take<|k-a]).length+rest.length<1000;split
     .grind
     .simp only[aG,fB];exact lk Ox) DS
    exists Oz,a',o',Oo,(q9:hq);refine⟨Oz,a',o',Oo,q9.1,q9.2.1,q9.2.2.1,q9.2.2.2.1,q9.2.2.2.2.trans ?_⟩;rw[cD];show rM (jn []<|if a=k then rs else rs++[(l.drop a).take<|k-a]) [] none rest=rM _ _ (some<|k-a) (34::rest);rw[jf,List.take_take,jE<|by grind];split
    .rename_i h;simp[h]
    .rw[Tm]
  .have e1:u5 l a i c o rs=(rs,a,o):=aL Oy;rw[e1]at DS⊢;obtain⟨Oz,a',o',Oo,q8⟩:=mB (i+1) rs a o loc' p0 (by lia) (by omega) (λk hk=>by have:=ho k hk;exact⟨lk this.1,lk this.2⟩) (bS ‹_›) DS;refine⟨Oz,a',o',Oo,q8.1,q8.2.1,q8.2.2.1,q8.2.2.2.1,q8.2.2.2.2.trans ?_⟩;rw[SX,jc _ _ _ _ Oy]
theorem ag(h1:lz st.loc "addr" =some (.str x))(h2:uF x=true/\x.length<big):Gf Bl r8 st=qN (λst=>nZ sG 0 true Bl nA st) (items x) st:=by unfold Gf;rw[(by rfl':Je r8=true),aH ⟨rfl,rfl⟩,show List.lookup ("addr" :Str) st.loc=some (.str x)from h1];exact aH h2
theorem KX:lB (lF fu<|n+1) fu 58 [u] [] H=mL (Vq fu n ⟨H,[("addr",u)]⟩):=
 w8 US (by rfl')
theorem NB(hz:l.length<big):nC (.bi "len") [tx l] [] H=some (.ok<|.int l.length,H):=by refine(by rfl':_=gv ((lJ l).length<big) (.int (lJ l).length) H).trans ?_;unfold gv;rw[n5,aH hz]
theorem aaM{n:Nat}{l:List Nat}(hl:∀c∈l,c<128)(hnb:∀c∈l,c≠92)(hz:l.length<900):∃G,lB (lF fu<|n+1) fu 58 [tx l] [] []=some (.ok<|tx<|mG l,G):=by
 exists fu,n,l,_;have kb:=tD;refine KX▸?_;have t0:∀b,decide (34∈l)=b->tc (ct<|.str "\"") (lo "addr") .NotIn ⟨[],[("addr",tx l)]⟩=some (.ok (!b),⟨[],[("addr",tx l)]⟩):=λb hb=>mH (lA) (kY rfl) (by show some (V.bool (!Ej (lJ l) (lJ [34])))=_;rw[Ad,hb])
 by_cases Oy:34∈l
 .exists _;have S0:SL l 0 none [("addr",tx l),("start",.int 0),("open_pos",.none),("result",.ref 0)]:=⟨rfl,rfl,rfl,rfl⟩;obtain⟨Oz,a',o',loc',q1,S,q3,q4,q5⟩:=Qd hl hz l 0 [] 0 none _ rfl (iH _ _) (aI _) (λk hk=>nn hk) (by simp;exact lk hz) S0;simp only[cD,List.take_zero,show jn [] []=[]from rfl]at q5;simp only[show none.map (· -0)=none from rfl,Gc l.length l []<|aI _]at q5;have RR:uF (lJ l)=true/\(lJ l).length<big:=by refine⟨?_,by rw[n5];omega⟩;unfold uF;rw[<-iX,tN,aX];intro c hc;simp[hl c hc,hnb c hc]
  have hsh:(mG l).length<=l.length:=by have h2:=yf l [] [] none;rw[Gc l.length l []<|aI _]at h2;simpa using h2
  have hq:=aV List.length q5;rw[aG,Po]at hq;have t6:=mH (op:=.Lt) (kY (st:=⟨Fx Oz,loc'⟩) S.start) (oE (fu:=fu) (n:=n) (lA) (pX<|kY S.addr) rfl<|mI<|NB<|by omega) (rfl:_=some (V.bool<|decide<|(a':Int)<l.length));have e8:∀ws:List<|List Nat,jn [] ws=mG l->ws.length<big->FQ fu n ⟨Fx ws,loc'⟩=some (.ok<|.ret<|tx<|mG l,⟨Fx ws,loc'⟩):=λws h1 h2=>by have hlw:=Po ws;rw[h1]at hlw;have:=rK<|nW (fu:=fu) (n:=n) (x:= "join") (lA (v:=tx []) (st:=⟨Fx ws,loc'⟩)) (Al rfl) (pX<|kY S.res) rfl<|mI<|jw rfl h2 (by show _+_*0<_;exact lk<|aC (aN hlw.symm)<|aC hsh<|aC kb hz);rw[h1]at this;exact this
  have e:∀z,FH fu n ⟨Fx Oz,loc'⟩=z->Vq fu n ⟨[],[("addr",tx l)]⟩=z:=λz hz=>lK (pF (t0 true<|b7 Oy) rfl)<|lK (mC lA)<|lK (mC lA)<|lK (mC<|rU zX<|by decide)<|lK (lG.at<|(ag S0.addr RR).trans q1) hz;by_cases ha:a'<l.length
  .rw[b7<|show(a':Int)<l.length by exact iM.mpr ha]at t6;have e7:FK fu n ⟨Fx Oz,loc'⟩=_:=qB<|nW (kY S.res) (nL rfl rfl) (pX<|F9 (kY S.addr) (kY S.start) lA lA rfl<|JH q3<|by omega) rfl<|mI<|oK rfl (by rw[aF];exact cK q4 kb);rw[(by show[AO.list _]=[AO.list _];rw[bE];rfl:(Fx Oz).set 0 (.list<|Oz.map tx++[tx<|l.drop a'])=Fx (Oz++[l.drop a']))]at e7;refine k9 ?_;exact(e _<|lK (sZ t6 e7)<|e8 _ (by simp[Tm,q5]) (by simp only[aG];exact bW q4 kb))▸(⟨_,rfl⟩)
  .rw[cQ<|show ¬(a':Int)<l.length by simp_all]at t6;simp only[show a'=l.length by exact cM (lk q3)<|lk<|dU ha,List.drop_length,bF]at q5;refine k9 ?_;simp[e _<|lK (pF t6 rfl)<|e8 _ q5<|cK q4 kb];exact⟨_,rfl⟩
 .rw[oW Oy];have e:Vq fu n ⟨[],[("addr",tx l)]⟩=_:=xM<|sZ (t0 false<|cQ Oy)<|rK<|kY rfl;exact e▸(⟨_,rfl⟩)
theorem xy:lB (lF fu<|n+1) fu 885 [u] [] H=mL (Sr fu n ⟨H,[("split_command",u)]⟩):=
 w8 OY (by rfl')
theorem OM{n:Nat}{H:Hp}{i:Nat}{ws:List (List Nat)}(hi:H[i]?=some (.list<|ws.map tx))(hw:∀w∈ws,pM.contains (lJ w)=true/\w.length<=2)(hn:ws.length<=3):lB (lF fu<|n+1) fu 885 [.ref i] [] H=some (.ok<|tx<|mT ws,H):=by
 exists fu,n,H,i,ws,_;have kb:=tD;have hq:(ws.map lJ).map qI=(ws.map rS).map lJ:=by simp only[bX];exact dN λw U=>W4 w
 have hs:=cu (f:=λw=>(rS w).length) (g:=λU=>12) λw h=>by have:=yZ w;have:=(hw w h).2;lia
 rw[show(ws.map λU=>12).sum=12*ws.length by simp only[List.map_const',List.sum_replicate_nat,kL]]at hs;have e:Ha qg Hj ⟨H,[("split_command",.ref i)]⟩=some (.ok<|tx<|mT ws,⟨H,[("split_command",.ref i)]⟩):=by
  dsimp only[Ha];rw[(by rfl':gz Hj=true),aH ⟨rfl,rfl⟩];show((DY H<|.ref i).bind λl=>(rN l.2).bind _)=_;rw[show DY H (.ref i)=some (i,ws.map tx)by show(lE _ _).map _=_;rw[qW hi];rfl];show(rN<|ws.map tx).bind _=_;rw[Ai];refine(aH<|And.intro ?a<|And.intro ?b ?d).trans ?c;case a=>exact aX.mpr λx hx=>by obtain⟨w,h,rfl⟩:=cA.mp hx;exact(hw w h).1
  case b=>exact hq▸(Aq (by simp only[bX,aF];show(ws.map λw=>(rS w).length).sum+_*1<_;lia))
  case d=>rw[aF];exact lk hn
  case c=>exact hq▸(aV (λx=>some (oV.ok<|V.str x,St.mk H [("split_command",.ref i)]))<|z0 [32] _)
 have e2:Sr fu n ⟨H,[("split_command",.ref i)]⟩=_:=rK e;simp[xy,e2];rfl
theorem CI:lB (lF fu<|n+1) fu 898 [u] [] H=mL (Ss fu n ⟨H,[("script",u)]⟩):=
 w8 LY (by rfl')
structure Rws(j:Nat)(RS:List<|Nat×List (List Nat))(H:Hp):Prop where
 hl:H[j]?=some (.list<|RS.map λq=>.ref q.1)
 hr:∀q∈RS,H[q.1]?=some (.list<|q.2.map tx)
theorem IX{n:Nat}{H:Hp}{i:Nat}{zs:List Int}{ob:Obj}(hi:H[i]?=some (.oR zs ob))(hz:zs.length<1000):∃G j RS,lB (lF fu<|n+1) fu 898 [.ref i] [] H=some (.ok<|.ref j,H++G)/\Rws j RS (H++G)/\H.length<=j/\RS.map (·.2)=Hk (pL zs):=by
 exists fu,n,H,i,zs,ob,_;have kb:=tD;have e0:pH (ls [ct<|.str "a",ct<|.str "b",ct<|.str "'",ct<|.str "\"",ct<|.str " ",ct<|.str ""]) (qG "pieces") ⟨H,[("script",.ref i)]⟩=some (.ok .next,⟨H++[.list<|oS.map tx],[("script",.ref i),("pieces",.ref H.length)]⟩):=by rfl'
 have gp:=mP (H:=H) (a:=.list<|oS.map tx);have gi:=lC (L:=[.list<|oS.map tx]) hi;have hG:∃G,H++[AO.list<|oS.map tx]=H++G:=⟨_,rfl⟩;generalize H++[AO.list<|oS.map tx]=Y at*;have es:n7 (.ref i) .none (.int 12) .none Y=some (.ref Y.length,Y++[.list<|(zs.take 12).map V.int]):=by rw[D8 (xs:=zs.map V.int) (lo:=none) (hi:=some 12) (st:=none) (by rw[gi];rfl) (by rw[aF];exact cK hz kb) rfl rfl rfl<|by simp,show pick (zs.map V.int) none (some 12) none=(zs.map V.int).take 12 from X8 (zs.map V.int) 12,<-List.map_take]
 have e1:=F9 (kY (x:= "script") (st:=⟨Y,[("script",.ref i),("pieces",.ref H.length)]⟩) rfl) lA lA lA (dj gi rfl) es;have GD:(zs.take 12).length<=12:=by rw[fQ];exact fV _ _
 have e2:=L2 (rs:=Tr) (y:= "x") (e:=bn (sb (lo "pieces")<|bn (lo "x") (ct<|.int 6) .Mod) (sb (lo "pieces")<|bn (bn (lo "x") (ct<|.int 6) .FloorDiv) (ct<|.int 6) .Mod) .Add) (g:=λz=>tx<|wordOf z) e1 (λL=>oZ<|lC mP) (lk<|aC GD kb) (λz U L loc' hc Y4=>by
  have gp:(Y++[.list<|(zs.take 12).map V.int]++L)[H.length]?=some (.list<|oS.map tx):=lC<|lC gp;generalize Y++[.list<|(zs.take 12).map V.int]++L=Y at*;have pc:∀y e,e ⟨Y,loc'⟩=some (.ok<|.int<|y.fmod 6,⟨Y,loc'⟩)->sb (lo "pieces") e ⟨Y,loc'⟩=some (.ok<|tx<|Bq y,⟨Y,loc'⟩):=λy e he=>by exists m,(q8:tt y);rw[q8.2]at he;exact tK (kY<|hc _ rfl rfl) he (qU gp)<|I6 gp (by show 6<big;exact c5 rfl) (by simp only[bD,Ag y q8.1 q8.2];rfl)
  have p1:=(v6 z).1;have p2:=(v6<|z.fdiv 6).1;exact vF (pc z _<|vF (kY Y4) lA rfl) (pc (z.fdiv 6) _<|vF (vF (kY Y4) lA rfl) lA rfl)<|Mi (lk<|aC p2<|aC p1 kb))
 have e3:=mC (x:= "words") e2;have hWl:(pL zs).length<=12:=by unfold pL;rw[aF];exact GD
 simp only[show(zs.take 12).map (λz=>tx<|wordOf z)=(pL zs).map tx by unfold pL;simp only[bX];rfl]at e3;have gw:=mP (H:=Y++[.list<|(zs.take 12).map V.int]) (a:=.list<|(pL zs).map tx);exists G,(q_:hG);obtain rfl:=q_;have hG:∃G',H++G++[.list<|(zs.take 12).map V.int]++[.list<|(pL zs).map tx]=H++G':=⟨_,by rw[aJ,aJ]⟩;have lw:lz (put "words" (.ref (H++G++[AO.list<|(zs.take 12).map V.int]).length) [("script",.ref i),("pieces",.ref H.length)]) "words" =some (.ref (H++G++[AO.list<|(zs.take 12).map V.int]).length):=lQ;unfold Hk;generalize pL zs=ws at*;have hb:(ws.map tx).length<big:=by rw[aF];exact lk<|aC hWl kb
 generalize put "words" (.ref (H++G++[AO.list<|(zs.take 12).map V.int]).length) [("script",.ref i),("pieces",.ref H.length)]=qT at*;generalize H++G++[.list<|(zs.take 12).map V.int]++[.list<|ws.map tx]=Z at*;have e4:=Ly (lA (v:=.ty "range")) (Y6 (lA (v:=.int 0))<|Y6 (Ly (lA (v:=.bi "len")) (pX<|kY (st:=⟨Z,qT⟩) lw) rfl<|Gl gw hb)<|pX<|lA (v:=.int 3)) rfl (show nC (.ty "range") [.int 0,.int (((ws.map tx).length:Nat):Int),.int 3] [] Z=some (.ok<|.ref Z.length,Z++[.range 0 (((ws.map tx).length:Nat):Int) 3])from by rfl');rw[aF]at e4;have e5:=K6 (rs:=Us) (y:= "k") (e:=sl (lo "words") (lo "k") (bn (lo "k") (ct<|.int 3) .Add)<|ct .none) (O:=λj=>AO.list<|(Mp ws j).map tx) (r:=List.range<|(ws.length+3-1)/3) (f:=λj=>V.int ((j*3:Nat):Int)) (ks:=[3]) e4 (λL=>Hy (c:=3) (lC mP) (lk hWl) (by decide)<|aI _) (by rw[cG];lia) (λj U L loc' hc Y4=>by have gw2:=lC (L:=L)<|lC (L:=[AO.range 0 (ws.length:Int) 3]) gw;refine(F9 (kY<|(hc _ rfl rfl).trans lw) (kY Y4) (vF (kY Y4) lA rfl) lA (qU gw2)<|D8 (xs:=ws.map tx) (lo:=some ((j*3:Nat):Int)) (hi:=some<|((j*3:Nat):Int)+3) (st:=none) (by rw[gw2];rfl) hb rfl rfl rfl<|by simp).trans ?_;rw[kn,<-List.map_drop,<-List.map_take,kL];rfl)
 have e6:Ss fu n ⟨H,[("script",.ref i)]⟩=_:=lK e0<|lK e3<|rK e5;exists G',(q_:hG);obtain rfl:=q_;simp only[CI,e6,cG,bX];generalize(ws.length+3-1)/3=m at*;refine⟨G'++([.range 0 ws.length 3]++(.list ((List.range m).map<|V.ref∘λi=>(H++G'++[AO.range 0 ws.length 3]).length+1+i)::(List.range m).map λj=>AO.list<|(Mp ws j).map tx)),(H++G'++[AO.range 0 ws.length 3]).length,(List.range m).map λj=>((H++G'++[AO.range 0 ws.length 3]).length+1+j,Mp ws j),?_,?_,by simp only[aG];exact by simp+arith only,by rw[bX];rfl⟩
 .rw[<-aJ,<-aJ];rfl
 .rw[<-aJ,<-aJ];generalize H++G'++[AO.range 0 ws.length 3]=Y at*;refine⟨by rw[bX];exact C4,?_⟩;exists q;intro hq;exists j,(q_:cA.mp hq);obtain⟨hj,rfl⟩:=q_;rw[aS<|by lia,show Y.length+1+j-Y.length=j+1 by exact cM (lk<|aN<|aY<|show List.length Y<=List.length Y+1+j from(by simp+arith only))<|lk<|aN (aY<|show List.length Y<=List.length Y+1+j from(by simp+arith only)).symm,kG,bD,eT<|cJ.mp hj];rfl
theorem Tj{sc:Str->List Str}(R:qA b A none rv po nf ns p sc H)(hx:(qF A.m rv po nf).lookup x=none)(hf:En x=some f)(hf2:f=124\/f=157)(h1:lz loc "sorter" =some (.ref A.s))(h2:lz loc y=some (.ref a))(h3:H[a]?=some (.list xs))(hz:xs.length<big)
 (h:rL (lF fu n) fu f (.ref A.s::xs) (H++[.bound f<|.ref A.s])=some (e,H')):Zm fu n (lo "sorter") (lo y) x ⟨H,loc⟩=some (e,⟨H',loc⟩):=by
  have hS:yJ x H (.ref A.s)=some A.s:=by show(iE H A.s).bind _=_;rw[D3 R.hs R.hd,bY,aH rfl];exact aH hx
  have hb:YN (H++[.bound f<|.ref A.s]) (.ref H.length)=some (H.length,f,.ref A.s):=by show(boE _ _).map _=_;delta boE;rw[mP];rfl
  have hl:DY (H++[.bound f<|.ref A.s]) (.ref a)=some (a,xs):=by show(lE _ _).map _=_;rw[qW<|lC h3];rfl
  show((lo "sorter" ⟨H,loc⟩).then _).or none=_;rw[lG.at<|kY h1];rw[hS];rw[hf];show((lo y ⟨H++[.bound f<|.ref A.s],loc⟩).then _).or none=_;rw[lG.at<|kY h2];rw[hl];rw[hb];dsimp only[Option.bind_some];rw[aH ⟨hz,hf2⟩,h];rfl
theorem LW{S:Bool->lR}(hz:r.length<1000):rL S fu 124 (v0::v1::r) H=oY S fu 124 [("self",v0),("node",v1),("predecessors",.ref H.length)] (H++[.tuple r]):=
 (show rL S fu 124 (v0::v1::r) H=if r.length<1000 then oY S fu 124 [("self",v0),("node",v1),("predecessors",.ref H.length)] (H++[.tuple r])else none by rfl').trans (aH hz)
theorem NK{S:Bool->lR}(hz:r.length<1000):rL S fu 157 (v0::r) H=oY S fu 157 [("self",v0),("nodes",.ref H.length)] (H++[.tuple r]):=
 (show rL S fu 157 (v0::r) H=if r.length<1000 then oY S fu 157 [("self",v0),("nodes",.ref H.length)] (H++[.tuple r])else none by rfl').trans (aH hz)
abbrev MI(rws:List uW)(y:Str):Int:=(uY (mJ rws) y:Int)
abbrev Wq(rws:List uW)(y:Str):List Str:=pV (mJ rws) y
theorem Cv{w:uW}:mJ (d++[w])=mJ d++w.2.2.map λz=>(w.2.1,z):=by unfold mJ;refine a6 gV ?_;simp
theorem KG{w:uW}{y:Str}:(if y=w.2.1 then MI d w.2.1+w.2.2.length else MI d y)=MI (d++[w]) y:=by
 revert d w y;exists d,w,y;delta MI uY;simp only[Cv,dR,aG];by_cases h:y=w.2.1
 .rw[aH h,h];have:(w.2.2.map λz=>(w.2.1,z)).filter (λe=>e.1==w.2.1)=w.2.2.map λz=>(w.2.1,z):=jI.mpr λe he=>by obtain⟨z,_,rfl⟩:=cA.mp he;exact bM _
  simp only[this,aF];push_cast;rfl
 .rw[aL h];have:(w.2.2.map λz=>(w.2.1,z)).filter (λe=>e.1==y)=[]:=b8.mpr λe he q=>by obtain⟨z,_,rfl⟩:=cA.mp he;exact h (eq_of_beq q).symm
  simp[this]
theorem MP{w:uW}:Wq d y++(w.2.2.filter (· ==y)).map (λU=>w.2.1)=Wq (d++[w]) y:=by delta Wq pV;simp only[Cv,dR,bE,List.filter_map,bX];rfl
theorem VV(hy:y∉pI d):MI d y=0/\Wq d y=[]:=by
 have h0:∀e∈mJ d,e.1≠y/\e.2≠y:=λe he=>⟨λq=>hy<|q▸(wC he).1,λq=>hy<|q▸(wC he).2⟩;constructor
 .simp only[show MI d y=uY (mJ d) y from rfl,tX.mpr λe he=>(h0 e he).1];rfl
 .delta Wq pV;rw[b8.mpr λe he q=>(h0 e he).2<|eq_of_beq q];rfl
theorem Ac:(pV E y).length<=E.length:=by unfold pV;rw[aF];exact cU _ _
structure YB(b:Nat)(A:B5)(H0:Hp)(d:List uW)(t:Nat)(uX:Loc)(st:St):Prop where
 rep:∃A',A'.s=A.s/\qA b A' none .none 0 0 (pI d) (MI d) (Wq d) st.H
 same:nR b H0 st.H
 lc:∀z:Str,(z== "rule")=false->lz st.loc z=lz uX z
theorem tz{n b:Nat}{A:B5}{H:Hp}{loc:Loc}{H0:Hp}{t:Nat}{rws:List uW}(RL:TG t rws H0)(hb:b=H0.length)(hz:uQ rws<64)(R:qA b A none .none 0 0 [] (λU=>0) (λU=>[]) H)(S:nR b H0 H)(h1:lz loc "sorter" =some (.ref A.s))(h2:lz loc "told" =some (.ref t)):
 ∃k6,fr (lo "told") "rule" (Ty fu<|n+3) ⟨H,loc⟩=some (.ok .next,k6)/\YB b A H0 rws t loc k6:=by
 exists fu,n,b,A,H,loc,H0,t,rws,_;have kb:=tD;exact z3 (I:=λd st=>YB b A H0 d t loc st) (kY h2) ⟨⟨A,rfl,R.congr (λU h=>nomatch h) λU h=>nomatch h⟩,S,λU U=>rfl⟩
  (λd st T=>oZ<|(T.same t (by rw[hb];exact nE RL.hl)).trans RL.hl)
  (λdone w rest st hd T=>by
   exists done,w,rest,st,_;exists A1,(q_:T.rep);obtain⟨es,R1⟩:=q_;have hw:w∈rws:=by exact hd▸(aW _<|.head _)
   have Ko:uQ rws=uQ done+(w.2.2.length+1+uQ rest):=by simp only[hd,tH];rfl
   have CY:=yX (d:=done);have UF:=z9 (d:=done);obtain⟨A2,H2,q8⟩:=HH (r:=w.2.2) (R1.app [.bound 124<|.ref A1.s]) (lk<|aC CY<|aC (aN Ko.symm) hz) (λy=>by have:=Ac (E:=mJ done) (y:=y);lia) λy hy=>VV hy;refine⟨_,_,qB<|Tj R1 rfl rfl (.inl rfl) (((lL rfl).trans<|T.lc "sorter" rfl).trans<|es▸h1) lQ ((T.same _<|(λq hq=>by rw[hb];exact nE (RL.hr q hq):∀q∈rws,q.1<b) w hw).trans<|RL.hr w hw) (by simp only[aF,bA];exact lk<|aC (aN Ko.symm)<|aC kb hz)<|(LW (by rw[aF];exact lk<|aC (aN Ko.symm) hz)).trans q8.1,.inl rfl,⟨A2,q8.2.1.trans es,?_⟩,λj hj=>(q8.2.2.2 j hj).trans<|(bO<|bJ hj R1.len).trans<|T.same j hj,λz hz=>(lL hz).trans<|T.lc z hz⟩;exact tM▸(q8.2.2.1.congr (λy U=>KG) λy U=>MP))
theorem Gj(h:lB (lF fu n) fu a [u] [] H=some q)(hk:∀S:Bool->lR,vV S fu (.top a) [u] [] H=lB S fu a [u] [] H):lS (lF fu n) fu (.top a) [u] [] H=some q:=rZ<|(hk _).trans h
theorem Aa{sc:Str->List Str}{rd:List Str}(R:qA b A none (.ref r) po nf ns p sc H)(hr:H[r]?=some (.list<|rd.map .str))(hz:rd.length<big)(h1:lz loc "sorter" =some (.ref A.s))(hq:(decide (nf<po)||!rd.isEmpty)=q):ml fu (n+1) (lo "sorter") "is_active" [] ⟨H,loc⟩=some (.ok<|.bool q,⟨H,loc⟩):=by have e:=QV (fu:=fu) (n:=n) R hr (by rw[aF];exact hz);simp only[kH,hq]at e;exact nW (kY h1) (Af R.hs R.hd rfl rfl) zX rfl<|Gj e λS=>by rfl'
theorem Rg{xs:List Str}(hi:H[i]?=some (.tuple<|xs.map .str))(hj:H[j]?=some (.tuple<|xs.map .str))(hs:∀x∈xs,PyData.strOk x=true):pP .Eq (.ref i) (.ref j) H=some (.bool true)/\pP .NotEq (.ref i) (.ref j) H=some (.bool false):=by
 have hc:(PyData.tuple<|xs.map .str).canLay0=true:=zH λx hx=>by exact hs x hx
 have:=A6 (yK hi<|qQ λU U=>rfl) (yK hj<|qQ λU U=>rfl) hc hc;rw[i9 _ hc]at this;exact this
theorem Ae{sc:Str->List Str}{loc:Loc}{r:Nat}{rd:List Str}(R:qA b A none (.ref r) po nf ns p sc H)(hr:H[r]?=some (.list<|rd.map .str))(o9:∀x∈ns,A.ld x≠r)(hb:b<=r)(Ol:∀x∈rd,x∈ns)(hz:rd.length<big)(h1:lz loc "sorter" =some (.ref A.s)):
 ∃H',ml fu (n+1) (lo "sorter") "get_ready" [] ⟨H,loc⟩=some (.ok<|.ref H.length,⟨H',loc⟩)/\qA b A none (.ref r) (po+rd.length) nf ns (λy=>if y∈rd then-1 else p y) sc H'/\H'[r]?=some (.list [])/\H'[H.length]?=some (.tuple<|rd.map .str)/\nR b H H':=by
 exists H',(q8:SQ (fu:=fu) (n:=n) R hr o9 hb Ol hz);exact⟨H',nW (kY h1) (Af R.hs R.hd rfl rfl) zX rfl<|Gj q8.1 λS=>by rfl',q8.2⟩
structure Rd(b s:Nat)(H0:Hp)(uX:Loc)(E:n4)(ns O Rc:List Str)(st:St):Prop where
 rep:∃A r p,A.s=s/\qA b A none (.ref r) (O.length:Int) (O.length:Int) ns p (pV E) st.H/\st.H[r]?=some (.list<|Rc.map .str)/\(∀x∈ns,A.ld x≠r)/\b<=r/\C3 E O Rc p
 same:nR b H0 st.H
 lc:∀z:Str,(z== "due")=false->lz st.loc z=lz uX z
theorem Q7{n b:Nat}{ns:List Str}{s a:Nat}{H0:Hp}{uX:Loc}{E:n4}{O R Rc:List Str}{st:St}(hn:ns.Nodup)(hE:∀e∈E,e.1∈ns/\e.2∈ns)(hz:E.length<100)(hN:ns.length<100)(hs:∀x∈ns,PyData.strOk x=true)(T:Rd b s H0 uX E ns O Rc st)(h1:lz uX "sorter" =some (.ref s))(ha:H0[a]?=some (.list<|R.map .str))(Fs:a<b)
 (o9:R≠[])(hR:nH E ns O R)(UG:nH E ns O Rc):∃k6 R',B9 fu (n+1) ⟨st.H,put "due" (.ref a) st.loc⟩=some (.ok .next,k6)/\Rd b s H0 uX E ns (O++R) R' k6/\nH E ns (O++R) R':=by
 exists fu,n,b,ns,s,a,H0,uX,E,O,R,Rc,st,_;exists _;exists g9,_;have kb:=tD;obtain rfl:=UG.uniq hn hR;obtain⟨⟨A,r,p,rfl,Q,hr,UH,UI,S⟩,same,lc⟩:=T;exists A,r,p,_;have hRn:∀x∈Rc,x∈ns:=λx hx=>(hR.mem.mp hx).1;have hlen:=rO (cH.mp S.nd).2.1 hRn;have hg:∀H,nR b H0 H->H[a]?=some (.list<|Rc.map .str):=λH h=>(h a Fs).trans ha;have l1:lz (put "due" (.ref a) st.loc) "sorter" =some (.ref A.s):=(lL rfl).trans<|(lc "sorter" rfl).trans h1;have l2:lz (put "due" (.ref a) st.loc) "due" =some (.ref a):=lQ;have lc':∀z:Str,(z== "due")=false->lz (put "due" (.ref a) st.loc) z=lz uX z:=λz hz=>(lL hz).trans<|lc z hz;have On:Rc.isEmpty=false:=by(rcases Rc with _|⟨_,_⟩;(exact absurd rfl o9);(rfl))
 obtain⟨H1,g1,Q1,nO⟩:=Ae Q hr UH UI hRn (by omega) l1;exists H1,_;have S1:=same.trans nO.2.2;have a2:=mH g1 (oE (fu:=fu) (n:=n+1) (lA) (pX<|kY l2) rfl<|mI<|U7 (hg H1 S1) (by rw[aF];omega)) (Rg (lC nO.2.1) mP λx hx=>hs x<|hRn x hx).2;have Q2:=Q1.app [.tuple<|Rc.map .str];have r2:=lC (L:=[.tuple<|Rc.map .str]) nO.1;have S2:=S1.app (L:=[.tuple<|Rc.map .str]) Q1.len;generalize H1++[AO.tuple<|Rc.map .str]=H2 at*;have a3:=mH (Aa (fu:=fu) (n:=n) (rd:=[]) Q2 r2 (by show 0<_;omega) l1 (by
  have:(O.length:Int)<O.length+Rc.length:=by have:=jJ.mpr o9;lia
  rw[b7 this];rfl)) (lA) (rfl:pP .IsNot (.bool true) (.bool true) H2=some (.bool false))
 obtain⟨H3,g3,Q3,lW⟩:=Ae (rd:=[]) Q2 r2 UH UI (bH _) (by show 0<_;omega) l1;exists H3,_;have a4:=mH g3 (C8 zX<|show 0<1000 by decide) (Rg (lC lW.2.1) mP<|bH _).2;have Q4:=Q3.app [.tuple []];have r4:=lC (L:=[.tuple []]) lW.1;have S4:=(S2.trans lW.2.2).app (L:=[.tuple []]) Q3.len;generalize H3++[AO.tuple []]=H4 at*;obtain⟨d1,J⟩:=ei S (p1:=λy=>if y∈[]then-1 else if y∈Rc then-1 else p y) (λy hy=>by rw[aL bG,aL hy]) (λy hy=>by rw[aL bG,aH hy]);obtain⟨H5,q9⟩:=JQ (rd:=[]) (Q4.app [.bound 157<|.ref A.s]) (lC r4) UH UI hRn (λx y hy=>(hE _<|v7.mp hy).1) (λdone w rest hd=>by have:=d1 done w rest hd;have:=Ac (E:=E) (y:=w);exact⟨(d1 done w rest hd).1,by lia⟩)
 have q8:=Rz hn hE S hR J;refine k9 ⟨_,_,lK (pF (Ii (mH (Aa Q hr (by omega) l1<|On▸(Bool.or_true _)) (lA) (rfl:pP .IsNot (.bool true) (.bool true) st.H=some (.bool false)))<|Ii a2 Tu) rfl)<|lK (pF (Ii a3<|Ii a4 Tu) rfl)<|qB<|Tj Q4 rfl rfl (.inr rfl) l1 l2 (hg H4 S4) (by rw[aF];omega)<|(NK (by rw[aF];exact lk<|aC hlen hN)).trans q9.1,⟨⟨A,r,_,rfl,?_,q9.2.2.1,UH,UI,q8.1⟩,λj hj=>(q9.2.2.2 j hj).trans<|(bO<|bJ hj Q4.len).trans<|S4 j hj,lc'⟩,q8.2⟩;rw[(by rw[aG];rfl:((O++Rc).length:Int)=O.length+Rc.length)];have:=q9.2.1;rw[show((O.length:Int)+Rc.length+[].length)=O.length+Rc.length from Int.add_zero _]at this;exact this
theorem AZ{v w:V}(h:H[i]?=some (.tuple [v,w])):vd NA ["rounds","stuck"] 2 (.ref i) ⟨H,loc⟩=some (.ok (),⟨H,put "stuck" w<|put "rounds" v loc⟩):=by unfold vd;rw[show qV (.ref i) 2 (St.mk H loc).H=some [v,w]from ql h rfl];rfl'
theorem Rm{n b:Nat}{ns:List Str}{s t:Nat}{H0:Hp}{uX:Loc}{E:n4}{O':List Str}{RS:List (Nat×List Str)}{st:St}(hn:ns.Nodup)(hE:∀e∈E,e.1∈ns/\e.2∈ns)(hz:E.length<100)(hN:ns.length<100)(hs:∀x∈ns,PyData.strOk x=true)(h1:lz uX "sorter" =some (.ref s))(h2:lz uX "rounds" =some (.ref t))(ht:t<b)
 (hl:H0[t]?=some (.list<|RS.map λq=>.ref q.1))(hr:∀q∈RS,H0[q.1]?=some (.list<|q.2.map .str)/\q.1<b)(HB:sY E ns [] (RS.map (·.2)) O'){Rc:List Str}(T:Rd b s H0 uX E ns [] Rc st)(UG:nH E ns [] Rc):
 ∃k6,fr (lo "rounds") "due" (B9 fu<|n+1) st=some (.ok .next,k6)/\∃O,Rd b s H0 uX E ns O [] k6:=by
 exists fu,n,b,ns,s,t,H0,uX,E,O',RS,st,Rc,[hn,hE,hz,hN,hs,h1,h2,ht,hl,hr,HB,T,UG];obtain⟨k6,e,O,Rc',rest,hd,hR,q9⟩:=z3 (s:=B9 fu<|n+1)
  (I:=λdone st=>∃O Rc rest,RS=done++rest/\sY E ns O (rest.map (·.2)) O'/\Rd b s H0 uX E ns O Rc st/\nH E ns O Rc) (kY<|(T.lc "rounds" rfl).trans h2) ⟨[],Rc,RS,rfl,HB,T,UG⟩
  (λd st qq=>by exists d,st,[qq];exists uZ,Os,rc,(q_:qq);obtain⟨DB,TY,T,z6_⟩:=q_;exact oZ<|(T.same t ht).trans hl)
  (λdone w rest st hd qq=>by
   exists done,w,rest,st,[hd,qq];exists O,Rc,aaN,(q_:qq);obtain⟨p0,hR,T,UG⟩:=q_;obtain rfl:aaN=w::rest:=List.append_cancel_left<|p0.symm.trans hd;have hw:=hr w<|hd▸(aW _<|.head _);cases hR with
   |cons o9 hR1 hR2=> obtain⟨k6,R',q8⟩:=Q7 hn hE hz hN hs T h1 hw.1 hw.2 o9 hR1 UG;exact⟨_,k6,q8.1,.inl rfl,_,R',rest,by simp only[hd,aJ];rfl,hR2,q8.2.1,q8.2.2⟩)
 have hr0:rest=[]:=by have:=aV List.length hd;simp only[aG]at this;exact cC.mp<|Eq.symm<|Nat.add_left_cancel this
 obtain rfl:=hr0.symm;cases hR with
 |nil h0=>
  have:Rc'=[]:=List.Perm.eq_nil (by have:=q9.2.perm;rwa[b8.mpr λx hx q=>by replace q:=(h0 x hx)▸q;cases q]at this)
  subst this;exact⟨k6,e,_,q9.1⟩
theorem ua{s:Nat}(T:Rd b s H0 uX E ns O [] st)(h1:lz uX "sorter" =some (.ref s)):∃k6,Tl fu (n+1) st=some (.ok<|.ret<|.bool true,k6)/\nR b H0 k6.H:=by exists _;have kb:=tD;obtain⟨H,loc⟩:=st;obtain⟨⟨A,r,p,rfl,Q,hr,UH,UI,S⟩,same,lc⟩:=T;have l1:=(lc "sorter" rfl).trans h1;obtain⟨H3,q8⟩:=Ae Q hr UH UI (bH _) (by show 0<_;omega) ((lL rfl).trans l1:lz (put "last" (.bool false) loc) "sorter" =some (.ref A.s));refine k9 ⟨_,lK (mC<|Aa Q hr (by show 0<_;omega) l1 (by rw[cQ<|kT _];rfl))<|rK<|EX (M3 (kY lQ) (lA)<|show _=some (V.bool true)from rfl) rfl<|M3 q8.1 (C8 zX<|show 0<1000 by decide) (Rg (lC q8.2.2.2.1) mP<|bH _).1,(same.trans q8.2.2.2.2).app q8.2.1.len⟩
theorem pf{n t:Nat}{H:Hp}{loc:Loc}{rws:List uW}(R:TG t rws H)(hs:∀q∈rws,∀x∈q.2.1::q.2.2,PyData.strOk x=true)(hz:uQ rws<64)(Au:5000<fu)(h2:lz loc "told" =some (.ref t)):
 ∃k6,lj fu (n+3) ⟨H,loc⟩=some (.ok<|.ret<|.bool true,k6)/\nR H.length H k6.H:=by
 exists fu,n,t,H,loc,rws,_;exists _;exists g9,_;have CY:=yX (d:=rws);have UF:=z9 (d:=rws);have Ct:=Dy (d:=rws);have hE:∀e∈mJ rws,e.1∈pI rws/\e.2∈pI rws:=λe he=>wC he;obtain⟨T,u,rI,RS,O',e1,ht,hR,hl,Ox⟩:=MR rfl R hs hz<|eH Au;exists T,u,rI,RS,O',_;have st:=W1 hR Ct hE;have e2:pH (cl fu (n+3) (ct<|.top 927) [lo "told"]) (vd NA ["rounds","stuck"] 2) ⟨H,loc⟩=some (.ok .next,⟨H++T,put "stuck" (.bool<|decide<|O'.length<(pI rws).length)<|put "rounds" (.ref<|H.length+rI) loc⟩):=
  (lG.at<|oE lA (pX<|kY h2) rfl<|Gj e1 λS=>by rfl').trans ((lG.at<|AZ<|oO rfl ht).trans rfl)
 have R1:TG t rws<|H++T:=⟨lC R.hl,λq hq=>lC<|R.hr q hq⟩;have hl1:(H++T)[H.length+rI]?=some (.list<|(RS.map λq=>(H.length+q.1,q.2)).map λq=>.ref q.1):=by rw[bX];exact oO rfl hl
 have hr1:∀q∈RS.map λq=>(H.length+q.1,q.2),(H++T)[q.1]?=some (.list<|q.2.map .str)/\q.1<(H++T).length:=λq hq=>by exists q,_;exists q,(q_:cA.mp hq);obtain⟨h,rfl⟩:=q_;have:=oO (H:=H) rfl<|Ox q h;exact⟨this,nE this⟩
 rw[show RS.map (·.2)=(RS.map λq=>(H.length+q.1,q.2)).map (·.2)by rw[bX];rfl]at hR;have S0:nR H.length H<|H++T:=nR.refl.app<|aI _;have ZE:H.length<=(H++T).length:=by rw[aG];exact aT (List.length H)<|List.length T
 have l1:∀z:Str,(z== "stuck")=false->(z== "rounds")=false->lz (put "stuck" (.bool<|decide<|O'.length<(pI rws).length)<|put "rounds" (.ref<|H.length+rI) loc) z=lz loc z:=λz h h'=>(lL h).trans<|lL h';have l2:lz (put "stuck" (.bool<|decide<|O'.length<(pI rws).length)<|put "rounds" (.ref<|H.length+rI) loc) "rounds" =some (.ref<|H.length+rI):=(lL rfl).trans lQ;have l3:lz (put "stuck" (.bool<|decide<|O'.length<(pI rws).length)<|put "rounds" (.ref<|H.length+rI) loc) "stuck" =some (.bool<|decide<|O'.length<(pI rws).length):=lQ;generalize hH1:H++T=H1 at*;exists A,H2,(zY:DM (fu:=fu) (n:=n+2) (b:=H1.length)<|aI _);exists st5,(sD:tz (fu:=fu) (n:=n) R1 rfl hz zY.2.1 zY.2.2 lQ<|(lL rfl).trans<|(l1 "told" rfl rfl).trans h2);obtain⟨H5,DT⟩:=st5;exists H5,DT,_;exists A5,(q_:sD.2.rep);obtain⟨es5,Q5⟩:=q_;have s5:=sD.2.same;have lc5:=sD.2.lc;obtain⟨r,rr,H6,nO⟩:=NJ (fu:=fu) (K:=64) Q5 (lk<|aC CY hz) (λx y hy=>(hE _<|v7.mp hy).1) (λx=>bC (Ac) (lk<|aC UF hz)) (by have:(pI rws).length*(64+1)<=64*65:=Nat.mul_le_mul (lk<|aC CY hz)<|aI _;exact lk<|aC this Au)
 exists r,rr,H6,_;have e7:=nW (x:= "prepare") (kY (st:=⟨H5,put "held" (.bool false) DT⟩)<|(lL rfl).trans<|(lc5 _ rfl).trans<|lQ.trans<|by rw[es5]) (Af Q5.hs Q5.hd rfl rfl) zX rfl nO.1;have e8:∃Y5,Rr (Tt fu<|n+3) "CycleError" (Ur fu<|n+3) ⟨H5,put "held" (.bool false) DT⟩=some (.ok .next,⟨H6,Y5⟩)/\lz Y5 "held" =some (.bool<|decide<|O'.length<(pI rws).length)/\∀z:Str,(z== "held")=false->lz Y5 z=lz DT z:=by
  rcases nO.2.2.2.2.2.2 with⟨rfl,hF⟩|⟨rfl,hC⟩
  .rw[cQ<|st.1 hF];exact⟨_,qh<|qB e7,lQ,λz hz=>lL hz⟩
  .rw[b7<|st.2 hC];exact⟨_,T9 (MF e7) (by decide+kernel)<|mC lA,lQ,λz hz=>(lL hz).trans<|lL hz⟩
 exists Y5,(lW:e8);have hq:=λq=>by have:=(A6 (H:=H6) (a:=.bool q) (c:=.bool q) rfl rfl rfl rfl).2;rwa[i9 _ rfl]at this
 have lzq:=λz h1 h2 h3=>(lW.2.2 z h1).trans<|(lc5 z h2).trans<|lL h3;have q9:=QJ (E:=mJ rws) Ct λx=>rfl;have l9:lz Y5 "sorter" =some (.ref A5.s):=(lW.2.2 _ rfl).trans<|(lc5 _ rfl).trans<|lQ.trans (by rw[es5]);obtain⟨ahI,e10,O,T10⟩:=Rm (st:=⟨H6,Y5⟩) Ct hE (lk<|aC UF hz) (lk<|aC CY hz) (λx hx=>by exists q,(q_:tL.mp hx);obtain⟨hq,h⟩:=q_;exact hs q hq x h) l9 ((lzq "rounds" rfl rfl rfl).trans l2) (nE hl1) hl1 hr1 hR ⟨⟨A5,rr,_,rfl,nO.2.1,nO.2.2.1,nO.2.2.2.1,nO.2.2.2.2.1,q9.1⟩,s5.trans nO.2.2.2.2.2.1,λU U=>rfl⟩ q9.2;exists adV,(q8:ua (fu:=fu) (n:=n+2) T10 l9);refine k9 ⟨adV,lK e2<|lK (mC<|oE (lA) zX rfl zY.1)<|lK sD.1<|lK (mC lA)<|lK lW.1<|lK (pF (mH (kY lW.2.1) (kY<|(lzq "stuck" rfl rfl rfl).trans l3)<|hq _) rfl)<|lK e10 q8.1,λj hj=>(q8.2 j<|bJ hj ZE).trans<|S0 j hj⟩
def t5(c:Nat)(l:List Nat):Nat:=(l.filter (· ==c)).length
theorem zC:t5 c (d::l)=(if d=c then 1 else 0)+t5 c l:=by
 unfold t5;by_cases h:d=c
 .rw[aH h,bR (p:=(· ==c))<|a5.mpr h,bA,iH]
 .rw[aL h,bN (p:=(· ==c)) λq=>h<|eq_of_beq q,dF]
theorem Pf:t5 c (l++m)=t5 c l+t5 c m:=by unfold t5;simp only[dR,aG]
theorem PV:∀T cur,(Wj cur T).length<=1+t5 10 T:=by
 intro zr;induction zr with
 |nil=> intro cur;dsimp only[Ed];split<;>simp
 |cons c r mB=>
  intro cur;have h2:=mB<|cur++[c];rw[zC];dsimp only[Ed,Lg];by_cases h:c=10
  .rw[aH h,aH h];split
   .exact Nat.le_add_left_of_le (mB [])
   .simp only[bA];exact Nat.sub_le_iff_le_add'.mp<|mB []
  .rw[aL h,aL h];exact lk h2
theorem XB:∀T cur,cur≠[]->Wj cur T≠[]:=by
 intro zr;induction zr with
 |nil=> intro cur h;dsimp only[Ed];rw[aL λq=>h<|cI.mp q];exact eL _ _
 |cons c r mB=>
  intro cur h;dsimp only[Ed,Lg];by_cases h':c=10
  .rw[aH h',aL λq=>h<|cI.mp q];exact eL _ _
  .rw[aL h'];exact mB _<|by simp
theorem ay(h:c∈wQ l):c∈l:=by
 obtain⟨d,hd,h⟩:=iY.mp h;by_cases e:d=39
 .replace h:=(aH e)▸h;simp at h
 .rw[aL e,aE]at h;rw[h];exact hd
theorem OD:∀T cur{x:List Nat}{d:Nat},x∈Wj cur T->d∈x->d∈cur\/d∈T:=by
 intro zr;induction zr with
 |nil=>
  intro cur x d hx hd;dsimp only[Ed]at hx;split at hx
  .simp at hx
  .rw[aE.mp hx]at hd;exact .inl<|ay hd
 |cons c r mB=>
  intro cur x d hx hd;dsimp only[Ed,Lg]at hx;by_cases h:c=10
  .replace hx:=(aH h)▸hx;split at hx
   .exact(mB [] hx hd).elim (λq=>nomatch q) λq=>.inr<|.tail _ q
   .rcases aK.mp hx with rfl|hx
    .exact .inl (ay hd)
    .exact(mB [] hx hd).elim (λq=>nomatch q) λq=>.inr<|.tail _ q
  .rw[aL h]at hx;exact(mB _ hx hd).elim (λq=>(aO.mp q).elim .inl λq=>.inr (by rw[aE.mp q];exact .head _)) λq=>.inr<|.tail _ q
theorem JI:∀l b,10∉l->t5 10 (Pt b l)<=t5 32 l:=by
 intro zr;induction zr with
 |nil=> intro _ _;exact aI _
 |cons c r mB=>
  intro b h;have h1:=mB (!b) λq=>h<|.tail _ q;have h2:=mB b λq=>h<|.tail _ q;rw[zC];dsimp only[G8,Gq];by_cases Fg:c=39
  .rw[aH Fg,zC,aL<|by decide];exact lk h1
  .rw[aL Fg];by_cases tv:b=false/\c=32
   .rw[aH tv,zC,aH rfl,aH tv.2];exact Nat.add_le_add_iff_left.mpr h2
   .rw[aL tv,zC,aL (λe=>h (e▸.head _):¬c=10)];exact lk h2
theorem wu:∀l b{d:Nat},d∈Pt b l->d∈l\/d=10:=by
 intro zr;induction zr with
 |nil=> intro _ d h;exact absurd h<|bG
 |cons c r mB=>
  intro b d h;dsimp only[G8,Gq]at h;by_cases Fg:c=39
  .rw[aH Fg]at h;rcases aK.mp h with h|h
   .exact .inl (h▸Fg▸(.head _))
   .exact(mB _ h).imp_left (.tail _)
  .replace h:=(aL Fg)▸h;by_cases tv:b=false/\c=32
   .rw[aH tv]at h;rcases aK.mp h with h|h
    .exact .inr h
    .exact(mB _ h).imp_left (.tail _)
   .rw[aL tv]at h;rcases aK.mp h with h|h
    .exact .inl (by rw[h];exact .head _)
    .exact(mB _ h).imp_left (.tail _)
theorem Xe(N):∀l,l.length<=N->(mG l).Sublist l:=by
 induction N with
 |zero=>exact λl h=>by rw[cC.mp<|Nat.le_zero.mp h];decide
 |succ N ih=>
  intro l h;rcases sM l with hf|⟨p,r,hp,rfl⟩
  .rw[oW hf];exact .refl _
  .rcases sM r with hf|⟨q,r',hq,rfl⟩
   .rw[uH hp hf];exact .refl _
   .rw[tW hp hq];refine(List.append_sublist_append_left p).mpr<|.cons _<|(ih r' ?_).trans<|(List.sublist_cons_self 34 r').trans<|List.sublist_append_right _ _;simp only[aG,bA]at h;exact lk h
theorem Rk(hc:c≠34):∃r',mG (c::r)=c::r':=by
 exists c,r,_;rcases sM (c::r)with hf|⟨p,s,hp,e⟩
 .exact⟨r,oW hf⟩
 .exists p,s,_;have:∃p',p=c::p':=by
   rcases p with _|⟨d,p'⟩
   .exact absurd (b0 e).1 hc
   .exact⟨p',by rw[(b0 e).1]⟩
  exists p',(q_:this);obtain rfl:=q_;refine e▸?_;rcases sM s with hf|⟨q,r',hq,rfl⟩
  .rw[uH hp hf];exact⟨_,rfl⟩
  .exact(tW hp hq)▸(⟨_,rfl⟩)
theorem ub{w:List Nat}(ps):∃c r,mT (w::ps)=c::r/\(c=97\/c=98\/c=39):=by
 exists w,ps,[];have key:∃c r,rS w=c::r/\(c=97\/c=98\/c=39):=by
  unfold rS;by_cases h:w.isEmpty=false/\Ax w=true
  .rw[aH h];rcases w with _|⟨c,r⟩
   .rcases h.1 with _|_
   .have h3:=(aQ _ _▸(h.2)).1;unfold Dt at h3;simp only[d8,a5]at h3;exact⟨c,r,rfl,h3.elim .inl λq=>.inr<|.inl q⟩
  .rw[aL h];exact⟨39,_,rfl,.inr<|.inr rfl⟩
 exists c,r,(q8:key);rcases ps with _|⟨p,ps⟩
 .exact⟨c,r,q8.1,q8.2⟩
 .refine⟨c,r++[32]++jn [32] ((p::ps).map rS),?_,q8.2⟩;show rS w++[32]++_=_;exact q8.1▸rfl
theorem q5:∀c∈[39,34,39,34,39],c∈mK:=by decide
theorem kg{w:List Nat}:t5 32 (rS w)<=w.length/\((∀c∈w,c∈mK)->∀c∈rS w,c∈mK):=by
 revert w;exists w;have h1:∀w:List Nat,t5 32 (s9 39 [39,34,39,34,39] w)<=w.length:=λw=>by
  induction w with
  |nil=>exact aI _
  |cons c w ih=>
   have e:s9 39 [39,34,39,34,39] (c::w)=(if c=39 then[39,34,39,34,39]else[c])++s9 39 [39,34,39,34,39] w:=rfl;simp only[e,Pf,bA];have:t5 32 (if c=39 then[39,34,39,34,39]else[c])<=1:=by
    by_cases h:c=39
    .rw[aH h];decide+kernel
    .rw[aL h];exact cU _ _
   exact lk<|aC this ih
 unfold rS;by_cases h:w.isEmpty=false/\Ax w=true
 .rw[aH h];exact⟨cU _ _,id⟩
 .rw[aL h];refine⟨?_,λhw c hc=>?_⟩
  .simp only[Pf];have:=h1 w;have e:t5 32 [39]=0:=by decide+kernel
   exact lk<|aC (aN e)<|aC (aN e) this
  .rcases aO.mp hc with hc|hc
   .rcases aO.mp hc with hc|hc
    .rw[aE.mp hc];decide
    .obtain⟨d,hd,hc⟩:=iY.mp hc;by_cases e:d=39
     .rw[aH e]at hc;exact q5 c hc
     .rw[aL e,aE]at hc;exact hc▸(hw d hd)
   .rw[aE.mp hc];decide
theorem wy:(∀w∈ws,(∀c∈w,c∈mK)/\w.length<=2)->t5 32 (mT ws)<=3*ws.length-1/\(mT ws).length<=13*ws.length/\∀c∈mT ws,c∈mK:=by
 induction ws using ng with
 |h0=>exact λU=>⟨aI _,aI _,bH _⟩
 |h1 w=> intro h;have h1:=h w<|.head _;have h2:=kg (w:=w);have h3:=yZ w;exact(⟨by lia,by lia,h2.2 h1.1⟩:t5 32 (rS w)<=3*1-1/\(rS w).length<=13*1/\_)
 |h2 w v r ih=>
  intro h;have h1:=h w<|.head _;have h2:=kg (w:=w);have h3:=yZ w;obtain⟨i1,q8⟩:=ih λx hx=>h x<|.tail _ hx;have e:mT (w::v::r)=rS w++[32]++mT (v::r):=rfl;simp only[e,Pf,aG];have e2:t5 32 [32]=1:=by decide+kernel
  rw[bA];refine⟨by simp only[bA]at*;lia,by show _+1+_<=_;lia,λc hc=>?_⟩;rcases aO.mp hc with hc|hc
  .rcases aO.mp hc with hc|hc
   .exact h2.2 h1.1 c hc
   .rw[aE.mp hc];decide
  .exact q8.2 c hc
theorem Hl(h:c∈mK):c<128/\c≠92/\c≠10:=by revert c;decide
structure EH(ws:List<|List Nat):Prop where
 l1:∀c∈mT ws,c∈mK
 l2:(mT ws).length<900
 s1:∀c∈mG (mT ws),c∈mK
 s2:(mG<|mT ws).length<900
 rd:oL .bl [] (mG<|mT ws)=vA (mG<|mT ws)
 wd:∀xs,vA (mG<|mT ws)=some xs->xs≠[]/\xs.length<=9/\∀x∈xs,∀c∈x,c<128
theorem XC(o9:ws≠[])(hl:∀w∈ws,(∀c∈w,c∈mK)/\w.length<=2)(hn:ws.length<=3):EH ws:=by
 exists ws,_;obtain⟨a1,a2,a3⟩:=wy hl;have hs:=Xe _ (mT ws)<|aI _;have hc:=(V6 _ (mT ws)<|aI _).1;have s1:=λc h=>a3 c<|hs.subset h;have hr:=eg s1 hc;refine⟨a3,by lia,s1,by have:=hs.length_le;lia,hr,?_⟩;exists xs;intro hx;simp only[<-hr,(Sy _ s1 hc).1]at hx;exists w,ps,(q_:gH o9);obtain rfl:=q_;exists c,r,(q_:ub (w:=w) ps);obtain⟨e,hh⟩:=q_;obtain⟨r',e'⟩:=Rk (c:=c) (by rcases hh with h|h|h<;>rw[h]<;>decide)
 exists r',_;have hcn:t5 32 (mG<|mT (w::ps))<=t5 32 (mT (w::ps)):=(hs.filter _).length_le;rw[<-e]at e';generalize mG (mT (w::ps))=l at*;unfold wf at hx;split at hx
 .exact nn hx
 split at hx
 .exact nn hx
 obtain rfl:=aA hx;have t1:=JI l false λq=>(Hl<|s1 10 q).2.2 rfl;refine⟨?_,?_,λx hx d hd=>?_⟩
 .subst e';have e2:∃b,Pt false (c::r')=c::Pt b r':=by
   rcases hh with rfl|rfl|rfl
   .exact⟨false,rfl⟩
   .exact⟨false,rfl⟩
   .exact⟨true,rfl⟩
  exists b,(e2:e2);rw[e2];dsimp only[Ed,Lg];rw[aL (by rcases hh with h|h|h<;>rw[h]<;>decide)]
  exact XB _ _<|by simp
 .have:=PV (Pt false l) [];grind
 .rcases OD _ _ hx hd with h|h
  .exact nomatch h
  .rcases wu _ _ h with h|h
   .exact(Hl<|s1 d h).1
   .rw[h];decide
section
variable{fu n t q:Nat}{H:Hp}{loc:Loc}{ws:List (List Nat)}{l:List Nat}{d:List uW}
theorem tI{a:Addr}{o:oV V}{G:Hp}(h:lB (lF fu n) fu a [tx l] [] []=some (o,G))(hk:∀S:Bool->lR,vV S fu (.top a) [tx l] [] H=(lB S fu a [tx l] [] []).map λp=>(y5 H.length p.1,H++p.2.map (AO.sh H.length))):lS (lF fu n) fu (.top a) [tx l] [] H=some (y5 H.length o,H++G.map (AO.sh H.length)):=
 rZ ((hk _).trans (by simp only[h];rfl))
theorem VF{k:Nat}:∀ws:List<|List Nat,(ws.map tx).map (V.sh k)=ws.map tx:=λws=>by refine a6 bX ?_;rfl
theorem Tz{G:Hp}{i k:Nat}{ws:List (List Nat)}(h:G[i]?=some (.list<|ws.map tx)):(G.map<|AO.sh k)[i]?=some (.list<|ws.map tx):=by simp only[bD,h];show some (AO.list<|(ws.map tx).map<|V.sh k)=_;rw[VF]
inductive yt(o:oV V)(W:Hp)(k:Nat):Option (List<|List Nat)->Prop
 |bad (h:o=.ok .none):yt o W k none
 |good {xs j} (h:o=.ok (.ref j)) (hj:k<=j) (hi:W[j]?=some (.list<|xs.map tx)):yt o W k<|some xs
theorem yt.app{o:oV V}{W:Hp}{k:Nat}{r:Option (List<|List Nat)}(h:yt o W k r)(L):yt o (W++L) k r:=by
 induction h with
 |bad h=>exact .bad h
 |good h hj hi=>exact .good h hj<|lC hi
set_option tactic.hygienic true in
theorem TA{o o':oV V}{W:Hp}{k k':Nat}{r:Option (List<|List Nat)}(h:yt o W k r)(h':yt o' W k' r)(hr:∀xs,r=some xs->∀x∈xs,∀c∈x,c<128):∃v v',o=.ok v/\o'=.ok v'/\pP .NotEq v v' W=some (.bool false):=by
 exists _;induction h with
 |bad h=>
  cases h' with
  |bad h'=> have:=(A6 (H:=W) (a:=.none) (c:=.none) rfl rfl rfl rfl).2;exact k9 ⟨_,_,h,h',this⟩
 |good h hj hi=>
  refine k9<|fo λg9 k9=>?_;rename_i xs j;cases h' with
  |good h' hj' qv=>
   have hc:(PyData.list<|xs.map λx=>.str<|lJ x).canLay0=true:=zH λx hx=>by exact qZ<|hr xs rfl x hx
   have:=(A6 (sK hi<|qQ λU U=>rfl) (sK qv<|qQ λU U=>rfl) hc hc).2;rw[i9 _ hc]at this;exact k9 ⟨_,_,h,h',this⟩
set_option tactic.hygienic true in
theorem DU(Au:1000<=fu)(hl:∀c∈l,c∈mK)(hz:l.length<900):∃o G,lS (lF fu<|n+7) fu (.top 922) [tx l] [] H=some (o,H++G)/\yt o (H++G) H.length (oL .bl [] l):=by
 exists fu,n,H,l,_;have W:=BH (n:=n) (H:=[]) Au hl hz;generalize oL .bl [] l=r at*;induction W with
 |bad h=>exact⟨_,_,tI h λS=>by rfl',.bad rfl⟩
 |good h hi=>rename_i ws G i;exact⟨_,_,tI h λS=>by rfl',.good (by show oV.ok (V.ref _)=_;rw[show[].length+i=i from dF i]) (aT _ _)<|oO rfl<|Tz hi⟩
theorem DV(hl:∀c∈l,c<128)(hz:l.length<900):∃o G,lS (lF fu<|n+1) fu (.top 915) [tx l] [] H=some (o,H++G)/\yt o (H++G) H.length (vA l):=by
 exists fu,n,H,l,_;have W:=OX (fu:=fu) (n:=n) hl hz;generalize vA l=r at*;induction W with
 |bad h=>exact⟨_,_,tI h λS=>by rfl',.bad rfl⟩
 |good h hi=>exact⟨_,_,tI h λS=>by rfl',.good rfl (aT _ _)<|oO rfl<|Tz hi⟩
structure Lw(b t:Nat)(H0:Hp)(m:Nat)(d:List uW)(st:St):Prop where
 told:lz st.loc "told" =some (.ref t)
 rls:TG t d st.H
 ne:∀q∈d,q.1≠t
 same:∀j<b,j≠t->st.H[j]?=H0[j]?
 sg:∀q∈d,∀x∈q.2.1::q.2.2,PyData.strOk x=true
 sz:uQ d<=9*m
 ln:d.length<=m
 bl:b<=st.H.length
set_option tactic.hygienic true in
theorem pq{b m:Nat}{H0:Hp}{st:St}(Au:1000<=fu)(L:Lw b t H0 m d st)(hm:m<100)(hq:H0[q]?=some (.list<|ws.map tx))(hqb:q<b)(hqt:q≠t)(F:EH ws)(hw:∀w∈ws,pM.contains (lJ w)=true/\(∀c∈w,c<128)/\w.length<=2)(hn:ws.length<=3):
 ∃k6 d',Im fu (n+7) ⟨st.H,put "words" (.ref q) st.loc⟩=some (.ok .next,k6)/\Lw b t H0 (m+1) d' k6:=by
 exists fu,n,t,q,ws,d,b,m,H0,st,_;exists _;exists g9,_;have kb:=tD;obtain⟨H,loc⟩:=st;exists H,loc,_;obtain⟨l0,R,o9,same,sg,sz,ln,bl⟩:=L;have g0:H[q]?=some (.list<|ws.map tx):=(same q hqb hqt).trans hq;have a1:∀c∈mT ws,c<128:=λc h=>(Hl<|F.l1 c h).1;have a2:∀c∈mG (mT ws),c<128:=λc h=>(Hl<|F.s1 c h).1;have lw:lz (put "words" (.ref q) loc) "words" =some (.ref q):=lQ;have lt:lz (put "words" (.ref q) loc) "told" =some (.ref t):=(lL rfl).trans l0;generalize put "words" (.ref q) loc=loc at*;have e1:=mC (x:= "line")<|oE (lA (v:=.top 885) (st:=⟨H,loc⟩)) (pX<|kY lw) rfl (Gj (OM (fu:=fu) (n:=n+6) g0 (λw h=>⟨(hw w h).1,(hw w h).2.2⟩) hn) λS=>by rfl');have lw1:lz (put "line" (tx<|mT ws) loc) "words" =some (.ref q):=(lL rfl).trans lw;have lt1:lz (put "line" (tx<|mT ws) loc) "told" =some (.ref t):=(lL rfl).trans lt;have ll1:lz (put "line" (tx<|mT ws) loc) "line" =some (tx<|mT ws):=lQ;generalize put "line" (tx<|mT ws) loc=qT at*;exists G2,(e2:aaM (fu:=fu) (n:=n+6) a1 (λc h=>(Hl<|F.l1 c h).2.1) F.l2);have lw2:lz (put "shorn" (tx<|mG<|mT ws) qT) "words" =some (.ref q):=(lL rfl).trans lw1;have lt2:lz (put "shorn" (tx<|mG<|mT ws) qT) "told" =some (.ref t):=(lL rfl).trans lt1;have ll2:lz (put "shorn" (tx<|mG<|mT ws) qT) "line" =some (tx<|mT ws):=(lL rfl).trans ll1;have ls2:lz (put "shorn" (tx<|mG<|mT ws) qT) "shorn" =some (tx<|mG<|mT ws):=lQ;have uj:pH (cl fu (n+7) (ct<|.top 58) [lo "line"]) (qG "shorn") ⟨H,qT⟩=some (.ok .next,⟨H++G2.map (AO.sh H.length),put "shorn" (tx<|mG<|mT ws) qT⟩):=mC (x:= "shorn")<|oE (lA (v:=.top 58) (st:=⟨H,qT⟩)) (pX<|kY ll1) rfl (tI e2 λS=>by rfl');generalize put "shorn" (tx<|mG<|mT ws) qT=rC at*;generalize G2.map (AO.sh H.length)=G2 at*;exists o3,G3,(q_:DU (fu:=fu) (n:=n) (H:=H++G2) Au F.s1 F.s2);obtain⟨e3,A3⟩:=q_;have hk3:H.length<=(H++G2).length:=by simp only[aG];exact by simp+arith only
 have hH3:∃G,(H++G2)++G3=H++G:=⟨_,aJ _ _ _⟩;generalize(H++G2)++G3=H3 at*;exists G,(q_:hH3);obtain rfl:=q_;exists G4,(e4:SY (fu:=fu) (n:=n+6) (H:=H++G) (i:=q) (lC g0) (λw h=>(hw w h).2.1) (λw h=>(hw w h).2.2) hn);exists G5,(e5:tq (fu:=fu) (n:=n+6)<|cK F.l2<|cR _ _);have e5':=tI (H:=H++G++G4) e5 λS=>by rfl'
 generalize G5.map (AO.sh (H++G++G4).length)=G6 at*;exists o7,G7,(q_:DV (fu:=fu) (n:=n+6) (H:=H++G++G4++G6) a2 F.s2);obtain⟨e7,A7⟩:=q_;simp only[<-F.rd]at A7;exists v,v',(q_:TA (((A3.app G4).app G6).app G7) A7 λxs hx=>(F.wd xs<|F.rd.symm.trans hx).2.2);obtain⟨rfl,rfl,hv⟩:=q_;have e3':=mC (x:= "row")<|oE (lA (st:=⟨H++G2,rC⟩)) (pX<|kY ls2) rfl e3;have lw3:lz (put "row" v rC) "words" =some (.ref q):=(lL rfl).trans lw2;have lt3:lz (put "row" v rC) "told" =some (.ref t):=(lL rfl).trans lt2;have ll3:lz (put "row" v rC) "line" =some (tx<|mT ws):=(lL rfl).trans ll2;have ls3:lz (put "row" v rC) "shorn" =some (tx<|mG<|mT ws):=(lL rfl).trans ls2;have Ze:lz (put "row" v rC) "row" =some v:=lQ;generalize put "row" v rC=TB at*;have t1:=mH (kY (st:=⟨H++G,TB⟩) ll3) (oE lA (pX<|kY lw3) rfl<|Gj e4 λS=>by rfl') (Gv a1 a1).2;have t2:=mH (kY (st:=⟨H++G++G4,TB⟩) ls3) (oE lA (pX<|kY ll3) rfl e5') (Gv a2 a2).2;simp only[bM]at t1 t2;have hW:∃G',H++G++G4++G6++G7=H++G':=⟨_,by rw[aJ,aJ,aJ]⟩;have A8:=((A3.app G4).app G6).app G7;generalize H++G++G4++G6++G7=W at*;exists G',(q_:hW);obtain rfl:=q_;have go:∀z,cg fu (n+7) ⟨H++G',TB⟩=z->Im fu (n+7) ⟨H,loc⟩=z:=λz hz=>lK e1<|lK uj<|lK (e3')<|lK (pF (Ii t1<|Ii t2<|Ii (mH (kY Ze) (oE lA (pX<|kY ls3) rfl e7) hv) Tu) rfl) hz;have gt:(H++G')[t]?=some (.list<|d.map λq=>.ref q.1):=lC R.hl;have htl:=nE R.hl;generalize hr:oL .bl [] (mG<|mT ws)=r at*;induction A8 with
 |bad h=> refine k9<|fo λg9 k9=>?_;rcases h with _|_;refine k9 ?_;refine⟨_,d,go _<|pF (mH (kY Ze) lA<|show pP .IsNot .none .none (H++G')=some (.bool false)from rfl) rfl,⟨lt3,⟨gt,λq hq=>lC<|R.hr q hq⟩,o9,λj hj TC=>?_,sg,(lk sz),dG ln,by simp[aG];lia⟩⟩;exact(bO<|bJ hj bl).trans<|same j hj TC
 |good h hj hi=>
  refine k9<|fo λg9 k9=>?_;rename_i xs j;obtain rfl:=oV.ok.inj h;obtain⟨x1,x2,x3⟩:=F.wd xs<|F.rd.symm.trans hr;exists x,r,(q_:gH x1);obtain rfl:=q_;have TC:j≠t:=(cX<|lk<|aC hj<|aC htl hk3);refine k9 ?_;refine⟨_,d++[(j,lJ x,r.map lJ)],go _<|sZ (mH (kY Ze) lA<|show pP .IsNot (.ref j) .none (H++G')=some (.bool true)from rfl)<|qB<|nW (kY lt3) (nL gt rfl) (pX<|kY Ze) rfl<|mI<|oK gt (by rw[aF];exact lk<|aC ln<|aC kb hm),⟨lt3,⟨?_,λq hq=>?_⟩,λq hq=>?_,λj hj TC=>?_,λq hq=>?_,?_,?_,by simp[eQ];lia⟩⟩
  .rw[bE];exact n0 gt
  .rcases aO.mp hq with hq|hq
   .exact m8 (o9 q hq).symm (lC<|R.hr q hq)
   .rw[aE.mp hq];exact(m8 TC.symm hi).trans<|bX▸rfl
  .rcases aO.mp hq with hq|hq
   .exact o9 q hq
   .rw[aE.mp hq];exact TC
  .exact((dB<|dQ TC).trans<|bO<|bJ hj bl).trans (same j hj TC)
  .rcases aO.mp hq with hq|hq
   .exact sg q hq
   .rw[aE.mp hq];exists y;intro hy;have:y∈(x::r).map lJ:=hy;exists z,(q_:cA.mp this);obtain⟨hz,rfl⟩:=q_;exact qZ<|x3 z hz
  .rw[tH];show _+((r.map lJ).length+1+0)<=_;rw[aF];simp only[bA]at x2;exact lk<|aC x2 sz
  .simp only[aG,fB];exact lk ln
end
theorem Xf:((mA 934).names.all λx=>x.2 !=.cell&&x.2 !=.free)=true:=by rfl'
set_option tactic.hygienic true in
theorem fj:∀{vs:List Value}{zs:List Int},IntsAre vs zs->lH (VC []) (zs.map V.int) vs:=by
 intro vs zs h;induction h with
 |nil=>exact .nil
 |cons=>rename_i ih;exact .cons ⟨_,rfl⟩ ih
theorem NF(P):((m5 P).all λp=>match p.2.cls with|.type T=>T != "list" |_=>true)=true:=by rfl'
theorem ND{l:List (Addr×Obj)}{a:Addr}(h:l.lookup a=some o):(a,o)∈l:=by
 induction l with
 |nil=>exact nn h
 |cons p l ih=>
  rw[cP]at h;rcases e:a==p.1 with _|_
  .have h:=e▸h;exact .tail _<|ih h
  .replace h:=e▸h;obtain rfl:=aA h;obtain rfl:=a5.mp e;exact .head _
theorem nY.but(T:nY w h)(k:∀b o,h.get? b=some o->o≠⟨.type "list",none,.seq vs n,#[]⟩->h'.get? b=some o):nY w h':=by
 have SJ:∀{a m},h.Ns a m->h'.Ns a m:=λq9=>by obtain⟨o,es,ep,ho,hd,r⟩:=q9;exact⟨o,es,ep,k _ _ ho (λq=>by replace hd:=q▸hd;injection hd),hd,r⟩
 obtain⟨h1,⟨mg,h2⟩,⟨mb,h3,h3'⟩,⟨mc,h4,h4'⟩,⟨ob,h5,h5',adX⟩,⟨ps,h6,h6'⟩⟩:=T;refine⟨λa o e=>k _ _ (h1 a o e) λq=>?_,⟨mg,SJ h2⟩,⟨mb,SJ h3,h3'⟩,⟨mc,SJ h4,h4'⟩,⟨ob,k _ _ h5 (λq=>by rw[q]at h5';exact absurd (Value.type.inj h5')<|by decide),h5',adX⟩,⟨ps,k _ _ h6 (λq=>by injection q with q_ p_;injection q_),h6'⟩⟩;have:=aX.mp (NF w.params) _<|ND e;rw[q]at this;exact absurd this<|show ¬("list" != "list")=true by decide
theorem Pu{H:Hp}(h:mL o=some (.ok<|.bool true,H)):∃st,o=some (.ok<|.ret<|.bool true,st)/\st.H=H:=by
 exists o,H,_;rcases o with _|p
 .exact nn h
 .obtain⟨q,st⟩:=p;exists q,st,_;rcases q with f|c
  .induction f with
   |ret v=>cases aA h;exact⟨st,rfl,rfl⟩
   |_=>cases h
  .injection(bQ<|aA h).1
theorem VJ(S)(fu)(H):lB S fu 934 [.ref 0] [] H=mL (nZ S fu false (mA 934) (lP 934) ⟨H,[("script",.ref 0)]⟩):=by rfl'
theorem AN(T:nY w h):isCodeTable h 880:=⟨884,_,_,T.K _ _<|Uo w.params,rfl,rfl,rfl⟩
theorem Zl{s:Shared}{a:Addr}{vs:List Value}{zs:List Int}{n:Nat}{R:Result->Shared->Prop}(T:nY w s.heap)(hg:s.gens= #[])(ho:s.heap.get? a=some ⟨.type "list",none,.seq vs.toArray n,#[]⟩)(hI:IntsAre vs zs)(qy:a≠1){fu:Nat}{N:Nat}(hN:N<=20)
 (run:∀ob,∃G,lB (lF fu N) fu 934 [.ref 0] [] [.oR zs ob]=some (.ok<|.bool true,.oR zs ob::G))
  (hR:∀s',OldK s.heap s'.heap->s'.os=s.os->AllBare s'.gens->R (.ok<|.ret<|.bool true) s'):codeAny (model PG w) callerA (.call (.ref 934) ⟨[.ref a],[]⟩) R s:=by
  exists w,s,a,vs,zs,n,R,fu,N,[T,hg,ho,hI,qy,hN,run,hR];have ha0:a≠0:=by
   rintro rfl
   obtain⟨mb,⟨o,es,ep,e,hd,_⟩,_⟩:=T.bi;simp only[show builtinsNs=0 from rfl,ho]at e;injection e with q_;subst q_;injection hd
  have o9:∀b o,s.heap.get? b=some o->o≠⟨.type "list",none,.seq vs.toArray n,#[]⟩->(hideAll s.heap [a]).get? b=some o:=λb o e q=>dL _ e (λhm=>by rw[aE]at hm;obtain rfl:=hm.symm;replace e:=ho▸e;injection e with q_;subst q_;exact q rfl)
  have TD:=T.but o9;obtain⟨hc,bs,hb,hl,uL⟩:=wG (ρ:=[a]) (a:=934) (vs:=[.ref 0]) rfl (.cons ⟨a,rfl,rfl⟩ .nil) .nil;exists fd,(q_:E2 (w:=w) hc);obtain⟨Vk,F,hs⟩:=q_;replace hb:=Vk▸hb;obtain⟨o,nO⟩:=F.obj;have nm:∀y∈fd.scope.names,y.2≠.cell/\y.2≠.free:=by have:=Xf;rw[<-hs]at this;simpa[aX]using this
  rw[<-hs]at uL;refine e9 (by decide) (T.K _ _ nO.1) nO.2 F.co F.gen F.body (qO T.K F.code) ?_;refine(cZ (M:=model PG w) T.K<|aA hb).here ?_;refine fF (λy hy=>(nm y hy).1) uL (λh' hn Ff=>?_) F.kind;have keep:∀b o,s.heap.get? b=some o->h'.get? b=some o:=λb o eb=>(Ff.2 b<|bI<|b9 eb).trans<|aZ _ eb;refine⟨T.lim.keeps keep,kJ ?_⟩;generalize he:newEnv fd.scope s.heap.objs.size fd.globals fd.closure (fd.qualname++ ".<locals>.") (some 934) fd.code none fd.builtins=env;have hkd:env.scope.kind=.function:=by exact he▸F.kind
  have E3:∀y:Str,env.cells.lookup y=none:=λy=>by rw[<-he];rw[F.ZF];rfl
  have Ou:env.locals=s.heap.objs.size:=by exact he▸rfl
  have w7:935<=env.locals:=by simp[Ou];exact sV T.K
  let rR:Cx:={w:=w,A:=callerA.deeper env,env:=env,ail:=hideAll s.heap [a],F:=[builtinsNs]}
  have B:k7 (2+4*N) rR:=by
   refine⟨TD,λf hf=>?_,λf hf=>?_,?_,?_,hkd,by show env.globals=_/\env.builtins=_;exact he▸F.gl⟩
   .rw[aE]at hf;subst hf;exact WZ w.params
   .rw[aE]at hf;obtain rfl:=hf.symm;obtain⟨mb,⟨o,es,ep,e,hd,_⟩,_⟩:=TD.bi;exact⟨o,es,ep,e,hd⟩
   .show 1+300+1+(2+4*N)<1000;exact lk<|aC hN<|aC hN<|aC hN hN
   .show 4+3+20*(2+4*N)<9000;lia
  exists Gr,(Yy:run ⟨.type "list",none,.seq vs.toArray n,#[]⟩);rw[VJ]at Yy;obtain⟨pA,lW⟩:=Pu Yy;have lY:kZ rR [a] ⟨[.oR zs ⟨.type "list",none,.seq vs.toArray n,#[]⟩],[("script",.ref 0)]⟩ {s with heap:=h',toks:=s.toks+bs.length}:=by
   refine⟨⟨rfl,by simp,λi b ao e1 e2=>?_,λb hb=>?_,⟨λb o e=>⟨o,keep _ _<|dS _ e,.refl _ _⟩,λf hf o e=>?_⟩⟩,⟨⟨_,by rw[show rR.env.locals=s.heap.objs.size from Ou];exact hn,λy hy=>?_⟩,?_,λhm=>?_,(λy a hy=>by rw[show rR.env.cells.lookup y=none from E3 y]at hy;exact nn hy),(λy a hy=>by rw[show rR.env.cells.lookup y=none from E3 y]at hy;exact nn hy),λy hy=>?_,(λy a hy=>by rw[show rR.env.cells.lookup y=none from E3 y]at hy;exact nn hy),w7⟩,by have:1=bs.length:=hl.length;lia⟩
   .induction i with
    |zero=>obtain rfl:=aA e1;injection e2 with q_;subst q_;exact⟨_,keep _ _ ho,rfl,vs.toArray,n,rfl,fj hI⟩
    |succ i=>exact nn e1
   .rw[aE]at hb;obtain rfl:=hb.symm;exact⟨eM _<|.head _,gY (Nat.one_le_iff_ne_zero.mpr ha0)<|dQ qy⟩
   .rw[aE]at hf;subst hf;obtain⟨mb,⟨o',es,ep,e',hd,_⟩,_⟩:=TD.bi;replace e:=e'▸e;obtain rfl:=aA e;exact⟨es,ep,hd⟩
   .exact pS (pW hl) y
   .rw[show rR.env.locals=s.heap.objs.size from Ou];rcases q:rR.ail.get? s.heap.objs.size with _|o
    .rfl
    .exact absurd (b9<|dS _ q) (dJ _)
   .rw[aE]at hm;exact bI (b9 ho)<|hm.symm.trans Ou
   .have hk:∀kd,env.kindOf y=some kd->kd≠.cell/\kd≠.free:=λkd q=>by exact nm _ (cF (by simp[<-q,<-he];rfl))
    rcases hy with hy|hy
    .exact absurd rfl (hk _ hy).1
    .exact absurd rfl (hk _ hy).2
  refine bL (vQ (LO Qp br N) (lP 934) false rR B (λU=>⟨rfl,.head _,by show env.scope.names.lookup _≠none->env.code=_;exact he▸F.cd,w7,[],Around.frames_deeper rfl,by show env.frame=some env.locals;exact he▸rfl,(λq=>by replace q:=hkd▸q;injection q),λe he=>absurd he<|bG⟩) [a] _ ⟨[.oR zs ⟨.type "list",none,.seq vs.toArray n,#[]⟩],[("script",.ref 0)]⟩ lY _ pA (by rw[<-lW.1];rw[(he▸hs:env.scope=mA 934)])) (λf mQ P=>?_) λU U P=>by induction P;contradiction
  obtain⟨fl,mD,e2,nM,hr,m2,oB⟩:=P;obtain rfl:=oV.ok.inj e2;obtain⟨y,rfl,rfl⟩:=hr;have main:∀b o,s.heap.get? b=some o->mQ.heap.get? b=some o\/(b=880/\o.cls=.none/\∃vs more,o.data=.fields vs/\mQ.heap.get? b=some {o with data:=.fields (vs++more)}):=λb o e=>by
   by_cases hb:o=⟨.type "list",none,.seq vs.toArray n,#[]⟩/\b=a
   .obtain⟨rfl,rfl⟩:=hb;obtain⟨o',rA,rfl,_⟩:=m2.sim.obj 0 b _ (mR nM rfl) (by rw[lW.2];rfl);exact .inl rA
   .have e':rR.ail.get? b=some o:=dL _ e λhm=>by rw[aE]at hm;obtain rfl:=hm.symm;replace e:=ho▸e;obtain rfl:=aA e;exact hb ⟨rfl,rfl⟩
    obtain⟨o',q9⟩:=m2.sim.keep.1 b o e';rcases q9.2 with rfl|⟨hm,hm2,_⟩|⟨hc,hb8,_,us,more,⟨hd,_⟩,rfl⟩
    .exact .inl q9.1
    .exact absurd (aE.mp hm) hm2
    .exact .inr ⟨hb8,hc,us,more,hd,q9.1⟩
  obtain⟨lg,q8⟩:=oB.gn;refine hR mQ ⟨λb o e=>?_,λb o e=>?_⟩ oB.os λy hy=>?_
  .rcases main b o e with h|⟨rfl,hc,us,more,hd,h⟩
   .exact .inl h
   .exact .inr (.inl ⟨AN T,hc,us,more,hd,h⟩)
  .rcases main b o e with h|⟨rfl,hc,us,more,hd,h⟩
   .exact⟨_,h⟩
   .exact⟨_,h⟩
  .simp only[q8.1,hg]at hy;exact q8.2.1 y<|by simpa using hy
theorem xP{K:Frag}{h:Heap}{N:Addr}{mg:Str->Option Value}{n:Str}{v:Value}(X:K.In h)(G:h.Ns N mg)(e:nsIn K N n=some (some v)):mg n=some v:=by
 exists K,h,N,mg,n,v,_;obtain⟨o,es,ep,ho,hd,q8⟩:=G;unfold nsIn at e;rcases q:K.lookup N with _|⟨c,d,dt,sl⟩
 .rw[q]at e;exact nn e
 have:=X _ _ q;obtain rfl:=aA<|ho.symm.trans this;obtain rfl:dt=_:=hd;rw[q]at e;dsimp only at e;rcases he:es.toList.find? (·.key.isStr n)with _|u
 .rw[he]at e;rcases hb:es.toList.any (·.refKey)with _|_
  .rw[hb]at e;injection e with e;injection e
  .rw[hb]at e;injection e
 .rw[he]at e;obtain rfl:=aA<|aA e;rw[<-q8.2];dsimp only[nsFind,findBy];exact Array.find?_toList▸he▸rfl
theorem dw(P):nsIn (m5 P) mainGlobals "law" =some (some<|.ref 934):=by rfl'
theorem Wc(P):nsIn (m5 P) mainGlobals "join" =some (some<|.ref 885):=by rfl'
theorem vb(P):nsIn (m5 P) mainGlobals "__builtins__" =some (some<|.ref 4):=by rfl'
theorem zi:((recsOf vw).any λd=>d.name== "join")=true:=by rfl'
def F6(o:Obj):Option Value:=match o.data with
 |.func fd=>some fd.code
 |.fields vs=>vs[11]?
 |_=>none
theorem KM(P):((m5 P).lookup 885).bind F6=some (.ref 884):=by rfl'
theorem PB(P):((m5 P).lookup 884).bind F6=some (.ref 880):=by rfl'
theorem Tf(K:(KF w).In h)(e:((m5 w.params).lookup a).bind F6=some v)(g:h.get? a=some o):F6 o=some v:=by
 rcases hl:(m5 w.params).lookup a with _|o'
 .replace e:=hl▸e;exact nn e
 .rw[hl]at e;replace g:=(K _ _ hl)▸g;obtain rfl:=aA g;exact e
theorem RE(K:(KF w).In h)(T:Top vw l me mg mb h):∃ps,h.get? 880=some {cls:=.none,data:=.fields ps}/\TriplesOk ps.toList:=by
 exists w,mg,mb,l,me,h,_;obtain⟨d,hd,hn⟩:=iW.mp zi;obtain⟨a,o,fd,c,P,e,g,k,q,i,t⟩:=T.tab d hd;simp only[LawfulBEq.eq_of_beq hn,xP K T.g<|Wc _]at e;cases e;have h5:=Tf K (KM _) g;simp only[F6,k]at h5;replace q:=(aA h5)▸q;injection q with q_;subst q_
 obtain⟨⟨o1,vs1,g1,_,k1,z1⟩,z2⟩:=t;have h4:=Tf K (PB _) g1;simp only[F6,k1]at h4;replace z1:=h4▸z1;cases z1;obtain⟨o2,vs2,_,_,_,_,_,_,_,op,_,_,_,_,_,_,_,g3,q8⟩:=i;exact⟨_,z2,q8.2.1⟩
theorem LK(K:(KF w).In h)(T:Top vw l me mg mb h):nY w h where
 K:=K
 glob:=⟨mg,T.g⟩
 bi:=⟨mb,T.b,T.builtins⟩
 lim:=T.nolimit
 bm:=by
  obtain⟨bm,ob,e,q8⟩:=T.bmain;replace e:=(xP K T.g<|vb _)▸e;rcases e with _|_
  exact⟨ob,q8.2.1,q8.2.2⟩
 tab:=RE K T
theorem CN{vs:List Value}{zs:List Int}(hL:h.IsList a vs.toArray)(hW:Well P h (.ref a)<|ofPy<|.list<|zs.map PyData.int)(hR:Reads h (.ref a) (.list<|zs.map PyData.int) as)(hl:∀x∈as,(x==sysModules)=false):(∃n,h.get? a=some ⟨.type "list",none,.seq vs.toArray n,#[]⟩)/\a≠1:=by
 exists P,h,a,vs,zs,as,_;exists o,(q_:hL);obtain⟨g,c,n,d⟩:=q_;exists n,_;refine⟨⟨n,?_⟩,?_⟩
 .cases hW with
  |list e _=>rw[e]at g;injection g with q_;subst q_;cases d;exact e
 .rintro rfl
  cases hR with
  |list=>exact Bool.noConfusion<|hl 1<|.head _
theorem abJ(hN:N<=20)(run:∀zs:List Int,zs.length<=63->∀ob,∃G,lB (lF fu N) fu 934 [.ref 0] [] [.oR zs ob]=some (.ok<|.bool true,.oR zs ob::G)):PySem.Challenge.rw_ny0438_01.Holds:=head (by
 intro w lX lD mg mb G Y fa o pm cd doc dV kV ho hd Yv hD hmg hg args vals as adY adZ hrd hwl w7;have TT:=G.T;have ad0:=w7;refine Ground.open G ?_;intro T B D TE TW;wrow_args adY adZ hrd hwl w7
 all_goals(first|refine enter_call ?_|refine enter_callW ?_)
 rename IntsAre _ _=>hI
 rename Heap.IsList _ _ _=>hL
 rename Well _ _ _ _=>w1
 rename Reads _ _ _ _=>r0
 rename ¬(_<_)=>hlen
 rcases((xP Y TT.g<|dw _).symm.trans hmg)with _|_;obtain⟨⟨n,ho1⟩,qy⟩:=CN hL w1 r0 λx hx=>ad0 x<|b6 _ hx;exact Zl (LK Y TT) hg ho1 hI qy hN (run _<|by lia) λs' hK UB RV=>⟨.inl ⟨.bool true,.bool true,[],rfl,raisesW_false<|by wrow_none_raised,.bool true,by wrow_post,unshared_nil⟩,hK,UB,RV⟩)
theorem BL(h:ws∈Hk (pL zs)):ws≠[]/\ws.length<=3/\∀w∈ws,pM.contains (lJ w)=true/\(∀c∈w,c∈mK)/\w.length<=2:=by
 exists zs,ws,_;exists k,(q_:cA.mp h);obtain⟨hk,rfl⟩:=q_;have hk:=(Nat.le_div_iff_mul_le<|c6 2).mp<|cJ.mp hk;refine⟨λe=>?_,by unfold Mp;rw[fQ];exact fV _ _,λw hw=>?_⟩
 .have:=fG.mp<|(List.take_eq_nil_iff.mp e).resolve_left nofun;lia
 .have:=gJ<|List.mem_of_mem_take hw;obtain⟨z,_,rfl⟩:=cA.mp this;exact⟨QW z,vf z,(O4 z).1⟩
theorem cr:(Hk<|pL zs).length<=4:=by delta Hk pL;rw[aF,cG,aF,fQ];exact Nat.div_le_div_right<|i6 (fV 12 _) 2
theorem wq{fu n:Nat}(Au:5000<fu)(zs)(hz:zs.length<=63)(ob):∃G,lB (lF fu<|n+8) fu 934 [.ref 0] [] [.oR zs ob]=some (.ok<|.bool true,.oR zs ob::G):=by
 exists fu,n,zs,ob,[Au,hz];obtain⟨G,j,RS,e1,W,hj,HB⟩:=IX (H:=[AO.oR zs ob,.list []]) (i:=0) rfl (lk hz);have g1:([AO.oR zs ob,.list []]++G)[1]?=some (.list []):=rfl;have g0:([AO.oR zs ob,.list []]++G)[0]?=some (.oR zs ob):=rfl;generalize[AO.oR zs ob,.list []]++G=H0 at*;have hl:RS.length<=4:=by have:=aV List.length HB;rw[aF]at this;exact this▸cr
 obtain⟨k6,e2,d,L⟩:=z3 (g:=λq:Nat×List (List Nat)=>V.ref q.1) (s:=Im fu<|n+7) (I:=λdone st=>∃d,Lw H0.length 1 H0 done.length d st) (oE (lA (st:=⟨[AO.oR zs ob,.list []],[("script",.ref 0),("told",.ref 1)]⟩)) (pX<|kY (x:= "script") rfl) rfl<|Gj e1 λS=>by rfl')
  ⟨[],rfl,⟨g1,bH _⟩,bH _,λU U U=>rfl,bH _,aI _,aI _,aI _⟩
  (λdone st qq=>by obtain⟨d,L⟩:=qq;exact oZ<|(L.same j (nE W.hl) (by have:=hj;exact dQ<|bI hj)).trans W.hl)
  (λdone w rest st hd qq=>by
   obtain⟨d,L⟩:=qq;have hw:w∈RS:=by rw[hd];exact aW _<|.head _
   have q9:=BL<|(λq hq=>by exact HB▸fL hq:∀q∈RS,q.2∈Hk (pL zs)) w hw;have gw:=W.hr w hw;have ST:=aV List.length hd;simp only[aG]at ST;obtain⟨k6,d',e,L'⟩:=pq (Nat.le_of_add_left_le Au) L (lk<|aC (aN ST.symm) hl) gw (nE gw) (λe=>by simp only[e,g1]at gw;have:=liI<|aA gw;exact q9.1<|List.map_eq_nil_iff.mp this.symm) (XC q9.1 (λw h=>(q9.2.2 w h).2) q9.2.1) (λw h=>⟨(q9.2.2 w h).1,λc hc=>(Hl<|(q9.2.2 w h).2.1 c hc).1,(q9.2.2 w h).2.2⟩) q9.2.1
   exact⟨_,k6,e,.inl rfl,d',by exact aG▸L'⟩)
 obtain⟨DK,q8⟩:=pf L.rls L.sg (by have:=L.sz;lia) Au L.told;have e4:tj fu (n+7) ⟨[.oR zs ob],[("script",.ref 0)]⟩=_:=lK (mC<|rU zX<|by decide)<|lK e2 q8.1;have h0:=nE g0;have g3:=((q8.2 0<|bJ h0 L.bl).trans<|L.same 0 h0<|by decide).trans g0;simp[VJ,OU,e4];obtain⟨H3,l3⟩:=DK;rcases H3 with _|⟨a,G⟩
 .exact nn g3
 .obtain rfl:a=.oR zs ob:=aA g3;exact⟨G,rfl⟩
theorem law_holds:PySem.Challenge.rw_ny0438_01.Holds:=abJ (fu:=10000) (N:=8) (cR _ _) λzs hz ob=>wq (by simp) zs hz ob
end
end YO
theorem PySem.Challenge.cw_ny0438_01_holds : PySem.Challenge.rw_ny0438_01.Holds := by
  exact YO.law_holds
