import PyProof.Rows.All
import PyProof.FactsAll.bool
import PyProof.CodeObjX
import PyProof.StrLoop
import PyProof.EnumIter
import PyProof.EnumFor
import PyProof.EnumMake
import PyProof.FactsAll.set
import PyProof.RangeIter
import PyProof.WalksMore
import PyProof.RangeFor
import PyProof.Gen
import PyProof.GenArm
import PyProof.GenQ
import PyProof.WalksEnum
import PyProof.TupleOfGen
import PyProof.Rows.SetFrom
import Wide.Seal
import KE.IntText
import KE.KRevIter
import KE.KSetDisp
import Open.Tops
import Wide.FinOn
import OpenK.AllK
import Wide.All
import Lean
import PySem.Challenge.RW_ik0206_01
set_option Elab.async false
set_option maxRecDepth 1000000
set_option maxHeartbeats 8000000
set_option linter.all false
set_option bootstrap.genMatcherCode false
set_option compiler.extract_closed false
set_option genSizeOf false
namespace Mine.Internal
def ai:=@PySem.wpAny_bind
def aj:=@Option.some.inj
def ak:=@PySem.wpAny_pure
def ao:=@Nat.le_trans
def aq:=@List.mem_cons_of_mem
def au:=@List.length_append
def ay:=@List.getElem?_eq_some_iff
def az:=@PySem.Heap.get?_push_of_some
def aA:=@List.mem_singleton
def aB:=@List.length_cons
def aD:=@Nat.lt_of_le_of_lt
def aE:=@Nat.le_of_eq
def aF:=@PySem.Heap.get?_push_size
def aG:=@Bool.and_eq_true
def aH:=@decide_eq_true
def aJ:=@List.length_map
def aK:=@Nat.le_refl
def aL:=@beq_eq_false_iff_ne
def aM:=@Nat.le_of_lt_succ
def aO:=@List.getElem?_eq_getElem
def aP:=@PySem.wpAny_holding
def aQ:=@congrArg
def aR:=@beq_iff_eq
def aS:=@if_neg
def aT:=@List.mem_cons_self
def aU:=@List.map_cons
def aV:=@List.mem_cons
def aW:=@Nat.lt_of_lt_of_le
def aX:=@Nat.zero_add
def aY:=@List.mem_append_left
def aZ:=@Bool.and_eq_true_iff
def a_:=@if_pos
def bf:=@List.getElem?_append_left
def bg:=@List.mem_append
def bh:=@Array.length_toList
def bk:=@List.getElem?_map
def bq:=@decide_eq_true_eq
def bu:=@PySem.codeAny_builtin
def bw:=@Nat.le_of_not_lt
def bx:=@PySem.wpAny_of_eq
def bz:=@Bool.false_eq_true
def bA:=@PySem.plainId_quiet
def bB:=@List.getD_eq_getElem?_getD
def bC:=@Nat.le_of_lt
def bD:=@List.length_take
def bE:=@Nat.add_le_add_left
def bF:=@PySem.Heap.lt_size
def bG:=@PySem.Around.under_plainId
def bH:=@List.mem_range
def bI:=@Int.natCast_nonneg
def bJ:=@List.mem_of_getElem?
def bK:=@PySem.Heap.size_push
def bL:=@of_decide_eq_true
def bM:=@PySem.wpAny_newObj_type
def bO:=@PySem.wpAny_mono
def bP:=@List.drop_eq_getElem_cons
def bQ:=@PySem.wpAny_loadPart'
def bR:=@List.map_append
def bS:=@Nat.mul_le_mul_left
def bT:=@List.take_succ_eq_append_getElem
def bU:=@PySem.wpAny_call_entry
def bV:=@List.length_drop
def bW:=@PySem.builtinLookup_eq_fast
def bX:=@List.map_map
def bY:=@PySem.wpAny_setState_of
def bZ:=@List.all_eq_true
def b6:=@Nat.sub_le
def b7:=@Int.toNat_natCast
def b8:=@List.length_nil
def b9:=@Nat.lt_of_lt_of_eq
def b_:=@List.forIn_cons
def cg:=@Or.elim
def cj:=@PySem.wpAny_standAt
def ck:=@Nat.add_le_add
def cu:=@PySem.isSubtype_type
def cy:=@List.eq_nil_of_length_eq_zero
def cz:=@Bool.not_eq_true'
def cA:=@List.filter_cons_of_pos
def cB:=@List.filter_cons_of_neg
def cC:=@Nat.ne_of_lt
def cD:=@decide_eq_false
def cE:=@Int.ofNat_lt
def cF:=@Nat.add_le_add_right
def cG:=@PySem.wpAny_isInstance
def cH:=@Nat.min_le_right
def cI:=@Nat.min_eq_left
def cJ:=@List.length_set
def cK:=@List.append_nil
def cL:=@List.append_assoc
def cM:=@PySem.Heap.get?_update_self
def cN:=@Nat.ne_of_gt
def cO:=@beq_self_eq_true
def cP:=@PySem.typeLookup_type
def cQ:=@Nat.succ_le_succ
def cR:=@List.take_of_length_le
def cS:=@List.length_singleton
def cT:=@List.length_reverse
def cU:=@PySem.MeetsSeq3.plain_eq_loop
def cV:=@List.length_eq_zero_iff
def cW:=@PySem.wpAny_askSetting
def cX:=@List.getElem?_append_right
def cY:=@PySem.wpAny_callSpecial?_slot
def cZ:=@Nat.zero_lt_of_lt
def c8:=@List.nodup_append
def c9:=@Nat.zero_le
def c_:=@Nat.exists_eq_succ_of_ne_zero
def dc:=@List.mem_of_mem_take
def dg:=@Array.getElem?_eq_getElem
def dh:=@Nat.succ_add
def di:=@PySem.typeIs_str
def dm:=@List.drop_of_length_le
def dw:=@PySem.Heap.get?_update_other
def dz:=@Nat.le_antisymm
def dB:=@List.foldl_cons
def dD:=@List.nil_append
def dF:=@List.mem_filter
def dG:=@PySem.seg_bind_wrap
def dH:=@Nat.le_succ
def dI:=@List.filter_eq_self
def dJ:=@List.mem_append_right
def dK:=@List.length_range
def dM:=@Nat.le_succ_of_le
def dO:=@Nat.pos_of_ne_zero
def dP:=@Nat.lt_irrefl
def dQ:=@List.take_length
def dR:=@PySem.entryFor_of_tree
def dS:=@PySem.wpAny_rule
def dU:=@List.map_congr_left
def dW:=@PySem.Heap.SameBut.update
def dX:=@PySem.wpAny_setEntries_of
def dY:=@Nat.lt_succ_of_lt
def dZ:=@Option.some.injEq
def d7:=@if_false
def d8:=@List.nodup_nil
def d9:=@Nat.succ_pos
def d_:=@Int.ofNat_le
def ee:=@Option.map_some
def eg:=@List.dropLast_concat_getLast
def ek:=@Nat.lt_add_of_pos_right
def eu:=@Nat.le_add_right
def ez:=@List.findIdx?_eq_some_iff_getElem
def eB:=@List.sum_cons
def eE:=@Nat.add_comm
def eF:=@PySem.wpAny_truthy_bool
def eG:=@List.size_toArray
def eH:=@Nat.lt_succ_of_le
def eK:=@PySem.F.plain_min_loop
def eL:=@PySem.F.plain_max_loop
def eN:=@PySem.Heap.SameBut.refl
def eO:=@PySem.arm_eval_Call_Name'
def eS:=@PySem.sizeLine_eq
def eU:=@PySem.wpAny_updateSeq
def eV:=@Option.isNone_iff_eq_none
def eW:=@Nat.sub_eq_zero_of_le
def eX:=@List.mem_iff_getElem?
def eY:=@List.getElem?_toArray
def eZ:=@List.take_append_drop
def e7:=@Nat.sub_add_cancel
def e8:=@Nat.lt_of_not_le
def e9:=@Bool.or_eq_false_iff
def e_:=@PySem.wpAny_seqItems
def fc:=@PySem.wpAny_tryCatch
def ff:=@PySem.wpAny_letGo
def fh:=@decide_eq_false_iff_not
def fj:=@List.foldl_append
def fk:=@List.nodup_cons
def fm:=@List.range_succ
def fq:=@Nat.add_sub_cancel'
def fu:=@List.take_succ_cons
def fy:=@Eq.symm
def fC:=@List.getElem?_concat_length
def fD:=@Option.map_eq_some_iff
def fE:=@Nat.add_assoc
def fF:=@PySem.wpAny_field
def fG:=@Nat.lt_succ_self
def fH:=@Option.getD_some
def fJ:=@Array.toList_inj
def fK:=@List.not_mem_nil
def fL:=@List.lookup_cons
def fM:=@Option.bind_some
def fN:=@List.pairwise_cons
def fO:=@PySem.Calls.spliced_cons
def fP:=@PySem.W.FB.slot_frozenset_contains
def fQ:=@Nat.mod_lt
def fS:=@Array.forIn_toList
def fT:=@List.map_singleton
def fU:=@List.getElem?_eq_none
def fV:=@Nat.le_of_sub_eq_zero
def fW:=@Nat.lt_of_sub_eq_succ
def fX:=@PySem.wpAny_specialOf
def fY:=@Nat.le_add_left
def fZ:=@List.cons.injEq
def f7:=@Int.le_trans
def f9:=@PySem.Calls.evalArgs_plain
def f_:=@List.dropLast_concat
def gb:=@PySem.wpAny_pyIter_list
def gc:=@PySem.wpAny_assign_Name
def gf:=@PySem.wpAny_setEpoch_of
def gg:=@PySem.Calls.loadGlobal_builtin
def gi:=@List.all_cons
def gj:=@List.eraseIdx_eq_take_drop_succ
def gk:=@Array.toList_append
def gm:=@List.filterMap_cons
def gn:=@List.getElem?_range
def gp:=@Nat.le_of_not_le
def gq:=@List.getElem?_cons_zero
def gr:=@PySem.Calls.loadGlobal_global
def gu:=@PySem.MeetsSeq3.entry_eq_loop
def gv:=@List.mem_reverse
def gy:=@Nat.add_sub_cancel_left
def gz:=@List.cons_append
def gA:=@PySem.strKind_is
def gB:=@Nat.not_lt
def gC:=@PySem.Calls.callWith_builtin
def gD:=@List.filter_append
def gF:=@PySem.wpAny_typeOf
def gG:=@PySem.wpAny_pyIter_rangeiter
def gH:=@List.findIdx?_cons
def gI:=@Nat.lt_of_le_of_ne
def gJ:=@PySem.Calls.Constant_str
def gK:=@of_decide_eq_false
def gM:=@Nat.not_lt_zero
def gO:=@PySem.wpAny_ite_false
def gP:=@PySem.codeAny_of_tree
def gQ:=@List.cons.inj
def gT:=@PySem.wpAny_attempt
def gU:=@Prod.mk.injEq
def gV:=@List.length_filter_le
def gW:=@List.dropLast_eq_take
def gX:=@List.contains_iff_mem
def gZ:=@List.flatten_cons
def g_:=@PySem.wpAny_richCompare_same_room
def h_:=@PySem.Calls.spliced_nil
def ia:=@Nat.lt_of_succ_lt
def ic:=@Array.getD_eq_getD_getElem?
def ie:=@Array.toList_push
def ig:=@Nat.sub_succ_lt_self
def ir:=@Int.not_le
def iu:=@Nat.add_lt_of_lt_sub
def iw:=@List.reverse_reverse
def iy:=@PySem.codeAny_call_builtin
def iz:=@PySem.wpAny_fieldsOf
def iC:=@List.take_left
def iD:=@List.contains_eq_mem
def iE:=@List.mem_map
def iF:=@Nat.lt_trans
def iG:=@List.getElem_mem
def iH:=@if_true
def iI:=@List.isEmpty_iff
def iJ:=@List.replicate_succ
def iK:=@PySem.wpAny_binaryOp_same
def iL:=@List.perm_singleton
def iM:=@PySem.signature?_of
def iN:=@List.filter_nil
def iO:=@List.sum_append
def iP:=@Nat.two_mul
def iQ:=@Int.toNat_lt
abbrev aa:=PySem.Value->PySem.Shared->Prop
abbrev af:=PySem.Shared->Prop
abbrev ah:=List Nat
section
set_option autoImplicit true
set_option relaxedAutoImplicit true
universe u
theorem lP{P0 P1:Prop}{G:Prop}(h:P0/\P1)(k:P0->P1->G):G:=let⟨h0,h1⟩:=h;k h0 h1
theorem w4{P0 P1 P2:Prop}{G:Prop}(h:P0/\P1/\P2)(k:P0->P1->P2->G):G:=let⟨h0,h1,h2⟩:=h;k h0 h1 h2
theorem o04{P0 P1 P2 P3:Prop}{G:Prop}(h:P0/\P1/\P2/\P3)(k:P0->P1->P2->P3->G):G:=let⟨h0,h1,h2,h3⟩:=h;k h0 h1 h2 h3
theorem o05{P0 P1 P2 P3 P4:Prop}{G:Prop}(h:P0/\P1/\P2/\P3/\P4)(k:P0->P1->P2->P3->P4->G):G:=let⟨h0,h1,h2,h3,h4⟩:=h;k h0 h1 h2 h3 h4
theorem o06{P0 P1 P2 P3 P4 P5:Prop}{G:Prop}(h:P0/\P1/\P2/\P3/\P4/\P5)(k:P0->P1->P2->P3->P4->P5->G):G:=let⟨h0,h1,h2,h3,h4,h5⟩:=h;k h0 h1 h2 h3 h4 h5
theorem o08{P0 P1 P2 P3 P4 P5 P6 P7:Prop}{G:Prop}(h:P0/\P1/\P2/\P3/\P4/\P5/\P6/\P7)(k:P0->P1->P2->P3->P4->P5->P6->P7->G):G:=let⟨h0,h1,h2,h3,h4,h5,h6,h7⟩:=h;k h0 h1 h2 h3 h4 h5 h6 h7
theorem o09{P0 P1 P2 P3 P4 P5 P6 P7 P8:Prop}{G:Prop}(h:P0/\P1/\P2/\P3/\P4/\P5/\P6/\P7/\P8)(k:P0->P1->P2->P3->P4->P5->P6->P7->P8->G):G:=let⟨h0,h1,h2,h3,h4,h5,h6,h7,h8⟩:=h;k h0 h1 h2 h3 h4 h5 h6 h7 h8
theorem m9{α:Sort u0}{P0:α->Prop}{G:Prop}(h:∃a,P0 a)(k:∀a,P0 a->G):G:=let⟨a,h0⟩:=h;k a h0
theorem jm{α:Sort u0}{P0 P1:α->Prop}{G:Prop}(h:∃a,P0 a/\P1 a)(k:∀a,P0 a->P1 a->G):G:=let⟨a,h0,h1⟩:=h;k a h0 h1
theorem uO{α:Sort u0}{P0 P1 P2:α->Prop}{G:Prop}(h:∃a,P0 a/\P1 a/\P2 a)(k:∀a,P0 a->P1 a->P2 a->G):G:=let⟨a,h0,h1,h2⟩:=h;k a h0 h1 h2
theorem Zb{α:Sort u0}{P0 P1 P2 P3:α->Prop}{G:Prop}(h:∃a,P0 a/\P1 a/\P2 a/\P3 a)(k:∀a,P0 a->P1 a->P2 a->P3 a->G):G:=let⟨a,h0,h1,h2,h3⟩:=h;k a h0 h1 h2 h3
theorem Za{α:Sort u0}{P0 P1 P2 P3 P4:α->Prop}{G:Prop}(h:∃a,P0 a/\P1 a/\P2 a/\P3 a/\P4 a)(k:∀a,P0 a->P1 a->P2 a->P3 a->P4 a->G):G:=let⟨a,h0,h1,h2,h3,h4⟩:=h;k a h0 h1 h2 h3 h4
theorem J_{α:Sort u0}{β:Sort u1}{P0:α->β->Prop}{G:Prop}(h:∃a b,P0 a b)(k:∀a b,P0 a b->G):G:=let⟨a,b,h0⟩:=h;k a b h0
theorem Vk{α:Sort u0}{β:Sort u1}{P0 P1:α->β->Prop}{G:Prop}(h:∃a b,P0 a b/\P1 a b)(k:∀a b,P0 a b->P1 a b->G):G:=let⟨a,b,h0,h1⟩:=h;k a b h0 h1
theorem qL{α:Sort u0}{β:Sort u1}{P0 P1 P2:α->β->Prop}{G:Prop}(h:∃a b,P0 a b/\P1 a b/\P2 a b)(k:∀a b,P0 a b->P1 a b->P2 a b->G):G:=let⟨a,b,h0,h1,h2⟩:=h;k a b h0 h1 h2
theorem DN{α:Sort u0}{β:Sort u1}{P0 P1 P2 P3:α->β->Prop}{G:Prop}(h:∃a b,P0 a b/\P1 a b/\P2 a b/\P3 a b)(k:∀a b,P0 a b->P1 a b->P2 a b->P3 a b->G):G:=let⟨a,b,h0,h1,h2,h3⟩:=h;k a b h0 h1 h2 h3
theorem SS{α:Sort u0}{β:Sort u1}{P0 P1 P2 P3 P4:α->β->Prop}{G:Prop}(h:∃a b,P0 a b/\P1 a b/\P2 a b/\P3 a b/\P4 a b)(k:∀a b,P0 a b->P1 a b->P2 a b->P3 a b->P4 a b->G):G:=let⟨a,b,h0,h1,h2,h3,h4⟩:=h;k a b h0 h1 h2 h3 h4
theorem Ov{α:Sort u0}{β:Sort u1}{γ:Sort u2}{P0 P1:α->β->γ->Prop}{G:Prop}(h:∃a b c,P0 a b c/\P1 a b c)(k:∀a b c,P0 a b c->P1 a b c->G):G:=let⟨a,b,c,h0,h1⟩:=h;k a b c h0 h1
theorem J0{α:Sort u0}{β:Sort u1}{γ:Sort u2}{P0 P1 P2:α->β->γ->Prop}{G:Prop}(h:∃a b c,P0 a b c/\P1 a b c/\P2 a b c)(k:∀a b c,P0 a b c->P1 a b c->P2 a b c->G):G:=let⟨a,b,c,h0,h1,h2⟩:=h;k a b c h0 h1 h2
theorem J9{α:Sort u0}{β:Sort u1}{γ:Sort u2}{P0 P1 P2 P3:α->β->γ->Prop}{G:Prop}(h:∃a b c,P0 a b c/\P1 a b c/\P2 a b c/\P3 a b c)(k:∀a b c,P0 a b c->P1 a b c->P2 a b c->P3 a b c->G):G:=let⟨a,b,c,h0,h1,h2,h3⟩:=h;k a b c h0 h1 h2 h3
theorem wF{α:Sort u0}{β:Sort u1}{γ:Sort u2}{P0 P1 P2 P3 P4:α->β->γ->Prop}{G:Prop}(h:∃a b c,P0 a b c/\P1 a b c/\P2 a b c/\P3 a b c/\P4 a b c)(k:∀a b c,P0 a b c->P1 a b c->P2 a b c->P3 a b c->P4 a b c->G):G:=let⟨a,b,c,h0,h1,h2,h3,h4⟩:=h;k a b c h0 h1 h2 h3 h4
theorem o41{α:Sort u0}{β:Sort u1}{γ:Sort u2}{δ:Sort u3}{P0:α->β->γ->δ->Prop}{G:Prop}(h:∃a b c d,P0 a b c d)(k:∀a b c d,P0 a b c d->G):G:=let⟨a,b,c,d,h0⟩:=h;k a b c d h0
theorem o42{α:Sort u0}{β:Sort u1}{γ:Sort u2}{δ:Sort u3}{P0 P1:α->β->γ->δ->Prop}{G:Prop}(h:∃a b c d,P0 a b c d/\P1 a b c d)(k:∀a b c d,P0 a b c d->P1 a b c d->G):G:=let⟨a,b,c,d,h0,h1⟩:=h;k a b c d h0 h1
theorem Yj{α:Sort u0}{β:Sort u1}{γ:Sort u2}{δ:Sort u3}{P0 P1 P2:α->β->γ->δ->Prop}{G:Prop}(h:∃a b c d,P0 a b c d/\P1 a b c d/\P2 a b c d)(k:∀a b c d,P0 a b c d->P1 a b c d->P2 a b c d->G):G:=let⟨a,b,c,d,h0,h1,h2⟩:=h;k a b c d h0 h1 h2
theorem o44{α:Sort u0}{β:Sort u1}{γ:Sort u2}{δ:Sort u3}{P0 P1 P2 P3:α->β->γ->δ->Prop}{G:Prop}(h:∃a b c d,P0 a b c d/\P1 a b c d/\P2 a b c d/\P3 a b c d)(k:∀a b c d,P0 a b c d->P1 a b c d->P2 a b c d->P3 a b c d->G):G:=let⟨a,b,c,d,h0,h1,h2,h3⟩:=h;k a b c d h0 h1 h2 h3
theorem o45{α:Sort u0}{β:Sort u1}{γ:Sort u2}{δ:Sort u3}{P0 P1 P2 P3 P4:α->β->γ->δ->Prop}{G:Prop}(h:∃a b c d,P0 a b c d/\P1 a b c d/\P2 a b c d/\P3 a b c d/\P4 a b c d)(k:∀a b c d,P0 a b c d->P1 a b c d->P2 a b c d->P3 a b c d->P4 a b c d->G):G:=let⟨a,b,c,d,h0,h1,h2,h3,h4⟩:=h;k a b c d h0 h1 h2 h3 h4
theorem Y_{α:Sort u0}{β:Sort u1}{γ:Sort u2}{δ:Sort u3}{P0 P1 P2 P3 P4 P5 P6:α->β->γ->δ->Prop}{G:Prop}(h:∃a b c d,P0 a b c d/\P1 a b c d/\P2 a b c d/\P3 a b c d/\P4 a b c d/\P5 a b c d/\P6 a b c d)(k:∀a b c d,P0 a b c d->P1 a b c d->P2 a b c d->P3 a b c d->P4 a b c d->P5 a b c d->P6 a b c d->G):G:=let⟨a,b,c,d,h0,h1,h2,h3,h4,h5,h6⟩:=h;k a b c d h0 h1 h2 h3 h4 h5 h6
theorem o51{α:Sort u0}{β:Sort u1}{γ:Sort u2}{δ:Sort u3}{ε:Sort u4}{P0:α->β->γ->δ->ε->Prop}{G:Prop}(h:∃a b c d e,P0 a b c d e)(k:∀a b c d e,P0 a b c d e->G):G:=let⟨a,b,c,d,e,h0⟩:=h;k a b c d e h0
theorem o52{α:Sort u0}{β:Sort u1}{γ:Sort u2}{δ:Sort u3}{ε:Sort u4}{P0 P1:α->β->γ->δ->ε->Prop}{G:Prop}(h:∃a b c d e,P0 a b c d e/\P1 a b c d e)(k:∀a b c d e,P0 a b c d e->P1 a b c d e->G):G:=let⟨a,b,c,d,e,h0,h1⟩:=h;k a b c d e h0 h1
theorem o54{α:Sort u0}{β:Sort u1}{γ:Sort u2}{δ:Sort u3}{ε:Sort u4}{P0 P1 P2 P3:α->β->γ->δ->ε->Prop}{G:Prop}(h:∃a b c d e,P0 a b c d e/\P1 a b c d e/\P2 a b c d e/\P3 a b c d e)(k:∀a b c d e,P0 a b c d e->P1 a b c d e->P2 a b c d e->P3 a b c d e->G):G:=let⟨a,b,c,d,e,h0,h1,h2,h3⟩:=h;k a b c d e h0 h1 h2 h3
theorem o64{α:Sort u0}{β:Sort u1}{γ:Sort u2}{δ:Sort u3}{ε:Sort u4}{ζ:Sort u5}{P0 P1 P2 P3:α->β->γ->δ->ε->ζ->Prop}{G:Prop}(h:∃a b c d e f,P0 a b c d e f/\P1 a b c d e f/\P2 a b c d e f/\P3 a b c d e f)(k:∀a b c d e f,P0 a b c d e f->P1 a b c d e f->P2 a b c d e f->P3 a b c d e f->G):G:=let⟨a,b,c,d,e,f,h0,h1,h2,h3⟩:=h;k a b c d e f h0 h1 h2 h3
theorem o72{α:Sort u0}{β:Sort u1}{γ:Sort u2}{δ:Sort u3}{ε:Sort u4}{ζ:Sort u5}{η:Sort u6}{P0 P1:α->β->γ->δ->ε->ζ->η->Prop}{G:Prop}(h:∃a b c d e f g,P0 a b c d e f g/\P1 a b c d e f g)(k:∀a b c d e f g,P0 a b c d e f g->P1 a b c d e f g->G):G:=let⟨a,b,c,d,e,f,g,h0,h1⟩:=h;k a b c d e f g h0 h1
theorem o74{α:Sort u0}{β:Sort u1}{γ:Sort u2}{δ:Sort u3}{ε:Sort u4}{ζ:Sort u5}{η:Sort u6}{P0 P1 P2 P3:α->β->γ->δ->ε->ζ->η->Prop}{G:Prop}(h:∃a b c d e f g,P0 a b c d e f g/\P1 a b c d e f g/\P2 a b c d e f g/\P3 a b c d e f g)(k:∀a b c d e f g,P0 a b c d e f g->P1 a b c d e f g->P2 a b c d e f g->P3 a b c d e f g->G):G:=let⟨a,b,c,d,e,f,g,h0,h1,h2,h3⟩:=h;k a b c d e f g h0 h1 h2 h3
theorem tZ{P0 P1 P2:Prop}(h0:P0)(h1:P1)(h2:P2):P0/\P1/\P2:=⟨h0,h1,h2⟩
theorem Zh{P0 P1 P2 P3:Prop}(h0:P0)(h1:P1)(h2:P2)(h3:P3):P0/\P1/\P2/\P3:=⟨h0,h1,h2,h3⟩
theorem Zg{P0 P1 P2 P3 P4:Prop}(h0:P0)(h1:P1)(h2:P2)(h3:P3)(h4:P4):P0/\P1/\P2/\P3/\P4:=⟨h0,h1,h2,h3,h4⟩
theorem Zf{P0 P1 P2 P3 P4 P5:Prop}(h0:P0)(h1:P1)(h2:P2)(h3:P3)(h4:P4)(h5:P5):P0/\P1/\P2/\P3/\P4/\P5:=⟨h0,h1,h2,h3,h4,h5⟩
theorem i08{P0 P1 P2 P3 P4 P5 P6 P7:Prop}(h0:P0)(h1:P1)(h2:P2)(h3:P3)(h4:P4)(h5:P5)(h6:P6)(h7:P7):P0/\P1/\P2/\P3/\P4/\P5/\P6/\P7:=⟨h0,h1,h2,h3,h4,h5,h6,h7⟩
theorem i09{P0 P1 P2 P3 P4 P5 P6 P7 P8:Prop}(h0:P0)(h1:P1)(h2:P2)(h3:P3)(h4:P4)(h5:P5)(h6:P6)(h7:P7)(h8:P8):P0/\P1/\P2/\P3/\P4/\P5/\P6/\P7/\P8:=⟨h0,h1,h2,h3,h4,h5,h6,h7,h8⟩
theorem jt{α:Sort u0}{P0 P1:α->Prop}(a:α)(h0:P0 a)(h1:P1 a):∃a,P0 a/\P1 a:=⟨a,h0,h1⟩
theorem sY{α:Sort u0}{P0 P1 P2:α->Prop}(a:α)(h0:P0 a)(h1:P1 a)(h2:P2 a):∃a,P0 a/\P1 a/\P2 a:=⟨a,h0,h1,h2⟩
theorem Yp{α:Sort u0}{P0 P1 P2 P3:α->Prop}(a:α)(h0:P0 a)(h1:P1 a)(h2:P2 a)(h3:P3 a):∃a,P0 a/\P1 a/\P2 a/\P3 a:=⟨a,h0,h1,h2,h3⟩
theorem i15{α:Sort u0}{P0 P1 P2 P3 P4:α->Prop}(a:α)(h0:P0 a)(h1:P1 a)(h2:P2 a)(h3:P3 a)(h4:P4 a):∃a,P0 a/\P1 a/\P2 a/\P3 a/\P4 a:=⟨a,h0,h1,h2,h3,h4⟩
theorem DO{α:Sort u0}{β:Sort u1}{P0:α->β->Prop}(a:α)(b:β)(h0:P0 a b):∃a b,P0 a b:=⟨a,b,h0⟩
theorem Ow{α:Sort u0}{β:Sort u1}{P0 P1:α->β->Prop}(a:α)(b:β)(h0:P0 a b)(h1:P1 a b):∃a b,P0 a b/\P1 a b:=⟨a,b,h0,h1⟩
theorem BR{α:Sort u0}{β:Sort u1}{P0 P1 P2:α->β->Prop}(a:α)(b:β)(h0:P0 a b)(h1:P1 a b)(h2:P2 a b):∃a b,P0 a b/\P1 a b/\P2 a b:=⟨a,b,h0,h1,h2⟩
theorem v9{α:Sort u0}{β:Sort u1}{P0 P1 P2 P3:α->β->Prop}(a:α)(b:β)(h0:P0 a b)(h1:P1 a b)(h2:P2 a b)(h3:P3 a b):∃a b,P0 a b/\P1 a b/\P2 a b/\P3 a b:=⟨a,b,h0,h1,h2,h3⟩
theorem J'{α:Sort u0}{β:Sort u1}{P0 P1 P2 P3 P4:α->β->Prop}(a:α)(b:β)(h0:P0 a b)(h1:P1 a b)(h2:P2 a b)(h3:P3 a b)(h4:P4 a b):∃a b,P0 a b/\P1 a b/\P2 a b/\P3 a b/\P4 a b:=⟨a,b,h0,h1,h2,h3,h4⟩
theorem i26{α:Sort u0}{β:Sort u1}{P0 P1 P2 P3 P4 P5:α->β->Prop}(a:α)(b:β)(h0:P0 a b)(h1:P1 a b)(h2:P2 a b)(h3:P3 a b)(h4:P4 a b)(h5:P5 a b):∃a b,P0 a b/\P1 a b/\P2 a b/\P3 a b/\P4 a b/\P5 a b:=⟨a,b,h0,h1,h2,h3,h4,h5⟩
theorem RK{α:Sort u0}{β:Sort u1}{γ:Sort u2}{P0:α->β->γ->Prop}(a:α)(b:β)(c:γ)(h0:P0 a b c):∃a b c,P0 a b c:=⟨a,b,c,h0⟩
theorem Vm{α:Sort u0}{β:Sort u1}{γ:Sort u2}{P0 P1:α->β->γ->Prop}(a:α)(b:β)(c:γ)(h0:P0 a b c)(h1:P1 a b c):∃a b c,P0 a b c/\P1 a b c:=⟨a,b,c,h0,h1⟩
theorem Ze{α:Sort u0}{β:Sort u1}{γ:Sort u2}{P0 P1 P2:α->β->γ->Prop}(a:α)(b:β)(c:γ)(h0:P0 a b c)(h1:P1 a b c)(h2:P2 a b c):∃a b c,P0 a b c/\P1 a b c/\P2 a b c:=⟨a,b,c,h0,h1,h2⟩
theorem ON{α:Sort u0}{β:Sort u1}{γ:Sort u2}{P0 P1 P2 P3:α->β->γ->Prop}(a:α)(b:β)(c:γ)(h0:P0 a b c)(h1:P1 a b c)(h2:P2 a b c)(h3:P3 a b c):∃a b c,P0 a b c/\P1 a b c/\P2 a b c/\P3 a b c:=⟨a,b,c,h0,h1,h2,h3⟩
theorem Ak{α:Sort u0}{β:Sort u1}{γ:Sort u2}{P0 P1 P2 P3 P4:α->β->γ->Prop}(a:α)(b:β)(c:γ)(h0:P0 a b c)(h1:P1 a b c)(h2:P2 a b c)(h3:P3 a b c)(h4:P4 a b c):∃a b c,P0 a b c/\P1 a b c/\P2 a b c/\P3 a b c/\P4 a b c:=⟨a,b,c,h0,h1,h2,h3,h4⟩
theorem Vl{α:Sort u0}{β:Sort u1}{γ:Sort u2}{δ:Sort u3}{P0:α->β->γ->δ->Prop}(a:α)(b:β)(c:γ)(d:δ)(h0:P0 a b c d):∃a b c d,P0 a b c d:=⟨a,b,c,d,h0⟩
theorem i42{α:Sort u0}{β:Sort u1}{γ:Sort u2}{δ:Sort u3}{P0 P1:α->β->γ->δ->Prop}(a:α)(b:β)(c:γ)(d:δ)(h0:P0 a b c d)(h1:P1 a b c d):∃a b c d,P0 a b c d/\P1 a b c d:=⟨a,b,c,d,h0,h1⟩
theorem i43{α:Sort u0}{β:Sort u1}{γ:Sort u2}{δ:Sort u3}{P0 P1 P2:α->β->γ->δ->Prop}(a:α)(b:β)(c:γ)(d:δ)(h0:P0 a b c d)(h1:P1 a b c d)(h2:P2 a b c d):∃a b c d,P0 a b c d/\P1 a b c d/\P2 a b c d:=⟨a,b,c,d,h0,h1,h2⟩
theorem i44{α:Sort u0}{β:Sort u1}{γ:Sort u2}{δ:Sort u3}{P0 P1 P2 P3:α->β->γ->δ->Prop}(a:α)(b:β)(c:γ)(d:δ)(h0:P0 a b c d)(h1:P1 a b c d)(h2:P2 a b c d)(h3:P3 a b c d):∃a b c d,P0 a b c d/\P1 a b c d/\P2 a b c d/\P3 a b c d:=⟨a,b,c,d,h0,h1,h2,h3⟩
theorem i45{α:Sort u0}{β:Sort u1}{γ:Sort u2}{δ:Sort u3}{P0 P1 P2 P3 P4:α->β->γ->δ->Prop}(a:α)(b:β)(c:γ)(d:δ)(h0:P0 a b c d)(h1:P1 a b c d)(h2:P2 a b c d)(h3:P3 a b c d)(h4:P4 a b c d):∃a b c d,P0 a b c d/\P1 a b c d/\P2 a b c d/\P3 a b c d/\P4 a b c d:=⟨a,b,c,d,h0,h1,h2,h3,h4⟩
theorem SV{α:Sort u0}{β:Sort u1}{γ:Sort u2}{δ:Sort u3}{ε:Sort u4}{P0:α->β->γ->δ->ε->Prop}(a:α)(b:β)(c:γ)(d:δ)(e:ε)(h0:P0 a b c d e):∃a b c d e,P0 a b c d e:=⟨a,b,c,d,e,h0⟩
theorem i63{α:Sort u0}{β:Sort u1}{γ:Sort u2}{δ:Sort u3}{ε:Sort u4}{ζ:Sort u5}{P0 P1 P2:α->β->γ->δ->ε->ζ->Prop}(a:α)(b:β)(c:γ)(d:δ)(e:ε)(f:ζ)(h0:P0 a b c d e f)(h1:P1 a b c d e f)(h2:P2 a b c d e f):∃a b c d e f,P0 a b c d e f/\P1 a b c d e f/\P2 a b c d e f:=⟨a,b,c,d,e,f,h0,h1,h2⟩
theorem i64{α:Sort u0}{β:Sort u1}{γ:Sort u2}{δ:Sort u3}{ε:Sort u4}{ζ:Sort u5}{P0 P1 P2 P3:α->β->γ->δ->ε->ζ->Prop}(a:α)(b:β)(c:γ)(d:δ)(e:ε)(f:ζ)(h0:P0 a b c d e f)(h1:P1 a b c d e f)(h2:P2 a b c d e f)(h3:P3 a b c d e f):∃a b c d e f,P0 a b c d e f/\P1 a b c d e f/\P2 a b c d e f/\P3 a b c d e f:=⟨a,b,c,d,e,f,h0,h1,h2,h3⟩
theorem i75{α:Sort u0}{β:Sort u1}{γ:Sort u2}{δ:Sort u3}{ε:Sort u4}{ζ:Sort u5}{η:Sort u6}{P0 P1 P2 P3 P4:α->β->γ->δ->ε->ζ->η->Prop}(a:α)(b:β)(c:γ)(d:δ)(e:ε)(f:ζ)(g:η)(h0:P0 a b c d e f g)(h1:P1 a b c d e f g)(h2:P2 a b c d e f g)(h3:P3 a b c d e f g)(h4:P4 a b c d e f g):∃a b c d e f g,P0 a b c d e f g/\P1 a b c d e f g/\P2 a b c d e f g/\P3 a b c d e f g/\P4 a b c d e f g:=⟨a,b,c,d,e,f,g,h0,h1,h2,h3,h4⟩
theorem i76{α:Sort u0}{β:Sort u1}{γ:Sort u2}{δ:Sort u3}{ε:Sort u4}{ζ:Sort u5}{η:Sort u6}{P0 P1 P2 P3 P4 P5:α->β->γ->δ->ε->ζ->η->Prop}(a:α)(b:β)(c:γ)(d:δ)(e:ε)(f:ζ)(g:η)(h0:P0 a b c d e f g)(h1:P1 a b c d e f g)(h2:P2 a b c d e f g)(h3:P3 a b c d e f g)(h4:P4 a b c d e f g)(h5:P5 a b c d e f g):∃a b c d e f g,P0 a b c d e f g/\P1 a b c d e f g/\P2 a b c d e f g/\P3 a b c d e f g/\P4 a b c d e f g/\P5 a b c d e f g:=⟨a,b,c,d,e,f,g,h0,h1,h2,h3,h4,h5⟩
theorem cps{P:Prop}(h:∀G:Prop,(P->G)->G):P:=h P id
@[elab_as_elim] theorem iR {α:Sort u} {a b:α} {motive:α->Prop} (h:a=b) (m:motive b):motive a:=h.symm▸m
@[elab_as_elim] theorem jC {α:Sort u} {a b:α} {motive:α->Prop} (h:b=a) (m:motive b):motive a:=h▸m
theorem bc{p G:Prop}(h:p->G)(k:¬p->G):G:=Classical.byCases h k
theorem kU{α β:Type}{f:α->β}{l:List α}{b:β}{G:Prop}(h:b∈l.map f)(k:∀a,a∈l->f a=b->G):G:=jm (iE.mp h) k
theorem o5{n i k:Nat}(h:n-i=k+1):n-(i+1)=k:=aQ Nat.pred h
theorem uu(i:Nat):(i-1) / 2<=i:=ao (Nat.div_le_self ..) (b6 ..)
theorem ny{s p:Nat}(h:s<p):(p-1) / 2<p:=aD (Nat.div_le_self ..) (Nat.sub_lt (cZ h) Nat.one_pos)
theorem AK{c p:Nat}(h:c=2*p+1\/c=2*p+2):(c-1) / 2=p:=h.elim (fun e=>e▸Nat.mul_div_cancel_left p (by decide)) fun e=>e▸Nat.mul_add_div (by decide) p 1
theorem TN{c p:Nat}(h:c=2*p+1\/c=2*p+2):2*p<c:=h.elim (fun e=>e▸fG _) fun e=>e▸dY (fG _)
theorem Ef{c p:Nat}(h:c=2*p+1\/c=2*p+2):p<c:=aD (Nat.le_mul_of_pos_left p (by decide)) (TN h)
theorem xO{i p:Nat}(h:1<=i)(e:(i-1) / 2=p):i=2*p+1\/i=2*p+2:=
 have k:2*p+(i-1)%2+1=i:=(aQ (· +1) (e▸Nat.div_add_mod (i-1) 2)).trans (e7 h)
 (Nat.mod_two_eq_zero_or_one (i-1)).elim (fun z=>.inl (z▸k).symm) fun z=>.inr (z▸k).symm
theorem QV{i p:Nat}(h:1<=i)(e:(i-1) / 2=p):2*p+1<=i:=TN (xO h e)
theorem UP{c p:Nat}(h:c=2*p+1\/c=2*p+2)(g:c<7):(p-1) / 2=0:=
 have k:p<3:=Nat.lt_of_mul_lt_mul_left (a:=2) (aW (TN h) (aM g))
 Nat.div_eq_of_lt (aD (Nat.pred_le_pred (aM k)) (by decide:2-1<2))
theorem XU{n p k c:Nat}(h:n<p+(k+1))(g:p<c):n<c+k:=aW h (ao (aE (dh p k).symm) (cF g k))
theorem lit{n a b:Nat}(h:n<=a)(g:a<=b:=by decide):n<=b:=ao h g
theorem rE{n a b:Nat}(h:n<a)(g:a<=b:=by decide):n<b:=aW h g
theorem vM{a b n:Nat}(h:a+(b+1)<=n):a+1+b<=n:=ao (aE (dh _ _)) h
theorem pD{a b n:Nat}(h:a+(b+1)<=n):a<n:=aW (ek (d9 _)) h
theorem Bd{n i:Nat}(h:i<n):((n-1-i:Nat):Int)=n-1-i:=by rw[Int.ofNat_sub (Nat.le_sub_one_of_lt h),Int.ofNat_sub (cZ h)];rfl
theorem SA{i:Nat}(h:i<32):31-(31-i)=i:=Nat.sub_sub_self (aM h)
theorem XW{i:Nat}(h:i<32):32-(31-i)=i+1:=(Nat.succ_sub (b6 31 i)).trans (aQ Nat.succ (SA h))
theorem XX{i:Nat}(h:i<32):∃k,32-i=k+1/\32-(k+1-1)=i+1/\31-(k+1-1)=i/\32-(i+1)=k:=⟨31-i,Nat.succ_sub (aM h),XW h,SA h,Nat.succ_sub_succ 31 i⟩
theorem Oj{p d m:Nat}(hp:0<p)(h:p+d<=m):p-1+(d+1)<=m:=by cases p with
 |zero=>contradiction
 |succ p=>exact ao (aE (dh p d).symm) h
theorem Rx{H L n:Nat}(q:H-L=n)(h:H<=n)(h0:¬ n=0):L=0:=(Nat.eq_zero_or_pos L).resolve_right fun hp=>
 (Nat.eq_zero_or_pos H).elim (fun e=>h0 (q.symm.trans (e▸Nat.zero_sub L))) fun hH=>absurd h (Nat.not_le.mpr (q▸Nat.sub_lt hH hp))
theorem aaF{d:Nat}(h:d<65536):(((0*16+d / 4096%16)*16+d / 256%16)*16+d / 16%16)*16+d%16=d:=by
 rw[Nat.zero_mul,aX,Nat.mod_eq_of_lt (Nat.div_lt_of_lt_mul h:d / 4096<16),(Nat.div_div_eq_div_mul d 256 16).symm,Nat.div_add_mod',(Nat.div_div_eq_div_mul d 16 16).symm,Nat.div_add_mod',Nat.div_add_mod']
theorem SH(b k:Nat):b<=b-k+k:=Nat.sub_le_iff_le_add.mp (aK (b-k))
theorem U_{a b k v:Nat}(h:a<=b+v):a<=b-k+(k+v):=ao h (ao (cF (SH b k) v) (aE (fE ..)))
theorem Ry{a b k v:Nat}(g:0<b-k)(h:a=b+v):a=b-k+(k+v):=h.trans ((aQ (· +v) (e7 (bC (Nat.lt_of_sub_pos g))).symm).trans (fE ..))
theorem xE:∀{k:Nat}(h:k<7),k=0\/k=1\/k=2\/k=3\/k=4\/k=5\/k=6:=by decide
theorem Lk(n:Nat): -1+((n:Int)+1)=n:=(Int.add_comm ..).trans (Int.add_neg_cancel_right ..)
theorem U'{a:Int}{n i:Nat}(h:i<n):a+((n-1-i:Nat):Int)=a+((n:Int)-1)+(i:Int)* -1:=by rw[Bd h,Int.mul_neg,Int.mul_one,<-Int.sub_eq_add_neg,Int.add_sub_assoc]
theorem KC{a b c r:Nat}:(a:Int)+b-2*c<=r↔a+b<=r+2*c:=⟨fun h=>d_.mp (Int.le_add_of_sub_right_le h),fun h=>Int.sub_right_le_of_le_add (d_.mpr h)⟩
theorem RB{W U V p q m r t:Nat}(h1:W+V<=r+2*p)(h2:U+V<=t+2*q)(hl:W-r<=U-t)(a:min p q<=m)(b:q<=V):W+(U-t)<=r+2*min (U-t) m:=by
 have k:U<=t+q:=Nat.le_of_add_le_add_right (b:=q) (ao (bE b U) (ao h2 (aE (by rw[iP,fE]))));refine bc (p:=U-t<=m) (fun h=> ?_) fun h=> ?_
 ·rw[cI h,iP,<-fE];exact cF (Nat.sub_le_iff_le_add'.mp hl) _
 ·have g:p<=m:=bw fun g=>h (ao (Nat.sub_le_iff_le_add'.mpr k) (bw fun q'=>absurd a (Nat.not_le.mpr (Nat.lt_min.mpr ⟨g,q'⟩))));rw[Nat.min_eq_right (gp h)];exact ao (bE (ao (Nat.sub_le_iff_le_add'.mpr k) b) W) (ao h1 (bE (bS 2 g) r))
theorem RD{W t L r:Nat}(h:W+t<=r+2*L)(g:L<=t)(e:t=0):W-r=0:=by
 subst e;have e:L=0:=Nat.le_zero.mp g;subst e;exact eW h
theorem RC{W t L r:Nat}(h:W+t<=r+2*L)(f:t<=W-r)(g:L<=t)(e:¬ t=0):L=t/\t=W-r:=
 have h1:W-r+t<=2*L:=Nat.le_of_add_le_add_left (a:=r) (ao (aE (by rw[<-fE,fq (bC (Nat.lt_of_sub_pos (aW (dO e) f)))])) h);have h2:t<=L:=Nat.le_of_add_le_add_right (b:=t) (ao (ao (cF f t) h1) (iP L▸bE g L));have e1:=dz g h2
 ⟨e1,dz f (Nat.le_of_add_le_add_right (b:=t) (by rw[e1,iP]at h1;exact h1))⟩
theorem RA{A B L:Nat}(h:L<=A)(g:L<=B):((A-L+(B-L):Nat):Int)=A+B-2*L:=
 have e:A-L+(B-L)+2*L=A+B:=by rw[iP,Nat.add_add_add_comm,e7 h,e7 g]
 (Int.add_sub_cancel ((A-L+(B-L):Nat):Int) (2*L)).symm.trans (aQ (fun z:Nat=>(z:Int)-2*L) e)
theorem SG{a b n:Nat}(e:n=b)(h:b<a:=by decide):n<a:=e▸h
theorem GO{a b n:Nat}(e:n=b)(h:b<=a:=by decide):n<=a:=e▸h
theorem Rz{u n k c:Nat}(h:k<=10)(r:u+10*(n+1)+900<c):u+k+10*n+900<c:=
 aD (cF (ao (aE (fE u k (10*n))) (bE (ao (aE (eE k (10*n))) (bE h (10*n))) u)) 900) r
theorem SE{a b k c d:Nat}(r:a+b+k<c)(h:d<=k:=by decide):a+d<c:=aD (ck (eu ..) h) r
theorem Wz{a b c:Nat}(h:a<=b)(k:b<=c:=by decide):0+a<=c:=ao (aE (aX a)) (ao h k)
theorem lt6:∀j,j<6->j=0\/j=1\/j=2\/j=3\/j=4\/j=5:=by decide
theorem Tg(a b:Int):(if a<b then b-a else 0)=((b-a).toNat:Int):=by split<;>lia
end
section
open PySem
set_option linter.all false
inductive PV where
 |none|bool (b:Bool)|int (i:Int)|str (s:List Nat)
 |tup (l:List PV)|list (l:List PV)|lst (k:Nat)|dct (k:Nat)
 |iset (l:List Int)|cset (l:List Nat)|bset (b:Bool)
 |fn (n:Str)|typ (n:String)|rng (a b:Int)
inductive j8 where
 |lst (l:List PV)
 |dct (l:List (List Nat×PV))
 |bs (o:Option Bool)
abbrev St:=List j8
abbrev i8:=List (Str×PV)
inductive jf where
 |next|brk|cont|ret (v:PV)
structure nI where
 E:Scope->Expr->i8->St->Option (PV×St)
 T:Scope->Expr->i8->St->Option (Bool×St)
 S:Scope->Stmt->i8->St->Option (jf×i8×St)
 C:Str->List PV->List (Str×PV)->St->Option (PV×St)
noncomputable def BX:Nat:=1000000
noncomputable def jJ (x:PV):Option Int:=x.casesOn none (fun z=>none) some (fun z=>none) (fun z=>none) (fun z=>none) (fun z=>none) (fun z=>none) (fun z=>none) (fun z=>none) (fun z=>none) (fun z=>none) (fun z=>none) (fun z z=>none)
noncomputable def mJ (x:PV):Option (List Nat):=x.casesOn none (fun z=>none) (fun z=>none) some (fun z=>none) (fun z=>none) (fun z=>none) (fun z=>none) (fun z=>none) (fun z=>none) (fun z=>none) (fun z=>none) (fun z=>none) (fun z z=>none)
noncomputable def zB (x:PV):Option (List PV):=x.casesOn none (fun z=>none) (fun z=>none) (fun z=>none) some (fun z=>none) (fun z=>none) (fun z=>none) (fun z=>none) (fun z=>none) (fun z=>none) (fun z=>none) (fun z=>none) (fun z z=>none)
noncomputable def pH (x:PV):Option (List PV):=x.casesOn none (fun z=>none) (fun z=>none) (fun z=>none) (fun z=>none) some (fun z=>none) (fun z=>none) (fun z=>none) (fun z=>none) (fun z=>none) (fun z=>none) (fun z=>none) (fun z z=>none)
noncomputable def Sz (x:PV):Option Nat:=x.casesOn none (fun z=>none) (fun z=>none) (fun z=>none) (fun z=>none) (fun z=>none) some (fun z=>none) (fun z=>none) (fun z=>none) (fun z=>none) (fun z=>none) (fun z=>none) (fun z z=>none)
noncomputable def aco (x:PV):Option Nat:=x.casesOn none (fun z=>none) (fun z=>none) (fun z=>none) (fun z=>none) (fun z=>none) (fun z=>none) some (fun z=>none) (fun z=>none) (fun z=>none) (fun z=>none) (fun z=>none) (fun z z=>none)
noncomputable def EB (x:PV):Option (List Int):=x.casesOn none (fun z=>none) (fun z=>none) (fun z=>none) (fun z=>none) (fun z=>none) (fun z=>none) (fun z=>none) some (fun z=>none) (fun z=>none) (fun z=>none) (fun z=>none) (fun z z=>none)
noncomputable def LR (x:PV):Option (List Nat):=x.casesOn none (fun z=>none) (fun z=>none) (fun z=>none) (fun z=>none) (fun z=>none) (fun z=>none) (fun z=>none) (fun z=>none) some (fun z=>none) (fun z=>none) (fun z=>none) (fun z z=>none)
noncomputable def LS (x:PV):Option Bool:=x.casesOn none (fun z=>none) (fun z=>none) (fun z=>none) (fun z=>none) (fun z=>none) (fun z=>none) (fun z=>none) (fun z=>none) (fun z=>none) some (fun z=>none) (fun z=>none) (fun z z=>none)
noncomputable def xF (x:PV):Option Bool:=x.casesOn none some (fun z=>none) (fun z=>none) (fun z=>none) (fun z=>none) (fun z=>none) (fun z=>none) (fun z=>none) (fun z=>none) (fun z=>none) (fun z=>none) (fun z=>none) (fun z z=>none)
noncomputable def WX (x:PV):Option Str:=x.casesOn none (fun z=>none) (fun z=>none) (fun z=>none) (fun z=>none) (fun z=>none) (fun z=>none) (fun z=>none) (fun z=>none) (fun z=>none) (fun z=>none) some (fun z=>none) (fun z z=>none)
noncomputable def Ck (x:PV):Option String:=x.casesOn none (fun z=>none) (fun z=>none) (fun z=>none) (fun z=>none) (fun z=>none) (fun z=>none) (fun z=>none) (fun z=>none) (fun z=>none) (fun z=>none) (fun z=>none) some (fun z z=>none)
noncomputable def GN (x:PV):Option (Int×Int):=x.casesOn none (fun z=>none) (fun z=>none) (fun z=>none) (fun z=>none) (fun z=>none) (fun z=>none) (fun z=>none) (fun z=>none) (fun z=>none) (fun z=>none) (fun z=>none) (fun z=>none) (fun i j=>some (i,j))
noncomputable def one:List α->Option α
 |[a]=>some a
 |_=>none
noncomputable def Ot:List α->Option (α×α)
 |[a,b]=>some (a,b)
 |_=>none
noncomputable def gd (c:Bool) (x:Option α):Option α:=if c then x else none
noncomputable def zj (x y:Option α):Option α:=match x with
 |some a=>some a
 |none=>y
noncomputable def qp (a b:PV):Option Bool:=zj ((jJ a).bind fun i=>(jJ b).map (i== ·)) ((mJ a).bind fun i=>(mJ b).map (i== ·))
noncomputable def Gq:List PV->List PV->Option (List Bool)
 |a::l,b::m=>(qp a b).bind fun r=>(Gq l m).map (r:: ·)
 |_,_=>some []
noncomputable def aaf (a b:PV):Option Bool:=zj (qp a b) ((pH a).bind fun l=>(pH b).bind fun m=>gd (l.length==m.length) ((Gq l m).map (·.all id)))
noncomputable def strLt:List Nat->List Nat->Bool
 |[],[]=>false
 |[],_::_=>true
 |_::_,[]=>false
 |a::l,b::m=>if a==b then strLt l m else decide (a<b)
noncomputable def qW (a b:PV):Option Bool:=zj ((jJ a).bind fun i=>(jJ b).map fun j=>decide (i<j)) ((mJ a).bind fun i=>(mJ b).map (strLt i))
noncomputable def jZ:List PV->List PV->Option Bool
 |[],[]=>some false
 |[],_::_=>some true
 |_::_,[]=>some false
 |a::l,b::m=>(qp a b).bind fun r=>cond r (jZ l m) (qW a b)
noncomputable def O1 (a b:PV):Option Bool:=zj (qW a b) ((pH a).bind fun l=>(pH b).bind (jZ l))
noncomputable def sI (a b:Int):List PV:=(List.range (b-a).toNat).map fun(i:Nat)=>PV.int (a+(i:Int))
noncomputable def j7 (st:St) (k:Nat):Option (List PV):=match st[k]? with
 |some (.lst l)=>some l
 |_=>none
noncomputable def Lj (st:St) (k:Nat):Option (List (List Nat×PV)):=match st[k]? with
 |some (.dct l)=>some l
 |_=>none
noncomputable def uS (st:St) (x:PV):Option (List PV):=x.casesOn none (fun z=>none) (fun z=>none) (fun z=>none) (fun z=>none) some (j7 st) (fun z=>none) (fun z=>none) (fun z=>none) (fun z=>none) (fun z=>none) (fun z=>none) (fun z z=>none)
noncomputable def qe (st:St) (x:PV):Option (List PV):=zj (zB x) (uS st x)
noncomputable def contents (st:St) (x:PV):Option (List PV):=zj ((GN x).map fun q=>sI q.1 q.2) (qe st x)
noncomputable def lK (st:St) (x:PV):Option Bool:=zj (xF x) (zj ((jJ x).map (· !=0)) (zj ((mJ x).map fun s=> !s.isEmpty) ((qe st x).map fun l=> !l.isEmpty)))
noncomputable def mW {α β:Type} (f:α->Option β):List α->Option (List β)
 |[]=>some []
 |v::l=>(f v).bind fun x=>(mW f l).map (x:: ·)
noncomputable abbrev xu (l:List PV):Option (List Int):=mW jJ l
noncomputable abbrev uh (l:List PV):Option (List Bool):=mW xF l
noncomputable abbrev qP (l:List PV):Option (List (List Nat)):=mW mJ l
noncomputable def mV (a b:List Int):List Int:=a.filter (fun x=> !b.contains x)++b.filter (fun x=> !a.contains x)
noncomputable def nB (a b:List Int):List Int:=a++b.filter (fun x=> !a.contains x)
noncomputable def kM (l:List α):Bool:=l.length<=BX
noncomputable def intOp (op:Operator) (a b:Int):Option Int:=match op with
 | .Add=>some (a+b)
 | .Sub=>some (a-b)
 | .Mult=>gd (a.natAbs<2^62&&b.natAbs<2^62) (some (a*b))
 | .FloorDiv=>gd (!(b==0||1000000000<=b.natAbs)) (some (Int.fdiv a b))
 | .Mod=>gd (!(b==0)) (some (Int.fmod a b))
 | .Pow=>gd (0<=b&&b<=60&&a.natAbs<=16) (some (a^b.toNat))
 | .RShift=>gd (0<=b&&b<=60) (some (a>>>b.toNat))
 | .BitAnd=>gd (0<=a&&0<=b) (some ((a.toNat&&&b.toNat:Nat):Int))
 | .BitOr=>gd (0<=a&&0<=b) (some ((a.toNat|||b.toNat:Nat):Int))
 |_=>none
noncomputable def Gu (op:Operator) (a:List Nat) (y:PV):Option (List Nat):=match op with
 | .Add=>(mJ y).bind fun b=>gd (kM (a++b)) (some (a++b))
 | .Mult=>(jJ y).bind fun n=>gd (0<=n&&n<=1000&&a.length<=1000) (some (List.replicate n.toNat a).flatten)
 |_=>none
noncomputable def setOp (op:Operator) (a b:List Int):Option (List Int):=match op with
 | .BitOr=>gd (!a.isEmpty) (some (nB a b))
 | .BitXor=>some (mV a b)
 |_=>none
noncomputable def oE (st:St) (op:Operator) (x y:PV):Option (List PV):=match op with
 | .Add=>(uS st x).bind fun a=>(uS st y).bind fun b=>gd (kM (a++b)) (some (a++b))
 |_=>none
noncomputable def kZ (st:St) (op:Operator) (x y:PV):Option PV:=x.casesOn ((oE st op x y).map .list) (fun z=>(oE st op x y).map .list) (fun a=>(jJ y).bind fun b=>(intOp op a b).map .int) (fun a=>(Gu op a y).map .str) (fun z=>(oE st op x y).map .list) (fun z=>(oE st op x y).map .list) (fun z=>(oE st op x y).map .list) (fun z=>(oE st op x y).map .list) (fun a=>(EB y).bind fun b=>gd (a.length<=20&&b.length<=20) ((setOp op a b).map .iset)) (fun z=>(oE st op x y).map .list) (fun z=>(oE st op x y).map .list) (fun z=>(oE st op x y).map .list) (fun z=>(oE st op x y).map .list) (fun z z=>(oE st op x y).map .list)
noncomputable def seen (st:St) (x:PV):Option PV:=x.casesOn (some x) (fun z=>some x) (fun z=>some x) (fun z=>some x) (fun z=>some x) (fun z=>some x) (fun k=>(j7 st k).map .list) (fun z=>some x) (fun z=>some x) (fun z=>some x) (fun z=>some x) (fun z=>some x) (fun z=>some x) (fun z z=>some x)
noncomputable def jF (st:St) (op:CmpOp) (x y:PV):Option Bool:=
 match op with
 | .Eq=>(seen st x).bind fun a=>(seen st y).bind fun b=>aaf a b
 | .NotEq=>(qp x y).map (!·)
 | .Lt=>zj ((zB x).bind fun a=>(zB y).bind fun b=>jZ a b) (qW x y)
 | .Gt=>(jJ x).bind fun a=>(jJ y).map fun b=>decide (b<a)
 | .LtE=>(jJ x).bind fun a=>(jJ y).map fun b=>decide (a<=b)
 | .GtE=>(jJ x).bind fun a=>(jJ y).map fun b=>decide (b<=a)
 | .In=>(mJ x).bind fun a=>zj ((LR y).bind fun l=>(one a).map fun c=>l.contains c) ((uS st y).bind fun l=>(qP l).map (·.contains a))
 |_=>none
noncomputable def idx (l:List α) (i:Int):Option α:=if 0<=i then l[i.toNat]? else if 0<=i+l.length then l[(i+l.length).toNat]? else none
noncomputable def sr (k:List Nat) (l:List (List Nat×PV)):Option PV:=(l.find? fun kv=>kv.1==k).map (·.2)
noncomputable def D7 (k:List Nat) (v:PV) (l:List (List Nat×PV)):List (List Nat×PV):=
 if l.any (fun kv=>kv.1==k)then l.map (fun kv=>if kv.1==k then(kv.1,v)else kv)else l++[(k,v)]
noncomputable def jk (st:St) (x i:PV):Option PV:=x.casesOn ((jJ i).bind fun i=>(qe st x).bind fun l=>idx l i) (fun z=>(jJ i).bind fun i=>(qe st x).bind fun l=>idx l i) (fun z=>(jJ i).bind fun i=>(qe st x).bind fun l=>idx l i) (fun s=>(jJ i).bind fun i=>(idx s i).map fun c=>.str [c]) (fun z=>(jJ i).bind fun i=>(qe st x).bind fun l=>idx l i) (fun z=>(jJ i).bind fun i=>(qe st x).bind fun l=>idx l i) (fun z=>(jJ i).bind fun i=>(qe st x).bind fun l=>idx l i) (fun k=>(mJ i).bind fun x=>(Lj st k).bind (sr x)) (fun z=>(jJ i).bind fun i=>(qe st x).bind fun l=>idx l i) (fun z=>(jJ i).bind fun i=>(qe st x).bind fun l=>idx l i) (fun z=>(jJ i).bind fun i=>(qe st x).bind fun l=>idx l i) (fun z=>(jJ i).bind fun i=>(qe st x).bind fun l=>idx l i) (fun z=>(jJ i).bind fun i=>(qe st x).bind fun l=>idx l i) (fun z z=>(jJ i).bind fun i=>(qe st x).bind fun l=>idx l i)
noncomputable def pL (st:St) (x i v:PV):Option St:=x.casesOn none (fun z=>none) (fun z=>none) (fun z=>none) (fun z=>none) (fun z=>none) (fun k=>(jJ i).bind fun i=>(j7 st k).bind fun l=>gd (0<=i&&i.toNat<l.length) (some (st.set k (.lst (l.set i.toNat v))))) (fun k=>(mJ i).bind fun x=>(Lj st k).bind fun l=>gd (l.length<=1000) (some (st.set k (.dct (D7 x v l))))) (fun z=>none) (fun z=>none) (fun z=>none) (fun z=>none) (fun z=>none) (fun z z=>none)
noncomputable def nQ (n:Nat) (i:Int):Option Nat:=if 0<=i then some (min i.toNat n)else none
noncomputable def nt (l:List α) (lo hi:Option Int):Option (List α):=
 ((lo.map (nQ l.length)).getD (some 0)).bind fun a=>((hi.map (nQ l.length)).getD (some l.length)).map fun b=>(l.drop a).take (b-a)
noncomputable def nD (n:Int) (l:List α) (a:Int):List α:=(sliceRange (max 0 (min a l.length)) l.length n).filterMap (l[·]?)
noncomputable def kR (st:St) (x:PV) (lo hi ji:Option Int):Option PV:=
 match ji with
 |none=>match x with
  | .str s=>(nt s lo hi).map .str
  |x=>(uS st x).bind fun l=>(nt l lo hi).map .list
 |some n=>match hi with
  |some _=>none
  |none=>(uS st x).bind fun l=>match lo with
   |none=>gd (n== -1) (some (.list l.reverse))
   |some a=>gd (0<=a&&0<n&&n<=1000&&a<=1000) (some (.list (nD n l a)))
noncomputable def qi (s:List Nat) (c:Nat):Int:=match s.reverse.findIdx? (· ==c)with
 |some i=>(s.length:Int)-1-i
 |none=> -1
noncomputable def u_ (s:List Nat) (c:Nat) (p:Nat):Option Nat:=((s.drop p).findIdx? (· ==c)).map (p+ ·)
noncomputable def jz (c:Nat):List Nat->List (List Nat)
 |[]=>[[]]
 |x::r=>if x==c then[]::jz c r else match jz c r with
  |[]=>[[x]]
  |p::ps=>(x::p)::ps
noncomputable def p5 (c:Nat) (s:List Nat):List Nat:=(s.reverse.dropWhile (· ==c)).reverse
noncomputable def jO (sep:List Nat):List (List Nat)->List Nat
 |[]=>[]
 |[x]=>x
 |x::r=>x++sep++jO sep r
noncomputable def wN (st:St) (k:Nat) (name:Str) (args:List PV):Option (PV×St):=
 if name==("pop":Str)then gd args.isEmpty ((j7 st k).bind fun l=>l.getLast?.map fun v=>(v,st.set k (.lst l.dropLast)))
 else gd (name==("append":Str)) ((one args).bind fun v=>(j7 st k).bind fun l=>gd (kM l) (some (.none,st.set k (.lst (l++[v])))))
noncomputable def uo (st:St) (s:List Nat) (args:List PV):Option PV:=(one args).bind fun x=>(qe st x).bind fun l=>(qP l).bind fun ps=>gd (kM (jO s ps)&&ps.length<=1000&&s.length<=10) (some (.str (jO s ps)))
noncomputable def xJ (s:List Nat) (args:List PV):Option PV:=(Ot args).bind fun q=>(mJ q.1).bind fun c=>(one c).bind fun c=>(jJ q.2).bind fun p=>gd (0<=p) ((u_ s c p.toNat).map fun(i:Nat)=>PV.int (i:Int))
noncomputable def rP (s:List Nat) (name:Str) (c:Nat):Option PV:=
 if name==("startswith":Str)then some (.bool (s.head?==some c))
 else if name==("endswith":Str)then some (.bool (s.getLast?==some c))
 else if name==("rfind":Str)then some (.int (qi s c))
 else if name==("rstrip":Str)then some (.str (p5 c s))
 else if name==("split":Str)then gd (!(256<=c|| !kM s)) (some (.list ((jz c s).map .str)))
 else gd (name==("count":Str)) (some (.int (s.count c)))
noncomputable def se (st:St) (s:List Nat) (name:Str) (args:List PV):Option PV:=
 if name==("join":Str)then uo st s args
 else if name==("index":Str)then xJ s args
 else(one args).bind fun x=>(mJ x).bind fun c=>(one c).bind (rP s name)
noncomputable def qD (l:List Nat) (name:Str) (args:List PV):Option PV:=(one args).bind fun x=>(mJ x).bind fun s=>
 if name==("isdisjoint":Str)then some (.bool (s.all fun c=> !l.contains c))
 else gd (name==("issuperset":Str)) (some (.bool (s.all fun c=>l.contains c)))
noncomputable def methP (st:St) (o:PV) (name:Str) (args:List PV):Option (PV×St):=
 o.casesOn none (fun z=>none) (fun z=>none) (fun s=>(se st s name args).map fun v=>(v,st)) (fun z=>none) (fun z=>none) (fun k=>wN st k name args) (fun z=>none) (fun z=>none) (fun l=>(qD l name args).map fun v=>(v,st)) (fun z=>none) (fun z=>none) (fun z=>none) (fun z z=>none)
noncomputable def qm (c:Nat):Option Nat:=
 if 48<=c&&c<=57 then some (c-48)else if 97<=c&&c<=102 then some (c-87)else if 65<=c&&c<=70 then some (c-55)else none
noncomputable def oG:Nat->List Nat->Option Nat
 |acc,[]=>some acc
 |acc,c::r=>match qm c with
  |some d=>oG (acc*16+d) r
  |none=>none
noncomputable def aeO:List Int->Option Int
 |[]=>none
 |a::l=>some (l.foldl max a)
noncomputable def Ko:PV->List PV->Option PV
 |a,[]=>some a
 |a,b::l=>(O1 b a).bind fun r=>Ko (cond r b a) l
noncomputable def yO:PV->List PV->Option PV
 |a,[]=>some a
 |a,b::l=>(O1 a b).bind fun r=>yO (cond r b a) l
noncomputable def kJ:List Str:=["len","range","list","sum","max","min","all","ord","chr","int","isinstance","issubclass","type","frozenset"]
noncomputable def Wv (st:St) (args:List PV):Option PV:=(one args).bind fun x=>zj ((mJ x).map fun s=>.int s.length) (zj ((EB x).map fun l=>.int l.length) ((qe st x).map fun l=>.int l.length))
noncomputable def En (args:List PV):Option PV:=zj ((one args).bind fun x=>(jJ x).bind fun n=>gd (-100000<=n&&n<=100000) (some (.rng 0 n)))
 ((Ot args).bind fun q=>(jJ q.1).bind fun a=>(jJ q.2).bind fun b=>gd (0<=a&&a<=100000&& -100000<=b&&b<=100000) (some (.rng a b)))
noncomputable def R9 (args:List PV):Option PV:=(one args).bind fun x=>(GN x).map fun q=>.list (sI q.1 q.2)
noncomputable def Wr (args:List PV):Option PV:=(one args).bind fun x=>(pH x).bind fun l=>(xu l).map fun ns=>.int ns.sum
noncomputable def WV (f:PV->List PV->Option PV) (l:List PV):Option PV:=match l with
 |[]=>none
 |a::l=>f a l
noncomputable def Wu (args:List PV):Option PV:=zj ((Ot args).bind fun q=>(jJ q.1).bind fun a=>(jJ q.2).map fun b=>.int (max a b)) ((one args).bind fun x=>(pH x).bind (WV yO))
noncomputable def Wt (args:List PV):Option PV:=(one args).bind fun x=>(pH x).bind (WV Ko)
noncomputable def Ww (args:List PV):Option PV:=(one args).bind fun x=>(pH x).bind fun l=>(uh l).map fun bs=>.bool (bs.all id)
noncomputable def Ws (args:List PV):Option PV:=(one args).bind fun x=>(mJ x).bind fun s=>(one s).map fun(c:Nat)=>PV.int (c:Int)
noncomputable def O4 (args:List PV):Option PV:=(one args).bind fun x=>(jJ x).bind fun i=>gd (0<=i&&i<55296) (some (.str [i.toNat]))
noncomputable def O3 (args:List PV):Option PV:=(Ot args).bind fun q=>(mJ q.1).bind fun s=>(jJ q.2).bind fun b=>gd (b==16&& !s.isEmpty&&s.length<=11) ((oG 0 s).map fun(n:Nat)=>PV.int (n:Int))
noncomputable def R_ (args:List PV):Option PV:=(Ot args).bind fun q=>(mJ q.1).bind fun ζ=>(Ck q.2).bind fun t=>gd (t=="bytes") (some (.bool false))
noncomputable def LB (args:List PV):Option PV:=(Ot args).bind fun q=>(Ck q.1).bind fun t=>(zB q.2).bind fun l=>(Ot l).bind fun r=>(Ck r.1).bind fun u=>(Ck r.2).bind fun v=>gd (t=="str"&&u=="str"&&v=="bytes") (some (.bool true))
noncomputable def R8 (args:List PV):Option PV:=(one args).bind fun x=>(mJ x).map fun ζ=>.typ "str"
noncomputable def Sa (args:List PV):Option PV:=gd args.isEmpty (some (.cset []))
noncomputable def lz (st:St) (f:Str) (args:List PV):Option PV:=
 if f==("len":Str)then Wv st args
 else if f==("range":Str)then En args
 else if f==("list":Str)then R9 args
 else if f==("sum":Str)then Wr args
 else if f==("max":Str)then Wu args
 else if f==("min":Str)then Wt args
 else if f==("all":Str)then Ww args
 else if f==("ord":Str)then Ws args
 else if f==("chr":Str)then O4 args
 else if f==("int":Str)then O3 args
 else if f==("isinstance":Str)then R_ args
 else if f==("issubclass":Str)then LB args
 else if f==("type":Str)then R8 args
 else gd (f==("frozenset":Str)) (Sa args)
noncomputable def i9 (sc:Scope) (x:Str):Option NameKind:=sc.names.lookup x
noncomputable def zx:List Nat:=(List.range 32).filter (· !=9)++[127]
noncomputable def oq:List Nat:=(Str.ofString "0123456789abcdefABCDEF").cps.toList
noncomputable def rF (e:Expr):Option Str:=e.casesOn (fun z z z=>none) (fun z z z=>none) (fun z z z z=>none) (fun z z z=>none) (fun z z z z=>none) (fun z z z z=>none) (fun z z z=>none) (fun z z z=>none) (fun z z z z=>none) (fun z z z z=>none) (fun z z z z z=>none) (fun z z z z=>none) (fun z z=>none) (fun z z=>none) (fun z z=>none) (fun z z z z=>none) (fun z z z z=>none) (fun z z z z=>none) (fun z z=>none) (fun z z z=>none) (fun z z z=>none) (fun z z z=>none) (fun z z=>none) (fun x z=>some x) (fun z z=>none) (fun z z z=>none) (fun z z z z=>none)
noncomputable def Lr (e:Expr):Option (List Expr):=e.casesOn (fun z z z=>none) (fun z z z=>none) (fun z z z z=>none) (fun z z z=>none) (fun z z z z=>none) (fun z z z z=>none) (fun z z z=>none) (fun z z z=>none) (fun z z z z=>none) (fun z z z z=>none) (fun z z z z z=>none) (fun z z z z=>none) (fun z z=>none) (fun z z=>none) (fun z z=>none) (fun z z z z=>none) (fun z z z z=>none) (fun z z z z=>none) (fun z z=>none) (fun z z z=>none) (fun z z z=>none) (fun z z z=>none) (fun z z=>none) (fun z z=>none) (fun z z=>none) (fun x z z=>some x) (fun z z z z=>none)
noncomputable def vG (e:Expr):Option (Expr×List Expr×List Keyword):=e.casesOn (fun z z z=>none) (fun z z z=>none) (fun z z z z=>none) (fun z z z=>none) (fun z z z z=>none) (fun z z z z=>none) (fun z z z=>none) (fun z z z=>none) (fun z z z z=>none) (fun z z z z=>none) (fun z z z z z=>none) (fun z z z z=>none) (fun z z=>none) (fun z z=>none) (fun z z=>none) (fun z z z z=>none) (fun f a k z=>some (f,a,k)) (fun z z z z=>none) (fun z z=>none) (fun z z z=>none) (fun z z z=>none) (fun z z z=>none) (fun z z=>none) (fun z z=>none) (fun z z=>none) (fun z z z=>none) (fun z z z z=>none)
noncomputable def Ek (e:Expr):Option (Option Expr×Option Expr×Option Expr):=e.casesOn (fun z z z=>none) (fun z z z=>none) (fun z z z z=>none) (fun z z z=>none) (fun z z z z=>none) (fun z z z z=>none) (fun z z z=>none) (fun z z z=>none) (fun z z z z=>none) (fun z z z z=>none) (fun z z z z z=>none) (fun z z z z=>none) (fun z z=>none) (fun z z=>none) (fun z z=>none) (fun z z z z=>none) (fun z z z z=>none) (fun z z z z=>none) (fun z z=>none) (fun z z z=>none) (fun z z z=>none) (fun z z z=>none) (fun z z=>none) (fun z z=>none) (fun z z=>none) (fun z z z=>none) (fun a b c z=>some (a,b,c))
noncomputable def W6 (e:Expr):Option (Expr×Str×Pos):=e.casesOn (fun z z z=>none) (fun z z z=>none) (fun z z z z=>none) (fun z z z=>none) (fun z z z z=>none) (fun z z z z=>none) (fun z z z=>none) (fun z z z=>none) (fun z z z z=>none) (fun z z z z=>none) (fun z z z z z=>none) (fun z z z z=>none) (fun z z=>none) (fun z z=>none) (fun z z=>none) (fun z z z z=>none) (fun z z z z=>none) (fun z z z z=>none) (fun z z=>none) (fun z z z=>none) (fun a x p=>some (a,x,p)) (fun z z z=>none) (fun z z=>none) (fun z z=>none) (fun z z=>none) (fun z z z=>none) (fun z z z z=>none)
noncomputable def Te (e:Expr):Option (Expr×Expr):=e.casesOn (fun z z z=>none) (fun z z z=>none) (fun z z z z=>none) (fun z z z=>none) (fun z z z z=>none) (fun z z z z=>none) (fun z z z=>none) (fun z z z=>none) (fun z z z z=>none) (fun z z z z=>none) (fun z z z z z=>none) (fun z z z z=>none) (fun z z=>none) (fun z z=>none) (fun z z=>none) (fun z z z z=>none) (fun z z z z=>none) (fun z z z z=>none) (fun z z=>none) (fun z z z=>none) (fun z z z=>none) (fun a i z=>some (a,i)) (fun z z=>none) (fun z z=>none) (fun z z=>none) (fun z z z=>none) (fun z z z z=>none)
noncomputable def Z4 (s:Stmt):Option (Str×Arguments×List Stmt×Scope):=s.casesOn (fun m a b z z z sc z z z=>some (m,a,b,sc)) (fun z z z z z z z z z z=>none) (fun z z z z z z z z z z z=>none) (fun z z=>none) (fun z z=>none) (fun z z z=>none) (fun z z z z z z z=>none) (fun z z z z=>none) (fun z z z z z=>none) (fun z z z z z=>none) (fun z z z z z=>none) (fun z z z z=>none) (fun z z z z=>none) (fun z z z=>none) (fun z z z=>none) (fun z z z=>none) (fun z z z=>none) (fun z z z z z=>none) (fun z z z z z=>none) (fun z z z=>none) (fun z z=>none) (fun z z z z=>none) (fun z z=>none) (fun z z=>none) (fun z z=>none) (fun z=>none) (fun z=>none) (fun z=>none)
noncomputable def ud:List (Str×Arguments×List Stmt×Scope):=PySem.Challenge.pw_ik0206_01.main.body.filterMap Z4
noncomputable def fnOf (n:Str):Option (Arguments×List Stmt×Scope):=ud.lookup n
noncomputable def wO (x:Str):Option PV:=
 if x==("TOML_WS":Str)then some (.cset [32,9])
 else if x==("ILLEGAL_LITERAL_STR_CHARS":Str)then some (.cset zx)
 else if x==("HEXDIGIT_CHARS":Str)then some (.cset oq)
 else if x==("str":Str)then some (.typ "str")
 else if x==("bytes":Str)then some (.typ "bytes")
 else gd (x==("fspath":Str)) (some (.fn "fspath"))
noncomputable def jW (x:Str):i8->Option PV
 |[]=>none
 |(y,v)::r=>if y==x then some v else jW x r
noncomputable def Kn (x:Str) (v:PV):i8->i8
 |[]=>[(x,v)]
 |(y,u)::r=>if y==x then(y,v)::r else(y,u)::Kn x v r
noncomputable def xA (sc:Scope) (x:Str):Bool:=match i9 sc x with
 |some .globalImplicit=>true
 |_=>false
noncomputable def Cb (sc:Scope) (x:Str) (ρ:i8):Option PV:=zj (jW x ρ) (gd (xA sc x) (wO x))
noncomputable def KZ (sc:Scope) (x:Str):Bool:=match i9 sc x with
 |some .local=>true
 |some .cell=>true
 |_=>false
noncomputable def qQ (sc:Scope) (x:Str) (v:PV) (ρ:i8):Option i8:=gd (KZ sc x) (some (Kn x v ρ))
noncomputable abbrev namesOf (l:List Expr):Option (List Str):=mW rF l
noncomputable def storeAll (sc:Scope):List Str->List PV->i8->Option i8
 |[],[],ρ=>some ρ
 |x::xs,v::vs,ρ=>(qQ sc x v ρ).bind fun ρ=>storeAll sc xs vs ρ
 |_,_,_=>none
noncomputable def kX (sc:Scope) (st:St) (t:Expr) (v:PV) (ρ:i8):Option i8:=zj ((rF t).bind fun x=>qQ sc x v ρ)
 ((Lr t).bind fun es=>(namesOf es).bind fun xs=>zj ((LS v).bind fun b=>(one xs).bind fun x=>qQ sc x (.bool b) ρ) ((zB v).bind fun l=>gd (xs.length==l.length) (storeAll sc xs l ρ)))
noncomputable def lI (e:Expr):Bool:=e.ctorIdx==22
noncomputable def j9 (f:Expr->i8->St->Option (PV×St)) (ρ:i8):List Expr->St->Option (List PV×St)
 |[],st=>some ([],st)
 |e::r,st=>gd (!lI e) ((f e ρ st).bind fun p=>(j9 f ρ r p.2).map fun q=>(p.1::q.1,q.2))
noncomputable def B0 (f:Expr->i8->St->Option (PV×St)) (ρ:i8):List Keyword->St->Option (List (Str×PV)×St)
 |[],st=>some ([],st)
 |k::r,st=>k.arg.bind fun n=>(f k.value ρ st).bind fun p=>(B0 f ρ r p.2).map fun q=>((n,p.1)::q.1,q.2)
noncomputable def uT (f:Expr->i8->St->Option (PV×St)) (ρ:i8) (o:Option Expr) (st:St):Option (Option Int×St):=match o with
 |none=>some (none,st)
 |some e=>(f e ρ st).bind fun p=>(jJ p.1).map fun i=>(some i,p.2)
noncomputable def nR (f:Expr->i8->St->Option (PV×St)) (ρ:i8):PV->List (CmpOp×Expr)->St->Option (Bool×St)
 |_,[],st=>some (true,st)
 |a,c::r,st=>(f c.2 ρ st).bind fun p=>(jF p.2 c.1 a p.1).bind fun b=>cond b (nR f ρ p.1 r p.2) (some (false,p.2))
noncomputable def w_ (c:List PV->St->Option (PV×St)) (put:PV->St->Option St) (fit:St->Bool):List PV->St->Option St
 |[],st=>some st
 |v::r,st=>(c [v] st).bind fun p=>(put p.1 p.2).bind fun st=>gd (fit st) (w_ c put fit r st)
noncomputable def freeOf (sc:Scope):i8->i8
 |[]=>[]
 |(x,v)::r=>if i9 sc x==some .free then(x,v)::freeOf sc r else freeOf sc r
noncomputable def rI (t:Expr->i8->St->Option (Bool×St)) (ρ:i8):List Expr->St->Option (Bool×St)
 |[],st=>some (true,st)
 |e::r,st=>(t e ρ st).bind fun p=>cond p.1 (rI t ρ r p.2) (some (false,p.2))
noncomputable def lZ (r:nI) (sc:Scope) (put:PV->St->Option St) (elt target:Expr) (ifs:List Expr) (fit:St->Bool):List PV->i8->St->Option St
 |[],_,st=>some st
 |v::vs,ρ,st=>(kX sc st target v ρ).bind fun ρ=>(rI (r.T sc) ρ ifs st).bind fun b=>
   (cond b.1 ((r.E sc elt ρ b.2).bind fun p=>put p.1 p.2) (some b.2)).bind fun st=>gd (fit st) (lZ r sc put elt target ifs fit vs ρ st)
noncomputable def putL (n:Nat) (x:PV) (st:St):Option St:=(j7 st n).bind fun l=>gd (kM l) (some (st.set n (.lst (l++[x]))))
noncomputable def HU (st:St) (n:Nat):Option (Option Bool):=match st[n]? with
 |some (.bs o)=>some o
 |_=>none
noncomputable def O2 (n:Nat) (x:PV) (st:St):Option St:=(xF x).bind fun b=>(HU st n).bind fun o=>match o with
 |none=>some (st.set n (.bs (some b)))
 |some c=>gd (b==c) (some st)
mutual
noncomputable def below (n:Nat):PV->Bool
 | .tup l=>i_ n l
 | .list l=>i_ n l
 | .lst k=>decide (k<n)
 | .dct k=>decide (k<n)
 |_=>true
noncomputable def i_ (n:Nat):List PV->Bool
 |[]=>true
 |a::l=>below n a&&i_ n l
end
noncomputable def jK (n:Nat):j8->Bool
 | .lst l=>i_ n l
 | .dct l=>i_ n (l.map (·.2))
 | .bs _=>true
noncomputable def jh (st:St) (n:Nat):Nat->PV->Option PV
 |0,_=>none
 |fuel+1,v=>match v with
  | .tup l=>(mW (jh st n fuel) l).map .tup
  | .list l=>(mW (jh st n fuel) l).map .list
  | .lst k=>if k<n then some (.lst k)else(j7 st k).bind fun l=>(mW (jh st n fuel) l).map .list
  | .dct k=>if k<n then some (.dct k)else none
  |v=>some v
noncomputable def uR (n:Nat) (st:St):Bool:=decide (n<=st.length)&&(st.take n).all (jK n)
noncomputable def finish (n:Nat) (st:St) (v:PV):Option (PV×St):=gd (uR n st) ((jh st n 6 v).map fun v=>(v,st.take n))
noncomputable def ng (x:Str):Bool:=x !=("__debug__":Str)&&x !=("__classdict__":Str)&&x !=("__name__":Str)
noncomputable def UG:NameKind->Bool
 | .globalExplicit=>false
 |_=>true
noncomputable def pO:List (Str×NameKind)->Bool
 |[]=>true
 |(x,_)::r=>(r.lookup x).isNone&&pO r
noncomputable def Kl (sc:Scope):Bool:=sc.kind== .function&& !sc.isGenerator&& !sc.isCoroutine&&sc.names.all (fun x=>ng x.1&&UG x.2)&&pO sc.names
noncomputable def kI (x:PV) (st ji:St):Bool:=x.casesOn true (fun z=>true) (fun z=>true) (fun z=>true) (fun z=>true) (fun z=>true) (fun k=> @decide (j7 ji k=j7 st k) (Classical.propDecidable _)) (fun z=>true) (fun z=>true) (fun z=>true) (fun z=>true) (fun z=>true) (fun z=>true) (fun z z=>true)
noncomputable def Et (sc kh:Scope):Bool:=kh.names.all fun x=>x.2 != .free||i9 sc x.1==some .cell||i9 sc x.1==some .free
noncomputable def isTuple (e:Expr):Bool:=e.ctorIdx==25
noncomputable def AI (e:Expr):Bool:=e.ctorIdx==9||e.ctorIdx==10
noncomputable def ur (o:Expr):Bool:=o.ctorIdx==23||o.ctorIdx==19
noncomputable def oF (e:Expr):Bool:=e.ctorIdx==7
noncomputable def pK (st:St) (x:PV):Bool:=x.casesOn true (fun z=>true) (fun z=>true) (fun z=>true) (fun z=>true) (fun z=>true) (fun k=>(j7 st k).isSome) (fun z=>true) (fun z=>true) (fun z=>true) (fun z=>true) (fun z=>true) (fun z=>true) (fun z z=>true)
noncomputable def aaP (r:nI) (sc:Scope) (a:Expr) (ρ:i8) (st:St):Option (PV×St):=(r.E sc a ρ st).bind fun p=>(lK p.2 p.1).map fun b=>(.bool !b,p.2)
noncomputable def aaQ (r:nI) (sc:Scope) (a:Expr) (ρ:i8) (st:St):Option (PV×St):=(r.E sc a ρ st).bind fun p=>(jJ p.1).map fun i=>(.int (-i),p.2)
noncomputable def LK (c:Const) (st:St):Option (PV×St):=match c with
 | .none=>some (.none,st)
 | .bool b=>some (.bool b,st)
 | .int i=>some (.int i,st)
 | .str s=>gd (kM s.cps.toList) (some (.str s.cps.toList,st))
 |_=>none
noncomputable def aaR (r:nI) (sc:Scope) (a:Expr) (op:Operator) (b:Expr) (ρ:i8) (st:St):Option (PV×St):=(r.E sc a ρ st).bind fun p=>(r.E sc b ρ p.2).bind fun q=>(kZ q.2 op p.1 q.1).map fun v=>(v,q.2)
noncomputable def qo (op:BoolOp) (t:Bool):Bool:=match op with
 | .And=>t
 | .Or=> !t
noncomputable def Sx (r:nI) (sc:Scope) (op:BoolOp) (pos:Pos) (ρ:i8) (st:St):List Expr->Option (PV×St)
 |[]=>none
 |[a]=>r.E sc a ρ st
 |a::nH=>(r.E sc a ρ st).bind fun p=>(lK p.2 p.1).bind fun t=>cond (qo op t) (r.E sc (.BoolOp op nH pos) ρ p.2) (some p)
noncomputable def KA (r:nI) (sc:Scope) (a:Expr) (ops:List CmpOp) (es:List Expr) (ρ:i8) (st:St):Option (Bool×St):=
 gd (!(lastMarks ops es||ops.length !=es.length||ops.isEmpty)) ((r.E sc a ρ st).bind fun p=>nR (r.E sc) ρ p.1 (ops.zip es) p.2)
noncomputable def Pd (r:nI) (sc:Scope) (a:Expr) (ρ:i8) (st:St):Option (PV×St):=gd (!lI a) ((r.E sc a ρ (st++[.bs none])).bind fun p=>(jJ p.1).bind fun i=>(HU p.2 st.length).bind fun o=>
 gd (o.isNone&&uR st.length p.2) (some (.iset [i],p.2.take st.length)))
noncomputable def UW (r:nI) (sc:Scope) (a:Expr) (lo hi step:Option Expr) (ρ:i8) (st:St):Option (PV×St):=(r.E sc a ρ st).bind fun p=>(uT (r.E sc) ρ lo p.2).bind fun l=>
 (uT (r.E sc) ρ hi l.2).bind fun h=>(uT (r.E sc) ρ step h.2).bind fun s=>(kR s.2 p.1 l.1 h.1 s.1).map fun v=>(v,s.2)
noncomputable def Sw (r:nI) (sc:Scope) (a i:Expr) (ρ:i8) (st:St):Option (PV×St):=(r.E sc a ρ st).bind fun p=>(r.E sc i ρ p.2).bind fun q=>(jk q.2 p.1 q.1).map fun v=>(v,q.2)
noncomputable def qX (sc kh:Scope) (iter:Expr):Bool:= !(!Kl kh||oF iter|| !Et sc kh)
noncomputable def vc (r:nI) (sc:Scope) (elt target iter:Expr) (ifs:List Expr) (kh:Scope) (ρ:i8) (st:St):Option (PV×St):=gd (qX sc kh iter) ((r.E sc iter ρ st).bind fun p=>(contents p.2 p.1).bind fun l=>
 (lZ r kh (putL p.2.length) elt target ifs (kI p.1 p.2) l (freeOf kh ρ) (p.2++[.lst []])).bind fun ji=>finish p.2.length ji (.lst p.2.length))
noncomputable def AL (r:nI) (sc:Scope) (elt target iter:Expr) (kh:Scope) (ρ:i8) (st:St):Option (PV×St):=gd (qX sc kh iter) ((r.E sc iter ρ st).bind fun p=>(contents p.2 p.1).bind fun l=>
 (lZ r kh (O2 p.2.length) elt target [] (kI p.1 p.2) l (freeOf kh ρ) (p.2++[.bs none])).bind fun ji=>(HU ji p.2.length).bind fun o=>o.bind fun b=>
  gd (uR p.2.length ji) (some (.bset b,ji.take p.2.length)))
noncomputable def Sv (r:nI) (sc:Scope) (o:Expr) (name:Str) (apos pos:Pos) (args:List Expr) (ρ:i8) (st:St):Option (PV×St):=
 gd (ur o&&apos.endLine==pos.line&&args.length<20) ((r.E sc o ρ st).bind fun p=>gd (pK p.2 p.1) ((j9 (r.E sc) ρ args p.2).bind fun q=>methP q.2 p.1 name q.1))
noncomputable def TM (r:nI) (sc:Scope) (g xs:Expr) (ρ:i8) (st:St):Option (PV×St):=
 gd (!lI g&& !lI xs) ((r.E sc g ρ st).bind fun p=>(r.E sc xs ρ p.2).bind fun q=>(WX p.1).bind fun n=>(Sz q.1).bind fun k=>(j7 q.2 k).bind fun l=>
  (w_ (fun a st=>r.C n a [] st) (putL q.2.length) (kI (.lst k) q.2) l (q.2++[.lst []])).bind fun ji=>(finish q.2.length ji (.lst q.2.length)).bind fun w=>(pH w.1).map fun vs=>(.tup vs,w.2))
noncomputable def ql (sc:Scope) (ρ:i8) (f:Str):Bool:=(jW f ρ).isNone&&xA sc f
noncomputable def mapOf (sc:Scope) (ρ:i8) (args:List Expr):Option (Expr×Expr):=(one args).bind fun e=>(vG e).bind fun q=>(rF q.1).bind fun m=>(Ot q.2.1).bind fun g=>
 gd (q.2.2.isEmpty&&m==("map":Str)&&ql sc ρ m) (some g)
noncomputable def Li (r:nI) (sc:Scope) (f:Str) (args:List Expr) (kws:List Keyword) (ρ:i8) (st:St):Option (PV×St):=
 (j9 (r.E sc) ρ args st).bind fun p=>(B0 (r.E sc) ρ kws p.2).bind fun q=>
  if kJ.contains f then gd q.1.isEmpty ((lz q.2 f p.1).map fun v=>(v,q.2))else gd (!(fnOf f).isNone) (r.C f p.1 q.1 q.2)
noncomputable def GJ (r:nI) (sc:Scope) (f:Str) (args:List Expr) (kws:List Keyword) (ρ:i8) (st:St):Option (PV×St):=gd (ql sc ρ f)
 (match f==("tuple":Str)with
 |true=>gd kws.isEmpty ((mapOf sc ρ args).bind fun q=>TM r sc q.1 q.2 ρ st)
 |false=>Li r sc f args kws ρ st)
noncomputable def B7 (r:nI) (sc:Scope) (e:Expr) (ρ:i8) (st:St):Option (PV×St):=e.casesOn
 (fun op es pos=>Sx r sc op pos ρ st es)
 (fun z z z=>none)
 (fun a op b z=>aaR r sc a op b ρ st)
 (fun op a z=>UnaryOp.casesOn op none (aaP r sc a ρ st) none (aaQ r sc a ρ st))
 (fun z z z z=>none)
 (fun t a b z=>(r.T sc t ρ st).bind fun p=>cond p.1 (r.E sc a ρ p.2) (r.E sc b ρ p.2))
 (fun ks vs z=>gd (ks.isEmpty&&vs.isEmpty) (some (.dct st.length,st++[.dct []])))
 (fun es k z=>(one es).bind fun a=>gd (k==0) (Pd r sc a ρ st))
 (fun elt gens kh z=>(one gens).bind fun g=>gd (g.is_async==0) (vc r sc elt g.target g.iter g.ifs kh ρ st))
 (fun elt gens kh z=>(one gens).bind fun g=>gd (g.is_async==0&&g.ifs.isEmpty) (AL r sc elt g.target g.iter kh ρ st))
 (fun z z z z z=>none)
 (fun z z z z=>none)
 (fun z z=>none)
 (fun z z=>none)
 (fun z z=>none)
 (fun a ops es z=>(KA r sc a ops es ρ st).map fun p=>(.bool p.1,p.2))
 (fun f args kws pos=>(W6 f).elim ((rF f).bind fun f=>GJ r sc f args kws ρ st) fun q=>gd kws.isEmpty (Sv r sc q.1 q.2.1 q.2.2 pos args ρ st))
 (fun z z z z=>none)
 (fun z z=>none)
 (fun c z z=>LK c st)
 (fun z z z=>none)
 (fun a i z=>(Ek i).elim (Sw r sc a i ρ st) fun q=>UW r sc a q.1 q.2.1 q.2.2 ρ st)
 (fun z z=>none)
 (fun x z=>gd (sc.names.lookup x).isSome ((Cb sc x ρ).map fun v=>(v,st)))
 (fun es z=>(j9 (r.E sc) ρ es st).bind fun p=>gd (kM p.1) (some (.lst p.2.length,p.2++[.lst p.1])))
 (fun es z z=>(j9 (r.E sc) ρ es st).bind fun p=>gd (kM p.1) (some (.tup p.1,p.2)))
 (fun z z z z=>none)
noncomputable def W_ (r:nI) (sc:Scope) (op:BoolOp) (pos:Pos) (ρ:i8) (st:St):List Expr->Option (Bool×St)
 |[]=>some (op== .And,st)
 |a::nH=>(r.T sc a ρ st).bind fun p=>cond (qo op p.1) (r.T sc (.BoolOp op nH pos) ρ p.2) (some p)
noncomputable def Wj (r:nI) (sc:Scope) (e:Expr) (ρ:i8) (st:St):Option (Bool×St):=(r.E sc e ρ st).bind fun p=>(lK p.2 p.1).map fun b=>(b,p.2)
noncomputable def Sh (e:Expr):Bool:=e.ctorIdx !=0&&e.ctorIdx !=3&&e.ctorIdx !=5&&e.ctorIdx !=15
noncomputable def stepT (r:nI) (sc:Scope) (e:Expr) (ρ:i8) (st:St):Option (Bool×St):=cond (Sh e) (Wj r sc e ρ st) (e.casesOn
 (fun op es pos=>W_ r sc op pos ρ st es) (fun z z z=>none) (fun z z z z=>none) (fun op a z=>UnaryOp.casesOn op none ((r.T sc a ρ st).map fun p=>(!p.1,p.2)) none none) (fun z z z z=>none) (fun z z z z=>none) (fun z z z=>none) (fun z z z=>none) (fun z z z z=>none) (fun z z z z=>none) (fun z z z z z=>none) (fun z z z z=>none) (fun z z=>none) (fun z z=>none) (fun z z=>none) (fun a ops es z=>KA r sc a ops es ρ st) (fun z z z z=>none) (fun z z z z=>none) (fun z z=>none) (fun z z z=>none) (fun z z z=>none) (fun z z z=>none) (fun z z=>none) (fun z z=>none) (fun z z=>none) (fun z z z=>none) (fun z z z z=>none))
noncomputable def i0 (f:Stmt->i8->St->Option (jf×i8×St)):List Stmt->i8->St->Option (jf×i8×St)
 |[],ρ,st=>some (.next,ρ,st)
 |s::r,ρ,st=>(f s ρ st).bind fun p=>match p.1 with
  | .next=>i0 f r p.2.1 p.2.2
  |_=>some p
noncomputable def Gy:jf->Option jf
 | .ret v=>some (.ret v)
 | .brk=>some .next
 |_=>none
noncomputable def qy (body:i8->St->Option (jf×i8×St)) (sc:Scope) (target:Expr) (fit:St->Bool):List PV->i8->St->Option (jf×i8×St)
 |[],ρ,st=>some (.next,ρ,st)
 |v::vs,ρ,st=>(kX sc st target v ρ).bind fun ρ=>(body ρ st).bind fun p=>match Gy p.1 with
  |some fl=>some (fl,p.2)
  |none=>gd (fit p.2.2) (qy body sc target fit vs p.2.1 p.2.2)
noncomputable def mX (test:i8->St->Option (Bool×St)) (body:i8->St->Option (jf×i8×St)):Nat->i8->St->Option (jf×i8×St)
 |0,_,_=>none
 |n+1,ρ,st=>(test ρ st).bind fun t=>cond t.1 ((body ρ t.2).bind fun p=>match Gy p.1 with
   |some fl=>some (fl,p.2)
   |none=>mX test body n p.2.1 p.2.2) (some (.next,ρ,t.2))
noncomputable def R7 (r:nI) (sc:Scope) (e:Expr) (ρ:i8) (st:St):Option (jf×i8×St):=gd (vG e).isSome ((r.E sc e ρ st).bind fun p=>gd (p.1.ctorIdx==0||p.1.ctorIdx==3) (some (.next,ρ,p.2)))
noncomputable def Wk (r:nI) (sc:Scope) (a i e:Expr) (ρ:i8) (st:St):Option (jf×i8×St):=(r.E sc e ρ st).bind fun v=>(r.E sc a ρ v.2).bind fun x=>(r.E sc i ρ x.2).bind fun y=>(pL y.2 x.1 y.1 v.1).map fun st=>(.next,ρ,st)
noncomputable def GX (r:nI) (sc:Scope) (t e:Expr) (ρ:i8) (st:St):Option (jf×i8×St):=
 gd (!((isTuple t&&isTuple e)||(!isTuple t&&AI e))) ((r.E sc e ρ st).bind fun p=>(kX sc p.2 t p.1 ρ).map fun ρ=>(.next,ρ,p.2))
noncomputable def Pf (a b:PV):Option PV:=a.casesOn none (fun z=>none) (fun m=>(jJ b).map fun n=>.int (m+n)) (fun m=>(mJ b).bind fun n=>gd (kM (m++n)) (some (.str (m++n)))) (fun z=>none) (fun z=>none) (fun z=>none) (fun z=>none) (fun z=>none) (fun z=>none) (fun z=>none) (fun z=>none) (fun z=>none) (fun z z=>none)
noncomputable def Wl (r:nI) (sc:Scope) (x:Str) (e:Expr) (ρ:i8) (st:St):Option (jf×i8×St):=(jW x ρ).bind fun a=>(r.E sc e ρ st).bind fun p=>(Pf a p.1).bind fun v=>(qQ sc x v ρ).map fun ρ=>(.next,ρ,p.2)
noncomputable def HO (r:nI) (sc:Scope) (target iter:Expr) (body:List Stmt) (ρ:i8) (st:St):Option (jf×i8×St):=
 (r.E sc iter ρ st).bind fun p=>(contents p.2 p.1).bind fun l=>qy (i0 (r.S sc) body) sc target (kI p.1 p.2) l ρ p.2
noncomputable def HN (r:nI) (sc:Scope) (target a:Expr) (body:List Stmt) (ρ:i8) (st:St):Option (jf×i8×St):=
 gd (!lI a) ((r.E sc a ρ st).bind fun p=>(GN p.1).bind fun q=>qy (i0 (r.S sc) body) sc target (fun ζ=>true) (sI q.1 q.2).reverse ρ p.2)
noncomputable def D8 (l:List PV):List PV:=List.zipWith (fun(i:Nat) v=>PV.tup [.int (i:Int),v]) (List.range l.length) l
noncomputable def zl (r:nI) (sc:Scope) (target a:Expr) (body:List Stmt) (ρ:i8) (st:St):Option (jf×i8×St):=
 gd (!(lI a|| !isTuple target)) ((r.E sc a ρ st).bind fun p=>(pH p.1).bind fun l=>qy (i0 (r.S sc) body) sc target (fun ζ=>true) (D8 l) ρ p.2)
noncomputable def qg (sc:Scope) (ρ:i8) (iter:Expr):Option (Bool×Expr):=(vG iter).bind fun q=>(rF q.1).bind fun f=>(one q.2.1).bind fun a=>
 gd (q.2.2.isEmpty&&ql sc ρ f) (if f==("reversed":Str)then some (true,a)else gd (f==("enumerate":Str)) (some (false,a)))
noncomputable def KP (r:nI) (sc:Scope) (s:Stmt) (ρ:i8) (st:St):Option (jf×i8×St):=s.casesOn
 (fun z z z z z z z z z z=>none)
 (fun z z z z z z z z z z=>none)
 (fun z z z z z z z z z z z=>none)
 (fun o z=>o.bind fun e=>(r.E sc e ρ st).map fun p=>(.ret p.1,ρ,p.2))
 (fun z z=>none)
 (fun ts e z=>(one ts).bind fun t=>(Te t).elim (GX r sc t e ρ st) fun q=>Wk r sc q.1 q.2 e ρ st)
 (fun z z z z z z z=>none)
 (fun t op e z=>(rF t).bind fun x=>gd (decide (op= .Add)) (Wl r sc x e ρ st))
 (fun z z z z z=>none)
 (fun target iter body oe z=>gd oe.isEmpty ((qg sc ρ iter).elim (gd (!oF iter) (HO r sc target iter body ρ st)) fun q=>cond q.1 (HN r sc target q.2 body ρ st) (zl r sc target q.2 body ρ st)))
 (fun z z z z z=>none)
 (fun t body oe z=>gd oe.isEmpty (mX (r.T sc t) (i0 (r.S sc) body) 40 ρ st))
 (fun t a b z=>(r.T sc t ρ st).bind fun p=>cond p.1 (i0 (r.S sc) a ρ p.2) (i0 (r.S sc) b ρ p.2))
 (fun z z z=>none)
 (fun z z z=>none)
 (fun z z z=>none)
 (fun z z z=>none)
 (fun body hs oe fb z=>gd (!hs.isEmpty&&oe.isEmpty&&fb.isEmpty) (i0 (r.S sc) body ρ st))
 (fun z z z z z=>none)
 (fun z z z=>none)
 (fun z z=>none)
 (fun z z z z=>none)
 (fun z z=>none)
 (fun z z=>none)
 (fun e z=>R7 r sc e ρ st)
 (fun z=>some (.next,ρ,st))
 (fun z=>some (.brk,ρ,st))
 (fun z=>some (.cont,ρ,st))
noncomputable def zA (a:Arguments) (args:List PV) (kws:List (Str×PV)):Option (List Str×List PV):=
 gd (a.posonlyargs.isEmpty&&a.kwarg.isNone&&a.defaults.isEmpty) (match a.vararg with
 |some v=>gd (a.kwonlyargs.isEmpty&&kws.isEmpty&&args.length==a.args.length+1) (some (a.args.map (·.arg)++[v.arg],args.take a.args.length++[.tup (args.drop a.args.length)]))
 |none=>gd (a.args.length==args.length&&kws.map (·.1)==a.kwonlyargs.map (·.arg)) (some (a.args.map (·.arg)++kws.map (·.1),args++kws.map (·.2))))
noncomputable def u9:List Str:=["skip_chars","skip_until","join","normpath","_law_top","_law_depth","_law_steps","_law_figures","is_unicode_scalar_value"]
noncomputable def Cj (x:PV):Bool:=x.casesOn true (fun z=>true) (fun z=>true) (fun z=>true) (fun z=>false) (fun z=>false) (fun z=>false) (fun z=>false) (fun z=>false) (fun z=>false) (fun z=>false) (fun z=>false) (fun z=>false) (fun z z=>false)
noncomputable def B9:jf->PV
 | .ret v=>v
 |_=>.none
noncomputable def Ky (sc:Scope):Bool:= !(!Kl sc|| !sc.names.all (fun x=>x.2 != .free))
noncomputable def zy (r:nI) (f:Str) (args:List PV) (kws:List (Str×PV)) (st:St):Option (PV×St):=
 (fnOf f).bind fun q=>gd (Ky q.2.2) ((zA q.1 args kws).bind fun b=>
  (storeAll q.2.2 b.1 b.2 []).bind fun ρ=>(i0 (r.S q.2.2) q.2.1 ρ st).bind fun p=>finish st.length p.2.2 (B9 p.1))
noncomputable def KQ (r:nI) (f:Str) (args:List PV) (kws:List (Str×PV)) (st:St):Option (PV×St):=
 if u9.contains f then gd (i_ 0 args&&i_ 0 (kws.map (·.2))) ((zy r f args kws []).bind fun q=>gd (Cj q.1) (some (q.1,st)))
 else zy r f args kws st
noncomputable def Xa (r:nI):nI:=⟨B7 r,stepT r,KP r,KQ r⟩
noncomputable def ev:Nat->nI
 |0=>⟨fun ζ ζ ζ ζ=>none,fun ζ ζ ζ ζ=>none,fun ζ ζ ζ ζ=>none,fun ζ ζ ζ ζ=>none⟩
 |n+1=>Xa (ev n)
section
variable{α β:Type}{G:Prop}
theorem iU{x:Option α}{f:α->Option β}{y:β}(h:x.bind f=some y)(k:∀a,x=some a->f a=some y->G):G:=by
 cases x with
 |none=>cases h
 |some a=>exact k a rfl h
theorem jw{x:Option α}{f:α->β}{y:β}(h:x.map f=some y)(k:∀a,x=some a->f a=y->G):G:=by
 cases x with
 |none=>cases h
 |some a=>exact k a rfl (aj h)
theorem kO{c:Bool}{x:Option α}{y:α}(h:gd c x=some y)(k:c=true->x=some y->G):G:=by
 cases c with
 |true=>exact k rfl h
 |false=>cases h
theorem qz{x z:Option α}{y:α}(h:zj x z=some y)(k:x=some y->G)(k2:z=some y->G):G:=by
 cases x with
 |none=>exact k2 h
 |some a=>exact k h
theorem mC{c:Bool}{x z:Option α}{y:α}(h:(if c then x else z)=some y)(k:c=true->x=some y->G)(k2:z=some y->G):G:=by
 cases c with
 |true=>exact k rfl h
 |false=>exact k2 h
theorem ku{y:α}(h:none=some y):G:=nomatch h
theorem jU{l:List α}{a:α}(h:one l=some a):l=[a]:=by
 match l,h with
 |[_],h=>(refine iR (aj h) ?_;exact rfl)
theorem pZ{l:List α}{a:α×α}(h:Ot l=some a):l=[a.1,a.2]:=by
 match l,h with
 |[_,_],h=>(refine jC (aj h) ?_;exact rfl)
end
section
variable{x:PV}
theorem jv{a:Int}(h:jJ x=some a):x= .int a:=by cases x with
 |int=>exact aQ _ (aj h)
 |_=>exact ku h
theorem jG{a:ah}(h:mJ x=some a):x= .str a:=by cases x with
 |str=>exact aQ _ (aj h)
 |_=>exact ku h
theorem qJ{a:List PV}(h:zB x=some a):x= .tup a:=by cases x with
 |tup=>exact aQ _ (aj h)
 |_=>exact ku h
theorem kD{a:List PV}(h:pH x=some a):x= .list a:=by cases x with
 |list=>exact aQ _ (aj h)
 |_=>exact ku h
theorem JV{a:Nat}(h:Sz x=some a):x= .lst a:=by cases x with
 |lst=>exact aQ _ (aj h)
 |_=>exact ku h
theorem yw{a:List Int}(h:EB x=some a):x= .iset a:=by cases x with
 |iset=>exact aQ _ (aj h)
 |_=>exact ku h
theorem Gd{a:ah}(h:LR x=some a):x= .cset a:=by cases x with
 |cset=>exact aQ _ (aj h)
 |_=>exact ku h
theorem Ge{a:Bool}(h:LS x=some a):x= .bset a:=by cases x with
 |bset=>exact aQ _ (aj h)
 |_=>exact ku h
theorem tV{a:Bool}(h:xF x=some a):x= .bool a:=by cases x with
 |bool=>exact aQ _ (aj h)
 |_=>exact ku h
theorem Oi{a:Str}(h:WX x=some a):x= .fn a:=by cases x with
 |fn=>exact aQ _ (aj h)
 |_=>exact ku h
theorem sG{a:String}(h:Ck x=some a):x= .typ a:=by cases x with
 |typ=>exact aQ _ (aj h)
 |_=>exact ku h
theorem vB{a:Int×Int}(h:GN x=some a):x= .rng a.1 a.2:=by cases x with
 |rng=>(obtain rfl:=aj h);rfl
 |_=>exact ku h
end
theorem Np{c:Option j8}{l:List PV}(h:(match c with|some (.lst l)=>some l|_=>none)=some l):c=some (.lst l):=by
 cases c with
 |none=>exact ku h
 |some c=>cases c with
  |lst m=>exact aQ (fun m=>some (j8.lst m)) (aj h)
  |_=>exact ku h
theorem N5{c:Option j8}{l:List (ah×PV)}(h:(match c with|some (.dct l)=>some l|_=>none)=some l):c=some (.dct l):=by
 cases c with
 |none=>exact ku h
 |some c=>cases c with
  |dct m=>exact aQ (fun m=>some (j8.dct m)) (aj h)
  |_=>exact ku h
theorem Rk{c:Option j8}{l:Option Bool}(h:(match c with|some (.bs l)=>some l|_=>none)=some l):c=some (.bs l):=by
 cases c with
 |none=>exact ku h
 |some c=>cases c with
  |bs m=>exact aQ (fun m=>some (j8.bs m)) (aj h)
  |_=>exact ku h
theorem j_{st:St}{k:Nat}{l:List PV}(h:j7 st k=some l):st[k]? =some (.lst l):=Np h
theorem vz{st:St}{k:Nat}{l:List (ah×PV)}(h:Lj st k=some l):st[k]? =some (.dct l):=N5 h
theorem xT{st:St}{k:Nat}{l:Option Bool}(h:HU st k=some l):st[k]? =some (.bs l):=Rk h
def pX(st:St)(x:PV)(l:List PV):Prop:=x= .list l\/∃k,x= .lst k/\st[k]? =some (.lst l)
theorem pM{st:St}{x:PV}{l:List PV}(h:uS st x=some l):pX st x l:=by
 cases x with
 |list m=>exact .inl (aQ _ (aj h))
 |lst k=>exact .inr (jt k rfl (j_ h))
 |_=>exact ku h
theorem Cr{st:St}{x:PV}{l:List PV}(h:qe st x=some l):x= .tup l\/pX st x l:=qz h (fun h=>.inl (qJ h)) fun h=>.inr (pM h)
theorem BL{st:St}{x:PV}{l:List PV}(h:contents st x=some l):(∃a b,x= .rng a b/\l=sI a b)\/x= .tup l\/pX st x l:=
 qz h (fun h=>jw h fun ζ h1 h2=>.inl (Ow _ _ (vB h1) h2.symm)) fun h=>.inr (Cr h)
@[elab_as_elim] theorem tF {e:Expr} {x:Str} {G:Expr->Prop} (h:rF e=some x) (k:∀p,G (.Name x p)):G e:=by cases e with
 |Name y p=>exact aj h▸k p
 |_=>exact ku h
@[elab_as_elim] theorem Pu {e:Expr} {x:List Expr} {G:Expr->Prop} (h:Lr e=some x) (k:∀n p,G (.Tuple x n p)):G e:=by cases e with
 |Tuple y n p=>exact aj h▸k n p
 |_=>exact ku h
@[elab_as_elim] theorem El {e:Expr} {q:Expr×List Expr×List Keyword} {G:Expr->Prop} (h:vG e=some q) (k:∀p,G (.Call q.1 q.2.1 q.2.2 p)):G e:=by cases e with
 |Call f a w p=>obtain rfl:=aj h;exact k p
 |_=>exact ku h
theorem pX.contents{st:St}{x:PV}{l:List PV}(h:pX st x l):uS st x=some l:=by
 rcases h with rfl|⟨k,rfl,h⟩
 ·rfl
 ·refine(?_:j7 st k=_);unfold j7;exact iR h rfl
inductive Flat:PV->PV->Type
 |int (i j:Int):Flat (.int i) (.int j)
 |str (a b:ah):Flat (.str a) (.str b)
noncomputable def Flat.eq:{a b:PV}->Flat a b->Bool
 |_,_,.int i j=>i==j
 |_,_,.str i j=>i==j
noncomputable def Flat.lt:{a b:PV}->Flat a b->Bool
 |_,_,.int i j=>decide (i<j)
 |_,_,.str i j=>strLt i j
theorem yt{a b:PV}{r:Bool}(h:qp a b=some r):∃f:Flat a b,r=f.eq:=by
 refine qz h (fun h=> ?_) fun h=> ?_
 ·refine iU h fun i h1 h=>jw h fun j h2 h3=> ?_;have e1:=jv h1;have e2:=jv h2;subst e1 e2;exact⟨.int i j,h3.symm⟩
 ·refine iU h fun i h1 h=>jw h fun j h2 h3=> ?_;have e1:=jG h1;have e2:=jG h2;clear h h1 h2;clear h;subst e1 e2;exact⟨.str i j,h3.symm⟩
theorem FG{a b:PV}{r:Bool}(h:qW a b=some r):∃f:Flat a b,r=f.lt:=by
 refine qz h (fun h=> ?_) fun h=> ?_
 ·refine iU h fun i h1 h=>jw h fun j h2 h3=> ?_;have e1:=jv h1;have e2:=jv h2;subst e1 e2;exact⟨.int i j,h3.symm⟩
 ·refine iU h fun i h1 h=>jw h fun j h2 h3=> ?_;have e1:=jG h1;have e2:=jG h2;clear h h1 h2;clear h;subst e1 e2;exact⟨.str i j,h3.symm⟩
def jY(T:String)(o:Obj)(vs:List Value):Prop:=∃n,o={cls:=.type T,dict:=none,data:=.seq vs.toArray n,slots:= #[]}/\vs.length<=sizeLine
def AP(T:String){prog:Program}{w:World}{K:Type}[DecidableEq K](knd:KeyKind prog w K)(o:Obj)(S:K->Bool)(n:Nat):Prop:=
 ∃es ep t,o={cls:=.type T,dict:=none,data:=.set es ep t,slots:= #[]}/\ElemsOf knd es.toList/\(∀k,S k=true↔ ∃e∈es.toList,knd.is k e.2=true)/\es.size=n/\t.fits es.size=true
def Be(prog:Program)(w:World)(o:Obj)(l:List Int):Prop:=AP "set" (intKind prog w) o (fun i=>l.contains i) l.length/\l.length<=100/\l.Nodup
noncomputable def Ed(l:ah)(x:Str):Bool:=match x.cps.toList with
 |[c]=>l.contains c
 |_=>false
def Bg(prog:Program)(w:World)(o:Obj)(l:ah):Prop:=∃n,n<=200/\AP "frozenset" (PySem.strKind prog w) o (Ed l) n
def wZ(w:World)(o:Obj)(b:Bool):Prop:=∃ep t,o={cls:=.type "set",dict:=none,data:=.set #[((if b then 1 else 0),.bool b)] ep t,slots:= #[]}/\t.fits 1=true/\(w.params.followText "set-order"||t.led)=true
def EC(o:Obj)(a b:Int):Prop:=∃t u v,o={cls:=.type "range",dict:=none,data:=.fields #[.int a t,.int b u,.int 1 v],slots:= #[]}/\0<=a/\a<=100000/\ -100000<=b/\b<=100000
structure Cx where
 prog:Program
 w:World
 h₀:Heap
 mg:Str->Option Value
noncomputable abbrev Cx.M(C:Cx):Model:=model C.prog C.w
mutual
def VR(C:Cx)(σ:List Addr)(h:Heap):PV->Value->Prop
 | .none,v=>v= .none
 | .bool b,v=>v= .bool b
 | .int i,v=>∃t,v= .int i t
 | .str l,v=>∃x t,v= .str x t/\x.cps.toList=l/\x.length<=sizeLine
 | .tup l,v=>∃a o vs,v= .ref a/\a∉σ/\h.get? a=some o/\jY "tuple" o vs/\jH C σ h l vs
 | .list l,v=>∃a o vs,v= .ref a/\a∉σ/\h.get? a=some o/\jY "list" o vs/\jH C σ h l vs
 | .lst k,v=>∃a,v= .ref a/\σ[k]? =some a
 | .dct k,v=>∃a,v= .ref a/\σ[k]? =some a
 | .iset l,v=>∃a o,v= .ref a/\a∉σ/\h.get? a=some o/\Be C.prog C.w o l
 | .cset l,v=>∃a o,v= .ref a/\a∉σ/\h.get? a=some o/\Bg C.prog C.w o l
 | .bset b,v=>∃a o,v= .ref a/\a∉σ/\h.get? a=some o/\wZ C.w o b
 | .fn n,v=>C.mg n=some v
 | .typ t,v=>v= .type t
 | .rng a b,v=>∃x o,v= .ref x/\x∉σ/\h.get? x=some o/\EC o a b
def jH(C:Cx)(σ:List Addr)(h:Heap):List PV->List Value->Prop
 |[],vs=>vs=[]
 |p::l,vs=>∃v r,vs=v::r/\VR C σ h p v/\jH C σ h l r
end
def lq(o:Obj):Prop:=(∃x n,o.data= .seq x n)\/(∃x e t,o.data= .set x e t)\/(o.cls= .type "range"/\∃f,o.data= .fields f)
theorem jY.val{T:String}{o:Obj}{vs:List Value}(h:jY T o vs):lq o:=by(refine jm h fun n sX ζ=> ?_;(clear h;refine iR sX ?_));exact .inl (DO _ _ rfl)
theorem AP.val{T:String}{prog:Program}{w:World}{K:Type}[DecidableEq K]{knd:KeyKind prog w K}{o:Obj}{S:K->Bool}{n:Nat}(h:AP T knd o S n):lq o:=by
 refine Ov h fun ζ ζ ζ vF ζ=> ?_;clear h;refine iR vF ?_;exact .inr (.inl (RK _ _ _ rfl))
theorem wZ.val{w:World}{o:Obj}{b:Bool}(h:wZ w o b):lq o:=by(refine Vk h fun ζ ζ BV ζ=> ?_;(clear h;refine iR BV ?_));exact .inr (.inl (RK _ _ _ rfl))
theorem EC.val{o:Obj}{a b:Int}(h:EC o a b):lq o:=by(refine Ov h fun ζ ζ ζ OH ζ=> ?_;(clear h;refine iR OH ?_));exact .inr (.inr ⟨rfl,_,rfl⟩)
theorem lq.dict{o:Obj}(h:lq o){e:Array DictEntry}{n:Nat}(d:o.data= .dict e n):False:=by
 rcases h with⟨_,_,h⟩|⟨_,_,_,h⟩|⟨_,_,h⟩<;>rw[d]at h<;>contradiction
theorem lq.cell{o:Obj}(h:lq o){c:Option Value}(d:o.data= .cell c):False:=by
 rcases h with⟨_,_,h⟩|⟨_,_,_,h⟩|⟨_,_,h⟩<;>rw[d]at h<;>contradiction
structure tD(σ:List Addr)(h:Heap)(σ':List Addr)(h':Heap):Prop where
 pre:∃t,σ'=σ++t
 fresh:∀a,a∈σ'->a∉σ->h.get? a=none
 keep:∀b o,h.get? b=some o->b∉σ->lq o->h'.get? b=some o
theorem tD.notMem{σ σ':List Addr}{h h':Heap}(m:tD σ h σ' h'){a:Addr}{o:Obj}(hn:a∉σ)(ho:h.get? a=some o):a∉σ':=fun hm=>by
 rw[m.fresh a hm hn]at ho;exact ku ho
mutual
theorem VR.mono{C:Cx}{σ σ':List Addr}{h h':Heap}(m:tD σ h σ' h'):∀{p:PV}{v:Value},VR C σ h p v->VR C σ' h' p v
 | .none,_,x=>by exact x
 | .bool b,_,x=>by exact x
 | .int i,_,x=>by exact x
 | .str l,_,x=>by exact x
 | .tup l,_,x=>by
  refine wF x fun a o vs OG hn ho so r=> ?_;subst OG;exact Ak a o vs rfl (m.notMem hn ho) (m.keep a o ho hn so.val) so (jH.mono m r)
 | .list l,_,x=>by
  refine wF x fun a o vs OF hn ho so r=> ?_;subst OF;exact Ak a o vs rfl (m.notMem hn ho) (m.keep a o ho hn so.val) so (jH.mono m r)
 | .lst k,_,x=>by
  refine jm x fun a YY ha=> ?_;subst YY;refine m9 m.pre fun t YX=> ?_;subst YX;exact⟨a,rfl,by(refine iR (bf (ay.mp ha).1) ?_);exact ha⟩
 | .dct k,_,x=>by
  refine jm x fun a z65 ha=> ?_;subst z65;refine m9 m.pre fun t YW=> ?_;subst YW;exact⟨a,rfl,by(refine iR (bf (ay.mp ha).1) ?_);exact ha⟩
 | .iset l,_,x=>by
  refine DN x fun a o VE hn ho so=> ?_;subst VE;exact v9 a o rfl (m.notMem hn ho) (m.keep a o ho hn so.1.val) so
 | .cset l,_,x=>by
  refine DN x fun a o VD hn ho so=> ?_;subst VD;exact v9 a o rfl (m.notMem hn ho) (m.keep a o ho hn (let⟨_,_,z⟩:=so;z.val)) so
 | .bset l,_,x=>by
  refine DN x fun a o Y3 hn ho so=> ?_;subst Y3;exact v9 a o rfl (m.notMem hn ho) (m.keep a o ho hn so.val) so
 | .fn n,_,x=>by exact x
 | .typ t,_,x=>by exact x
 | .rng a b,_,x=>by
  refine DN x fun a o VC hn ho so=> ?_;refine iR VC ?_;exact v9 a o rfl (m.notMem hn ho) (m.keep a o ho hn so.val) so
theorem jH.mono{C:Cx}{σ σ':List Addr}{h h':Heap}(m:tD σ h σ' h'):∀{l:List PV}{vs:List Value},jH C σ h l vs->jH C σ' h' l vs
 |[],_,x=>by exact x
 |_::_,_,x=>by
  refine qL x fun v r Y0 a b=> ?_;clear x;refine iR Y0 ?_;exact BR v r rfl (VR.mono m a) (jH.mono m b)
end
theorem jH.nilE{C:Cx}{σ:List Addr}{h:Heap}{vs:List Value}(x:jH C σ h [] vs):vs=[]:=by exact x
theorem jH.consE{C:Cx}{σ:List Addr}{h:Heap}{p:PV}{l:List PV}{vs:List Value}(x:jH C σ h (p::l) vs):∃v r,vs=v::r/\VR C σ h p v/\jH C σ h l r:=by exact x
theorem jH.length{C:Cx}{σ:List Addr}{h:Heap}:∀{l:List PV}{vs:List Value},jH C σ h l vs->vs.length=l.length:=by
 intro L0
 induction L0 with
 |nil=>
  intro _ x;refine iR x ?_;rfl
 |cons _ _ ih=>
  intro _ x;refine qL x fun v r z31 ζ b=> ?_;clear x;refine iR z31 ?_;simp[ih b]
theorem jH.get{C:Cx}{σ:List Addr}{h:Heap}:∀{l:List PV}{vs:List Value}{i:Nat}{p:PV},jH C σ h l vs->l[i]? =some p->∃v,vs[i]? =some v/\VR C σ h p v:=by
 intro L0
 induction L0 with
 |nil=>
  intro _ _ _ _ e;trivial
 |cons q l ih=>
  intro _ i p x e;refine qL x fun v r z32 a b=> ?_;clear x;refine iR z32 ?_;cases i with
  |zero=>simp only[gq,dZ]at e |-; subst e;exact(jt v rfl a)
  |succ i=>simp only[List.getElem?_cons_succ]at e |-; exact ih b e
theorem jH.at{C:Cx}{σ:List Addr}{h:Heap}:∀{l:List PV}{vs:List Value}{i:Nat}{v:Value},jH C σ h l vs->vs[i]? =some v->∃p,l[i]? =some p/\VR C σ h p v:=by
 intro L0
 induction L0 with
 |nil=>
  intro _ _ _ x e;subst x;trivial
 |cons q l ih=>
  intro _ i p x e;refine qL x fun v r z33 a b=> ?_;clear x;subst z33;cases i with
  |zero=>simp only[gq,dZ]at e |-; subst e;exact(jt _ rfl a)
  |succ i=>exact ih b e
theorem jH.append{C:Cx}{σ:List Addr}{h:Heap}{m:List PV}{us:List Value}(y:jH C σ h m us):∀{l:List PV}{vs:List Value},jH C σ h l vs->jH C σ h (l++m) (vs++us):=by
 intro L0
 induction L0 with
 |nil=>
  intro _ x;refine iR x ?_;exact y
 |cons q l ih=>
  intro _ x;refine qL x fun v r z34 a b=> ?_;clear x;refine iR z34 ?_;exact(BR v _ rfl a (ih b):jH C σ h (q::(l++m)) (v::(r++us)))
theorem jH.nil{C:Cx}{σ:List Addr}{h:Heap}:jH C σ h [] []:=by rfl
theorem jH.cons{C:Cx}{σ:List Addr}{h:Heap}{p:PV}{v:Value}{l:List PV}{r:List Value}(a:VR C σ h p v)(b:jH C σ h l r):jH C σ h (p::l) (v::r):=BR v r rfl a b
theorem jH.drop{C:Cx}{σ:List Addr}{h:Heap}:∀(n:Nat){l:List PV}{vs:List Value},jH C σ h l vs->jH C σ h (l.drop n) (vs.drop n):=by
 intro L0
 induction L0 with
 |zero=>
  intro _ _ x;exact x
 |succ n ih=>
  intro L1;cases L1 with
  |nil=>
   intro _ x;refine iR x ?_;exact jH.nil
  |cons q l=>
   intro _ x;refine qL x fun v r z35 a b=> ?_;clear x a;refine iR z35 ?_;exact ih b
theorem jH.take{C:Cx}{σ:List Addr}{h:Heap}:∀(n:Nat){l:List PV}{vs:List Value},jH C σ h l vs->jH C σ h (l.take n) (vs.take n):=by
 intro L0
 induction L0 with
 |zero=>
  intro _ _ _;exact jH.nil
 |succ n ih=>
  intro L1;cases L1 with
  |nil=>
   intro _ x;refine iR x ?_;exact jH.nil
  |cons q l=>
   intro _ x;refine qL x fun v r z36 a b=> ?_;clear x;refine iR z36 ?_;exact jH.cons a (ih b)
theorem jH.set{C:Cx}{σ:List Addr}{h:Heap}{p:PV}{v:Value}(y:VR C σ h p v):∀(n:Nat){l:List PV}{vs:List Value},jH C σ h l vs->jH C σ h (l.set n p) (vs.set n v):=by
 intro L0
 induction L0 with
 |zero=>
  intro L1;cases L1 with
  |nil=>
   intro _ x;subst x;exact jH.nil
  |cons q l=>
   intro _ x;refine qL x fun u r z52 a b=> ?_;clear x;subst z52;exact jH.cons y b
 |succ n ih=>
  intro L1;cases L1 with
  |nil=>
   intro _ x;subst x;exact jH.nil
  |cons q l=>
   intro _ x;refine qL x fun u r z53 a b=> ?_;clear x;subst z53;exact jH.cons a (ih b)
def lu(C:Cx)(σ:List Addr)(h:Heap):List (ah×PV)->List (Str×Value)->Prop
 |[],r=>r=[]
 |(k,p)::l,r=>∃x v r',r=(x,v)::r'/\x.cps.toList=k/\VR C σ h p v/\lu C σ h l r'
theorem lu.mono{C:Cx}{σ σ':List Addr}{h h':Heap}(m:tD σ h σ' h'):∀{l:List (ah×PV)}{r:List (Str×Value)},lu C σ h l r->lu C σ' h' l r
 |[],_,x=>by exact x
 |(_,_)::_,_,x=>by
  refine J9 x fun y v r' z40 e a b=> ?_;clear x;refine iR z40 ?_;exact ON y v r' rfl e (VR.mono m a) (lu.mono m b)
def ue(C:Cx)(σ:List Addr)(h:Heap)(a:Addr):j8->Prop
 | .lst l=>∃o vs,h.get? a=some o/\jY "list" o vs/\jH C σ h l vs
 | .dct l=>∃kvs,h.DictOf (PySem.strKind C.prog C.w) a kvs/\lu C σ h l kvs
 | .bs none=>∃led,h.get? a=some {cls:=.type "set",dict:=none,data:=.set #[] 0 (.fresh 0 0 led),slots:= #[]}/\(C.w.params.followText "set-order"||led)=true
 | .bs (some b)=>∃o,h.get? a=some o/\wZ C.w o b
structure Ok(C:Cx)(σ:List Addr)(s:Shared)(st:St):Prop where
 base:∀b o,C.h₀.get? b=some o->s.heap.get? b=some o
 fresh0:∀a∈σ,C.h₀.get? a=none
 len:σ.length=st.length
 nodup:σ.Nodup
 cells:∀(k:Nat) a c,σ[k]? =some a->st[k]? =some c->ue C σ s.heap a c
structure jX(own:Addr->Prop)(σ:List Addr)(s:Shared)(σ':List Addr)(s':Shared):Prop where
 pre:∃t,σ'=σ++t
 fresh:∀a,a∈σ'->a∉σ->s.heap.get? a=none
 keep:∀b o,s.heap.get? b=some o->b∉σ->¬ own b->s'.heap.get? b=some o
 alive:∀a o,own a->s.heap.get? a=some o->¬ lq o/\∃o',s'.heap.get? a=some o'/\¬ lq o'
 gens:s'.gens=s.gens
 os:s'.os=s.os
def jP:Addr->Prop:=fun ζ=>False
theorem jX.refl{own:Addr->Prop}{σ:List Addr}{s:Shared}(Ea:∀a o,own a->s.heap.get? a=some o->¬ lq o):jX own σ s σ s:=
 ⟨⟨[],by simp⟩,fun ζ h h'=>absurd h h',fun ζ ζ e ζ ζ=>e,fun a o ha e=>⟨Ea a o ha e,o,e,Ea a o ha e⟩,rfl,rfl⟩
theorem jX.rfl'{σ:List Addr}{s:Shared}:jX jP σ s σ s:=jX.refl fun ζ ζ h=>h.elim
theorem jX.toks{own:Addr->Prop}{σ σ':List Addr}{s s':Shared}(x:jX own σ s σ' s')(t:Nat):jX own σ s σ' {s' with toks:=t}:=⟨x.pre,x.fresh,x.keep,x.alive,x.gens,x.os⟩
theorem jX.mem{own:Addr->Prop}{σ σ':List Addr}{s s':Shared}(x:jX own σ s σ' s'){a:Addr}(h:a∈σ):a∈σ':=by
 refine m9 x.pre fun t z41=> ?_;clear x;refine iR z41 ?_;exact aY _ h
theorem jX.trans{own:Addr->Prop}{σ jN lX:List Addr}{s s₁ j5:Shared}(x:jX own σ s jN s₁)(y:jX own jN s₁ lX j5):jX own σ s lX j5 where
 pre:=by
  refine m9 x.pre fun t z42=> ?_;subst z42;obtain⟨u,rfl⟩:=y.pre;exact⟨t++u,by simp⟩
 fresh:=fun a h2 h0=>by
  refine bc (p:=a∈jN) (fun h1=> ?_) fun h1=> ?_
  ·exact x.fresh a h1 h0
  ·have e:=y.fresh a h2 h1;cases q:s.heap.get? a with
   |none=>rfl
   |some o=>
    refine bc (p:=own a) (fun ha=> ?_) fun ha=> ?_
    ·obtain⟨_,o',z,_⟩:=x.alive a o ha q;rw[e]at z;exact ku z
    ·replace e:=(x.keep a o q h0 ha)▸e;contradiction
 keep:=fun b o e h0 hb=>by
  refine y.keep b o (x.keep b o e h0 hb) (fun h1=> ?_) hb
  replace e:=(x.fresh b h1 h0)▸e
  exact ku e
 alive:=fun a o ha e=>by
  refine cps fun G_ VB=>cps fun G_ YV=> ?_;obtain⟨h1,o',z,_⟩:=x.alive a o ha e;exact lP (y.alive a o' ha z) fun ζ r=>YV <| VB <| ⟨h1,r⟩
 gens:=y.gens.trans x.gens
 os:=y.os.trans x.os
theorem jX.widen{own wh:Addr->Prop}{σ σ':List Addr}{s s':Shared}(x:jX own σ s σ' s')(hn:∀a,wh a->¬ own a->a∉σ)(hs:∀a,own a->wh a)
  (Ea:∀a o,wh a->¬ own a->s.heap.get? a=some o->¬ lq o):jX wh σ s σ' s':=
 ⟨x.pre,x.fresh,fun b o e h h'=>x.keep b o e h fun z=>h' (hs b z),fun a o ha e=>by
  refine bc (p:=own a) (fun h=> ?_) fun h=> ?_
  ·exact x.alive a o h e
  ·exact⟨Ea a o ha h e,o,x.keep a o e (hn a ha h) h,Ea a o ha h e⟩,x.gens,x.os⟩
theorem jX.weaken{own:Addr->Prop}{σ σ':List Addr}{s s':Shared}(x:jX jP σ s σ' s')(hn:∀a,own a->a∉σ)
  (Ea:∀a o,own a->s.heap.get? a=some o->¬ lq o):jX own σ s σ' s':=x.widen (fun a h ζ=>hn a h) (fun ζ h=>h.elim) fun a o h ζ e=>Ea a o h e
theorem jX.strip{own wh:Addr->Prop}{σ σ':List Addr}{s s':Shared}(x:jX wh σ s σ' s')(h:∀a,wh a->¬ own a->s.heap.get? a=none)(hs:∀a,own a->wh a):jX own σ s σ' s':=
 ⟨x.pre,x.fresh,fun b o e h1 h2=>x.keep b o e h1 fun z=>(by rw[h b z h2]at e;exact ku e),fun a o ha e=>x.alive a o (hs a ha) e,x.gens,x.os⟩
theorem jX.mono{own:Addr->Prop}{σ σ':List Addr}{s s':Shared}(x:jX own σ s σ' s'):tD σ s.heap σ' s'.heap:=
 ⟨x.pre,x.fresh,fun b o e h hv=>x.keep b o e h fun hb=>(x.alive b o hb e).1 hv⟩
def AR(h:Heap)(cd:Value):Prop:=∃c o vs,cd= .ref c/\h.get? c=some o/\o.data= .fields vs
def own(sc:Scope)(env:Env)(a:Addr):Prop:=a=env.locals\/∃x,i9 sc x=some .cell/\env.cells.lookup x=some a
structure iZ(C:Cx)(sc:Scope)(env:Env)(σ:List Addr)(h:Heap)(ρ:i8):Prop where
 kind:env.scope.kind= .function
 plain:∀x k,i9 sc x=some k->ng x=true
 loc:∀x,i9 sc x=some .local->env.kindOf x=some .local
 cel:∀x,i9 sc x=some .cell->env.kindOf x=some .cell
 fre:∀x,i9 sc x=some .free->env.kindOf x=some .free\/env.kindOf x=some .cell
 glo:∀x,i9 sc x=some .globalImplicit->env.kindOf x=some .globalImplicit
 globals:env.globals=mainGlobals
 builtins:env.builtins=builtinsNs
 code:AR C.h₀ env.code
 ns:∃m,h.Ns env.locals m/\∀x v,jW x ρ=some v->i9 sc x=some .local->∃val,m x=some val/\VR C σ h v val
 cells:∀x,(i9 sc x=some .cell\/i9 sc x=some .free)->∃c vo,env.cells.lookup x=some c/\h.IsCell c vo/\c∉σ/\∀v,jW x ρ=some v->∃val,vo=some val/\VR C σ h v val
 apart:∀x y c,i9 sc x=some .cell->(i9 sc y=some .cell\/i9 sc y=some .free)->x≠y->env.cells.lookup x=some c->env.cells.lookup y≠some c
 dom:∀x v,jW x ρ=some v->i9 sc x=some .local\/i9 sc x=some .cell\/i9 sc x=some .free
 newL:C.h₀.get? env.locals=none
 newC:∀x c,i9 sc x=some .cell->env.cells.lookup x=some c->C.h₀.get? c=none
 notL:env.locals∉σ
section
variable{C:Cx}{sc:Scope}{env:Env}{σ σ':List Addr}{s s':Shared}{ρ:i8}{st ji:St}
theorem iZ.nsC{h:Heap}{G:Prop}(F:iZ C sc env σ h ρ)(k:∀m,h.Ns env.locals m->(∀x v,jW x ρ=some v->i9 sc x=some .local->∃val,m x=some val/\VR C σ h v val)->G):G:=jm F.ns k
theorem iZ.cellsC{h:Heap}{G:Prop}(F:iZ C sc env σ h ρ)(x:Str)(hx:i9 sc x=some .cell\/i9 sc x=some .free)(k:∀c vo,env.cells.lookup x=some c->h.IsCell c vo->c∉σ->(∀v,jW x ρ=some v->∃val,vo=some val/\VR C σ h v val)->G):G:=DN (F.cells x hx) k
theorem iZ.ownData(F:iZ C sc env σ s.heap ρ):∀a o,own sc env a->s.heap.get? a=some o->¬ lq o:=by
 rintro a o (rfl|⟨x,hk,hc⟩) e
 ·refine F.nsC fun m z44 ζ=>J0 z44 fun o' es ep ho hd ζ=> ?_;rw[ho]at e;obtain rfl:=aj e;exact fun v=>v.dict hd
 ·refine F.cellsC x (.inl hk) fun c vo h1 z45 ζ ζ=>jm z45 fun o' ho hd=> ?_;clear z45;rw[hc]at h1;obtain rfl:=aj h1;rw[ho]at e;obtain rfl:=aj e;exact fun v=>v.cell hd
theorem iZ.ownOut(F:iZ C sc env σ s.heap ρ):∀a,own sc env a->a∉σ:=by
 rintro a (rfl|⟨x,hk,hc⟩)
 ·exact F.notL
 ·refine F.cellsC x (.inl hk) fun c vo h1 ζ h2 ζ=> ?_;rw[hc]at h1;refine iR (aj h1) ?_;exact h2
theorem iZ.weaken(F:iZ C sc env σ s.heap ρ)(x:jX jP σ s σ' s'):jX (own sc env) σ s σ' s':=x.weaken F.ownOut F.ownData
theorem iZ.extO{wh:Addr->Prop}(F:iZ C sc env σ s.heap ρ)(x:jX wh σ s σ' s')(t9:¬ wh env.locals)(Kh:∀x c,(i9 sc x=some .cell\/i9 sc x=some .free)->env.cells.lookup x=some c->¬ wh c):iZ C sc env σ' s'.heap ρ where
 kind:=F.kind
 plain:=F.plain
 loc:=F.loc
 cel:=F.cel
 fre:=F.fre
 glo:=F.glo
 globals:=F.globals
 builtins:=F.builtins
 code:=F.code
 ns:=by
  exact F.nsC fun m hn hv=>jt m (hn.at fun o e=>x.keep _ o e F.notL t9) (fun y v h1 h2=>let⟨val,a,b⟩:=hv y v h1 h2;(jt val a (b.mono x.mono)))
 cells:=fun y hy=>by
  exact F.cellsC y hy fun c vo h1 z46 h2 h3=>jm z46 fun o ho hd=>(v9 c vo h1 (jt o (x.keep _ o ho h2 (Kh y c hy h1)) hd) (fun hm=>by rw[x.fresh c hm h2]at ho;exact ku ho) (fun v hv=>jm (h3 v hv) fun val a b=>jt val a (b.mono x.mono)))
 apart:=F.apart
 dom:=F.dom
 newL:=F.newL
 newC:=F.newC
 notL:=fun hm=>by
  refine F.nsC fun m z47 ζ=>J0 z47 fun o' es ep ho hd ζ=> ?_;rw[x.fresh _ hm F.notL]at ho;exact ku ho
theorem iZ.ext(F:iZ C sc env σ s.heap ρ)(x:jX jP σ s σ' s'):iZ C sc env σ' s'.heap ρ:=F.extO x id fun ζ ζ ζ ζ=>id
theorem Ok.toks(K:Ok C σ s st)(t:Nat):Ok C σ {s with toks:=t} st:=⟨K.base,K.fresh0,K.len,K.nodup,K.cells⟩
end
structure ki(A:Around)(n:Nat):Prop where
 hh:A.handled=none
 depth:A.depth+n+60<recursionLimit
 units:A.units+10*n+900<cLine
theorem ki.mono{A:Around}{n m:Nat}(R:ki A n)(h:m<=n):ki A m:=⟨R.hh,aD (cF (bE h _) _) R.depth,aD (cF (bE (bS 10 h) _) _) R.units⟩
theorem ki.deeper{A:Around}{n:Nat}(R:ki A (n+1))(env:Env):ki (A.deeper env) n:=
 ⟨R.hh,(aD (cF (aE (dh ..)) _) R.depth:A.depth+1+n+60<_),(Rz (by decide) R.units:A.units+3+10*n+900<_)⟩
theorem ki.u{A:Around}{n:Nat}(R:ki A n):A.units+800<cLine:=SE R.units
theorem ki.d{A:Around}{n:Nat}(R:ki A n):A.depth+50<recursionLimit:=SE R.depth
structure nM(C:Cx):Prop where
 g:C.h₀.Ns mainGlobals C.mg
 b:∃mb,C.h₀.Ns builtinsNs mb/\∀x:Str,x≠"__name__"->mb x=bootBuiltins x
 nolimit:C.h₀.NoLimit
 digits:∃mc,C.h₀.Ns cStatics mc/\mc "sys.int_max_str_digits"=none
 free:∀x∈kJ++(["tuple","map","reversed","enumerate","str","bytes"]:List Str),C.mg x=none
 fns:∀n a body sc,fnOf n=some (a,body,sc)->∃f o pm cd doc dV kV,C.mg n=some (.ref f)/\C.h₀.get? f=some o/\
  o.data= .func {Calls.docDef n a body sc pm cd doc with defaults:=dV,kwdefaults:=kV}/\C.h₀.CodeRec cd n/\(a.defaults=[]->dV= .none)
 cs:∀x l,wO x=some (.cset l)->∃v,C.mg x=some v/\∀σ,(∀a∈σ,C.h₀.get? a=none)->VR C σ C.h₀ (.cset l) v
 ws:C.mg "fspath"≠none
def KE(C:Cx)(σ:List Addr)(s:Shared)(st:St)(v:PV)(Q:aa):Prop:=∀val σ' s',jX jP σ s σ' s'->Ok C σ' s' st->VR C σ' s'.heap v val->Q val s'
def KT(C:Cx)(σ:List Addr)(s:Shared)(st:St)(b:Bool)(Q:Bool->Shared->Prop):Prop:=∀σ' s',jX jP σ s σ' s'->Ok C σ' s' st->Q b s'
def Ln(C:Cx)(σ:List Addr)(h:Heap):jf->Flow->Prop
 | .next,f=>f= .next
 | .brk,f=>f= .brk
 | .cont,f=>f= .cont
 | .ret v,f=>∃val,f= .ret val/\VR C σ h v val
def KS(C:Cx)(sc:Scope)(env:Env)(σ:List Addr)(s:Shared)(st:St)(ρ:i8)(fl:jf)(Q:Flow->Shared->Prop):Prop:=∀f σ' s',jX (own sc env) σ s σ' s'->Ok C σ' s' st->iZ C sc env σ' s'.heap ρ->Ln C σ' s'.heap fl f->Q f s'
def KN(C:Cx)(sc:Scope)(env:Env)(σ:List Addr)(s:Shared)(st:St)(ρ:i8)(Q:Flow->Shared->Prop):Prop:=∀σ' s',jX (own sc env) σ s σ' s'->Ok C σ' s' st->iZ C sc env σ' s'.heap ρ->Q .next s'
def kP(C:Cx)(n:Nat)(sc:Scope)(e:Expr)(ρ:i8)(st:St)(v:PV)(ji:St):Prop:=∀A env σ s Q E,ki A n->iZ C sc env σ s.heap ρ->Ok C σ s st->KE C σ s ji v Q->wpAny C.M A (eval e env) Q E s
def xe(C:Cx)(n:Nat)(sc:Scope)(e:Expr)(ρ:i8)(st:St)(b:Bool)(ji:St):Prop:=∀A env σ s Q E,ki A n->iZ C sc env σ s.heap ρ->Ok C σ s st->KT C σ s ji b Q->wpAny C.M A (isTrue e env (eval e env)) Q E s
def tC(C:Cx)(n:Nat)(sc:Scope)(e:Stmt)(ρ:i8)(st:St)(fl:jf)(kC:i8)(ji:St):Prop:=∀A env σ s Q E,ki A n->iZ C sc env σ s.heap ρ->Ok C σ s st->KS C sc env σ s ji kC fl Q->wpAny C.M A (exec e env) Q E s
def aaX(C:Cx)(n:Nat)(name:Str)(args:List PV)(kws:List (Str×PV))(st:St)(v:PV)(ji:St):Prop:=∀A σ s vs us fv Q E,ki A n->Ok C σ s st->jH C σ s.heap args vs->jH C σ s.heap (kws.map (·.2)) us->
  C.mg name=some fv->KE C σ s ji v Q->wpAny C.M A (call fv vs ((kws.map (·.1)).zip us)) Q E s
def W2(C:Cx)(n:Nat)(sc:Scope)(elt:Expr)(gens:List Comprehension)(kh:Scope)(pos:Pos)(t:Str)(tp spos:Pos)(ρ kC:i8)(st ji:St):Prop:=∀A env σ s Q E,ki A n->iZ C sc env σ s.heap ρ->Ok C σ s st->
  swapsWith (.ListComp elt gens kh pos) (some (.Name t tp)) spos.line env=pure true->KN C sc env σ s ji kC Q->wpAny C.M A (exec (.Assign [.Name t tp] (.ListComp elt gens kh pos) spos) env) Q E s
abbrev yR(C:Cx)(n:Nat)(f:Scope->Expr->i8->St->Option (PV×St)):Prop:=∀sc e ρ st v ji,f sc e ρ st=some (v,ji)->kP C n sc e ρ st v ji
abbrev TP(C:Cx)(n:Nat)(f:Scope->Expr->i8->St->Option (Bool×St)):Prop:=∀sc e ρ st b ji,f sc e ρ st=some (b,ji)->xe C n sc e ρ st b ji
abbrev TQ(C:Cx)(n:Nat)(f:Scope->Stmt->i8->St->Option (jf×i8×St)):Prop:=∀sc e ρ st fl kC ji,f sc e ρ st=some (fl,kC,ji)->tC C n sc e ρ st fl kC ji
abbrev Pg(C:Cx)(n:Nat)(f:Str->List PV->List (Str×PV)->St->Option (PV×St)):Prop:=∀name args kws st v ji,f name args kws st=some (v,ji)->aaX C n name args kws st v ji
abbrev WZ(C:Cx)(n:Nat)(f:Scope->Expr->i8->St->Option (PV×St)):Prop:=
 ∀sc elt gens kh pos t tp spos ρ st v ji kC,f sc (.ListComp elt gens kh pos) ρ st=some (v,ji)->qQ sc t v ρ=some kC->W2 C n sc elt gens kh pos t tp spos ρ kC st ji
structure nJ(C:Cx)(n:Nat)(r:nI):Prop where
 A':WZ C n r.E
 E:yR C n r.E
 T:TP C n r.T
 S:TQ C n r.S
 C':Pg C n r.C
end
section
open PySem PyProof.Rows
structure je(s s':Shared):Prop where
 keep:∀b o,s.heap.get? b=some o->s'.heap.get? b=some o
 gens:s'.gens=s.gens
 os:s'.os=s.os
section
variable{C:Cx}{sc:Scope}{env:Env}{σ σ':List Addr}{s s' s₁:Shared}{ρ:i8}{st ji:St}{A:Around}{n:Nat}{Q:aa}{E:aa}
theorem je.toks(s:Shared)(t:Nat):je s {s with toks:=t}:=⟨fun ζ ζ e=>e,rfl,rfl⟩
theorem je.push(s:Shared)(o:Obj):je s {s with heap:=s.heap.push o}:=⟨fun ζ ζ e=>az o e,rfl,rfl⟩
theorem je.trans{s s₁ j5:Shared}(x:je s s₁)(y:je s₁ j5):je s j5:=⟨fun b o e=>y.keep b o (x.keep b o e),y.gens.trans x.gens,y.os.trans x.os⟩
theorem je.rfl'{s:Shared}:je s s:=⟨fun ζ ζ e=>e,rfl,rfl⟩
theorem je.ext(g:je s s'):jX jP σ s σ s':=⟨⟨[],by simp⟩,fun ζ h h'=>absurd h h',fun b o e ζ ζ=>g.keep b o e,fun ζ ζ h=>h.elim,g.gens,g.os⟩
theorem ue.mono{a:Addr}{c:j8}{h h':Heap}(m:tD σ h σ' h')(ha:h'.get? a=h.get? a)(x:ue C σ h a c):ue C σ' h' a c:=by
 cases c with
 |lst l=>
  exact qL x fun o vs ho so r=>BR o vs (ha.trans ho) so (r.mono m)
 |dct l=>
  refine cps fun G_ z6=>jm x fun kvs z1 hp=> ?_;obtain⟨o,es,ep,ho,r⟩:=z1;exact z6 <| ⟨kvs,(Vm o es ep (ha.trans ho) r),hp.mono m⟩
 |bs o=>
  cases o with
  |none=>
   exact jm x fun led ho hl=>jt led (ha.trans ho) hl
  |some b=>
   exact jm x fun o ho hb=>jt o (ha.trans ho) hb
def Bf(o:Obj):Prop:=(∃x n,o.data= .seq x n)\/(∃x n,o.data= .dict x n)\/∃x n t,o.data= .set x n t
theorem jY.cell{T:String}{o:Obj}{vs:List Value}(h:jY T o vs):Bf o:=by(refine jm h fun n z2 ζ=> ?_;(clear h;refine iR z2 ?_));exact .inl (DO _ _ rfl)
theorem ue.has{a:Addr}{c:j8}{h:Heap}(x:ue C σ h a c):∃o,h.get? a=some o/\Bf o:=by
 cases c with
 |lst l=>refine qL x fun o ζ ho so ζ=> ?_;exact(jt o ho so.cell)
 |dct l=>(refine jm x fun ζ z3 ζ=> ?_;obtain⟨o,_,_,ho,_,hd,_⟩:=z3);exact⟨o,ho,.inr (.inl (DO _ _ hd))⟩
 |bs b=>cases b with
  |none=>refine jm x fun ζ ho ζ=> ?_;exact⟨_,ho,.inr (.inr (RK _ _ _ rfl))⟩
  |some b=>obtain⟨o,ho,_,_,e,_⟩:=x;exact⟨o,ho,.inr (.inr (RK _ _ _ (aQ Obj.data e)))⟩
theorem Ok.grow(K:Ok C σ s st)(g:je s s'):Ok C σ s' st where
 base:=fun b o e=>g.keep b o (K.base b o e)
 fresh0:=K.fresh0
 len:=K.len
 nodup:=K.nodup
 cells:=fun k a c ha hc=>
  have x:=K.cells k a c ha hc;let⟨o,ho,_⟩:=x.has
  x.mono g.ext.mono ((g.keep a o ho).trans ho.symm)
theorem Ok.has(K:Ok C σ s st){a:Addr}(h:a∈σ):∃o,s.heap.get? a=some o/\Bf o:=
 let⟨k,hk⟩:=eX.mp h;have jS:k<st.length:=K.len▸(ay.mp hk).1
 (K.cells k a st[k] hk (aO jS)).has
theorem VR.grow{p:PV}{v:Value}(g:je s s')(x:VR C σ s.heap p v):VR C σ s'.heap p v:=x.mono (g.ext (σ:=σ)).mono
theorem jH.grow{p:List PV}{v:List Value}(g:je s s')(x:jH C σ s.heap p v):jH C σ s'.heap p v:=x.mono (g.ext (σ:=σ)).mono
theorem i6{p:PV}{v:Value}(K:Ok C σ s st)(g:je s s')(x:VR C σ s'.heap p v)
  (h:KE C σ s st p Q):Q v s':=h v σ s' g.ext (K.grow g) x
theorem KE.after{p:PV}(h:KE C σ s st p Q)(X:jX jP σ s σ' s'):KE C σ' s' st p Q:=fun val qv s2 X2 K V=>h val qv s2 (X.trans X2) K V
theorem KT.after{b:Bool}{Q:Bool->Shared->Prop}(h:KT C σ s st b Q)(X:jX jP σ s σ' s'):KT C σ' s' st b Q:=fun qv s2 X2 K=>h qv s2 (X.trans X2) K
theorem KS.after{fl:jf}{Q:Flow->Shared->Prop}(h:KS C sc env σ s st ρ fl Q)(X:jX (own sc env) σ s σ' s'):KS C sc env σ' s' st ρ fl Q:=fun f qv s2 X2 K F x=>h f qv s2 (X.trans X2) K F x
theorem KS.next{Q:Flow->Shared->Prop}(h:KS C sc env σ s st ρ .next Q):KN C sc env σ s st ρ Q:=fun qv s2 X2 K F=>h .next qv s2 X2 K F rfl
theorem Ok.fresh_size(K:Ok C σ s st):s.heap.objs.size∉σ:=fun h=>by
 exact jm (K.has h) fun o ho ζ=>dP _ (bF ho)
theorem lQ{h:Heap}(i:Int)(t:Tok):VR C σ h (.int i) (.int i t):=by exact⟨t,rfl⟩
theorem oY{h:Heap}(b:Bool):VR C σ h (.bool b) (.bool b):=by rfl
theorem qh{h:Heap}{l:ah}{x:Str}{t:Tok}(e:x.cps.toList=l)(hs:x.length<=sizeLine):VR C σ h (.str l) (.str x t):=by skip;exact(BR x t rfl e hs)
theorem tL{h:Heap}{i:Int}{v:Value}(x:VR C σ h (.int i) v):∃t,v= .int i t:=by exact x
theorem rV{h:Heap}{b:Bool}{v:Value}(x:VR C σ h (.bool b) v):v= .bool b:=by exact x
theorem EH{h:Heap}{l:ah}{v:Value}(x:VR C σ h (.str l) v):∃x t,v= .str x t/\x.cps.toList=l/\x.length<=sizeLine:=by exact x
theorem EG{h:Heap}{l:List PV}{v:Value}(x:VR C σ h (.tup l) v):∃a o vs,v= .ref a/\a∉σ/\h.get? a=some o/\jY "tuple" o vs/\jH C σ h l vs:=by exact x
theorem CW{h:Heap}{l:List PV}{v:Value}(x:VR C σ h (.list l) v):∃a o vs,v= .ref a/\a∉σ/\h.get? a=some o/\jY "list" o vs/\jH C σ h l vs:=by exact x
theorem j4{h:Heap}{i:Int}{v:Value}{G:Prop}(x:VR C σ h (.int i) v)(k:∀t,v= .int i t->G):G:=m9 (tL x) k
theorem jy{h:Heap}{l:ah}{v:Value}{G:Prop}(x:VR C σ h (.str l) v)(k:∀x t,v= .str x t->x.cps.toList=l->x.length<=sizeLine->G):G:=qL (EH x) k
theorem oX{h:Heap}{l:List PV}{v:Value}{G:Prop}(x:VR C σ h (.tup l) v)(k:∀a o vs,v= .ref a->a∉σ->h.get? a=some o->jY "tuple" o vs->jH C σ h l vs->G):G:=wF (EG x) k
theorem mR{h:Heap}{l:List PV}{v:Value}{G:Prop}(x:VR C σ h (.list l) v)(k:∀a o vs,v= .ref a->a∉σ->h.get? a=some o->jY "list" o vs->jH C σ h l vs->G):G:=wF (CW x) k
theorem MV(s:Shared){o:Obj}(ho:o.isFreed=false):({s with heap:=s.heap.push o}:Shared).heap.get? s.heap.objs.size=some o:=aF _ ho
theorem vf{l:List PV}{vs:List Value}(K:Ok C σ s st)(x:jH C σ s.heap l vs)(hl:vs.length<=sizeLine):VR C σ (s.heap.push {cls:=.type "list",data:=.seq vs.toArray}) (.list l) (.ref s.heap.objs.size):=by
 skip
 exact⟨_,_,vs,rfl,K.fresh_size,aF _ rfl,(jt 0 rfl hl),x.mono ((je.push s _).ext (σ:=σ)).mono⟩
theorem ve{l:List PV}{vs:List Value}(K:Ok C σ s st)(x:jH C σ s.heap l vs)(hl:vs.length<=sizeLine):VR C σ (s.heap.push {cls:=.type "tuple",data:=.seq vs.toArray}) (.tup l) (.ref s.heap.objs.size):=by
 skip
 exact⟨_,_,vs,rfl,K.fresh_size,aF _ rfl,(jt 0 rfl hl),x.mono ((je.push s _).ext (σ:=σ)).mono⟩
theorem p9{x:Str}(h:ng x=true):(x==("__debug__":Str))=false/\(x==("__classdict__":Str))=false/\x≠"__name__":=by
 unfold ng at h;simp only[aG,bne_iff_ne,ne_eq]at h;exact tZ (aL.mpr h.1.1) (aL.mpr h.1.2) h.2
theorem yk{x:Str}(h:xA sc x=true):i9 sc x=some .globalImplicit:=by
 unfold xA at h;cases e:i9 sc x with
 |none=>replace h:=e▸h;cases h
 |some k=>replace h:=e▸h;cases k with
  |globalImplicit=>rfl
  |_=>cases h
theorem Ju{x:Str}(h:KZ sc x=true):i9 sc x=some .local\/i9 sc x=some .cell:=by
 unfold KZ at h;cases e:i9 sc x with
 |none=>replace h:=e▸h;cases h
 |some k=>replace h:=e▸h;cases k with
  | «local» =>exact .inl rfl
  |cell=>exact .inr rfl
  |_=>cases h
theorem Jw{x:Str}{p:PV}(T:nM C)(F:iZ C sc env σ s.heap ρ)(K:Ok C σ s st)(hx:wO x=some p)(Zu:x≠"__name__")
  (h:∀v,VR C σ s.heap p v->Q v s):wpAny C.M A (loadGlobal env x) Q E s:=by
 have hg:s.heap.Ns env.globals C.mg:=F.globals▸T.g.keeps K.base;have hc:∀l,wO x=some (.cset l)->p= .cset l->wpAny C.M A (loadGlobal env x) Q E s:=fun l e q=>by
  exact jm (T.cs x l e) fun v hv hr=>gr hg hv (h v (q▸(hr σ K.fresh0).mono (σ':=σ) ⟨⟨[],by simp⟩,fun ζ a b=>absurd a b,fun b o e ζ ζ=>K.base b o e⟩))
 have hb:∀(t:String),p= .typ t->C.mg x=none->bootBuiltins x=some (.type t)->wpAny C.M A (loadGlobal env x) Q E s:=fun t q e1 e2=>by
  exact jm T.b fun mb hb ZJ=>gg hg e1 (F.builtins▸hb.keeps K.base) ((ZJ _ Zu).trans e2) (h (.type t) (q▸rfl))
 have DP:=hx;refine mC hx (fun ζ e=>hc _ (DP.trans e.symm) (aj e).symm) fun hx=>mC hx (fun ζ e=>hc _ (DP.trans e.symm) (aj e).symm) fun hx=>mC hx (fun ζ e=>hc _ (DP.trans e.symm) (aj e).symm) fun hx=>mC hx (fun q e=>hb _ (aj e).symm (T.free _ (by(refine iR (aR.mp q) ?_);decide)) (by(refine iR (aR.mp q) ?_);decide+kernel)) fun hx=> ?_;refine mC hx (fun q e=>hb _ (aj e).symm (T.free _ (by(refine iR (aR.mp q) ?_);decide)) (by(refine iR (aR.mp q) ?_);decide+kernel)) fun hx=> ?_;refine kO hx fun q e=> ?_;cases hv:C.mg "fspath" with
 |none=>exact absurd hv T.ws
 |some v=>exact gr hg (iR (aR.mp q) hv) (h v (by(rw[<-aj e]);exact hv))
theorem G6{x:Str}{p:PV}(T:nM C)(F:iZ C sc env σ s.heap ρ)(K:Ok C σ s st)(hx:Cb sc x ρ=some p)(hp:ng x=true)
  (h:∀v,VR C σ s.heap p v->Q v s):wpAny C.M A (loadName env x) Q E s:=by
 refine w4 (p9 hp) fun hd hcd Zu=>qz hx (fun e=> ?_) fun hx=>kO hx fun hk hx=> ?_
 ·rcases F.dom x p e with k|k|k
  ·exact F.nsC fun m hn hv=>jm (hv x p e k) fun val hm hr=>wpAny_loadName_local F.kind (F.loc x k) hn hm (h val hr)
  ·refine F.cellsC x (.inl k) fun c vo hc hi ζ hv=>jm (hv p e) fun val z4 hr=> ?_;subst z4;exact wpAny_loadName_cell F.kind (F.cel x k) hc hi (h val hr)
  ·refine F.cellsC x (.inr k) fun c vo hc hi ζ hv=>jm (hv p e) fun val z5 hr=> ?_;clear hp hd e hv;subst z5;rcases F.fre x k with q|q
   ·exact wpAny_loadName_free F.kind q hc hi (h val hr) hcd
   ·exact wpAny_loadName_cell F.kind q hc hi (h val hr)
 ·exact loadName_read F.kind (F.glo x (yk hk))▸Jw T F K hx Zu h
theorem CA{x:Str}(F:iZ C sc env σ s.heap ρ)(hk:(sc.names.lookup x).isSome=true):ng x=true:=m9 (Option.isSome_iff_exists.mp hk) fun k q=>F.plain x k q
theorem MH{x:Str}{pos:Pos}{v:PV}(T:nM C)(hk:(sc.names.lookup x).isSome=true)(hx:Cb sc x ρ=some v):kP C n sc (.Name x pos) ρ st v st:=fun ζ ζ σ s ζ ζ ζ F K h=>
 wpAny_Name (G6 T F K hx (CA F hk) fun val hv=>h val σ s jX.rfl' K hv) (p9 (CA F hk)).1
theorem uf{h:Heap}:VR C σ h .none .none:=by rfl
theorem ly{α:Type}{l:List α}(h:kM l=true):l.length<=1000000:=bL h
theorem nv{n:Nat}(h:n<=1000000):n<=sizeLine:=by(refine iR eS ?_);exact lit ‹_›
theorem Bm{c:Const}{k:Nat}{pos:Pos}{v:PV}(hx:LK c st=some (v,ji)):kP C n sc (.Constant c k pos) ρ st v ji:=by
 intro A env σ s Q E _ _ K h;cases c with
 |none=>cases hx;exact ak (h _ σ s jX.rfl' K uf)
 |bool b=>cases hx;exact ak (h _ σ s jX.rfl' K (oY b))
 |int i=>cases hx;exact wpAny_mkInt (i6 K (je.toks s _) (lQ i _) h)
 |str x=>
  refine kO hx fun q e=> ?_;cases e;exact wpAny_mkText (i6 K (je.toks s _) (qh rfl (nv (ly q))) h)
 |_=>exact ku hx
theorem LN{a:Int}(h:a.natAbs<2^62):Builtin.Int.intBits a<=64:=by
 unfold Builtin.Int.intBits;split
 ·decide
 ·rename_i q;have:=(Nat.log2_lt (by(simpa using q):a.natAbs≠0)).mpr h;exact lit ‹_›
theorem bitNot_nonneg{b:Int}(h:0<=b):decide (0<=Builtin.bitNot b)=false:=by unfold Builtin.bitNot;exact cD (by lia)
theorem bitAnd_nn{a b:Int}(ha:0<=a)(hb:0<=b):Builtin.bitAnd a b=((a.toNat&&&b.toNat:Nat):Int):=by
 unfold Builtin.bitAnd;exact iR (aH ha) <| iR (aH hb) rfl
theorem bitNot_bitNot(a:Int):Builtin.bitNot (Builtin.bitNot a)=a:=by unfold Builtin.bitNot;lia
theorem Oc{a b:Int}(ha:0<=a)(hb:0<=b):Builtin.bitOr a b=((a.toNat|||b.toNat:Nat):Int):=by
 dsimp only[Builtin.bitOr,Builtin.bitAnd];exact iR (bitNot_nonneg ha) <| iR (bitNot_nonneg hb) <| iR (bitNot_bitNot ..) <| iR (bitNot_bitNot ..) <| iR (bitNot_bitNot ..) rfl
theorem EU(a:Int)(n:Nat):a>>>n=a.fdiv (2^n):=by
 rw[Int.shiftRight_eq_div_pow,Int.fdiv_eq_ediv_of_nonneg _ (Int.pow_nonneg (by decide))]
 norm_cast
theorem UI(K:Ok C σ s st){i:Int}(h:KE C σ s st (.int i) Q):Q (.int i s.toks) {s with toks:=s.toks+1}:=
 i6 K (je.toks s _) (lQ i _) h
theorem jA{a b:Bool}(h:(a&&b)=true):a=true/\b=true:=aZ.mp h
theorem o_{p:Prop}[Decidable p](h:decide p=true):p:=bL h
theorem JQ{op:Operator}{a b c:Int}{t u:Tok}(K:Ok C σ s st)(hx:intOp op a b=some c)
  (h:KE C σ s st (.int c) Q):wpAny C.M A (binaryOp op (.int a t) (.int b u)) Q E s:=by
 have hq:=UI K h;clear h;cases op with
 |Add=>(obtain rfl:=aj hx);exact add_int hq
 |Sub=>(obtain rfl:=aj hx);exact sub_int' hq
 |Mult=>
  refine kO hx fun q e=> ?_;obtain rfl:=aj e;exact PyProof.Rows.mul_int hq (IntMulOk.of_left (LN (o_ (jA q).1)))
 |Mod=>
  refine kO hx fun q e=> ?_;obtain rfl:=aj e;exact mod_int' (by(simpa using q)) hq
 |FloorDiv=>
  refine kO hx fun q e=> ?_;obtain rfl:=aj e;simp only[cz,e9,aL,fh]at q;exact PyProof.Rows.floordiv_int q.1 hq (.inl (_root_.PyProof.noPylong_small (iF (e8 q.2) (by decide))))
 |Pow=>
  refine kO hx fun q e=> ?_;obtain rfl:=aj e;have q2:=o_ (jA (jA q).1).2;have q1:=o_ (jA (jA q).1).1;have hb:Builtin.Int.intBits a<=64:=LN (by have:=o_ (jA q).2;exact aD this (by decide));exact PyProof.Rows.pow_int q1 (by
   have:(Builtin.Int.intBits a:Int)*b<=64*60:=Int.mul_le_mul (d_.mpr ‹_›) q2 q1 (by decide);exact f7 this (by decide)) hq
 |RShift=>
  refine kO hx fun q e=> ?_;obtain rfl:=aj e;exact PyProof.Rows.rshift_int (o_ (jA q).1) (EU a b.toNat▸hq)
 |BitAnd=>
  refine kO hx fun q e=> ?_;obtain rfl:=aj e;exact PyProof.Rows.and_int ((bitAnd_nn (o_ (jA q).1) (o_ (jA q).2)).symm▸hq)
 |BitOr=>
  refine kO hx fun q e=> ?_;obtain rfl:=aj e;exact PyProof.Rows.or_int ((Oc (o_ (jA q).1) (o_ (jA q).2)).symm▸hq)
 |_=>exact ku hx
theorem size_append(x y:Str):x.length+y.length=(x.cps.toList++y.cps.toList).length:=by simp[Str.length]
theorem PG{a b:ah}{va vb:Value}(K:Ok C σ s st)(q:kM (a++b)=true)(xa:VR C σ s.heap (.str a) va)(xb:VR C σ s.heap (.str b) vb)
  (h:KE C σ s st (.str (a++b)) Q):wpAny C.M A (binaryOp .Add va vb) Q E s:=by
 refine jy xa fun x t z1 z2 hs=> ?_;refine iR z1 ?_;subst z2;refine jy xb fun y u z3 z4 ht=> ?_;clear xb hs xa ht;subst z3;subst z4;have DR:x.length+y.length<=sizeLine:=size_append x y▸nv (ly q);exact PyProof.Rows.add_str (fun t' tk=>i6 K (je.toks s _) (qh gk (by refine(?_:(x.cps++y.cps).size<=_);(refine iR Array.size_append ?_);exact DR)) h) DR
theorem Uy(x:Str)(n:Int)(hn:0<=n):(Txt.mul x n).cps.toList=(List.replicate n.toNat x.cps.toList).flatten:=by
 unfold Txt.mul;split
 ·have:n.toNat=0:=by lia
  exact iR this rfl
 ·split
  ·rename_i q1 q;simp only[Bool.or_eq_true,aR]at q;clear hn q1;rcases q with q|q
   ·refine iR q ?_;simp
   ·have e:x.cps.toList=[]:=by
     have:x.cps.size=0:=q;simpa using this
    refine iR e ?_;simp
  ·have key:∀(k:Nat)(acc:Array Nat),((List.replicate k x.cps).foldl (· ++ ·) acc).toList=acc.toList++(List.replicate k x.cps.toList).flatten:=by
    intro k
    induction k with
    |zero=>intro acc;simp
    |succ k ih=>intro acc;(refine iR (iJ ..) ?_;refine iR (dB ..) ?_;refine iR (ih ..) ?_;refine iR (iJ ..) ?_;refine iR (gZ ..) ?_);simp
   have:=key n.toNat #[];simpa using this
theorem PF{a:ah}{b:Int}{u:Tok}{va:Value}(K:Ok C σ s st)(q:(decide (0<=b)&&decide (b<=1000)&&decide (a.length<=1000))=true)(xa:VR C σ s.heap (.str a) va)
  (h:KE C σ s st (.str (List.replicate b.toNat a).flatten) Q):wpAny C.M A (binaryOp .Mult va (.int b u)) Q E s:=by
 refine jy xa fun x t z5 z6 hs=> ?_;clear xa hs;refine iR z5 ?_;subst z6;have q1:=o_ (jA (jA q).1).1;have q2:=o_ (jA (jA q).1).2;have q3:=o_ (jA q).2;have e:((List.replicate b.toNat x.cps.toList).flatten).length<=1000000:=by
  refine iR List.length_flatten <| iR List.map_replicate <| iR List.sum_replicate_nat ?_
  have:b.toNat*x.cps.toList.length<=1000*1000:=Nat.mul_le_mul (Int.toNat_le.mpr ‹_›) q3;exact this
 have hm:=Uy x b q1;exact SB.mul (mulOk_of 1000 1000 q3 q2 (f7 (by decide) (o_ (jA (jA q).1).1)) (by decide) (by decide)) fun t' k=>i6 K (je.toks s _) (qh hm (nv (by replace e:=(fy hm)▸e;exact e))) h
theorem JO{op:Operator}{a r:ah}{y:PV}{va vb:Value}(K:Ok C σ s st)(hx:Gu op a y=some r)(xa:VR C σ s.heap (.str a) va)(xb:VR C σ s.heap y vb)
  (h:KE C σ s st (.str r) Q):wpAny C.M A (binaryOp op va vb) Q E s:=by
 cases op with
 |Add=>
  refine iU hx fun b h1 e=>kO e fun q e=> ?_;have:=jG h1;subst this;obtain rfl:=aj e;exact PG K q xa xb h
 |Mult=>
  refine iU hx fun b h1 e=>kO e fun q e=> ?_;have:=jv h1;subst this;obtain rfl:=aj e;obtain⟨u,rfl⟩:=tL xb;exact PF K q xa h
 |_=>exact ku hx
theorem zc{p:PV}{l:List PV}{v:Value}(K:Ok C σ s st)(hc:pX st p l)(x:VR C σ s.heap p v):
  ∃a o vs,v= .ref a/\s.heap.get? a=some o/\jY "list" o vs/\jH C σ s.heap l vs:=by
 rcases hc with rfl|⟨k,rfl,hk⟩
 ·exact mR x fun a o vs e ζ ho so r=>ON a o vs e ho so r
 ·skip
  exact cps fun G_ BV=>jm x fun a e ha=>J_ (K.cells k a _ ha hk) fun o vs r=>BV <| Vm a o vs e r
theorem jx{p:PV}{l:List PV}{v:Value}{G:Prop}(K:Ok C σ s st)(hc:pX st p l)(x:VR C σ s.heap p v)(k:∀a o vs,v= .ref a->s.heap.get? a=some o->jY "list" o vs->jH C σ s.heap l vs->G):G:=J9 (zc K hc x) k
theorem jY.isList{o:Obj}{vs:List Value}{h:Heap}{a:Addr}(so:jY "list" o vs)(ho:h.get? a=some o):h.IsList a vs.toArray:=by
 refine jm so fun n z8 ζ=> ?_;clear so;subst z8;exact⟨_,ho,rfl,n,rfl⟩
theorem jY.isTuple{o:Obj}{vs:List Value}{h:Heap}{a:Addr}(so:jY "tuple" o vs)(ho:h.get? a=some o):h.IsTuple a vs.toArray:=by
 refine jm so fun n z9 ζ=> ?_;clear so;subst z9;exact⟨_,ho,rfl,n,rfl⟩
theorem DH{x y:PV}{a b:List PV}{va vb:Value}(K:Ok C σ s st)(ha:pX st x a)(hb:pX st y b)(hs:kM (a++b)=true)(xa:VR C σ s.heap x va)(xb:VR C σ s.heap y vb)
  (h:KE C σ s st (.list (a++b)) Q):wpAny C.M A (binaryOp .Add va vb) Q E s:=by
 refine cps fun G_ OH=>jx K ha xa fun l o vs kW ho lF r=> ?_;subst kW;obtain⟨n,rfl,_⟩:=lF;refine jx K hb xb fun l2 o2 ws mH wG nh r2=> ?_;subst mH;obtain⟨n2,rfl,_⟩:=nh;refine OH ?_;have hl:vs.length+ws.length<=sizeLine:=by
  have:=ly hs
  replace this:=(fy r2.length)▸((fy r.length)▸(au▸this))
  exact nv this
 exact concat_meets (jt _ ho rfl) (jt _ wG rfl) noFill_list_add seq_list_add PySem.F.slot_list_add PySem.F.entry_list_add (PySem.F.args_list_add_2 _ _) (list_addW l l2 vs.toArray ws.toArray n n2 none none #[] #[] (hl)) (tZ ho wG (i6 K (je.push s _) (List.append_toArray vs ws▸vf K (jH.append r2 r) (iR au hl)) h))
theorem Rq{α:Type}[DecidableEq α](a b:α):(a==b)=decide (a=b):=by
 refine bc (p:=a=b) (fun h=> ?_) fun h=> ?_<;>first|rfl|simp[h]
theorem Mp:∀(l m:ah),strLt l m=decide (l<m):=by
 intro L0
 induction L0 with
 |nil=>
  intro L1;cases L1 with
  |nil=>
   rfl
  |cons _ _=>
   rfl
 |cons a l ih=>
  intro L1;cases L1 with
  |nil=>
   rfl
  |cons b m=>
   dsimp only[strLt];split
   ·rename_i q;have e:=aR.mp q;refine jC e <| iR (ih m) ?_
    simp[List.cons_lt_cons_iff]
   ·rename_i q;have:a≠b:=by(simpa using q)
    simp[List.cons_lt_cons_iff,this]
inductive zD:Value->Value->Bool->Bool->Prop
 |int (i j:Int) (t u:Tok):zD (.int i t) (.int j u) (i==j) (decide (i<j))
 |str (x y:Str) (t u:Tok):zD (.str x t) (.str y u) (x.cps.toList==y.cps.toList) (decide (x.cps.toList<y.cps.toList))
theorem Flat.vals{a b:PV}{va vb:Value}{h:Heap}(f:Flat a b)(xa:VR C σ h a va)(xb:VR C σ h b vb):zD va vb f.eq f.lt:=by
 cases f with
 |int i j=>
  exact j4 xa fun t z1=>iR z1 <| j4 xb fun u z2=>iR z2 <| .int ..
 |str i j=>
  refine jy xa fun x t z3 z4 ζ=>iR z3 <| jC z4 <| jy xb fun y u z5 z6 ζ=> ?_
  clear xb xa;subst z5;subst z6
  (show zD _ _ (_==_) (strLt _ _))
  exact iR (Mp ..) <| .str ..
def OY(va vb:Value)(r:Bool):Prop:=∃l,zD va vb r l
def OD(va vb:Value)(r:Bool):Prop:=∃e,zD va vb e r
theorem rU{a b:PV}{va vb:Value}{r:Bool}{h:Heap}(hx:qp a b=some r)(xa:VR C σ h a va)(xb:VR C σ h b vb):OY va vb r:=by
 refine m9 (yt hx) fun f z7=> ?_;clear hx;exact iR z7 <| ⟨_,f.vals xa xb⟩
theorem uB{a b:PV}{va vb:Value}{r:Bool}{h:Heap}(hx:qW a b=some r)(xa:VR C σ h a va)(xb:VR C σ h b vb):OD va vb r:=by
 refine m9 (FG hx) fun f z8=> ?_;clear hx;exact iR z8 <| ⟨_,f.vals xa xb⟩
theorem ou{prog:Program}{w:World}{va vb:Value}{r:Bool}{Q:Bool->Shared->Prop}(x:OY va vb r)(hq:Q r s):wpAny (model prog w) A (eqBool va vb) Q E s:=by
 obtain⟨_,x⟩:=x;cases x with
 |int=>exact(intKind prog w).eqBool (intKind_is ..) (intKind_is ..) (hq)
 |str x y=>exact(strKind prog w).eqBool (gA ..) (gA ..) (jC (Rq ..) <| jC (toList_beq ..) hq)
theorem O5{va vb:Value}{r:Bool}(x:OD va vb r)(hq:Q (.bool r) s):wpAny C.M A (richCompare .Lt va vb) Q E s:=by
 obtain⟨_,x⟩:=x;cases x with
 |int=>exact PyProof.Rows.lt_int hq
 |str=>exact PyProof.Rows.lt_str hq
theorem WU{va vb:Value}{r:Bool}(x:OD vb va r)(hq:Q (.bool r) s):wpAny C.M A (richCompare .Gt va vb) Q E s:=by
 obtain⟨_,x⟩:=x;cases x with
 |int=>exact PyProof.Rows.gt_int hq
 |str y x u t=>
  exact wpAny_richCompare_same (op:=.Gt) (T:="str") (di s x t) (di s y u) PySem.F.slot_str_gt
   (bU PySem.F.slot_str_gt (di s x t) PySem.F.entry_str_gt (show wpAny _ _ (ret (.bool (x.cps.toList>y.cps.toList))) _ _ s from ak ⟨_,rfl,by lia,hq⟩) (PySem.F.args_str_gt_2 _ _))
theorem OY.symm{va vb:Value}{r:Bool}(x:OY va vb r):OY vb va r:=by
 obtain⟨_,x⟩:=x;cases x with
 |int i j=>exact Bool.beq_comm (a:=i) (b:=j)▸⟨_,.int ..⟩
 |str x y=>exact Bool.beq_comm (a:=x.cps.toList) (b:=y.cps.toList)▸⟨_,.str ..⟩
inductive l9(N:Value->Value->Prop)(D:Prop):List (Value×Value)->Prop
 |nil:D->l9 N D []
 |eq {u v:Value} {l:List (Value×Value)}:OY u v true->l9 N D l->l9 N D ((u,v)::l)
 |ne {u v:Value} {l:List (Value×Value)}:OY u v false->N u v->l9 N D ((u,v)::l)
theorem l9.mono{N:Value->Value->Prop}{D D':Prop}(k:D->D'):∀{l:List (Value×Value)},l9 N D l->l9 N D' l
 |_,.nil h=>.nil (k h)
 |_,.eq h x=>.eq h (x.mono k)
 |_,.ne h x=>.ne h x
theorem l9.swap{N:Value->Value->Prop}{D:Prop}:∀{xs ys:List Value},l9 N D (List.zip xs ys)->l9 (fun u v=>N v u) D (List.zip ys xs)
 |[],[],.nil h=>.nil h
 |[],_::_,.nil h=>.nil h
 |_::_,[],.nil h=>.nil h
 |_::_,_::_,.eq h x=>.eq h.symm (swap x)
 |_::_,_::_,.ne h x=>.ne h.symm x
theorem vv{r:Bool}{h:Heap}:∀{l m:List PV}{xs ys:List Value},jZ l m=some r->jH C σ h l xs->jH C σ h m ys->l9 (fun u v=>OD u v r) (r=decide (xs.length<ys.length)) (List.zip xs ys):=by
 intro L0
 induction L0 with
 |nil=>
  intro m xs ys hx ha hb;obtain rfl:=ha.nilE;cases m with
  |nil=>refine iR hb.nilE ?_;exact .nil (aj hx).symm
  |cons=>obtain⟨_,_,rfl,_⟩:=hb.consE;exact .nil (aj hx).symm
 |cons p l ih=>
  intro L1;cases L1 with
  |nil=>
   intro xs ys hx ha hb;obtain⟨_,_,rfl,_⟩:=ha.consE;exact iR hb.nilE <| .nil (aj hx).symm
  |cons q m=>
   intro xs ys hx ha hb;obtain⟨u,us,rfl,hu,ha⟩:=ha.consE;obtain⟨v,vs,rfl,hv,hb⟩:=hb.consE;refine iU hx fun e h1 h2=> ?_;have:=rU h1 hu hv;cases e with
   |true=>exact .eq this ((ih h2 ha hb).mono fun e=>e.trans (decide_eq_decide.mpr (Nat.add_lt_add_iff_right (k:=1)).symm))
   |false=>exact .ne this (uB h2 hu hv)
theorem CZ{xs ys:List Value}{a b:Addr}{o o':Obj}{r:Bool}{P:Fin->Shared->Prop}(hx:l9 (fun u v=>OD u v r) (r=decide (xs.length<ys.length)) (List.zip xs ys))
  (ho:s.heap.get? a=some o) (so:jY "tuple" o xs) (qK:s.heap.get? b=some o') (VH:jY "tuple" o' ys) (hp:P (.done (.ret (.bool r))) s):
  wpAny C.M A (Builtin.«tuple.__lt__» ⟨[.ref a,.ref b],[]⟩) P E s:=by
 refine jm so fun n nh ζ=> ?_;subst nh;refine jm VH fun n' oU ζ=> ?_;subst oU;refine(ai (cG (T:="tuple") ⟨_,qK,rfl⟩ isSubtype_tuple_tuple ?_):wpAny _ _ (isInstance (.ref b) (.type "tuple") >>= _) _ _ s);refine ai (wpAny_tupleItemsOf ho rfl (ai (wpAny_tupleItemsOf qK rfl (ai (wpAny_forIn_list _ (fun rest q s'=>q.1=none/\s'=s/\l9 (fun u v=>OD u v r) (r=decide (xs.length<ys.length)) rest) _ ?_ ?_ _ _ ⟨rfl,rfl,hx⟩)))))
 ·rintro⟨u,v⟩ rest q s' ⟨hr,e,hP⟩;refine iR e ?_;cases hP with
  |eq h1 h2=>
   exact ai (ou h1 (ak ⟨rfl,rfl,h2⟩))
  |ne h1 h2=>
   exact ai (ou h1 (ai (dS (ai (O5 h2 (ai (ak (ak (ak hp)))))))))
 ·rintro⟨r1,r2⟩ s' ⟨hr,e,hP⟩;subst e;have hr:r1=none:=hr;clear hx so VH ho qK;subst hr;cases hP with
  |nil e=>subst e;exact ak (hp)
theorem TX{l m:List PV}{va vb:Value}{r:Bool}(hk:ki A n)(hx:jZ l m=some r)(xa:VR C σ s.heap (.tup l) va)(xb:VR C σ s.heap (.tup m) vb)(hq:Q (.bool r) s):wpAny C.M A (richCompare .Lt va vb) Q E s:=by
 refine oX xa fun a o xs qb ζ ho so ra=>iR qb <| oX xb fun b o' ys sX ζ qK VH rb=> ?_
 clear xb xa;subst sX;have hT:s.TypeIs (.ref a) "tuple":=by(refine jm so fun n vF ζ=> ?_;subst vF);exact(jt _ ho rfl)
 exact g_ (op:=.Lt) hT (by(refine jm VH fun n BV ζ=> ?_;subst BV);exact(jt _ qK rfl):s.TypeIs (.ref b) "tuple") PySem.F.slot_tuple_lt
  (bU PySem.F.slot_tuple_lt hT PySem.F.entry_tuple_lt (CZ (vv hx ra rb) ho so qK VH (sY _ rfl (fun e=>nomatch e) hq)) (PySem.F.args_tuple_lt_2 _ _)) (by have:=hk.u;exact pD ‹_›)
end
end
section
open PySem PyProof.Rows
open PySem.AutoSeq1 (wpAny_loadPart')
section
variable{C:Cx}{E:aa}
theorem uD{l:List Value}{i:Nat}(h:l.length<=i):l.drop i=[]:=List.drop_eq_nil_of_le h
theorem AO{l:List Value}{i:Nat}(h:l.length<=i):l.toArray[((i:Nat):Int).toNat]? =none:=by(refine iR (b7 ..) ?_;refine iR (eY ..) ?_);exact fU h
theorem wW{l:List Value}{i:Nat}(h:i<l.length):∃x,l.drop i=x::l.drop (i+1)/\l.toArray[((i:Nat):Int).toNat]? =some x:=
 ⟨l[i],bP h,by(refine iR (b7 ..) ?_;refine iR (eY ..) ?_);exact aO h⟩
theorem QB(l b:Addr)(xs ys:List Value)(n n2:Nat)(r:Bool)(k:Nat):
  ∀i:Nat,xs.length-i<k->l9 (fun u v=>OD u v r) (r=decide (xs.length<ys.length)) (List.zip (xs.drop i) (ys.drop i))->∀(A:Around)(R:Result->Shared->Prop)(s:Shared),
   s.heap.get? l=some {cls:=.type "list",dict:=none,data:=.seq xs.toArray n,slots:= #[]}->s.heap.get? b=some {cls:=.type "list",dict:=none,data:=.seq ys.toArray n2,slots:= #[]}->
   R (.ok (.ret (.bool r))) s->
   wpAny C.M A.in1 (Builtin.«list.__eq__.loop» ⟨[.ref l,.ref b,rawInt i,rawInt 0],[]⟩)
    (fun fin s'=>match fin with| .done f=>R (.ok f) s'| .again c'=>c'.quiet=true/\codeAny C.M A c' R s') (fun e s'=>R (.error e) s') s:=by
 induction k with
 |zero=>exact fun i hk=>absurd hk (gM _)
 |succ k ih=>
  intro i hk hP A R s hl DU h;obtain⟨hp,g,d,tk,os⟩:=s
  wp_walk using bQ hl,bQ DU
  refine bc (p:=i<xs.length) (fun jS=> ?_) fun jS=> ?_
  ·refine jm (wW jS) fun x hd h1=> ?_;refine iR h1 <| bc (p:=i<ys.length) (fun wk=> ?_) fun wk=> ?_
   ·refine jm (wW wk) fun y J5 h2=> ?_
    replace hP:=J5▸(hd▸hP)
    refine iR h2 ?_;cases hP with
    |eq he hP=>
     refine ai (ou he ?_)
     wp_walk
     exact⟨bA cU _,bu gu (iR (bG cU _) <| ih (i+1) (aW (ig _ _ jS) (aM hk)) hP A R _ hl DU h)⟩
    |ne he hN=>
     refine ai (ou he ?_)
     wp_walk using bQ hl,bQ DU
     exact iR h1 <| iR h2 <| ai (O5 hN (ak h))
   ·replace hP:=List.zip_nil_right▸((uD (bw wk))▸hP)
    refine iR (AO (bw wk)) ?_;obtain rfl:r=decide (xs.length<ys.length):=by cases hP;assumption
    wp_walk using bQ hl,bQ DU
    exact h
  ·replace hP:=(uD (bw jS))▸hP
   refine iR (AO (bw jS)) ?_;obtain rfl:r=decide (xs.length<ys.length):=by cases hP;assumption
   cases ys.toArray[((i:Nat):Int).toNat]? <;>
   ·wp_walk using bQ hl,bQ DU
    exact h
theorem Bv{xs ys:List Value}{a b:Addr}{n n2:Nat}{r:Bool}{A:Around}{R:Result->Shared->Prop}{s:Shared}(hP:l9 (fun u v=>OD u v r) (r=decide (xs.length<ys.length)) (List.zip xs ys))
  (hl:s.heap.get? a=some {cls:=.type "list",dict:=none,data:=.seq xs.toArray n,slots:= #[]}) (hb:s.heap.get? b=some {cls:=.type "list",dict:=none,data:=.seq ys.toArray n2,slots:= #[]})
  (h:R (.ok (.ret (.bool r))) s):
  wpAny C.M A.in1 (Builtin.«list.__lt__» ⟨[.ref a,.ref b],[]⟩)
    (fun fin s'=>match fin with| .done f=>R (.ok f) s'| .again c'=>c'.quiet=true/\codeAny C.M A c' R s') (fun e s'=>R (.error e) s') s:=by
 obtain⟨hp,g,d,tk,os⟩:=s;have f3:=AutoSeq1.sub_list_list
 (wp_walk using bQ hl,bQ hb)
 exact⟨bA cU _,bu gu (by
  exact iR (bG cU _) <| QB a b xs ys n n2 r _ 0 (fG _) hP A R _ hl hb h)⟩
theorem QC(l b:Addr)(xs ys:List Value)(n n2:Nat)(r:Bool)(k:Nat):
  ∀i:Nat,xs.length-i<k->l9 (fun u v=>OD v u r) (r=decide (ys.length<xs.length)) (List.zip (xs.drop i) (ys.drop i))->∀(A:Around)(R:Result->Shared->Prop)(s:Shared),
   s.heap.get? l=some {cls:=.type "list",dict:=none,data:=.seq xs.toArray n,slots:= #[]}->s.heap.get? b=some {cls:=.type "list",dict:=none,data:=.seq ys.toArray n2,slots:= #[]}->
   R (.ok (.ret (.bool r))) s->
   wpAny C.M A.in1 (Builtin.«list.__eq__.loop» ⟨[.ref l,.ref b,rawInt i,rawInt 4],[]⟩)
    (fun fin s'=>match fin with| .done f=>R (.ok f) s'| .again c'=>c'.quiet=true/\codeAny C.M A c' R s') (fun e s'=>R (.error e) s') s:=by
 induction k with
 |zero=>exact fun i hk=>absurd hk (gM _)
 |succ k ih=>
  intro i hk hP A R s hl DU h;obtain⟨hp,g,d,tk,os⟩:=s
  wp_walk using bQ hl,bQ DU
  refine bc (p:=i<xs.length) (fun jS=> ?_) fun jS=> ?_
  ·refine jm (wW jS) fun x hd h1=> ?_;refine iR h1 <| bc (p:=i<ys.length) (fun wk=> ?_) fun wk=> ?_
   ·refine jm (wW wk) fun y J5 h2=> ?_
    replace hP:=J5▸(hd▸hP)
    refine iR h2 ?_;cases hP with
    |eq he hP=>
     refine ai (ou he ?_)
     wp_walk
     exact⟨bA cU _,bu gu (iR (bG cU _) <| ih (i+1) (aW (ig _ _ jS) (aM hk)) hP A R _ hl DU h)⟩
    |ne he hN=>
     refine ai (ou he ?_)
     wp_walk using bQ hl,bQ DU
     exact iR h1 <| iR h2 <| ai (WU hN (ak h))
   ·replace hP:=List.zip_nil_right▸((uD (bw wk))▸hP)
    refine iR (AO (bw wk)) ?_;obtain rfl:r=decide (ys.length<xs.length):=by cases hP;assumption
    wp_walk using bQ hl,bQ DU
    exact h
  ·replace hP:=(uD (bw jS))▸hP
   refine iR (AO (bw jS)) ?_;obtain rfl:r=decide (ys.length<xs.length):=by cases hP;assumption
   cases ys.toArray[((i:Nat):Int).toNat]? <;>
   ·wp_walk using bQ hl,bQ DU
    exact h
theorem Bw{xs ys:List Value}{a b:Addr}{n n2:Nat}{r:Bool}{A:Around}{R:Result->Shared->Prop}{s:Shared}(hP:l9 (fun u v=>OD v u r) (r=decide (ys.length<xs.length)) (List.zip xs ys))
  (hl:s.heap.get? a=some {cls:=.type "list",dict:=none,data:=.seq xs.toArray n,slots:= #[]}) (hb:s.heap.get? b=some {cls:=.type "list",dict:=none,data:=.seq ys.toArray n2,slots:= #[]})
  (h:R (.ok (.ret (.bool r))) s):
  wpAny C.M A.in1 (Builtin.«list.__gt__» ⟨[.ref a,.ref b],[]⟩)
    (fun fin s'=>match fin with| .done f=>R (.ok f) s'| .again c'=>c'.quiet=true/\codeAny C.M A c' R s') (fun e s'=>R (.error e) s') s:=by
 obtain⟨hp,g,d,tk,os⟩:=s;have f3:=AutoSeq1.sub_list_list
 (wp_walk using bQ hl,bQ hb)
 exact⟨bA cU _,bu gu (by
  exact iR (bG cU _) <| QC a b xs ys n n2 r _ 0 (fG _) hP A R _ hl hb h)⟩
end
end
section
open PySem PyProof.Rows
section
variable{C:Cx}{sc:Scope}{env:Env}{σ σ':List Addr}{s s' s₁:Shared}{ρ:i8}{st ji:St}{A:Around}{n:Nat}{Q:aa}{E:aa}
theorem L6:∀{l m:List PV}{rs:List Bool},Gq l m=some rs->l.length=m.length->rs.length=l.length/\∀(j:Nat) p q,l[j]? =some p->m[j]? =some q->qp p q=some (rs.getD j true):=by
 intro L0
 induction L0 with
 |nil=>
  intro L1;cases L1 with
  |nil=>
   intro rs h _;refine jC (aj h) ?_;exact⟨rfl,fun j p q h=>nomatch h⟩
  |cons _ _=>
   intro _ _ hl;exact nomatch hl
 |cons a l ih=>
  intro L1;cases L1 with
  |nil=>
   intro _ _ hl;exact nomatch hl
  |cons b m=>
   intro rs h hl;refine iU h fun r he h=>jw h fun rs' hz h=> ?_;refine jC h ?_;obtain⟨h1,h2⟩:=ih hz (Nat.succ.inj hl);refine⟨aQ Nat.succ h1,fun j p q hp hq=> ?_⟩;cases j with
   |zero=>(refine jC (aj hp) ?_);(refine jC (aj hq) ?_);exact he
   |succ j=>exact h2 j p q hp hq
theorem rZ(rs:List Bool):(List.range rs.length).all (fun j=>rs.getD j true)=rs.all id:=by
 rw[Bool.eq_iff_iff,bZ,bZ];constructor
 ·intro h x hx;obtain⟨i,hi,rfl⟩:=List.getElem_of_mem hx;have:=h i (bH.mpr hi);simpa[hi]using this
 ·intro h i hi;have hi':=bH.mp hi;have:=h rs[i] (iG hi');simpa[hi']using this
theorem zO{p:PV}{l:List PV}(hc:seen st p=some (.list l)):pX st p l:=by
 cases p with
 |list m=>exact .inl (aj hc)
 |lst k=>refine jw hc fun m h e=> ?_;cases e;exact .inr (jt k rfl (j_ h))
 |_=>cases hc
theorem zP{p a b:PV}(hc:seen st p=some a)(f:Flat a b):p=a:=by
 cases p with
 |lst k=>refine jw hc fun m h e=> ?_;subst e;cases f
 |_=>exact aj hc
theorem Flat.symm{a b:PV}:Flat a b->Nonempty (Flat b a)
 | .int i j=>⟨.int j i⟩
 | .str i j=>⟨.str j i⟩
theorem aaO{va vb:Value}{r:Bool}(x:OY va vb r)(hq:Q (.bool r) s):wpAny C.M A (compareOp .Eq va vb) Q E s:=by
 obtain⟨_,x⟩:=x;cases x with
 |int=>exact PyProof.Rows.eq_int hq
 |str=>exact PyProof.Rows.eq_str (toList_beq _ _▸hq)
theorem aai{va vb:Value}{r:Bool}(x:OY va vb r)(hq:Q (.bool !r) s):wpAny C.M A (compareOp .NotEq va vb) Q E s:=by
 obtain⟨_,x⟩:=x;cases x with
 |int=>exact PyProof.Rows.ne_int hq
 |str=>rw[toList_beq]at hq;exact PyProof.Rows.ne_str hq
theorem N2{x y:PV}{l m:List PV}{va vb:Value}{rs:List Bool}(hk:ki A n)(K:Ok C σ s st)(h1:pX st x l)(h2:pX st y m)(DR:l.length=m.length)(hz:Gq l m=some rs)(xa:VR C σ s.heap x va)(xb:VR C σ s.heap y vb)(hq:Q (.bool (rs.all id)) s):wpAny C.M A (compareOp .Eq va vb) Q E s:=by
 refine jx K h1 xa fun l1 o1 xs z2 Gl so1 r1=> ?_;refine iR z2 ?_;refine jx K h2 xb fun l2 o2 ys z3 wG so2 r2=> ?_;clear K xb xa;subst z3;refine lP (L6 hz DR) fun jd RT=> ?_;have e1:=r1.length;refine SeqAt.eq_listAt (e:=fun j=>rs.getD j true) (so1.isList Gl) (so2.isList wG) (e1.trans (DR.trans r2.length.symm)) (by have:=hk.u;exact pD ‹_›) (fun j h1 h2=> ?_) ?_
 ·refine jm (r1.at (i:=j) (v:=xs[j]) (aO _)) fun p hp vp=> ?_;refine jm (r2.at (i:=j) (v:=ys[j]) (aO _)) fun q hq' vq=> ?_;exact fun ζ ζ ζ ζ hq=>ou (rU (RT j p q hp hq') vp vq) hq
 ·have:xs.toArray.size=rs.length:=e1.trans jd.symm;exact iR (this ..) <| iR (rZ ..) hq
theorem UU{x y:PV}{va vb:Value}{r:Bool}(hk:ki A n)(K:Ok C σ s st)(hx:jF st .Eq x y=some r)(xa:VR C σ s.heap x va)(xb:VR C σ s.heap y vb)(hq:Q (.bool r) s):wpAny C.M A (compareOp .Eq va vb) Q E s:=by
 refine iU hx fun a h1 hx=>iU hx fun b h2 hx=>qz hx (fun hx=> ?_) fun hx=> ?_
 ·obtain⟨f,e⟩:=yt hx;obtain⟨g⟩:=f.symm;rw[zP h1 f]at xa;rw[zP h2 g]at xb;exact aaO (rU hx xa xb) hq
 ·refine iU hx fun l e1 hx=>iU hx fun m e2 hx=>kO hx fun hl hx=>jw hx fun rs hz e=> ?_;clear hx;clear hx;subst e;rw[kD e1]at h1;rw[kD e2]at h2;exact N2 hk K (zO h1) (zO h2) (aR.mp hl) hz xa xb hq
theorem A0{β:Type}{f:PV->Option β}{g:β->PV}(hf:∀{x b},f x=some b->x=g b):∀{l:List PV}{ps:List β},mW f l=some ps->l=ps.map g:=by
 intro L0
 induction L0 with
 |nil=>
  intro ps h;refine jC (aj h) ?_;rfl
 |cons a l ih=>
  intro ps h;refine iU h fun b h1 h=>jw h fun qs h2 e=> ?_;refine jC e ?_;rw[hf h1,ih h2];rfl
theorem zF{l:List PV}{ps:List (ah)}:qP l=some ps->l=ps.map .str:=A0 jG
theorem Ia{l:List PV}{ps:List Int}:xu l=some ps->l=ps.map .int:=A0 jv
theorem EJ{l:List PV}{ps:List Bool}:uh l=some ps->l=ps.map .bool:=A0 tV
theorem QJ{a:ah}{ps:List (ah)}{l:Addr}{o:Obj}{vs:List Value}{va:Value}(ho:s.heap.get? l=some o)(so:jY "list" o vs)(r:jH C σ s.heap (ps.map .str) vs)
  (xa:VR C σ s.heap (.str a) va) (hq:Q (.bool (ps.contains a)) s):wpAny C.M A (compareOp .In va (.ref l)) Q E s:=by
 refine jy xa fun x t z4 z5 ζ=> ?_
 skip
 subst z5;refine SeqAt.in_listAt (fun y=>match y with| .str z _=>z.cps.toList==x.cps.toList|_=>false) (so.isList ho) (fun y hy=> ?_) ?_
 ·rw[List.mem_toArray]at hy;refine m9 (eX.mp hy) fun i hi=>jm (r.at hi) fun p hp vp=> ?_
  replace hp:=(bk)▸hp
  refine jw hp fun q ζ z6=> ?_;subst z6;refine jy vp fun z u z7 z8 ζ=> ?_;subst z7;subst z8;exact fun ζ ζ ζ ζ hq=>ou (rU (a:=.str z.cps.toList) (b:=.str x.cps.toList) rfl vp xa) hq
 ·have key:∀{ps:List (ah)}{vs:List Value},jH C σ s.heap (ps.map .str) vs->vs.any (fun y=>match y with| .str z _=>z.cps.toList==x.cps.toList|_=>false)=ps.contains x.cps.toList:=by
   intro ps
   induction ps with
   |nil=>intro vs r;skip;(clear ho so xa;refine iR r ?_);rfl
   |cons p ps ih=>
    intro vs r
    skip
    refine qL r fun v r' z9 h1 h2=> ?_;refine iR z9 ?_;refine jy h1 fun z u kW lF ζ=> ?_;refine iR kW ?_;refine jC lF ?_;refine iR List.any_cons <| iR (ih h2) <| iR List.contains_cons ?_
    congr 1;exact Bool.beq_comm
  exact iR List.any_toArray <| iR (key r) hq
theorem xR{x y:PV}{va vb:Value}{r:Bool}{f:Int->Int->Bool}(hx:((jJ x).bind fun a=>(jJ y).map (f a))=some r)(xa:VR C σ s.heap x va)(xb:VR C σ s.heap y vb):∃i t j u,va= .int i t/\vb= .int j u/\r=f i j:=by
 refine iU hx fun i h1 hx=>jw hx fun j h2 e=> ?_
 replace xa:=(jv h1)▸xa
 replace xb:=(jv h2)▸xb
 refine j4 xa fun t mH=> ?_;refine iR mH ?_;refine j4 xb fun u nh=> ?_;clear hx h1 h2 xb xa;subst nh;exact i43 i t j u rfl rfl e.symm
theorem UJ{x y:PV}{va vb:Value}{r:Bool}(K:Ok C σ s st)(hx:jF st .In x y=some r)(xa:VR C σ s.heap x va)(xb:VR C σ s.heap y vb)
  (oW:∀c l,x= .str [c]->y= .cset l->r=l.contains c->wpAny C.M A (compareOp .In va vb) Q E s) (hq:Q (.bool r) s):wpAny C.M A (compareOp .In va vb) Q E s:=by
 refine iU hx fun a h1 hx=>qz hx (fun hx=> ?_) fun hx=> ?_
 ·refine iU hx fun l h2 hx=>jw hx fun c h3 e=>oW c l ?_ (Gd h2) e.symm;exact iR (jG h1) <| iR (jU h3) rfl
 ·refine iU hx fun l h2 hx=>jw hx fun ps h3 e=>jx K (pM h2) xb fun b o vs oU ho so rr=> ?_;clear K hx xb oW h2;refine iR oU ?_
  replace rr:=(zF h3)▸rr
  replace xa:=(jG h1)▸xa
  exact QJ ho so rr xa (e▸hq)
theorem Rh{op:CmpOp}{x y:PV}{va vb:Value}{r:Bool}(hk:ki A n)(K:Ok C σ s st)(hx:jF st op x y=some r)(xa:VR C σ s.heap x va)(xb:VR C σ s.heap y vb)
  (oW:∀c l,x= .str [c]->y= .cset l->r=l.contains c->wpAny C.M A (compareOp .In va vb) Q E s) (hq:Q (.bool r) s):wpAny C.M A (compareOp op va vb) Q E s:=by
 cases op with
 |Eq=>exact UU hk K hx xa xb hq
 |NotEq=>exact jw hx fun b hb e=>aai (rU hb xa xb) (e▸hq)
 |Lt=>
  refine qz hx (fun hx=>iU hx fun a h1 hx=>iU hx fun b h2 hx=> ?_) fun hx=>O5 (uB hx xa xb) hq
  replace xa:=(qJ h1)▸xa
  replace xb:=(qJ h2)▸xb
  exact TX hk hx xa xb hq
 |Gt=>(refine Yj (xR (f:=fun a b=>decide (b<a)) hx xa xb) fun i t j u qb sX vF=> ?_;subst qb;subst sX;subst vF);exact PyProof.Rows.gt_int hq
 |LtE=>(refine Yj (xR (f:=fun a b=>decide (a<=b)) hx xa xb) fun i t j u BV OH OG=> ?_;subst BV;subst OH;subst OG);exact PyProof.Rows.le_int hq
 |GtE=>(refine Yj (xR (f:=fun a b=>decide (b<=a)) hx xa xb) fun i t j u OF Y5 VG=> ?_;subst OF;subst Y5;subst VG);exact PyProof.Rows.ge_int hq
 |In=>exact UJ K hx xa xb oW hq
 |_=>exact ku hx
theorem xd(x:Str):x.length=x.cps.toList.length:=rfl
theorem qT{k:Nat}(h:k<=sizeLine):(k:Int)<2^63:=by rw[eS]at h;exact Int.lt_of_le_of_lt (d_.mpr h) (by decide)
theorem jY.le{T:String}{o:Obj}{vs:List Value}(so:jY T o vs):vs.length<=sizeLine:=so.choose_spec.2
theorem jY.cls{T:String}{o:Obj}{vs:List Value}(so:jY T o vs):o.cls= .type T:=by(refine jm so fun n z60 ζ=> ?_;(clear so;refine iR z60 ?_));rfl
structure Ve(C:Cx)(σ:List Addr)(h:Heap)(l:List PV)(v:Value)(a:Addr)(o:Obj)(vs:List Value)(T:String):Prop where
 kind:T="list"\/T="tuple"
 ref:v= .ref a
 get:h.get? a=some o
 obj:jY T o vs
 vals:jH C σ h l vs
theorem o8{p:PV}{l:List PV}{v:Value}(K:Ok C σ s st)(hc:qe st p=some l)(x:VR C σ s.heap p v):∃a o vs T,Ve C σ s.heap l v a o vs T:=by
 rcases Cr hc with rfl|hc
 ·exact oX x fun a o vs e ζ ho so r=>⟨a,o,vs,"tuple",.inr rfl,e,ho,so,r⟩
 ·exact jx K hc x fun a o vs e ho so r=>⟨a,o,vs,"list",.inl rfl,e,ho,so,r⟩
theorem jY.isTup{o:Obj}{vs:List Value}{h:Heap}{a:Addr}(so:jY "tuple" o vs)(ho:h.get? a=some o):IsTup h a vs.toArray:=by
 refine jm so fun n YZ ζ=> ?_;clear so;subst YZ;exact⟨_,ho,rfl,n,rfl⟩
theorem Dk{α β:Type}{l:List α}{m:List β}(h:m.length=l.length):(!m.toArray.isEmpty)=(!l.isEmpty):=by
 cases l<;>cases m<;>trivial
theorem q7{p:PV}{v:Value}{b:Bool}{Q:Bool->Shared->Prop}(K:Ok C σ s st)(hx:lK st p=some b)(x:VR C σ s.heap p v)
  (h:∀s',je s s'->Q b s'):wpAny C.M A (truthy v) Q E s:=by
 refine qz hx (fun e=> ?_) fun hx=>qz hx (fun hx=>jw hx fun i e eb=> ?_) fun hx=>qz hx (fun hx=>jw hx fun i e eb=> ?_) fun hx=>jw hx fun l hl eb=> ?_
 ·rw[tV e]at x;exact iR (rV x) <| eF (h _ je.rfl')
 ·replace x:=(jv e)▸x
  exact j4 x fun t VB=>iR VB <| PyProof.Rows.truthy_int (eb▸h _ je.rfl')
 ·replace x:=(jG e)▸x
  refine jy x fun y t YY YX hl=>iR YY ?_;subst YX;refine PySem.P.truthy_str (by have:=qT hl;exact ir.mpr this) ?_;have e:((y.length:Int) !=0)= !y.cps.toList.isEmpty:=by
   refine iR (xd ..) ?_;cases y.cps.toList<;>simp[bne]
   lia
  exact e.trans eb▸h _ (je.toks s _)
 ·obtain⟨a,o,vs,T,hT,rfl,ho,so,r⟩:=o8 K hl x;have e:=(Dk r.length).trans eb;rcases hT with rfl|rfl
  ·exact wpAny_truthy_list (so.isList ho) (qT so.le) (e▸h _ (je.toks s _))
  ·exact PyProof.Rows.truthy_tuple (so.isTup ho) (qT so.le) (e▸h _ (je.toks s _))
theorem xN{α:Type}{l:List α}{i:Int}{x:α}(h:idx l i=some x):∃j,seqIndex? i l.length=some j/\l[j]? =some x/\(0<=i->j=i.toNat)/\i<l.length/\ -(l.length:Int)<=i:=by
 unfold idx at h;unfold seqIndex?;split at h
 ·rename_i h0;have jS:=(ay.mp h).1;refine(i15 i.toNat ?_ h (fun ζ=>rfl) ((iQ h0).mp jS) (f7 (Int.neg_le_zero_iff.mpr (Int.ofNat_nonneg _)) h0));refine iR (aS (Int.not_lt.mpr h0):(if i<0 then i+(l.length:Int)else i)=i) <| iR (a_ (iR (aG ..) <| iR (bq ..) <| iR (bq ..) <| ⟨h0,(iQ h0).mp jS⟩)) ?_
  rfl
 ·split at h
  ·rename_i h0 h1;refine(i15 (i+l.length).toNat ?_ h (fun q=>absurd q h0) (Int.lt_of_lt_of_le (ir.mp h0) (bI _)) (Int.le_of_sub_nonneg ((Int.sub_neg i (l.length:Int)).symm▸h1)));exact iR (a_ (ir.mp ‹_›):(if i<0 then i+(l.length:Int)else i)=i+l.length) <| iR (a_ (aZ.mpr ⟨aH h1,aH (Int.lt_of_lt_of_le (Int.add_lt_add_right (ir.mp h0) _) (Int.le_of_eq (Int.zero_add _)))⟩)) rfl
  ·exact ku h
theorem Dm{p:PV}{l:List PV}{i:Int}{u:Tok}{v:Value}{q:PV}(K:Ok C σ s st)(hc:qe st p=some l)(hi:idx l i=some q)(x:VR C σ s.heap p v)
  (h:∀val,VR C σ s.heap q val->Q val s):∃a T id,v= .ref a/\s.TypeIs v T/\typeLookup (.type T) "__getitem__"=pure (some (.builtin id))/\wpAny C.M A (getItem v (.int i u)) Q E s:=by
 refine cps fun G_ YU=>Za (xN hi) fun j hj hq Vr jS hge=> ?_;obtain⟨a,o,vs,T,hT,rfl,ho,so,r⟩:=o8 K hc x;refine jm (r.get hq) fun w' hw vw=>YU ?_;have jd:=r.length;have ZS:=qT so.le;have hv:=h _ vw;clear h;rcases hT with rfl|rfl
 ·refine(ON a "list" _ rfl (jt _ ho so.cls) list_getitem_lookup (bc (p:=0<=i) (fun h0=> ?_) fun h0=> ?_))
  ·have e:=Vr h0;subst e;exact wpAny_getItem_list (so.isList ho) h0 (by lia) (by simpa using hw) hv
  ·have Yv:(i+l.length).toNat=j:=by
    unfold seqIndex? at hj;have e:(if i<0 then i+(l.length:Int)else i)=i+l.length:=a_ (ir.mp h0);rw[e]at hj;exact kO hj fun ζ e=>aj e
   refine wpAny_getItem_list_neg (so.isList ho) (ir.mp ‹_›) (by simp[jd];omega) (by lia) (x:=w') ?_ hv;have:(i+(vs.toArray.size:Int)).toNat=j:=by(refine jC Yv ?_);simp[jd]
   (refine iR this ?_);simpa using hw
 ·exact ON a "tuple" _ rfl (jt _ ho so.cls) slot_tuple_getitem.lookup (PyProof.Rows.getItem_tuple (so.isTup ho) (by lia) (by lia) (by simpa[jd]using hj) (by simpa using hw) hv)
theorem T5{x:Str}{i:Int}{c:Nat}(h:idx x.cps.toList i=some c):(seqIndex? i x.length).bind (x.cps[·]?)=some c:=by
 refine uO (xN h) fun j hj hc ζ=> ?_;have:x.cps.toList.length=x.length:=by rfl
 refine iR hj ?_;simpa using hc
theorem NG{value slice:Expr}{p:PV}{i:Int}{u:Tok}{v:Value}{q:PV}(K:Ok C σ s st)(hx:jk st p (.int i)=some q)(x:VR C σ s.heap p v)
  (hs:∀o,subscripted slice false o (.int i u)=operate [o,.int i u] (getItem o (.int i u)))
  (h:KE C σ s st q Q):wpAny C.M A (subscriptTail value slice v (.int i u)) Q E s:=by
 have seq:((qe st p).bind fun l=>idx l i)=some q->wpAny C.M A (subscriptTail value slice v (.int i u)) Q E s:=fun hx=>by
  refine iU hx fun l hc hi=> ?_;refine J9 (Dm (A:=A) (E:=E) (u:=u) K hc hi x (fun val vr=>h val σ s jX.rfl' K vr)) fun a T id z65 hT hl hw=> ?_;skip;exact tail_any hT hl hw (hs _)
 cases p with
 |str t=>
  refine jy x fun y tk YW z67 hl=> ?_;clear x;refine iR YW ?_;subst z67;refine jw hx fun c hc e=> ?_;subst e;refine Za (xN hc) fun j hj ζ ζ jS hge=> ?_;have e:y.cps.toList.length=y.length:=by rfl
  have ZS:=qT hl;refine tail_any (di s y tk) PySem.F.slot_str_getitem.lookup (PyProof.Rows.getItem_str (by lia) (T5 hc) ?_) (hs _);exact i6 K (je.toks s _) (qh rfl (by refine(?_:1<=sizeLine);decide)) h
 |dct k=>exact ku hx
 |_=>exact seq hx
theorem FT{k:Nat}{i:Int}{a:Nat}(h:nQ k i=some a):clipAt k i=a:=by
 unfold nQ at h;split at h
 ·rename_i h0;refine jC (aj h) ?_;have:i=(i.toNat:Int):=by exact(Int.toNat_of_nonneg ‹_›).symm
  exact iR (this ..) <| iR (clipAt_nat ..) <| iR (b7 ..) rfl
 ·exact ku h
theorem yu{k:Nat}{o:Option Int}{d a:Nat}(h:((o.map (nQ k)).getD (some d))=some a):o.elim d (clipAt k)=a:=by
 cases o with
 |none=>exact aj h
 |some i=>exact FT h
theorem zN{α:Type}{l:List α}{lo hi:Option Int}{r:List α}(h:nt l lo hi=some r):r=(l.drop (lo.elim 0 (clipAt l.length))).take (hi.elim l.length (clipAt l.length)-lo.elim 0 (clipAt l.length)):=iU h fun a ha h=>jw h fun b hb h=>iR (yu ha) <| iR (yu hb) h.symm
inductive pF:Option Int->Value->Prop
 |nil:pF none .none
 |one (i:Int) (t:Tok):pF (some i) (.int i t)
theorem pF.isPart{o:Option Int}{v:Value}(h:pF o v):IsPart v o:=by cases h<;>constructor
theorem pF.tok{o:Option Int}{v:Value}(h:pF o v):∃p:Option (Int×Tok),v=partValue p/\p.map (·.1)=o:=by
 cases h with
 |nil=>exact(jt none rfl rfl)
 |one i t=>exact(jt (some (i,t)) rfl rfl)
theorem sP(lo hi:Option Int)(n:Nat):Builtin.Str.strSliceIndices lo hi 1 n=(List.range (hi.elim n (clipAt n)-lo.elim 0 (clipAt n))).map (lo.elim 0 (clipAt n)+ ·):=by
 have e:Builtin.Str.strSliceIndices lo hi 1 n=sliceRange (lo.elim 0 (clipAt n):Nat) (hi.elim n (clipAt n):Nat) 1:=by
  (cases lo)<;>(cases hi)<;>(simp[Builtin.Str.strSliceIndices,clipAt_cast])
 exact iR (e ..) <| iR (sliceRange_one ..) rfl
theorem rW(x:Str)(lo hi:Option Int):(Builtin.Str.strSliceIndices lo hi 1 x.length).filterMap (x.cps[·]?)=(x.cps.toList.drop (lo.elim 0 (clipAt x.length))).take (hi.elim x.length (clipAt x.length)-lo.elim 0 (clipAt x.length)):=iR (sP ..) <| iR (pick_run ..) rfl
theorem JJ(n:Nat)(i:Int):clipAt n i<=n:=Int.toNat_le.mpr (Int.max_le.mpr ⟨bI _,Int.min_le_right _ _⟩)
theorem yU{a:ah}{lo hi:Option Int}{r:ah}{v vl vu:Value}{sl:Addr}(K:Ok C σ s st)(hx:nt a lo hi=some r)(x:VR C σ s.heap (.str a) v)(pl:pF lo vl)(pu:pF hi vu)
  (hs:s.heap.get? sl=some {cls:=.type "slice",data:=.fields #[vl,vu,.none]})
  (h:KE C σ s st (.str r) Q):wpAny C.M A (getItem v (.ref sl)) Q E s:=by
 refine cps fun G_ z76=>jy x fun y t z68 z69 hl=> ?_;subst z68;subst z69;refine jm pl.tok fun p1 z70 e1=> ?_;subst z70;refine jm pu.tok fun p2 YV e2=> ?_;subst YV;refine z76 <| wpAny_getItem_str_slice (l:=p1) (u:=p2) (st:=none) (sY _ hs rfl rfl) rfl ?_
 have e:y.cps.toList.length=y.length:=by rfl
 have hr:=zN hx
 replace hr:=e▸hr
 clear hx x pl pu hs;subst e1 e2
 delta sliceMade slicePicked
 dsimp only[Option.map_none,Option.getD_none];generalize p1.map (·.1)=lo at*;generalize p2.map (·.1)=hi at*;have hb:hi.elim y.length (clipAt y.length)<=y.length:=by
  cases hi with
  |none=>exact aK _
  |some i=>exact JJ _ _
 have Ys:r.length<=y.length:=by(refine iR hr ?_;refine iR bD ?_;refine iR bV ?_;refine iR e ?_);exact ao (cH ..) (b6 ..)
 refine post_val_or_str ⟨?_,fun t' k=>i6 K (je.toks s _) (qh ?_ ?_) h⟩
 ·split
  ·exact hl
  ·refine(iR (eG ..) ?_:(List.toArray _).size<=_);exact iR (rW ..) <| jC (hr ..) <| ao Ys hl
 ·split
  ·rename_i q;simp only[cO,Bool.true_and,aR]at q;rw[sP,aJ,dK]at q;refine iR hr <| bc (p:=y.length=0) (fun h0=> ?_) fun h0=> ?_
   ·have:y.cps.toList=[]:=cV.mp ‹_›;refine iR this ?_;simp
   ·rw[(Rx q hb h0:lo.elim 0 (clipAt y.length)=0)];exact(cR (ao (aE q.symm) (b6 ..))).symm
  ·refine(?_:(List.toArray _).toList=r);refine iR (rW ..) ?_;exact iR (hr ..) rfl
 ·split
  ·exact hl
  ·refine(iR (eG ..) ?_:(List.toArray _).size<=_);exact iR (rW ..) <| jC (hr ..) <| ao Ys hl
theorem jH.places{l:List PV}{vs:List Value}{h:Heap}(x:jH C σ h l vs):∀js:ah,jH C σ h (js.filterMap (l[·]?)) (js.filterMap (vs[·]?)):=by
 intro L0
 induction L0 with
 |nil=>
  exact jH.nil
 |cons j js ih=>
  refine iR gm <| iR gm ?_
  cases e:l[j]? with
  |none=>
   have:vs[j]? =none:=by
    rw[List.getElem?_eq_none_iff]at e|-;exact iR x.length e
   exact iR this ih
  |some p=>
   exact jm (x.get e) fun v hv r=>iR hv <| jH.cons r ih
theorem yz{α:Type}(l:List α):(List.range l.length).reverse.filterMap (l[·]?)=l.reverse:=by
 refine iR (List.filterMap_reverse ..) <| iR (List.filterMap_getElem?_range_length ..) ?_
 rfl
theorem wz(n:Nat):sliceRange ((n:Int)-1) (-1) (-1)=(List.range n).reverse:=by
 unfold sliceRange;refine iR (aS (by decide)) <| bc (p:=n=0) (fun h=> ?_) fun h=> ?_
 ·exact iR h rfl
 ·refine iR (a_ (Int.lt_of_lt_of_le (by decide:(-1:Int)<0) (Int.sub_nonneg_of_le (d_.mpr (dO h))))) ?_;have e:((n:Int)-1- -1- -1-1) / (- -1)=n:=by
   (refine iR (Int.ediv_one ..) ?_);lia
  refine(iR (e ..) ?_:List.map _ (List.range (((n:Int)-1- -1- -1-1) / (- -1)).toNat)=_);refine iR (b7 ..) ?_;apply List.ext_getElem
  ·simp
  ·intro i h1 h2;simp at h1 h2|-;exact(aQ Int.toNat (Int.sub_eq_add_neg.symm.trans (Bd h1).symm)).trans (b7 _)
theorem yy{p:PV}{l r:List PV}{lo hi stp:Option Int}{v vl vu vk:Value}{sl:Addr}(K:Ok C σ s st)(hc:uS st p=some l)(x:VR C σ s.heap p v)
  (pl:pF lo vl) (pu:pF hi vu) (pk:pF stp vk) (h0:stp≠some 0) (hr:∀vs:List Value,vs.length=l.length->∃js:ah,r=js.filterMap (l[·]?)/\(slicePick vs.toArray lo hi stp).toList=js.filterMap (vs[·]?))
  (hs:s.heap.get? sl=some {cls:=.type "slice",data:=.fields #[vl,vu,vk]})
  (h:KE C σ s st (.list r) Q):∃a,v= .ref a/\s.TypeIs v "list"/\wpAny C.M A (getItem v (.ref sl)) Q E s:=by
 refine jx K (pM hc) x fun a o vs z72 ho so rr=>iR z72 ?_;have hl:=so.le;refine(sY a rfl (jt _ ho so.cls) ?_)
 ·refine wpAny_getItem_list_slice (so.isList ho) (sY _ hs rfl rfl) pl.isPart pu.isPart pk.isPart h0 ?_ (hl);refine jm (hr vs rr.length) fun js e1 e2=> ?_;have e3:slicePick vs.toArray lo hi stp=(js.filterMap (vs[·]?)).toArray:=by(refine jC e2 ?_;rfl)
  have yM:(js.filterMap (vs[·]?)).length<=sizeLine:=by
   have:=slicePick_size_le vs.toArray lo hi stp;rw[e3]at this;exact ao this hl
  refine iR e3 ?_;clear hc pl pu pk h0 hr hs ho so x hl e2 e3;subst e1;exact i6 K (je.push s _) (vf K (rr.places js) yM) h
theorem E9{l r:List PV}{lo hi:Option Int}(h:nt l lo hi=some r)(vs:List Value)(e:vs.length=l.length):
  ∃js:ah,r=js.filterMap (l[·]?)/\(slicePick vs.toArray lo hi none).toList=js.filterMap (vs[·]?):=by
 refine(jt ((List.range (hi.elim l.length (clipAt l.length)-lo.elim 0 (clipAt l.length))).map (lo.elim 0 (clipAt l.length)+ ·)) ?_ ?_)
 ·have:=pick_run l.toArray (lo.elim 0 (clipAt l.length)) (hi.elim l.length (clipAt l.length)-lo.elim 0 (clipAt l.length));simp only[eY]at this;exact iR this <| iR (zN h) rfl
 ·have:=pick_run vs.toArray (lo.elim 0 (clipAt l.length)) (hi.elim l.length (clipAt l.length)-lo.elim 0 (clipAt l.length));simp only[eY]at this;refine iR (this ..) <| iR (slicePick_plain ..) ?_
  simp[e]
theorem M8{l:List PV}(vs:List Value)(e:vs.length=l.length):
  ∃js:ah,l.reverse=js.filterMap (l[·]?)/\(slicePick vs.toArray none none (some (-1))).toList=js.filterMap (vs[·]?):=by
 refine(jt (List.range l.length).reverse (yz l).symm ?_);dsimp only[slicePick,sliceBounds];simp only[fH,show ¬ ((-1:Int)>0) by decide,d7,eG,e];refine iR (wz ..) ?_;simp
theorem M9{l:List PV}{a m:Int}(ha:0<=a)(hm:0<m)(vs:List Value)(e:vs.length=l.length):
  ∃js:ah,nD m l a=js.filterMap (l[·]?)/\(slicePick vs.toArray (some a) none (some m)).toList=js.filterMap (vs[·]?):=by
 refine(jt _ rfl ?_);dsimp only[slicePick,sliceBounds];simp only[fH,(hm:m>0),iH,eG,e,(Int.not_lt.mpr ‹_› :¬ a<0),d7];simp
theorem Iv{value:Expr}{lo' hi' step':Option Expr}{pp:Pos}{p q:PV}{lo hi stp:Option Int}{v vl vu vk:Value}(K:Ok C σ s st)(hx:kR st p lo hi stp=some q)(x:VR C σ s.heap p v)
  (pl:pF lo vl) (pu:pF hi vu) (pk:pF stp vk) (Xp:step'=none↔stp=none)
  (h:KE C σ s st q Q):
  wpAny C.M A (subscriptTail value (.Slice lo' hi' step' pp) v (.ref s.heap.objs.size)) Q E {s with heap:=s.heap.push {cls:=.type "slice",data:=.fields #[vl,vu,vk]}}:=by
 have hs:({s with heap:=s.heap.push {cls:=.type "slice",data:=.fields #[vl,vu,vk]}}:Shared).heap.get? s.heap.objs.size=some {cls:=.type "slice",data:=.fields #[vl,vu,vk]}:=MV s rfl;have g:=je.push s {cls:=.type "slice",data:=.fields #[vl,vu,vk]};have Ks:∃ops,subscripted (.Slice lo' hi' step' pp) false v (.ref s.heap.objs.size)=operate ops (getItem v (.ref s.heap.objs.size)):=by
  cases step' with
  |none=>exact⟨_,rfl⟩
  |some _=>exact⟨_,rfl⟩
 clear Xp;obtain⟨ops,Ks⟩:=Ks;have h':KE C σ {s with heap:=s.heap.push {cls:=.type "slice",data:=.fields #[vl,vu,vk]}} st q Q:=
  fun val σ' s' X K' V=>h val σ' s' (g.ext.trans X) K' V
 have lst:∀{l r:List PV},uS st p=some l->stp≠some 0->.list r=q->
   (∀vs:List Value,vs.length=l.length->∃js:ah,r=js.filterMap (l[·]?)/\(slicePick vs.toArray lo hi stp).toList=js.filterMap (vs[·]?))->
   wpAny C.M A (subscriptTail value (.Slice lo' hi' step' pp) v (.ref s.heap.objs.size)) Q E {s with heap:=s.heap.push {cls:=.type "slice",data:=.fields #[vl,vu,vk]}}:=by
  intro l r hc h0 hq hr;subst hq;refine uO (yy (A:=A) (E:=E) (K.grow g) hc (x.grow g) pl pu pk h0 hr hs h') fun a z73 hT hw=> ?_;skip;exact tail_any hT list_getitem_lookup hw Ks
 clear h;cases stp with
 |none=>
  have plain:((uS st p).bind fun l=>(nt l lo hi).map .list)=some q->wpAny C.M A (subscriptTail value (.Slice lo' hi' step' pp) v (.ref s.heap.objs.size)) Q E {s with heap:=s.heap.push {cls:=.type "slice",data:=.fields #[vl,vu,vk]}}:=fun hx=>
   iU hx fun l hl hx=>jw hx fun r hr e=>lst hl nofun e (E9 hr)
  cases p with
  |str t=>
   refine jw hx fun r hr e=> ?_;subst e;cases pk;refine jy x fun y t z74 ζ ζ=> ?_;subst z74;exact tail_any (di _ y t) PySem.F.slot_str_getitem.lookup (yU (K.grow g) hr (x.grow g) pl pu hs h') Ks
  |_=>exact plain hx
 |some m=>
  cases hi with
  |some _=>exact ku hx
  |none=>
   refine iU hx fun l hl hx=> ?_;cases lo with
   |none=>
    refine kO hx fun q1 e=> ?_;have:=aR.mp q1;clear K x hs g Ks h' pk pu pl;subst this;exact lst hl (by decide) (aj e) M8
   |some a=>
    refine kO hx fun q1 e=> ?_;have h0:=o_ (jA (jA (jA q1).1).1).2;exact lst hl (fun e=>absurd (aj e) (Int.ne_of_gt h0)) (aj e) (M9 (o_ (jA (jA (jA q1).1).1).1) h0)
end
end
section
open PySem PyProof.Rows
open Builtin Builtin.Str StrLaws
theorem HQ(c:Nat):(⟨#[c]⟩:Str).length=1:=rfl
theorem AD(x:Str)(c i:Nat):subAt x ⟨#[c]⟩ i=(x.cps.toList[i]? ==some c):=by
 have h:= @subAt_one x c i;cases e:subAt x ⟨#[c]⟩ i with
 |true=>
  have hl:i+1<=x.length:=by
   have:=subAt_size e;rw[HQ]at this;exact bw fun q=>absurd this (by rw[Nat.min_eq_right (bC q),eW (aM q)];decide)
  have:=h.mp ⟨hl,e⟩;simp[this]
 |false=>
  cases q:x.cps.toList[i]? ==some c with
  |false=>rfl
  |true=>
   have:=(h.mpr (aR.mp q)).2;rw[e]at this;exact Bool.noConfusion this
theorem C5(x:Str)(c:Nat):Txt.startswith x ⟨#[c]⟩=(x.cps.toList.head?==some c):=by
 unfold Txt.startswith;refine iR (AD ..) <| iR (HQ ..) <| iR (xd ..) ?_
 cases x.cps.toList<;>rfl
theorem JD(x:Str)(c:Nat):Txt.endswith x ⟨#[c]⟩=(x.cps.toList.getLast?==some c):=by
 unfold Txt.endswith;refine iR (AD ..) <| iR (HQ ..) <| iR (xd ..) <| iR (List.getLast?_eq_getElem? ..) ?_
 refine bc (p:=x.cps.toList.length=0) (fun h=> ?_) fun h=> ?_
 ·have:x.cps.toList=[]:=cV.mp h;exact iR this rfl
 ·have:decide (0+1<=x.cps.toList.length)=true:=aH (dO ‹_›);exact iR this rfl
theorem Ui(x:Str)(c:Nat):Txt.rfind x ⟨#[c]⟩=qi x.cps.toList c:=by
 delta Txt.rfind qi
 have EA:∀i,At x ⟨#[c]⟩ x.length i↔x.cps.toList[i]? =some c:=fun i=>subAt_one x c i;rcases last_spec x ⟨#[c]⟩with⟨e,h⟩|⟨i,e,h1,h2⟩
 ·refine iR e ?_;have:x.cps.toList.reverse.findIdx? (· ==c)=none:=by
   rw[List.findIdx?_eq_none_iff];intro y hy;refine m9 (eX.mp (gv.mp hy)) fun i hi=> ?_;cases q:y==c with
   |false=>rfl
   |true=>exact absurd ((EA i).mpr (iR hi <| iR (aR.mp q) rfl)) (h i)
  exact iR this rfl
 ·refine iR e ?_;have hi:=(EA i).mp h1;have jS:=(ay.mp hi).1;have:x.cps.toList.reverse.findIdx? (· ==c)=some (x.cps.toList.length-1-i):=by
   rw[ez];refine⟨by(refine iR cT ?_);exact aD (b6 ..) (Nat.sub_lt (cZ jS) Nat.one_pos),?_,?_⟩
   ·refine iR (List.getElem_reverse ..) ?_;simp only[(Nat.sub_sub_self (Nat.le_sub_one_of_lt jS):x.cps.toList.length-1-(x.cps.toList.length-1-i)=i)];have:=(ay.mp hi).2;simp[this]
   ·intro j hj;refine iR (List.getElem_reverse ..) <| fun q=> ?_
    have hk:i<x.cps.toList.length-1-j:=by
     have:j<x.cps.toList.length-1-i:=by assumption
     exact Nat.lt_sub_of_add_lt (eE j i▸iu this)
    refine h2 _ hk ((EA _).mpr (iR (aO (aD (b6 ..) (Nat.sub_lt (cZ jS) Nat.one_pos))) ?_));exact aQ some (aR.mp q)
  refine iR this <| (?_:(i:Int)=(x.cps.toList.length:Int)-1-((x.cps.toList.length-1-i:Nat):Int))
  exact(Int.sub_sub_self _ _).symm.trans (aQ _ (Bd jS).symm)
noncomputable def placesOf(c:Nat)(l:ah)(i:Nat):ah:=(List.range' i (l.length-i)).filter fun j=>l[j]? ==some c
theorem Na(x:Str)(c limit:Nat):∀(l:ah)(acc:Array Nat)(free:Nat),(∀i∈l,free<=i)->l.Pairwise (· < ·)->acc.size+(l.filter fun j=>x.cps.toList[j]? ==some c).length<=limit->
  (forIn l (acc,free) (occBody x ⟨#[c]⟩ x.length limit)).run.fst.toList=acc.toList++l.filter fun j=>x.cps.toList[j]? ==some c:=by
 intro L0
 induction L0 with
 |nil=>
  intro acc free _ _ _;simp
 |cons a l ih=>
  intro acc free hf hp hl;refine iR (b_ ..) ?_;dsimp only[occBody];have w6:=fN.mp hp;have ha:=hf a (aT ..);refine iR (AD ..) <| iR (HQ ..) ?_
  cases q:x.cps.toList[a]? ==some c with
  |true=>
   rw[cA (by exact q)]at hl|-;rw[aB]at hl;have jS:=(ay.mp (aR.mp q)).1;rw[a_ ⟨⟨⟨by refine(?_:acc.size<limit);exact pD ‹_›, ha⟩,by assumption⟩,rfl⟩];have:=ih (acc.push a) (a+1) (fun i hi=>by have:=w6.1 i hi;assumption) w6.2 (iR (Array.size_push ..) <| vM ‹_›);refine(iR this ?_:(forIn l (acc.push a,a+1) (occBody x ⟨#[c]⟩ x.length limit)).run.fst.toList=_);simp
  |false=>
   rw[cB (by simpa using q)]at hl|-;exact iR (aS (by simp)) <| ih acc free (fun i hi=>hf i (aq _ hi):∀i∈l,free<=i) w6.2 hl
theorem nZ(x:Str)(c lo:Nat):(List.range' lo (x.length+1-lo)).filter (fun j=>x.cps.toList[j]? ==some c)=placesOf c x.cps.toList lo:=by
 unfold placesOf;refine iR (xd ..) <| bc (p:=lo<=x.cps.toList.length) (fun h=> ?_) fun h=> ?_
 ·refine iR (by exact Nat.succ_sub ‹_› :x.cps.toList.length+1-lo=(x.cps.toList.length-lo)+1) <| iR List.range'_concat ?_
  have:lo+1*(x.cps.toList.length-lo)=x.cps.toList.length:=by exact(aQ (lo+ ·) (Nat.one_mul _)).trans (fq ‹_›)
  refine iR this ?_;simp
 ·have e1:x.cps.toList.length+1-lo=0:=by exact eW (e8 ‹_›)
  exact iR e1 <| iR (eW (gp ‹_›):x.cps.toList.length-lo=0) rfl
theorem rX(x:Str)(c lo limit:Nat)(h:(placesOf c x.cps.toList lo).length<=limit):occurrences x ⟨#[c]⟩ lo x.length limit=placesOf c x.cps.toList lo:=by
 refine iR (occ_eq ..) <| iR (Na x c limit _ #[] lo (fun i hi=>(List.mem_range'_1.mp hi).1) List.pairwise_lt_range' (by(refine iR (nZ ..) ?_);simpa using h) ..) ?_
 exact iR (nZ ..) rfl
theorem sD(c:Nat)(l:ah)(i:Nat):(placesOf c l i).length<=l.length:=ao (gV _ _) <| iR List.length_range' <| b6 ..
theorem Dd(c a:Nat)(l:ah)(i:Nat):placesOf c (a::l) (i+1)=(placesOf c l i).map (· +1):=by
 unfold placesOf;refine iR aB <| iR (Nat.succ_sub_succ .. :l.length+1-(i+1)=l.length-i) ?_
 have:List.range' (i+1) (l.length-i)=(List.range' i (l.length-i)).map (· +1):=by
  refine iR List.range'_eq_map_range <| iR List.range'_eq_map_range <| iR bX ?_
  apply dU;intro k _;simp only[Function.comp];exact dh ..
 refine iR this <| iR List.filter_map ?_
 congr 1
theorem vS(c a:Nat)(l:ah):placesOf c (a::l) 0=(if a==c then[0]else[])++(placesOf c l 0).map (· +1):=by
 have h1:=Dd c a l 0;unfold placesOf at h1|-;have e:List.range' 0 (l.length+1)=0::List.range' 1 l.length:=by rfl
 refine iR e <| iR List.filter_cons ?_
 have t9:List.filter (fun j=>(a::l)[j]? ==some c) (List.range' 1 l.length)=List.map (fun x=>x+1) (List.filter (fun j=>l[j]? ==some c) (List.range' 0 l.length)):=by
  exact h1
 refine iR t9 ?_;simp only[gq];refine bc (p:=a=c) (fun q=> ?_) fun q=> ?_
 ·clear h1 e t9;refine iR q ?_;simp
 ·have:(a==c)=false:=aL.mpr q;simp[this,q]
theorem UX(x:Str)(c:Nat):Txt.count x ⟨#[c]⟩=(x.cps.toList.count c:Nat):=by
 unfold Txt.count;refine iR (rX x c 0 _ (dM (sD ..))) ?_;congr 1
 induction x.cps.toList with
 |nil=>rfl
 |cons a l ih=>
  refine iR (vS ..) <| iR (au ..) <| iR (aJ ..) <| iR (ih ..) <| iR (List.count_cons ..) <| bc (p:=a=c) (fun q=> ?_) fun q=> ?_
  ·clear ih;refine iR q ?_;simp;exact eE ..
  ·have:(a==c)=false:=aL.mpr q;simp[this]
noncomputable def vL(l:ah):Nat->ah->List (ah)
 |a,[]=>[l.drop a]
 |a,j::r=>(l.drop a).take (j-a)::vL l (j+1) r
theorem v8(x:Nat)(l:ah):∀(r:ah)(a:Nat),vL (x::l) (a+1) (r.map (· +1))=vL l a r:=by
 intro L0
 induction L0 with
 |nil=>
  intro a;exact rfl
 |cons j r ih=>
  intro a;rw[aU,vL,ih (j+1)];have:j+1-(a+1)=j-a:=by exact Nat.succ_sub_succ ..
  exact iR this rfl
theorem zL(c:Nat):∀l:ah,vL l 0 (placesOf c l 0)=jz c l:=by
 intro L0
 induction L0 with
 |nil=>
  exact rfl
 |cons a l ih=>
  refine iR (vS ..) ?_;dsimp only[jz];refine bc (p:=a=c) (fun q=> ?_) fun q=> ?_
  ·refine iR q ?_;simp only[cO,iH,List.singleton_append];rw[vL,v8,ih];rfl
  ·simp only[(aL.mpr q:(a==c)=false),bz,d7,dD];refine jC ih ?_;cases placesOf c l 0 with
   |nil=>rfl
   |cons j r=>
    rw[aU,vL,v8];rfl
theorem strKind_pos(x:Str):1<=Builtin.Str.strKind x:=by
 unfold Builtin.Str.strKind;split
 ·exact aK _
 ·split<;>exact Nat.zero_lt_succ _
theorem C4{c:Nat}(h:c<256):Builtin.Str.strKind ⟨#[c]⟩=1:=by
 unfold Builtin.Str.strKind;exact iR (a_ (by simpa using h)) rfl
theorem I5(x:Str):∀(cuts:ah)(a:Nat),(partsFrom x 1 a cuts).map (·.cps.toList)=vL x.cps.toList a cuts:=by
 intro L0
 induction L0 with
 |nil=>
  intro a;refine iR (aU ..) <| iR (strSub_toList ..) <| iR (xd ..) ?_
  congr 1;exact cR (iR bV <| aK _)
 |cons j r ih=>
  intro a;exact iR (aU ..) <| iR (strSub_toList ..) <| iR (ih (j+1) ..) rfl
theorem Uc(x:Str)(c:Nat)(hc:c<256):(Txt.split x ⟨#[c]⟩).map (·.cps.toList)=jz c x.cps.toList:=by
 unfold Txt.split;refine iR (rX x c 0 _ (dM (sD ..)) ..) <| iR (C4 hc ..) <| iR (HQ ..) ?_
 have hk:=strKind_pos x;refine iR ((cD (gB.mpr ‹_›):decide (Builtin.Str.strKind x<1)=false) ..) <| iR (Bool.or_false ..) ?_
 split
 ·rename_i h;have:x.cps.toList=[]:=cV.mp (by(refine jC (xd ..) ?_);simpa using h);simp[this,jz]
 ·split
  ·rename_i h;exact jC (zL ..) <| iR ((iI.mp h:placesOf c x.cps.toList 0=[]) ..) rfl
  ·exact iR (partsBetween_eq ..) <| iR (I5 ..) <| iR (zL ..) rfl
theorem Sg(sep:Str):∀parts:List Str,(Str.join sep parts).cps.toList=jO sep.cps.toList (parts.map (·.cps.toList))
 |[]=>rfl
 |[x]=>rfl
 |x::y::r=>by
  refine(iR gk ?_:((x.cps++sep.cps)++(Str.join sep (y::r)).cps).toList=_);exact iR gk <| iR (Sg sep (y::r)) rfl
section
variable{C:Cx}{sc:Scope}{env:Env}{σ σ':List Addr}{s s' s₁:Shared}{ρ:i8}{st ji:St}{A:Around}{n:Nat}{Q:aa}{E:aa}
theorem mj{e:Expr}{r:List Expr}{env:Env}(h:lI e=false):starEach (e::r) env=(false,eval e env)::starEach r env:=by
 cases e with
 |Starred=>exact Bool.noConfusion h
 |_=>rfl
theorem Nb{e:Expr}(h:(!lI e)=true):lI e=false:=by cases q:lI e with
 |true=>replace h:=q▸h;exact Bool.noConfusion h
 |false=>rfl
theorem mF{f:Expr->i8->St->Option (PV×St)}:∀{es:List Expr}{st:St}{q:List PV×St},j9 f ρ es st=some q->starEach es env=es.map (fun e=>(false,eval e env)):=by
 intro L0
 induction L0 with
 |nil=>
  intro _ _ _;exact rfl
 |cons e r ih=>
  intro st q h;exact kO h fun hs h=>iU h fun p h1 h2=>jw h2 fun q h3 ζ=>iR (mj (Nb hs)) <| iR aU <| iR (ih h3) rfl
theorem vg(es:List Expr):(es.map (fun e=>(false,eval e env))).any (·.1)=false:=by
 induction es with
 |nil=>rfl
 |cons a l ih=>(refine iR aU ?_;refine iR List.any_cons ?_;refine iR ih ?_);rfl
theorem nW(pos:Pos)(es:List Expr):backTo pos (es.map (fun e=>(false,eval e env)))=es.map (fun e=>(false,eval e env)):=by
 dsimp only[backTo];exact iR bX rfl
def Wg(C:Cx)(σ:List Addr)(s:Shared)(st:St)(vs:List PV)(Q:List Value->Shared->Prop):Prop:=∀vals σ' s',jX jP σ s σ' s'->Ok C σ' s' st->jH C σ' s'.heap vs vals->Q vals s'
theorem p8{g:Scope->Expr->i8->St->Option (PV×St)}(R:yR C n g)(hr:ki A n):∀(es:List Expr)(st:St)(q:List PV×St)(σ:List Addr)(s:Shared)(Q:List Value->Shared->Prop),
  j9 (g sc) ρ es st=some q->iZ C sc env σ s.heap ρ->Ok C σ s st->Wg C σ s q.2 q.1 Q->wpAny C.M A (spliced (es.map (fun e=>(false,eval e env)))) Q E s:=by
 intro L0
 induction L0 with
 |nil=>
  intro st q σ s Q hx _ K h;obtain rfl:=aj hx;exact h_ (h _ σ s jX.rfl' K jH.nil)
 |cons e r ih=>
  intro st q σ s Q hx F K h;refine kO hx fun ζ hx=>iU hx fun p h1 h2=>jw h2 fun q' h3 h4=> ?_;clear hx h2;clear hx;subst h4;exact fO (R sc e ρ st _ _ h1 A env σ s _ E hr F K fun val kg t1 X1 K1 V1=>ih _ q' kg t1 _ h3 (F.ext X1) K1 fun vals qv t2 X2 K2 V2=>h _ qv t2 (X1.trans X2) K2 (jH.cons (V1.mono X2.mono) V2))
theorem xV{g:Scope->Expr->i8->St->Option (PV×St)}(R:yR C n g){f:Value}{es:List Expr}{q:List PV×St}{Q:Args->Shared->Prop}
  (hx:j9 (g sc) ρ es st=some q) (hr:ki A n) (F:iZ C sc env σ s.heap ρ) (K:Ok C σ s st)
  (h:Wg C σ s q.2 q.1 fun vals s'=>Q ⟨vals,[]⟩ s'):wpAny C.M A (evalArgs f true (es.map (fun e=>(false,eval e env))) []) Q E s:=by
 cases es with
 |nil=>
  obtain rfl:=aj hx;exact PySem.evalArgs_none (h _ σ s jX.rfl' K jH.nil)
 |cons e r=>exact f9 (p8 (A:=A) (E:=E) (env:=env) R hr (e::r) st q σ s _ hx F K h)
theorem JL{g:Scope->Expr->i8->St->Option (PV×St)}(R:yR C n g){id:String}{pos:Pos}{first:List Value}{es:List Expr}{q:List PV×St}
  (hx:j9 (g sc) ρ es st=some q) (hr:ki A n) (F:iZ C sc env σ s.heap ρ) (K:Ok C σ s st)
  (h:Wg C σ s q.2 q.1 fun vals s'=>wpAny C.M A (call (.builtin id) (first++vals)) Q E s'):
  wpAny C.M A (callWith pos (.builtin id) first (backTo pos (starEach es env)) []) Q E s:=iR (mF hx ..) <| iR (nW ..) <| gC (vg es) (xV R hx hr F K h)
theorem vj{α:Type}{l:List α}(h:l.Nodup){i j:Nat}(hi:i<l.length)(hj:j<l.length)(e:l[i]=l[j]):i=j:=by
 have hp:=List.pairwise_iff_getElem.mp h;rcases Nat.lt_trichotomy i j with q|q|q
 ·exact absurd e (hp i j hi hj q)
 ·exact q
 ·exact absurd e.symm (hp j i hj hi q)
theorem Ok.set{k:Nat}{a:Addr}{c c':j8}{h':Heap}(K:Ok C σ s st)(ha:σ[k]? =some a)(hk:st[k]? =some c)(hs:Heap.SameBut a s.heap h')(hc:ue C σ h' a c'):
  Ok C σ {s with heap:=h'} (st.set k c')/\jX jP σ s σ {s with heap:=h'}:=by
 have hm:a∈σ:=bJ ha;have X:jX jP σ s σ {s with heap:=h'}:=⟨⟨[],by simp⟩,fun ζ p q=>absurd p q,fun b o e hb ζ=>(hs.2 b (fun q=>hb (q▸hm))).trans e,fun ζ ζ q=>q.elim,rfl,rfl⟩;refine⟨⟨fun b o e=>(hs.2 b fun q=> ?_).trans (K.base b o e),K.fresh0,by(refine iR cJ ?_);exact K.len,K.nodup,fun j b d hb hd=> ?_⟩,X⟩
 ·have:=K.fresh0 a hm
  replace e:=q▸e
  replace this:=e▸this;contradiction
 ·refine bc (p:=j=k) (fun hj=> ?_) fun hj=> ?_
  ·subst hj
   replace hb:=ha▸hb
   refine jC (aj hb) ?_
   replace hd:=(List.getElem?_set_self (ay.mp hk).1)▸hd
   refine jC (aj hd) ?_;exact hc
  ·rw[List.getElem?_set_ne (fun q=>hj q.symm)]at hd;have x:=K.cells j b d hb hd;refine x.mono X.mono (hs.2 b fun q=>hj ?_);clear hk hs hc hm X hd hj x;subst q;have h1:=(ay.mp hb);have h2:=(ay.mp ha);exact vj K.nodup h1.1 h2.1 (h1.2.trans h2.2.symm)
theorem Ok.setList{k:Nat}{a:Addr}{l l':List PV}{vs vs':List Value}{o:Obj}(K:Ok C σ s st)(ha:σ[k]? =some a)(hk:st[k]? =some (.lst l))(ho:s.heap.get? a=some o)(so:jY "list" o vs)
  (f:Array Value->Array Value) (hf:f vs.toArray=vs'.toArray) (V:jH C σ s.heap l' vs') (hl:vs'.length<=sizeLine):
  Ok C σ {s with heap:=s.heap.update a (Obj.mapSeq f)} (st.set k (.lst l'))/\jX jP σ s σ {s with heap:=s.heap.update a (Obj.mapSeq f)}:=by
 have hs:=dW s.heap a (Obj.mapSeq f);have m:tD σ s.heap σ (s.heap.update a (Obj.mapSeq f)):=⟨⟨[],by simp⟩,fun ζ p q=>absurd p q,fun b o e hb ζ=>(hs.2 b (fun q=>hb (q▸(bJ ha:a∈σ)))).trans e⟩;refine jm so fun nn z1 ζ=> ?_;clear so;subst z1;refine K.set ha hk hs (BR _ vs' (PySem.IsL.update ho f) ⟨if(f vs.toArray).size==vs.toArray.size then nn else nn+1,by(refine iR hf ?_;exact rfl),hl⟩ (V.mono m))
end
theorem Jc(x:Str)(c:Nat):∀(l:ah)(free:Nat),(∀i∈l,free<=i)->l.Pairwise (· < ·)->
  (forIn l ((#[]:Array Nat),free) (occBody x ⟨#[c]⟩ x.length 1)).run.fst.toList=(l.filter fun j=>x.cps.toList[j]? ==some c).take 1:=by
 have full:∀(l:ah)(acc:Array Nat)(free:Nat),1<=acc.size->(forIn l (acc,free) (occBody x ⟨#[c]⟩ x.length 1)).run.fst.toList=acc.toList:=by
  intro l
  induction l with
  |nil=>intro acc free _;rfl
  |cons a l ih=>
   intro acc free hs;refine iR (b_ ..) ?_;dsimp only[occBody];exact iR (aS (fun q=>by have:acc.size<1:=q.1.1.1;(exact absurd ‹1<=acc.size› (Nat.not_le.mpr this)))) <| ih acc free hs
 intro l
 induction l with
 |nil=>intro free _ _;rfl
 |cons a l ih=>
  intro free hf hp;refine iR (b_ ..) ?_;dsimp only[occBody];have ha:=hf a (aT ..);refine iR (AD ..) <| iR (HQ ..) ?_
  cases q:x.cps.toList[a]? ==some c with
  |true=>
   refine iR (cA (by exact q)) ?_;have jS:=(ay.mp (aR.mp q)).1;refine iR (a_ ⟨⟨⟨by refine(?_:0<1);exact Nat.zero_lt_succ _,ha⟩,by assumption⟩,rfl⟩) ?_;have:=full l (#[].push a) (a+1) (by simp);refine(iR this ?_:(forIn l (#[].push a,a+1) (occBody x ⟨#[c]⟩ x.length 1)).run.fst.toList=_);rfl
  |false=>
   exact iR (cB (by(simpa using q))) <| iR (aS (by simp)) <| ih free (fun i hi=>hf i (aq _ hi)) (fN.mp hp).2
theorem Jd(x:Str)(c lo:Nat):occurrences x ⟨#[c]⟩ lo x.length 1=(placesOf c x.cps.toList lo).take 1:=iR (occ_eq ..) <| iR (Jc x c _ lo (fun i hi=>(List.mem_range'_1.mp hi).1) List.pairwise_lt_range' ..) <| iR (nZ ..) rfl
theorem By{l:ah}{c p i:Nat}(h:u_ l c p=some i):∃r,placesOf c l p=i::r:=by
 refine jw h fun j hj z2=> ?_;refine jC z2 ?_;rw[ez]at hj;refine jm hj fun jS hc Kv=> ?_;clear hj
 replace jS:=bV▸jS
 unfold placesOf;rw[((fq (bC jS)).symm:l.length-p=j+(l.length-p-j)),<-List.range'_append,gD,Nat.one_mul];have h1:(List.range' p j).filter (fun x=>l[x]? ==some c)=[]:=by
  rw[List.filter_eq_nil_iff];intro x hx;have DP:=List.mem_range'_1.mp hx;have:=Kv (x-p) (Nat.sub_lt_left_of_lt_add DP.1 DP.2);rw[List.getElem_drop]at this;simp only[(fq DP.1:p+(x-p)=x)]at this;rw[aO (iF DP.2 (eE j p▸iu jS))];exact this
 rw[h1,((e7 (Nat.sub_pos_of_lt jS)).symm:l.length-p-j=(l.length-p-j-1)+1),List.range'_succ,cA]
 ·exact⟨_,rfl⟩
 ·rw[List.getElem_drop]at hc;refine iR (aO (eE j p▸iu jS)) ?_;exact hc
theorem Jb{x:Str}{c p i:Nat}(h:u_ x.cps.toList c p=some i):occurrences x ⟨#[c]⟩ p x.length 1=[i]:=m9 (By h) fun r hr=>iR (Jd ..) <| iR (hr ..) rfl
theorem r_(x y:Str)(i:Int)(t u v:Tok)(k:Nat)(r:ah)(h:occurrences x y (fromIndex x.length i) x.length 1=k::r):Gives («str.index» ⟨[.str x t,.str y u,.int i v],[]⟩) (.int k):=by
 refine(iR (Nat.min_self ..) ?_:Gives (match occurrences x y (fromIndex x.length i) (min x.length x.length) 1 with|k::_=>retInt k|[]=>(do rule "str.index.not-found";raiseError "ValueError" "substring not found")) _);exact iR (h ..) <| .of_eq rfl
theorem GY(x:Str)(c:Nat):(Txt.rstripChars x ⟨#[c]⟩).cps.toList=p5 c x.cps.toList:=by
 dsimp only[Txt.rstripChars,Txt.stripBy,stripSame,stripped,stripLo,stripHi,p5];simp only[bz,d7,iH,List.drop_zero];have jd:(x.cps.toList.reverse.takeWhile (· ==c)).length+(x.cps.toList.reverse.dropWhile (· ==c)).length=x.cps.toList.length:=by
  have:=aQ List.length (List.takeWhile_append_dropWhile (p:=(· ==c)) (l:=x.cps.toList.reverse));rw[au,cT]at this;exact this
 have WL:(fun d=>(#[c]:Array Nat).contains d)=(· ==c):=by funext d;simp[Array.contains,eq_comm]
 have ry:(x.cps.toList.reverse.dropWhile (· ==c)).reverse=x.cps.toList.take (x.cps.toList.length-(x.cps.toList.reverse.takeWhile (· ==c)).length):=by
  have h2:x.cps.toList=(x.cps.toList.reverse.dropWhile (· ==c)).reverse++(x.cps.toList.reverse.takeWhile (· ==c)).reverse:=by
   exact jC (List.reverse_append ..) <| iR (List.takeWhile_append_dropWhile ..) <| iR (iw ..) rfl
  have h3:x.cps.toList.length-(x.cps.toList.reverse.takeWhile (· ==c)).length=(x.cps.toList.reverse.dropWhile (· ==c)).reverse.length:=by
   exact iR cT <| jd▸gy ..
  refine iR h3 ?_
  conv=>rhs;rw[h2]
  simp
 split
 ·rename_i q;simp only[aG,aR,cO,true_and]at q;have q':x.cps.toList.length-(x.cps.toList.reverse.takeWhile (· ==c)).length=x.cps.toList.length:=by
   exact jC WL q
  exact iR ry <| iR q' <| iR dQ rfl
 ·exact iR (strSub_toList ..) <| iR (List.drop_zero ..) <| iR (Nat.sub_zero ..) <| iR (ry ..) <| jC (xd ..) <| jC (WL ..) rfl
noncomputable def GB:PV->String
 | .lst _=>"list"
 | .str _=>"str"
 | .cset _=>"frozenset"
 |_=>""
section
variable{C:Cx}{sc:Scope}{env:Env}{σ σ':List Addr}{s s' s₁:Shared}{ρ:i8}{st ji:St}{A:Around}{n:Nat}{Q:aa}{E:aa}
theorem Bx(x:Str)(c:Nat):(partsBetween x (occurrences x ⟨#[c]⟩ 0 x.length (x.length+1)) (⟨#[c]⟩:Str).length).length<=x.length+1:=by
 refine iR (length_partsBetween ..) <| iR (rX x c 0 _ (dM (sD ..)) ..) ?_
 have:=sD c x.cps.toList 0;exact eH ‹_›
theorem Mc{h:Heap}:∀(l:List (Str×Tok)),(∀p∈l,p.1.length<=sizeLine)->jH C σ h ((l.map (·.1.cps.toList)).map .str) (strValues l):=by
 intro L0
 induction L0 with
 |nil=>
  intro _;exact jH.nil
 |cons s_ r ih=>
  obtain⟨x,t⟩:=s_;intro hl;exact jH.cons (qh rfl (hl _ (aT ..))) (ih fun p hp=>hl p (aq _ hp))
theorem ES(c:Nat):∀(l:ah),∀p∈jz c l,p.length<=l.length:=by
 intro L0
 induction L0 with
 |nil=>
  intro p hp;simp[jz]at hp;refine iR hp ?_;exact aK _
 |cons a l ih=>
  intro p hp;dsimp only[jz]at hp;split at hp
  ·rcases aV.mp hp with rfl|h
   ·exact c9 _
   ·exact dM (ih p h)
  ·split at hp
   ·refine iR (aA.mp hp) ?_;simp
   ·rename_i q qs e;rcases aV.mp hp with rfl|h
    ·have:=ih q (iR e <| aT ..);exact eH ‹_›
    ·exact dM (ih p (iR e <| aq _ h))
theorem yS{x:Str}{t u:Tok}{c:Nat}(hc:c<256)(K:Ok C σ s st)(hx:x.length<=sizeLine)(h1:x.length+1<=sizeLine)
  (h:KE C σ s st (.list ((jz c x.cps.toList).map .str)) Q):
  wpAny C.M A (call (.builtin "str.split") [.str x t,.str ⟨#[c]⟩ u]) Q E s:=by
 have hn:=Bx x c;have fin:∀(l:List (Str×Tok))(k:Nat),l.map (·.1)=Txt.split x ⟨#[c]⟩->l.length<=x.length+1->
   Q (.ref s.heap.objs.size) {s with heap:=s.heap.push {cls:=.type "list",data:=.seq (strValues l).toArray},toks:=k}:=by
  intro l k hl jd;have e1:l.map (·.1.cps.toList)=jz c x.cps.toList:=by
   exact jC (Uc x c hc) <| jC hl <| iR bX rfl
  have oz:∀p∈l,p.1.length<=sizeLine:=fun p hp=>by
   have:p.1.cps.toList∈jz c x.cps.toList:=by(refine jC e1 ?_);exact iE.mpr (jt p hp rfl)
   have:=ES c _ _ this;exact ao ‹_› ‹_›
  have V:=Mc (C:=C) (σ:=σ) (h:=s.heap) l oz;rw[e1]at V;have hk:(strValues l).length<=sizeLine:=by
   have:(strValues l).length=l.length:=by simp[strValues]
   exact iR this <| ao ‹_› ‹_›
  exact i6 K (je.trans (je.push s _) (je.toks _ k)) (vf K V hk) h
 cases t9:(decide (x.length<(⟨#[c]⟩:Str).length)||decide (Builtin.Str.strKind x<Builtin.Str.strKind ⟨#[c]⟩))
 ·cases hf:(occurrences x ⟨#[c]⟩ 0 x.length (x.length+1)).isEmpty
  ·refine call_meets F.slot_str_split (di _ _ _) F.entry_str_split (F.args_str_split_2 _ _) (meets_str_split_sep x ⟨#[c]⟩ t u t9 rfl hf hx (ao ‹_› ‹_›)) ?_;show wants Q E _ {s with toks:=_,heap:=s.heap.push {cls:=.type "list",data:=.seq (strsFrom s.toks (partsBetween x (occurrences x ⟨#[c]⟩ 0 x.length (x.length+1)) (⟨#[c]⟩:Str).length)).toArray}};refine iR (strsFrom_eq ..) <| fin (numbered s.toks _) _ ((numbered_texts _ _).trans ((aS (ne_true_of_eq_false t9)).trans (aS (ne_true_of_eq_false hf))).symm) ?_
   have:(numbered s.toks (partsBetween x (occurrences x ⟨#[c]⟩ 0 x.length (x.length+1)) (⟨#[c]⟩:Str).length)).length=(partsBetween x (occurrences x ⟨#[c]⟩ 0 x.length (x.length+1)) (⟨#[c]⟩:Str).length).length:=by
    exact jC (aJ (·.1) ..) <| iR (numbered_texts ..) rfl
   exact iR this hn
  ·exact call_meets F.slot_str_split (di _ _ _) F.entry_str_split (F.args_str_split_2 _ _) (meets_str_split_not_found x ⟨#[c]⟩ t u t9 rfl hf)
    (fin [(x,t)] s.toks ((aS (ne_true_of_eq_false t9)).trans (a_ hf)).symm (by simp))
 ·exact call_meets F.slot_str_split (di _ _ _) F.entry_str_split (F.args_str_split_2 _ _) (meets_str_split_cannot_occur x ⟨#[c]⟩ t u t9)
   (fin [(x,t)] s.toks (a_ t9).symm (by simp))
theorem H6{h:Heap}:∀{ps:List (ah)}{vs:List Value},jH C σ h (ps.map .str) vs->∃tl:List (Str×Tok),vs=strValues tl/\tl.map (·.1.cps.toList)=ps:=by
 intro L0
 induction L0 with
 |nil=>
  intro vs x;exact jt [] x.nilE rfl
 |cons p ps ih=>
  intro vs x;refine qL (jH.consE x) fun v r z1 a b=> ?_;subst z1;clear x;refine jy a fun y t z2 z3 ζ=> ?_;refine iR z2 ?_;refine jC z3 ?_;refine jm (ih b) fun tl z4 z5=> ?_;clear ih b a;refine iR z4 ?_;subst z5;exact jt ((y,t)::tl) rfl rfl
theorem NT(k:Nat):∀(l:List Str)(a:Nat),l.foldl (fun n(p:Str)=>n+p.length+k) a=a+(l.map (·.length)).sum+k*l.length:=by
 intro L0
 induction L0 with
 |nil=>
  intro a;rfl
 |cons x l ih=>
  intro a
  (refine iR (dB ..) ?_;refine iR (ih ..) ?_;refine iR (aU ..) ?_;refine iR (eB ..) ?_;refine iR (aB ..) ?_;refine iR (Nat.mul_succ ..) ?_);lia
theorem zY(sep:ah):∀l:List (ah),(l.map (·.length)).sum<=(jO sep l).length
 |[]=>aK _
 |[x]=>by simp[jO]
 |x::y::r=>by
  have ih:=zY sep (y::r);refine iR aU <| iR eB <| (?_:_<=(x++sep++jO sep (y::r)).length)
  (refine iR au ?_;refine iR au ?_);exact ck (eu ..) ih
theorem Bh{x:Str}{t:Tok}{p:PV}{l:List PV}{ps:List (ah)}{v:Value}(K:Ok C σ s st)(hc:qe st p=some l)(ht:qP l=some ps)(hs:kM (jO x.cps.toList ps)=true)(hp:ps.length<=1000)(hx:x.cps.toList.length<=10)
  (y:VR C σ s.heap p v)
  (h:KE C σ s st (.str (jO x.cps.toList ps)) Q):
  wpAny C.M A (call (.builtin "str.join") [.str x t,v]) Q E s:=by
 obtain⟨a,o,vs,T,hT,rfl,ho,so,V⟩:=o8 K hc y
 replace V:=(zF ht)▸V
 refine jm (H6 V) fun tl z6 BS=> ?_;clear hc ht y V;subst z6;have hj:(Txt.join x (tl.map (·.1))).cps.toList=jO x.cps.toList ps:=by
  refine(iR (StrLaws.glued_eq_join ..) ?_:(glued x (tl.map (·.1))).cps.toList=_);exact iR (Sg ..) <| iR (bX ..) <| jC (BS ..) rfl
 have jd:=ly hs;have Am:tooLong ((tl.map (·.1)).toArray.foldl (fun n(p:Str)=>n+p.length+x.length) 0)=false:=by
  refine iR (List.foldl_toArray ..) <| iR (NT ..) ?_
  have h1:=zY x.cps.toList ps;have h2:((tl.map (·.1)).map (·.length)).sum=(ps.map (·.length)).sum:=by
   refine jC BS <| iR bX <| iR bX ?_
   congr 1
  have h5:=Nat.mul_le_mul (by exact hx:x.length<=10) (iR (aJ ..) <| jC (aJ (·.1.cps.toList) ..) <| iR (BS ..) <| hp:(tl.map (·.1)).length<=1000);unfold tooLong;rw[fh,eS]
  lia
 have fin:∀t' k,Q (.str (Txt.join x (tl.map (·.1))) t') {s with toks:=k}:=fun t' k=>
  i6 K (je.toks s k) (qh hj (iR (xd ..) <| iR (hj ..) <| nv jd)) h
 rcases hT with rfl|rfl
 ·exact call_meets F.slot_str_join (di _ _ _) F.entry_str_join (F.args_str_join_2 _ _) (meets_str_join_list x t a tl Am) ⟨so.isList ho,post_join tl ⟨joinFit_length Am,fin⟩⟩
 ·exact call_meets F.slot_str_join (di _ _ _) F.entry_str_join (F.args_str_join_2 _ _) (meets_str_join_tuple x t a tl Am) ⟨(by(refine jm so fun n z7 ζ=> ?_;clear so;subst z7);exact(BR _ n ho rfl rfl)),post_join tl ⟨joinFit_length Am,fin⟩⟩
def MethAt(C:Cx)(o:PV)(name:Str)(args:List PV)(st ji:St)(v:PV)(id:String):Prop:=
 Slot (GB o) name id/\typeOf (.builtin id)=pure (.type "method_descriptor")/\
  ∀(A:Around)(σ:List Addr)(s:Shared)(ov:Value)(vals:List Value)(Q:aa)(E:aa),A.handled=none->Ok C σ s st->VR C σ s.heap o ov->jH C σ s.heap args vals->
   (KE C σ s ji v Q)->wpAny C.M A (call (.builtin id) ([ov]++vals)) Q E s
theorem Pr{h:Heap}{p:PV}{vs:List Value}(x:jH C σ h [p] vs):∃v,vs=[v]/\VR C σ h p v:=by
 refine qL x.consE fun v r z8 a b=> ?_;clear x;refine iR z8 ?_;exact jt v (aQ _ b.nilE) a
theorem kG{h:Heap}{p:PV}{vs:List Value}{G:Prop}(x:jH C σ h [p] vs)(k:∀v,vs=[v]->VR C σ h p v->G):G:=jm (Pr x) k
theorem Pq{h:Heap}{p q:PV}{vs:List Value}(x:jH C σ h [p,q] vs):∃v u,vs=[v,u]/\VR C σ h p v/\VR C σ h q u:=by
 refine qL x.consE fun v r z9 a b=> ?_;clear x;refine iR z9 ?_;exact kG b fun u e c=>BR v u (aQ _ e) a c
theorem pI{h:Heap}{p q:PV}{vs:List Value}{G:Prop}(x:jH C σ h [p,q] vs)(k:∀v u,vs=[v,u]->VR C σ h p v->VR C σ h q u->G):G:=qL (Pq x) k
theorem one_sign{y:Str}{c:Nat}(h:y.cps.toList=[c]):y=⟨#[c]⟩:=by
 obtain⟨a⟩:=y;congr 1;exact fJ.mp h
theorem Ok.listAt{k:Nat}{l:List PV}{v:Value}(K:Ok C σ s st)(hk:st[k]? =some (.lst l))(x:VR C σ s.heap (.lst k) v):
  ∃a n vs,v= .ref a/\σ[k]? =some a/\s.heap.get? a=some {cls:=.type "list",dict:=none,data:=.seq vs.toArray n,slots:= #[]}/\vs.length<=sizeLine/\jH C σ s.heap l vs:=by
 refine cps fun G_ Y3=>jm x fun a VC ha=> ?_;clear x;subst VC;refine qL (K.cells k a _ ha hk) fun o vs ho Y0 V=> ?_;obtain⟨n,rfl,hl⟩:=Y0;exact Y3 <| Ak a n vs rfl ha ho hl V
theorem MZ{vs:List Value}{w:Value}(h:vs[vs.length-1]? =some w):vs=vs.dropLast++[w]:=by
 rw[<-List.getLast?_eq_getElem?]at h;refine m9 (List.getLast?_eq_some_iff.mp h) fun l e=> ?_;exact iR e <| iR f_ rfl
theorem Nk{k:Nat}{l:List PV}{u:PV}(hk:st[k]? =some (.lst l))(hu:l.getLast?=some u):MethAt C (.lst k) "pop" [] st (st.set k (.lst l.dropLast)) u "list.pop":=by
 refine(tZ PySem.F.slot_list_pop PySem.F.type_list_pop (fun A σ s ov vals Q E hh K x y h=>wF (K.listAt hk x) fun a n vs mH ha ho hl V=> ?_));refine iR mH ?_;refine iR (y.nilE) ?_;have jd:=V.length;rw[List.getLast?_eq_getElem?]at hu;refine jm (V.get hu) fun w' hw vw=> ?_
 replace hw:=(fy jd)▸hw
 refine call_meets PySem.F.slot_list_pop (jt _ ho rfl) PySem.F.entry_list_pop (PySem.F.args_list_pop_1 _) (PySem.MeetsSeq.list_pop_last a vs.toArray n w' (by simpa using hw) hl) ⟨ho,?_⟩;have V':jH C σ s.heap l.dropLast vs.dropLast:=by
  exact iR gW <| iR gW <| iR jd <| V.take _
 have hf:vs.toArray.eraseIdxIfInBounds (vs.toArray.size-1)=vs.dropLast.toArray:=by
  have e:=MZ hw;generalize vs.dropLast=ws at e;clear hu hh x V y jd hw;refine iR e ?_;have:=PySem.W.kl_erase ws [] w';rw[cK]at this;refine jC this ?_;congr 1;simp
 refine lP (K.setList ha hk ho (jt n rfl hl) (fun xs=>xs.eraseIdxIfInBounds (vs.toArray.size-1)) hf V' (iR List.length_dropLast <| ao (b6 ..) hl)) fun K' X=> ?_;exact h _ σ _ X K' (vw.mono X.mono)
theorem vV{k:Nat}{l:List PV}{p:PV}(hk:st[k]? =some (.lst l))(hs:kM l=true):MethAt C (.lst k) "append" [p] st (st.set k (.lst (l++[p]))) .none "list.append":=by
 refine(tZ PySem.F.slot_list_append PySem.F.type_list_append (fun A σ s ov vals Q E hh K x y h=>wF (K.listAt hk x) fun a n vs nh ha ho hl V=> ?_));refine iR nh ?_;refine kG y fun u oU vu=> ?_;clear hh y x;refine iR oU ?_;refine call_meets PySem.F.slot_list_append (jt _ ho rfl) PySem.F.entry_list_append (PySem.F.args_list_append_2 _ _) (PySem.list_append a vs.toArray n u hl) ⟨ho,?_⟩;obtain⟨K',X⟩:=K.setList (l':=l++[p]) (vs':=vs++[u]) ha hk ho (jt n rfl hl) (fun xs=>xs.push u) (by simp) (jH.append (jH.cons vu jH.nil) V) (by
  refine iR au <| iR cS <| iR V.length <| iR eS ?_
  have:=ly hs
  lia)
 exact h _ σ _ X K' uf
theorem Qy{k:Nat}{name:Str}{args:List PV}{v:PV}(hx:wN st k name args=some (v,ji)):∃id,MethAt C (.lst k) name args st ji v id:=by
 refine mC hx (fun q hx=>kO hx fun he hx=>iU hx fun l h1 hx=>jw hx fun u hu e=> ?_) fun hx=>kO hx fun q hx=>iU hx fun p hp hx=>iU hx fun l h1 hx=>kO hx fun hs e=> ?_
 ·clear hx;cases e;exact iR (aR.mp q) <| iR (iI.mp he) <| ⟨_,Nk (j_ h1) hu⟩
 ·clear hx;clear hx;clear hx;clear hx;cases e;exact iR (aR.mp q) <| iR (jU hp) <| ⟨_,vV (j_ h1) hs⟩
def q6(C:Cx)(st:St)(l:ah)(c:Nat)(name:Str)(id:String)(v:PV):Prop:=Slot "str" name id/\typeOf (.builtin id)=pure (.type "method_descriptor")/\
 ∀(A:Around)(σ:List Addr)(s:Shared)(a:Str)(t u:Tok)(Q:aa)(E:aa),a.cps.toList=l->a.length<=sizeLine->Ok C σ s st->KE C σ s st v Q->wpAny C.M A (call (.builtin id) [.str a t,.str ⟨#[c]⟩ u]) Q E s
theorem q6.meth{l:ah}{c:Nat}{name:Str}{id:String}{v:PV}(x:q6 C st l c name id v):MethAt C (.str l) name [.str [c]] st st v id:=by
 refine(tZ x.1 x.2.1 (fun A σ s ov vals Q E ζ K xo xa h=>jy xo fun a t qb e hl=> ?_));refine iR qb ?_;refine kG xa fun v2 sX b=> ?_;refine iR sX ?_;clear xo xa;refine jy b fun z u vF e2 ζ=> ?_;clear b;subst vF;exact iR (one_sign e2) <| x.2.2 A σ s a t u Q E e hl K h
section
variable{l:ah}{c:Nat}
theorem m_startswith:q6 C st l c "startswith" "str.startswith" (.bool (l.head?==some c)):=(tZ PySem.F.slot_str_startswith PySem.F.type_str_startswith (fun A σ s a t u Q E e ζ K h=>by
 subst e;exact call_gives PySem.F.slot_str_startswith (di _ _ _) PySem.F.entry_str_startswith (PySem.F.args_str_startswith_2 _ _) (gives_str_startswith a ⟨#[c]⟩ t u) <| i6 K je.rfl' (C5 a c▸oY _) h))
theorem m_endswith:q6 C st l c "endswith" "str.endswith" (.bool (l.getLast?==some c)):=(tZ PySem.F.slot_str_endswith PySem.F.type_str_endswith (fun A σ s a t u Q E e ζ K h=>by
 subst e;exact call_gives PySem.F.slot_str_endswith (di _ _ _) PySem.F.entry_str_endswith (PySem.F.args_str_endswith_2 _ _) (gives_str_endswith a ⟨#[c]⟩ t u) <| i6 K je.rfl' (JD a c▸oY _) h))
theorem m_rfind:q6 C st l c "rfind" "str.rfind" (.int (qi l c)):=(tZ PySem.F.slot_str_rfind PySem.F.type_str_rfind (fun A σ s a t u Q E e ζ K h=>by
 subst e;exact call_gives PySem.F.slot_str_rfind (di _ _ _) PySem.F.entry_str_rfind (PySem.F.args_str_rfind_2 _ _) (gives_str_rfind a ⟨#[c]⟩ t u) <| i6 K (je.toks s _) (Ui a c▸lQ _ _) h))
theorem IQ(a:Str):(p5 c a.cps.toList).length<=a.length:=iR cT <| ao (List.Sublist.length_le (List.dropWhile_sublist _)) <| iR cT <| aK _
theorem m_rstrip:q6 C st l c "rstrip" "str.rstrip" (.str (p5 c l)):=(tZ PySem.F.slot_str_rstrip PySem.F.type_str_rstrip (fun A σ s a t u Q E e hl K h=>by
 subst e;refine call_gives PySem.F.slot_str_rstrip (di _ _ _) PySem.F.entry_str_rstrip (PySem.F.args_str_rstrip_2 _ _) (gives_str_rstrip_chars a ⟨#[c]⟩ t u) <| post_val_or_made (fun ζ=>fits_stripped _ _ _ hl) fun t' k=>i6 K (je.toks s _) (qh (GY a c) ?_) h
 refine(iR (xd ..) ?_:(Txt.rstripChars a ⟨#[c]⟩).length<=_);exact iR (GY ..) <| ao (IQ a) hl))
theorem m_split(hc:(!(decide (256<=c)|| !kM l))=true):q6 C st l c "split" "str.split" (.list ((jz c l).map .str)):=⟨PySem.F.slot_str_split,PySem.F.type_str_split,fun A σ s a t u Q E e hl K h=>by
 subst e;simp only[cz,e9,fh,Bool.not_eq_false']at hc;exact yS (e8 hc.1) K hl (by have:=ly hc.2;(refine iR (xd ..) ?_;refine iR (eS ..) ?_);lia) h⟩
theorem Qx:q6 C st l c "count" "str.count" (.int (l.count c)):=(tZ PySem.F.slot_str_count PySem.F.type_str_count (fun A σ s a t u Q E e ζ K h=>by
 subst e;exact call_gives PySem.F.slot_str_count (di _ _ _) PySem.F.entry_str_count (PySem.F.args_str_count_2 _ _) (gives_str_count a ⟨#[c]⟩ t u) <| i6 K (je.toks s _) (UX a c▸lQ _ _) h))
theorem Jj{name:Str}{v:PV}(hx:rP l name c=some v):∃id,q6 C st l c name id v:=by
 refine mC hx (fun q e=> ?_) fun hx=>mC hx (fun q e=> ?_) fun hx=>mC hx (fun q e=> ?_) fun hx=>mC hx (fun q e=> ?_) fun hx=>mC hx (fun q hx=>kO hx fun hc e=> ?_) fun hx=>kO hx fun q e=> ?_
 all_goals(refine iR (aR.mp q) ?_;refine jC (aj e) ?_)
 ·exact⟨_,m_startswith⟩
 ·exact⟨_,m_endswith⟩
 ·exact⟨_,m_rfind⟩
 ·exact⟨_,m_rstrip⟩
 ·exact⟨_,m_split hc⟩
 ·exact⟨_,Qx⟩
end
theorem Ff{l:ah}{args:List PV}{v:PV}(hx:xJ l args=some v):MethAt C (.str l) "index" args st st v "str.index":=by
 refine iU hx fun q hq hx=>iU hx fun cs h1 hx=>iU hx fun c h2 hx=>iU hx fun i h3 hx=>kO hx fun h0 hx=>jw hx fun k hk e=>(tZ PySem.F.slot_str_index PySem.F.type_str_index (fun A σ s ov vals Q E hh K x y h=>jy x fun a t BV OH hl=> ?_));refine iR BV ?_;subst OH
 replace y:=(jU h2)▸((jv h3)▸((jG h1)▸((pZ hq)▸y)))
 refine pI y fun v1 v2 OG b1 b2=> ?_;subst OG;clear hq h1 h2 h3 hh hl hx x y;refine jy b1 fun z u OF e2 ζ=> ?_;clear hx b1;subst OF;obtain⟨u2,rfl⟩:=tL b2;refine iR (one_sign e2) ?_;have hi:fromIndex a.length i=i.toNat:=by
  have:=o_ h0;unfold fromIndex;refine iR (aS (Int.not_lt.mpr ‹_›)) ?_
  lia
 refine call_gives PySem.F.slot_str_index (di _ _ _) PySem.F.entry_str_index (PySem.F.args_str_index_3 _ _ _) (r_ a ⟨#[c]⟩ i t u u2 k [] (iR hi <| Jb hk)) ?_;exact i6 K (je.toks s _) (e▸lQ _ _) h
theorem Jk{l:ah}{args:List PV}{v:PV}(hx:uo st l args=some v):MethAt C (.str l) "join" args st st v "str.join":=by
 refine iU hx fun p hp hx=>iU hx fun m hm hx=>iU hx fun ps hps hx=>kO hx fun hq e=>(tZ PySem.F.slot_str_join PySem.F.type_str_join (fun A σ s ov vals Q E hh K x y h=> ?_));clear hx hh;clear hx;refine jy x fun a t VG VF hl=> ?_;clear hx x hl;refine iR VG ?_;subst VF
 replace y:=(jU hp)▸y
 refine kG y fun v1 Y4 b1=> ?_;refine iR Y4 ?_;exact Bh K hm hps (jA (jA hq).1).1 (o_ (jA (jA hq).1).2) (o_ (jA hq).2) b1 (aj e▸h)
theorem PE{l:ah}{name:Str}{args:List PV}{v:PV}(hx:se st l name args=some v):∃id,MethAt C (.str l) name args st st v id:=by
 refine mC hx (fun q hx=> ?_) fun hx=>mC hx (fun q hx=> ?_) fun hx=>iU hx fun p hp hx=>iU hx fun cs h1 hx=>iU hx fun c h2 hx=> ?_
 ·exact iR (aR.mp q) <| ⟨_,Jk hx⟩
 ·exact iR (aR.mp q) <| ⟨_,Ff hx⟩
 ·exact m9 (Jj (C:=C) (st:=st) hx) fun id x=>iR (jU hp) <| iR (jG h1) <| iR (jU h2) <| ⟨id,x.meth⟩
end
end
section
open PySem PyProof.Rows
open Builtin StrLaws
namespace FZ
theorem slot_isdisjoint:Slot "frozenset" "isdisjoint" "frozenset.isdisjoint":=
 .of (owner:="frozenset") (n:="isdisjoint") (by(refine iR (cP ..) ?_;refine iR (bW ..) ?_);kernel_rfl) (by decide+kernel) (by decide+kernel) (by decide+kernel)
  (by first|exact .inl (by decide+kernel)|exact .inr (by decide+kernel)) (by(refine iR (cu ..) ?_);kernel_rfl)
theorem type_isdisjoint:typeOf (.builtin "frozenset.isdisjoint")=pure (.type "method_descriptor"):=by refine(?_:builtinType _=_);(refine iR builtinType_eq_fast ?_);kernel_rfl
theorem entry_isdisjoint:entryFor table "frozenset.isdisjoint"=some Builtin.«frozenset.isdisjoint»:=dR (by kernel_rfl)
theorem args_isdisjoint(a b:Value):argsOk "frozenset.isdisjoint" ⟨[a,b],[]⟩:=by
 (refine iR (iM (id:="frozenset.isdisjoint") (n:=['t','n','i','o','j','s','i','d','s','i']) (o:=['t','e','s','n','e','z','o','r','f']) (by kernel_rfl) PySem.W.FB.owner_frozenset) ?_);kernel_rfl
theorem slot_issuperset:Slot "frozenset" "issuperset" "frozenset.issuperset":=
 .of (owner:="frozenset") (n:="issuperset") (by(refine iR (cP ..) ?_;refine iR (bW ..) ?_);kernel_rfl) (by decide+kernel) (by decide+kernel) (by decide+kernel)
  (by first|exact .inl (by decide+kernel)|exact .inr (by decide+kernel)) (by(refine iR (cu ..) ?_);kernel_rfl)
theorem type_issuperset:typeOf (.builtin "frozenset.issuperset")=pure (.type "method_descriptor"):=by refine(?_:builtinType _=_);(refine iR builtinType_eq_fast ?_);kernel_rfl
theorem entry_issuperset:entryFor table "frozenset.issuperset"=some Builtin.«frozenset.issuperset»:=dR (by kernel_rfl)
theorem args_issuperset(a b:Value):argsOk "frozenset.issuperset" ⟨[a,b],[]⟩:=by
 (refine iR (iM (id:="frozenset.issuperset") (n:=['t','e','s','r','e','p','u','s','s','i']) (o:=['t','e','s','n','e','z','o','r','f']) (by kernel_rfl) PySem.W.FB.owner_frozenset) ?_);kernel_rfl
theorem plain_isdisjoint_loop:plainId "frozenset.isdisjoint.loop"=true:=by decide+kernel
theorem entry_isdisjoint_loop:entryFor table "frozenset.isdisjoint.loop"=some Builtin.«frozenset.isdisjoint.loop»:=dR (by kernel_rfl)
theorem plain_issuperset_loop:plainId "frozenset.issuperset.loop"=true:=by decide+kernel
theorem entry_issuperset_loop:entryFor table "frozenset.issuperset.loop"=some Builtin.«frozenset.issuperset.loop»:=dR (by kernel_rfl)
theorem sub_str_set:isSubtype (.type "str") (.type "set")=pure false:=by(refine iR (cu ..) ?_);kernel_rfl
theorem sub_str_frozenset:isSubtype (.type "str") (.type "frozenset")=pure false:=by(refine iR (cu ..) ?_);kernel_rfl
theorem plainAttrs_frozenset:PlainAttrs "frozenset":=
 ⟨⟨"object.__getattribute__",by(refine iR (cP ..) ?_;refine iR (bW ..) ?_);kernel_rfl,by decide+kernel⟩,by(refine iR (cP ..) ?_;refine iR (bW ..) ?_);kernel_rfl⟩
end FZ
section
variable{prog:Program}{w:World}{A:Around}{E:aa}{s:Shared}{I a:Addr}{n:Nat}{P:Nat->Value->Prop}{St:Nat->Heap->Prop}{fp wr:List Addr}{S:Str->Bool}{R:Result->Shared->Prop}
theorem pQ{x:Str}{t:Tok}{es:Array (Int×Value)}{ep:Nat}{tb:SetTable}{o:Obj}{Q:Bool->Shared->Prop}(ho:s.heap.get? a=some o)(hd:o.data= .set es ep tb)
  (DT:ElemsOf (PySem.strKind prog w) es.toList) (oz:∀k,S k=true↔ ∃e∈es.toList,(PySem.strKind prog w).is k e.2=true) (hb:es.size<scanBound) (hf:tb.fits es.size=true)
  (h:Q (S x) {s with toks:=s.toks+1}):wpAny (model prog w) A (setContains a (.str x t)) Q E s:=aP <| ai ((PySem.strKind prog w).pyHash (k:=x) (gA ..) (ai (PySem.W.setFind_any (s:={s with toks:=s.toks+1}) (gA ..) rfl ho hd DT oz hb hf fun r hr=>ak (iR hr h))))
theorem wC{x:Str}(W:Walks prog w A.in1 I fp wr x.cps.size (SignAt x) St){es:Array (Int×Value)}{ep:Nat}{tb:SetTable}{o:Obj}(ha:a∉wr)(hd:o.data= .set es ep tb)
  (DT:ElemsOf (PySem.strKind prog w) es.toList) (oz:∀k,S k=true↔ ∃e∈es.toList,(PySem.strKind prog w).is k e.2=true) (hb:es.size<scanBound) (hf:tb.fits es.size=true):
  ∀(k i:Nat)(s:Shared),x.cps.size-i=k->i<=x.cps.size->s.heap.get? a=some o->St i s.heap->
  (∀h' tk,(∀b o,b∉wr->s.heap.get? b=some o->h'.get? b=some o)->R (.ok (.ret (.bool ((x.cps.toList.drop i).all fun c=> !S ⟨#[c]⟩)))) {s with heap:=h',toks:=tk})->
  codeAny (model prog w) A (.builtin "frozenset.isdisjoint.loop" ⟨[.ref a,.ref I],[]⟩) R s:=by
 intro k
 induction k with
 |zero=>
  intro i s hk hi ho mq hR;have t8:i=x.cps.size:=by(exact dz hi (fV hk))
  subst t8;refine bu FZ.entry_isdisjoint_loop <| iR (bG FZ.plain_isdisjoint_loop _) <| (?_:wpAny _ A.in1 (pyNext (.ref I) >>= _) _ _ s)
  refine ai (W.done s _ _ mq fun h' tk qu=> ?_);have:=hR h' tk qu;rw[dm (by assumption)]at this;exact ak this
 |succ k ih=>
  intro i s hk hi ho mq hR;have jS:i<x.cps.size:=by(exact fW hk)
  refine bu FZ.entry_isdisjoint_loop <| iR (bG FZ.plain_isdisjoint_loop _) <| (?_:wpAny _ A.in1 (pyNext (.ref I) >>= _) _ _ s)
  refine ai (W.item i s _ _ jS mq fun v h' tk hP tu qu=>Vk hP fun c u hc z1=> ?_);refine iR z1 ?_;have ry:x.cps.toList.drop i=c::x.cps.toList.drop (i+1):=by
   have:x.cps.toList[i]? =some c:=by(simpa using hc)
   refine iR (bP (ay.mp this).1) ?_;refine iR (ay.mp this).2 ?_;exact rfl
  refine ai (aP (pQ (s:={s with heap:=h',toks:=tk}) (qu _ _ ha ho) hd DT oz hb hf ?_));cases hS:S ⟨#[c]⟩with
  |true=>
   have:=hR h' (tk+1) qu;rw[ry,gi,hS,Bool.not_true]at this;exact ak this
  |false=>
   refine ak ⟨bA FZ.plain_isdisjoint_loop _,ih (i+1) _ (o5 hk) jS (qu _ _ ha ho) tu fun Gp Tf TF=> ?_⟩;have:=hR Gp Tf fun b o VW e=>TF b o VW (qu b o VW e);rw[ry,gi,hS,Bool.not_false]at this;exact this
theorem wB{x:Str}(W:Walks prog w A.in1 I fp wr x.cps.size (SignAt x) St){es:Array (Int×Value)}{ep:Nat}{tb:SetTable}{o:Obj}(ha:a∉wr)(hd:o.data= .set es ep tb)
  (DT:ElemsOf (PySem.strKind prog w) es.toList) (oz:∀k,S k=true↔ ∃e∈es.toList,(PySem.strKind prog w).is k e.2=true) (hb:es.size<scanBound) (hf:tb.fits es.size=true):
  ∀(k i:Nat)(s:Shared),x.cps.size-i=k->i<=x.cps.size->s.heap.get? a=some o->St i s.heap->
  (∀h' tk,(∀b o,b∉wr->s.heap.get? b=some o->h'.get? b=some o)->R (.ok (.ret (.bool ((x.cps.toList.drop i).all fun c=>S ⟨#[c]⟩)))) {s with heap:=h',toks:=tk})->
  codeAny (model prog w) A (.builtin "frozenset.issuperset.loop" ⟨[.ref a,.ref I],[]⟩) R s:=by
 intro k
 induction k with
 |zero=>
  intro i s hk hi ho mq hR;have t8:i=x.cps.size:=by(exact dz hi (fV hk))
  subst t8;refine bu FZ.entry_issuperset_loop <| iR (bG FZ.plain_issuperset_loop _) <| (?_:wpAny _ A.in1 (pyNext (.ref I) >>= _) _ _ s)
  refine ai (W.done s _ _ mq fun h' tk qu=> ?_);have:=hR h' tk qu;rw[dm (by assumption)]at this;exact ak this
 |succ k ih=>
  intro i s hk hi ho mq hR;have jS:i<x.cps.size:=by(exact fW hk)
  refine bu FZ.entry_issuperset_loop <| iR (bG FZ.plain_issuperset_loop _) <| (?_:wpAny _ A.in1 (pyNext (.ref I) >>= _) _ _ s)
  refine ai (W.item i s _ _ jS mq fun v h' tk hP tu qu=>Vk hP fun c u hc z2=> ?_);refine iR z2 ?_;have ry:x.cps.toList.drop i=c::x.cps.toList.drop (i+1):=by
   have:x.cps.toList[i]? =some c:=by(simpa using hc)
   refine iR (bP (ay.mp this).1) ?_;refine iR (ay.mp this).2 ?_;exact rfl
  refine ai (aP (pQ (s:={s with heap:=h',toks:=tk}) (qu _ _ ha ho) hd DT oz hb hf ?_));cases hS:S ⟨#[c]⟩with
  |false=>
   have:=hR h' (tk+1) qu;rw[ry,gi,hS]at this;exact ak this
  |true=>
   refine ak ⟨bA FZ.plain_issuperset_loop _,ih (i+1) _ (o5 hk) jS (qu _ _ ha ho) tu fun Gp Tf TF=> ?_⟩;have:=hR Gp Tf fun b o VW e=>TF b o VW (qu b o VW e);rw[ry,gi,hS]at this;exact this
end
theorem je.walked(s:Shared)(o:Obj){h':Heap}{tk:Nat}(hk:∀b o',b∉[s.heap.objs.size]->(s.heap.push o).get? b=some o'->h'.get? b=some o'):je s {s with heap:=h',toks:=tk}:=
 ⟨fun b o' e=>hk b o' (by rw[aA];exact cC (bF e)) (az _ e),rfl,rfl⟩
section
variable{C:Cx}{σ:List Addr}{s:Shared}{st:St}{A:Around}{E:aa}
theorem yE{x:Str}{t:Tok}{l:ah}{v:Value}{Q:aa}(hh:A.handled=none)(K:Ok C σ s st)(V:VR C σ s.heap (.cset l) v)
  (h:KE C σ s st (.bool (x.cps.toList.all fun c=> !l.contains c)) Q):
  wpAny C.M A (call (.builtin "frozenset.isdisjoint") [v,.str x t]) Q E s:=by
 skip
 obtain⟨a,o,rfl,hn,ho,k,hk,es,ep,tb,rfl,DT,oz,hsz,hf⟩:=V;refine wpAny_call (iy FZ.slot_isdisjoint.plain FZ.entry_isdisjoint (FZ.slot_isdisjoint.check _ _ _ _ _ _ _ _ ((jt _ ho rfl):s.TypeIs (.ref a) "frozenset") (FZ.args_isdisjoint _ _) ?_));unfold Builtin.«frozenset.isdisjoint» Builtin.Frozenset.oneOther;refine ai (ai (ak (ak (iR (rfl:(Value.str x t==Value.ref a)=false) (gO rfl (ai (gF (T:="str") rfl (gO (by decide) (ai (wpAny_pyIter_str fun o' St hW hSt=>ak ⟨bA FZ.plain_isdisjoint_loop _,wC (S:=Ed l) (hW A.in1 hh) (a:=a) (by simp;exact cC (bF ho)) rfl DT oz (iR hsz <| aD hk (by decide)) hf _ 0 _ rfl (c9 _) (az _ ho) hSt fun h' tk qu=> ?_⟩))))))))));exact i6 K (je.walked s o' qu) (by skip;rfl) h
theorem yD{x:Str}{t:Tok}{l:ah}{v:Value}{Q:aa}(hh:A.handled=none)(K:Ok C σ s st)(V:VR C σ s.heap (.cset l) v)
  (h:KE C σ s st (.bool (x.cps.toList.all fun c=>l.contains c)) Q):
  wpAny C.M A (call (.builtin "frozenset.issuperset") [v,.str x t]) Q E s:=by
 skip
 obtain⟨a,o,rfl,hn,ho,k,hk,es,ep,tb,rfl,DT,oz,hsz,hf⟩:=V;refine wpAny_call (iy FZ.slot_issuperset.plain FZ.entry_issuperset (FZ.slot_issuperset.check _ _ _ _ _ _ _ _ ((jt _ ho rfl):s.TypeIs (.ref a) "frozenset") (FZ.args_issuperset _ _) ?_));unfold Builtin.«frozenset.issuperset» Builtin.Frozenset.oneOther;refine ai (ai (ak (ak ?_)));dsimp only;refine ai <| ai (wpAny_isInstance_val (T:="str") rfl FZ.sub_str_set (?_:wpAny _ _ (isInstance (Value.str x t) (Value.type "frozenset")) _ _ _))
 refine wpAny_isInstance_val (T:="str") rfl FZ.sub_str_frozenset <| gO rfl <| ai (wpAny_pyIter_str fun o' St hW hSt=>ak ⟨bA FZ.plain_issuperset_loop _,wB (S:=Ed l) (hW A.in1 hh) (a:=a) (by simp;exact cC (bF ho)) rfl DT oz (iR hsz <| aD hk (by decide)) hf _ 0 _ rfl (c9 _) (az _ ho) hSt fun h' tk qu=> ?_⟩)
 exact i6 K (je.walked s o' qu) (by skip;rfl) h
theorem Jm{l:ah}{args:List PV}{name:Str}{v:PV}(hx:qD l name args=some v):∃id,MethAt C (.cset l) name args st st v id:=by
 refine iU hx fun p hp hx=>iU hx fun w h1 hx=>mC hx (fun q e=> ?_) fun hx=>kO hx fun q e=> ?_
 all_goals(refine iR (jU hp) ?_;refine iR (jG h1) ?_;refine iR (aR.mp q) ?_;refine jC (aj e) ?_)
 ·refine⟨_,FZ.slot_isdisjoint,FZ.type_isdisjoint,fun A σ s ov vals Q E hh K x y h=>kG y fun u z3 b=> ?_⟩;subst z3;refine jy b fun z t z4 z5 ζ=> ?_;refine iR z4 ?_;subst z5;exact yE hh K x h
 ·refine⟨_,FZ.slot_issuperset,FZ.type_issuperset,fun A σ s ov vals Q E hh K x y h=>kG y fun u z6 b=> ?_⟩;subst z6;refine jy b fun z t z7 z8 ζ=> ?_;subst z7;clear hx hp h1 q e b y;subst z8;exact yD hh K x h
theorem Nj{o:PV}{name:Str}{args:List PV}{v:PV}{ji:St}(hx:methP st o name args=some (v,ji)):∃id,MethAt C o name args st ji v id:=by
 cases o with
 |lst k=>exact Qy hx
 |str l=>exact jw hx fun w hw e=>by cases e;exact PE hw
 |cset l=>exact jw hx fun w hw e=>by cases e;exact Jm hw
 |_=>exact ku hx
end
end
section
open PySem PyProof.Rows
structure kY(o:Obj):Prop where
 val:¬ lq o
 dict:∀e n,o.data≠ .dict e n
 cell:∀c,o.data≠ .cell c
theorem kY.of{n:String}{fs:Array Value}{o:Obj}(hc:o.cls= .type n)(hd:o.data= .fields fs)(hn:n≠"range"):kY o:=
 ⟨by
  rintro(⟨_,_,h⟩|⟨_,_,_,h⟩|⟨h,_⟩)
  ·replace h:=hd▸h
   cases h
  ·replace h:=hd▸h
   cases h
  ·replace h:=hc▸h
   clear hc;cases h;exact hn rfl,
  fun ζ ζ h=>(by replace h:=hd▸h;cases h),fun ζ h=>(by replace h:=hd▸h;cases h)⟩
structure we(W:Addr->Prop)(s s':Shared):Prop where
 keep:∀b o,¬ W b->s.heap.get? b=some o->s'.heap.get? b=some o
 gens:s'.gens=s.gens
 os:s'.os=s.os
section
variable{C:Cx}{sc:Scope}{env:Env}{kK σ σ':List Addr}{jM s s' s₁:Shared}{ρ:i8}{st ji:St}{A:Around}{n:Nat}{W:Addr->Prop}
theorem we.refl:we W s s:=⟨fun ζ ζ ζ e=>e,rfl,rfl⟩
def rz(W:Addr->Prop)(s:Shared):Prop:=∀a,W a->∃o,s.heap.get? a=some o/\kY o
theorem we.mono(x:we W s s')(hW:rz W s):tD σ s.heap σ s'.heap:=
 ⟨⟨[],by simp⟩,fun ζ a b=>absurd a b,fun b o e ζ hv=>x.keep b o (fun hb=>by
  refine jm (hW b hb) fun o' h1 h2=> ?_
  replace h1:=e▸h1
  obtain rfl:=aj h1;exact h2.val hv) e⟩
theorem Ok.raw(K:Ok C σ s st)(x:we W s s')(hW:rz W s)(h0:∀a,W a->C.h₀.get? a=none)(VL:∀a,W a->a∉σ):Ok C σ s' st where
 base:=fun b o e=>x.keep b o (fun hb=>by replace e:=(h0 b hb)▸e;exact ku e) (K.base b o e)
 fresh0:=K.fresh0
 len:=K.len
 nodup:=K.nodup
 cells:=fun k a c ha hc=>by
  exact jm (K.has (bJ ha)) fun o ho ζ=>(K.cells k a c ha hc).mono (x.mono hW) ((x.keep a o (fun hb=>VL a hb (bJ ha)) ho).trans ho.symm)
theorem iZ.raw(F:iZ C sc env σ s.heap ρ)(x:we W s s')(hW:rz W s):iZ C sc env σ s'.heap ρ where
 kind:=F.kind
 plain:=F.plain
 loc:=F.loc
 cel:=F.cel
 fre:=F.fre
 glo:=F.glo
 globals:=F.globals
 builtins:=F.builtins
 code:=F.code
 ns:=by
  refine F.nsC fun m hn hv=>⟨m,hn.at fun o e=>x.keep _ o (fun hb=> ?_) e,fun y v h1 h2=>let⟨val,a,b⟩:=hv y v h1 h2;(jt val a (b.mono (x.mono hW)))⟩;refine jm (hW _ hb) fun o' h1 h2=>J0 hn fun o2 es ep h3 h4 ζ=> ?_
  replace h1:=h3▸h1
  obtain rfl:=aj h1;exact h2.dict _ _ h4
 cells:=fun y hy=>by
  refine F.cellsC y hy fun c vo h1 z1 h2 h3=> ?_;obtain⟨o,ho,hd⟩:=z1;refine⟨c,vo,h1,(jt o (x.keep _ o (fun hb=> ?_) ho) hd),h2,fun v hv=>let⟨val,a,b⟩:=h3 v hv;(jt val a (b.mono (x.mono hW)))⟩;refine jm (hW _ hb) fun o' t9 Kh=> ?_
  replace t9:=ho▸t9
  obtain rfl:=aj t9;exact Kh.cell _ hd
 apart:=F.apart
 dom:=F.dom
 newL:=F.newL
 newC:=F.newC
 notL:=F.notL
theorem iZ.notW(F:iZ C sc env σ s.heap ρ)(hW:rz W s):∀a,W a->¬ own sc env a:=by
 rintro a ha (rfl|⟨x,hk,hc⟩)
 ·refine jm (hW _ ha) fun o' h1 h2=>F.nsC fun m z2 ζ=> ?_;obtain⟨o2,es,ep,h3,h4,_⟩:=z2
  replace h1:=h3▸h1
  obtain rfl:=aj h1;exact h2.dict _ _ h4
 ·refine jm (hW _ ha) fun o' h1 h2=>F.cellsC x (.inl hk) fun c vo h3 z3 ζ ζ=> ?_;obtain⟨o,ho,hd⟩:=z3
  replace h3:=hc▸h3
  obtain rfl:=aj h3
  replace h1:=ho▸h1
  obtain rfl:=aj h1;exact h2.cell _ hd
theorem jX.raw{own:Addr->Prop}(x:jX own kK jM σ s)(y:we W s s')(h0:∀a,W a->jM.heap.get? a=none):jX own kK jM σ s':=
 ⟨x.pre,x.fresh,fun b o e h1 h2=>y.keep b o (fun hb=>by rw[h0 b hb]at e;exact ku e) (x.keep b o e h1 h2),fun a o ha e=>by
  obtain⟨h1,o',h2,h3⟩:=x.alive a o ha e;exact⟨h1,o',y.keep a o' (fun hb=>by rw[h0 a hb]at e;exact ku e) h2,h3⟩,y.gens.trans x.gens,y.os.trans x.os⟩
end
structure MW(C:Cx)(l:List PV)(I:Addr)(W:Addr->Prop)(kQ:St->Prop)(mK:Nat->List Addr->Shared->Prop)(mD:Nat->Value->List Addr->Shared->Prop):Prop where
 objs:∀i σ s,mK i σ s->rz W s
 objsM:∀i v σ s,mD i v σ s->rz W s
 keep:∀(own:Addr->Prop) i σ s σ' s',jX own σ s σ' s'->(∀a,W a->¬ own a/\a∉σ)->mK i σ s->mK i σ' s'
 item:∀(A:Around) i σ s st(Q:Option Value->Shared->Prop)(E:aa),A.handled=none->i<l.length->Ok C σ s st->kQ st->mK i σ s->
  (∀v q s',l[i]? =some q->VR C σ s'.heap q v->mD (i+1) v σ s'->we W s s'->Q (some v) s')->wpAny C.M A (pyNext (.ref I)) Q E s
 done:∀(A:Around) σ s st(Q:Option Value->Shared->Prop)(E:aa),A.handled=none->Ok C σ s st->kQ st->mK l.length σ s->
  (∀s',we W s s'->Q none s')->wpAny C.M A (pyNext (.ref I)) Q E s
 self:∀(A:Around) i σ s(Q:aa)(E:aa),mK i σ s->Q (.ref I) s->wpAny C.M A (pyIter (.ref I)) Q E s
 go:∀(A:Around) es k pos i v σ s(Q:Unit->Shared->Prop)(E:aa),mD i v σ s->(∀s',mK i σ s'->we W s s'->Q () s')->wpAny C.M A (letOwnedTupleGo (.Tuple es k pos) (.ref I) v) Q E s
def YT(mK:Nat->List Addr->Shared->Prop)(mD:Nat->Value->List Addr->Shared->Prop):Prop:=∀i v σ s,mD i v σ s->mK i σ s
theorem tO{C:Cx}{A:Around}{I:Addr}{n:String}{fs:Array Value}{o:Obj}{s:Shared}{es:List Expr}{k:Nat}{pos:Pos}{v:Value}{Q:Unit->Shared->Prop}{E:aa}
  (ho:s.heap.get? I=some o) (hc:o.cls= .type n) (hd:o.data= .fields fs)
  (hn:["enumerate","zip","dict_itemiterator","dict_reverseitemiterator","odict_iterator","itertools.zip_longest","itertools.pairwise"].contains n=false) (h:Q () s):
  wpAny C.M A (letOwnedTupleGo (.Tuple es k pos) (.ref I) v) Q E s:=by
 (cases v)<;>first|exact ak h|skip
 refine ai (wpAny_load ho (iR hc (iR hd ?_)));dsimp only;exact iR hn <| ak h
section
variable{C:Cx}
theorem qH{σ σ':List Addr}{s s':Shared}{own W:Addr->Prop}{I:Addr}{o:Obj}(x:jX own σ s σ' s')(hW:∀a,W a->¬ own a/\a∉σ)(hI:W I)(ho:s.heap.get? I=some o):s'.heap.get? I=some o:=
 x.keep I o ho (hW I hI).2 (hW I hI).1
theorem MW.list{p:PV}{l:List PV}{I a:Addr}:
  MW C l I (· =I) (fun st=>uS st p=some l) (fun i σ s=>s.heap.IsListIter I a i/\VR C σ s.heap p (.ref a)) (fun i ζ σ s=>s.heap.IsListIter I a i/\VR C σ s.heap p (.ref a)) where
 objs:=fun i σ s h b hb=>by
  refine lP h fun z4 ζ=> ?_;obtain⟨o,ho,hc,hd⟩:=z4;exact⟨o,by(refine iR hb ?_);exact ho,kY.of hc hd (by decide)⟩
 objsM:=fun i ζ σ s h b hb=>by
  refine lP h fun z5 ζ=> ?_;obtain⟨o,ho,hc,hd⟩:=z5;exact⟨o,by(refine iR hb ?_);exact ho,kY.of hc hd (by decide)⟩
 keep:=fun own i σ s σ' s' x hW h=>by
  refine cps fun G_ BV=>lP h fun z6 V=> ?_;obtain⟨o,ho,hc,hd⟩:=z6;exact BV <| ⟨(sY o (qH x hW rfl ho) hc hd),V.mono x.mono⟩
 item:=fun A i σ s st Q E hh hi K hc h hQ=>by
  refine lP h fun pS V=>jx K (pM hc) V fun a' o vs e ho so r=> ?_;cases e;refine m9 (show∃q,l[i]? =some q from⟨l[i],aO hi⟩) fun q hq=> ?_;refine jm (r.get hq) fun v hv vr=>wpAny_pyNext_list_item pS (so.isList ho) (x:=v) (by(simpa using hv)) fun h' Eb hs=> ?_;have R:we (· =I) s {s with heap:=h'}:=⟨fun b o hb e=>(hs.2 b hb).trans e,rfl,rfl⟩;have hI:rz (· =I) s:=fun b hb=>by
   exact uO pS fun o ho hc hd=>⟨o,by(refine iR hb ?_);exact ho,kY.of hc hd (by decide)⟩
  exact hQ v q _ hq (vr.mono (R.mono hI)) ⟨Eb,V.mono (R.mono hI)⟩ R
 done:=fun A σ s st Q E hh K hc h hQ=>by
  refine cps fun G_ OG=>lP h fun pS V=>jx K (pM hc) V fun a' o vs e ho so r=>OG ?_;clear K;cases e;refine wpAny_pyNext_list_end hh pS (so.isList ho) (by(simp[r.length])) fun h' hs=>hQ _ ⟨fun b o hb e=>hs b o hb e,rfl,rfl⟩
 self:=fun A i σ s Q E h hQ=>wpAny_pyIter_listiter h.1 hQ
 go:=fun A es k pos i v σ s Q E h hQ=>by
  refine cps fun G_ OF=>lP h fun z7 V=> ?_;obtain⟨o,ho,hc,hd⟩:=z7;exact OF <| tO ho hc hd (by decide) (hQ s ⟨(sY o ho hc hd),V⟩ we.refl)
theorem MW.tuple{l:List PV}{I a:Addr}:
  MW C l I (· =I) (fun ζ=>True) (fun i σ s=>s.heap.IsTupleIter I a i/\VR C σ s.heap (.tup l) (.ref a)) (fun i ζ σ s=>s.heap.IsTupleIter I a i/\VR C σ s.heap (.tup l) (.ref a)) where
 objs:=fun i σ s h b hb=>by
  refine lP h fun z8 ζ=> ?_;obtain⟨o,ho,hc,hd⟩:=z8;exact⟨o,by(refine iR hb ?_);exact ho,kY.of hc hd (by decide)⟩
 objsM:=fun i ζ σ s h b hb=>by
  refine lP h fun z9 ζ=> ?_;obtain⟨o,ho,hc,hd⟩:=z9;exact⟨o,by(refine iR hb ?_);exact ho,kY.of hc hd (by decide)⟩
 keep:=fun own i σ s σ' s' x hW h=>by
  refine cps fun G_ VF=>lP h fun kW V=> ?_;obtain⟨o,ho,hc,hd⟩:=kW;exact VF <| ⟨(sY o (qH x hW rfl ho) hc hd),V.mono x.mono⟩
 item:=fun A i σ s st Q E hh hi K hc h hQ=>by
  refine lP h fun pS V=>oX V fun a' o vs e ζ ho so r=> ?_;cases e;refine m9 (show∃q,l[i]? =some q from⟨l[i],aO hi⟩) fun q hq=> ?_;refine jm (r.get hq) fun v hv vr=>wpAny_pyNext_tuple_item pS (so.isTuple ho) (x:=v) (by(simpa using hv)) fun h' Eb hs=> ?_;have R:we (· =I) s {s with heap:=h'}:=⟨fun b o hb e=>(hs.2 b hb).trans e,rfl,rfl⟩;have hI:rz (· =I) s:=fun b hb=>by
   exact uO pS fun o ho hc hd=>⟨o,by(refine iR hb ?_);exact ho,kY.of hc hd (by decide)⟩
  exact hQ v q _ hq (vr.mono (R.mono hI)) ⟨Eb,V.mono (R.mono hI)⟩ R
 done:=fun A σ s st Q E hh K hc h hQ=>by
  refine cps fun G_ VE=>lP h fun pS V=>oX V fun a' o vs e ζ ho so r=>VE ?_;clear K;cases e;refine wpAny_pyNext_tuple_end hh pS (so.isTuple ho) (by(simp[r.length])) fun h' hs=>hQ _ ⟨fun b o hb e=>hs b o hb e,rfl,rfl⟩
 self:=fun A i σ s Q E h hQ=>wpAny_pyIter_tupleiter h.1 hQ
 go:=fun A es k pos i v σ s Q E h hQ=>by
  refine cps fun G_ VD=>lP h fun lF V=> ?_;obtain⟨o,ho,hc,hd⟩:=lF;exact VD <| tO ho hc hd (by decide) (hQ s ⟨(sY o ho hc hd),V⟩ we.refl)
theorem qq{h:Heap}{I:Addr}{x y z:Int}(hr:IsRangeIter h I x y z):∃o,h.get? I=some o/\∃fs,o.cls= .type "range_iterator"/\o.data= .fields fs:=⟨_,hr,_,rfl,rfl⟩
noncomputable def xj(a c:Int)(n:Nat):List PV:=(List.range n).map fun(i:Nat)=>PV.int (a+(i:Int)*c)
theorem Im{a c:Int}{n i:Nat}(h:i<n):(xj a c n)[i]? =some (.int (a+(i:Int)*c)):=by
 refine iR (bk) ?_;refine iR (gn h) ?_;rfl
theorem zK{a c:Int}{n:Nat}:(xj a c n).length=n:=by simp[xj]
theorem MW.range{I:Addr}(a c:Int)(n:Nat):
  MW C (xj a c n) I (· =I) (fun ζ=>True) (fun i σ s=>IsRangeIter s.heap I (a+(i:Int)*c) ((n:Int)-(i:Int)) c) (fun i ζ σ s=>IsRangeIter s.heap I (a+(i:Int)*c) ((n:Int)-(i:Int)) c) where
 objs:=fun i σ s h b hb=>by
  obtain⟨o,ho,fs,hc,hd⟩:=qq h;exact⟨o,by(refine iR hb ?_);exact ho,kY.of hc hd (by decide)⟩
 objsM:=fun i ζ σ s h b hb=>by
  obtain⟨o,ho,fs,hc,hd⟩:=qq h;exact⟨o,by(refine iR hb ?_);exact ho,kY.of hc hd (by decide)⟩
 keep:=fun own i σ s σ' s' x hW h=>qH x hW rfl h
 item:=fun A i σ s st Q E hh hi K hc h hQ=>by
  replace hi:=zK▸hi
  refine wpAny_pyNext_range_item h (Int.sub_pos_of_lt (cE.mpr hi)) fun h' Eb hs=> ?_;have e2:(n:Int)-((i+1:Nat):Int)=(n:Int)-(i:Int)-1:=by push_cast;lia
  refine hQ _ _ _ (Im hi) (lQ _ _) ?_ ⟨fun b o hb e=>(hs.2 b hb).trans e,rfl,rfl⟩;refine iR (by push_cast;(refine iR (Int.add_mul ..) ?_;refine iR (Int.one_mul ..) ?_;refine iR (Int.add_assoc ..) ?_;exact rfl):a+((i+1:Nat):Int)*c=a+(i:Int)*c+c) ?_;exact iR e2 Eb
 done:=fun A σ s st Q E hh K hc h hQ=>by
  replace h:=zK▸h
  exact wpAny_pyNext_range_end hh h (by lia) fun h' hs=>hQ _ ⟨fun b o hb e=>hs b o hb e,rfl,rfl⟩
 self:=fun A i σ s Q E h hQ=>gG h hQ
 go:=fun A es k pos i v σ s Q E h hQ=>by
  obtain⟨o,ho,fs,hc,hd⟩:=qq h;exact tO ho hc hd (by decide) (hQ s h we.refl)
end
end
section
open PySem PyProof.Rows
open Builtin
section
variable{C:Cx}{sc:Scope}{env:Env}{σ σ':List Addr}{s s' s₁:Shared}{ρ:i8}{st ji:St}{A:Around}{n:Nat}{Q:aa}{E:aa}
def nq(C:Cx)(A:Around)(fv:Value)(args:List PV)(st:St)(v:PV):Prop:=
 ∀(σ:List Addr)(s:Shared)(vals:List Value)(Q:aa)(E:aa),Ok C σ s st->jH C σ s.heap args vals->
  (KE C σ s st v Q)->wpAny C.M A (call fv vals) Q E s
theorem tK{h:Heap}{a b:Int}{v:Value}(x:VR C σ h (.rng a b) v):∃r t u w,v= .ref r/\r∉σ/\IsRange h r a b 1 t u w/\0<=a/\a<=100000/\ -100000<=b/\b<=100000:=by
 skip
 obtain⟨r,o,rfl,hn,ho,t,u,w,rfl,hb⟩:=x;exact i44 r t u w rfl hn ho hb
theorem XO{args:List PV}{v:PV}(hx:Wv st args=some v):nq C A (.builtin "len") args st v:=by
 intro σ s vals Q E K V h;refine iU hx fun p hp hx=> ?_
 replace V:=(jU hp)▸V
 refine kG V fun w z1 x=> ?_;refine iR z1 ?_;refine qz hx (fun hx=>jw hx fun l hl e=> ?_) fun hx=>qz hx (fun hx=>jw hx fun l hl e=> ?_) fun hx=>jw hx fun l hc e=> ?_
 ·replace x:=(jG hl)▸x
  refine jy x fun y t z2 z3 uP=> ?_;refine iR z2 ?_;subst z3;exact PySem.P.len_str (by have:=qT uP;exact ir.mpr ‹_›) (i6 K (je.toks s _) (lQ _ _) (e▸h))
 ·rw[yw hl]at x;refine cps fun G_ VC=>SS x fun a o z4 hn ho z5 uP=> ?_;subst z4;obtain⟨es,ep,t,rfl,DT,oz,hsz,hf⟩:=z5;exact VC <| PySem.call_len_set ho ⟨rfl,rfl,rfl⟩ rfl hf (Int.lt_of_le_of_lt (d_.mpr (ao (aE hsz) uP.1)) (by decide)) <| iR hsz <| i6 K (je.toks s _) (lQ _ _) (e▸h)
 ·clear hx hp V;obtain⟨a,o,vs,T,hT,rfl,ho,so,r⟩:=o8 K hc x;have hq:=i6 K (je.toks s (s.toks+1+1)) (lQ l.length (s.toks+1)) (e▸h);have e2:(vs.toArray.size:Int)=l.length:=aQ Nat.cast r.length;rcases hT with rfl|rfl
  ·exact PyProof.Rows.len_list (so.isList ho) (qT so.le) (e2▸hq)
  ·exact PyProof.Rows.len_tuple (so.isTup ho) (qT so.le) (e2▸hq)
theorem Rt{args:List PV}{v:PV}(hx:En args=some v):nq C A (.type "range") args st v:=by
 intro σ s vals Q E K V h;have made:∀(a b:Int)(t u w:Tok)(k:Nat),0<=a->a<=100000-> -100000<=b->b<=100000->some (.rng a b)=some v->
   Q (.ref s.heap.objs.size) {s with heap:=s.heap.push {cls:=.type "range",data:=.fields #[.int a t,.int b u,.int 1 w]},toks:=k}:=by
  intro a b t u w k h1 h2 h3 h4 hv;obtain rfl:=aj hv;refine i6 K (je.trans (je.push s _) (je.toks _ k)) ?_ h;exact⟨_,_,rfl,K.fresh_size,aF _ rfl,t,u,w,rfl,h1,h2,h3,h4⟩
 refine qz hx (fun hx=>iU hx fun p hp hx=>iU hx fun n hn hx=>kO hx fun q e=> ?_) fun hx=>iU hx fun p hp hx=>iU hx fun a ha hx=>iU hx fun b hb hx=>kO hx fun q e=> ?_
 ·replace V:=(jv hn)▸((jU hp)▸V)
  refine kG V fun w z6 x=> ?_;refine iR z6 ?_;refine j4 x fun t z7=> ?_;refine iR z7 ?_;exact PySem.call_range_1 (made 0 _ _ _ _ _ (Int.le_refl _) (by decide) (o_ (jA q).1) (o_ (jA q).2) e)
 ·replace V:=(jv hb)▸((jv ha)▸((pZ hp)▸V))
  refine pI V fun w1 w2 z8 x y=> ?_;clear hx K h hp ha hb V;subst z8;refine j4 x fun t z9=> ?_;refine iR z9 ?_;refine j4 y fun u kW=> ?_;refine iR kW ?_;have q1:=jA (jA q).1;exact PySem.call_range_2 (made _ _ _ _ _ _ (o_ (jA q1.1).1) (o_ (jA q1.1).2) (o_ q1.2) (o_ (jA q).2) e)
theorem items_int{h:Heap}{a:Int}{n:Nat}{acc:Array Value}(hi:ItemsOf (fun i v=>∃t,v= .int (a+(i:Int)*1) t) acc n):jH C σ h ((List.range n).map fun(i:Nat)=>PV.int (a+(i:Int))) acc.toList:=by
 refine lP hi fun hs hv=> ?_;have key:∀(l:List Value)(k:Nat),(∀(j:Nat)(v:Value),l[j]? =some v->∃t,v=Value.int (a+((k+j:Nat):Int)*1) t)->jH C σ h ((List.range' k l.length).map fun(i:Nat)=>PV.int (a+(i:Int))) l:=by
  intro l
  induction l with
  |nil=>intro k _;exact jH.nil
  |cons x r ih=>
   intro k hj;refine iR aB <| iR List.range'_succ <| iR aU <| m9 (hj 0 x rfl) fun t lF=> ?_
   refine iR lF ?_;refine jH.cons ?_ (ih (k+1) fun j v e=> ?_)
   ·have:a+((k+0:Nat):Int)*1=a+(k:Int):=by lia
    exact iR this <| lQ _ _
   ·have:=hj (j+1) v (e);rw[show k+1+j=k+(j+1) by exact dh ..];exact this
 have:=key acc.toList 0 fun j v e=>by
  have:=hv j v (by(simpa using e));exact iR (aX ..) this
 replace this:=(fy List.range_eq_range')▸(hs▸(bh▸this))
 exact this
theorem U9(hh:A.handled=none){args:List PV}{v:PV}(hx:R9 args=some v):nq C A (.type "list") args st v:=by
 intro σ s vals Q E K V h;refine iU hx fun p hp hx=>jw hx fun q hq e=> ?_
 replace V:=(vB hq)▸((jU hp)▸V)
 clear hx hp hq;obtain⟨a,b⟩:=q;refine kG V fun w mH x=> ?_;refine iR mH ?_;refine Y_ (tK x) fun r t u w nh hn hr h1 h2 h3 h4=> ?_;refine iR nh ?_;refine PySem.call_list_range hh hr (small_one (f7 (by decide) h1) (Int.lt_of_le_of_lt h2 (by decide)) (f7 (by decide) h3) (Int.lt_of_le_of_lt h4 (by decide))) ((rangeSize_one ..).trans (Tg a b):Builtin.Range.rangeSize a b 1=((b-a).toNat:Int)) (by lia) fun h' tk acc c' hk hS hi=> ?_;have g:je s {s with heap:=h',toks:=tk}:=⟨hk,rfl,rfl⟩;have VV:=items_int (C:=C) (σ:=σ) (h:=h') hi;refine i6 K g ?_ (e▸h)
 skip
 refine⟨_,_,acc.toList,rfl,K.fresh_size,hS,(jt c' rfl ?_),VV⟩
 (refine iR (VV.length ..) ?_;refine iR (aJ ..) ?_;refine iR (dK ..) ?_;refine iR (eS ..) ?_);lia
theorem C_(ns:List Int)(val:Nat->Int)(h:∀i,i<ns.length->ns[i]? =some (val i)):∀k,k<=ns.length->preSum val k=(ns.take k).sum:=by
 intro k
 induction k with
 |zero=>intro _;rfl
 |succ k ih=>
  intro hk;rw[preSum,ih (bC ‹_›),List.take_add_one,(h k ‹_›)];simp
theorem Me{h:Heap}{ns:List Int}{vs:List Value}(V:jH C σ h (ns.map .int) vs):∀(i:Nat)(v:Value),vs[i]? =some v->∃t,v=Value.int (ns.getD i 0) t:=by
 intro i v hv;refine jm (V.at hv) fun p hp vr=> ?_
 replace hp:=(bk)▸hp
 refine jw hp fun m hm oU=> ?_;subst oU;refine j4 vr fun t qb=> ?_;clear V hv vr hp;refine iR qb ?_;exact⟨t,by(refine iR (bB) ?_;refine iR hm ?_);rfl⟩
theorem XJ(hh:A.handled=none){args:List PV}{v:PV}(hx:Wr args=some v):nq C A (.builtin "sum") args st v:=by
 intro σ s vals Q E K V h;refine iU hx fun p hp hx=>iU hx fun l hl hx=>jw hx fun ns J3 e=> ?_
 replace V:=(Ia J3)▸((kD hl)▸((jU hp)▸V))
 refine kG V fun w sX x=> ?_;refine iR sX ?_;refine mR x fun a o vs vF hn ho so r=> ?_;refine iR vF ?_;refine PySem.call_sum_walkG (gb (so.isList ho) (i76 s.heap.objs.size ([s.heap.objs.size,a]) ([s.heap.objs.size]) vs.toArray.size _ _ (fun i=>ns.getD i 0) rfl (Walks.list (A:=A.in1) hh s.heap.objs.size a (cC (bF ho)) vs.toArray) ?_ ?_ ?_ ?_))
 ·exact⟨(sY _ (aF _ rfl) rfl rfl),(so.isList ho).push _⟩
 ·intro b hb;refine(iR (bK ..) ?_:b<(s.heap.push _).objs.size);clear hh hx hp hl J3 x V hn so;rcases aV.mp hb with rfl|hb
  ·exact fG _
  ·exact iR (aA.mp hb) <| dY (bF ho)
 ·exact fun i v hv=>Me r i v (by(simpa using hv))
 ·intro h' tk t' hk;have e2:preSum (fun i=>ns.getD i 0) vs.toArray.size=ns.sum:=by
   rw[(by(simp[r.length]):vs.toArray.size=ns.length),C_ ns _ (fun i hi=>by(refine iR (bB) ?_;refine iR (aO hi) ?_);rfl) ns.length (aK _),dQ]
  exact iR e2 <| i6 K (je.walked s _ hk) (lQ _ _) (e▸h)
theorem XS(hh:A.handled=none){args:List PV}{v:PV}(hx:Ww args=some v):nq C A (.builtin "all") args st v:=by
 intro σ s vals Q E K V h;refine iU hx fun p hp hx=>iU hx fun l hl hx=>jw hx fun bs S8 e=> ?_
 replace V:=(EJ S8)▸((kD hl)▸((jU hp)▸V))
 refine kG V fun w BV x=> ?_;refine iR BV ?_;refine mR x fun a o vs OH hn ho so r=> ?_;refine iR OH ?_;refine PySem.call_all_walk (gb (so.isList ho) (i75 s.heap.objs.size ([s.heap.objs.size,a]) ([s.heap.objs.size]) vs.toArray.size _ _ (fun i=>bs.getD i true) rfl (Walks.list (A:=A.in1) hh s.heap.objs.size a (cC (bF ho)) vs.toArray) ?_ ?_ ?_))
 ·exact⟨(sY _ (aF _ rfl) rfl rfl),(so.isList ho).push _⟩
 ·intro i v s' Q' E' hv hq;obtain⟨p,hp,vr⟩:=r.at (i:=i) (v:=v) (by(simpa using hv))
  replace hp:=(bk)▸hp
  refine jw hp fun m hm e=> ?_;clear hh hx hp hl S8 x V hn ho so hv;subst e;refine iR (rV vr) ?_;have e:bs.getD i true=m:=by(refine iR (bB) ?_;refine iR hm ?_);rfl
  exact eF (e▸hq)
 ·intro h' tk hk;have e2:(List.range vs.toArray.size).all (fun i=>bs.getD i true)=bs.all id:=by
   have jd:vs.toArray.size=bs.length:=by(simp[r.length])
   exact iR (jd ..) <| iR (rZ ..) rfl
  exact i6 K (je.walked s _ hk) (e2▸oY _) (e▸h)
theorem XK{args:List PV}{v:PV}(hx:Ws args=some v):nq C A (.builtin "ord") args st v:=by
 intro σ s vals Q E K V h;refine iU hx fun p hp hx=>iU hx fun l hl hx=>jw hx fun c hc e=> ?_
 replace V:=(jU hc)▸((jG hl)▸((jU hp)▸V))
 refine kG V fun w OG x=> ?_;clear hx hp hc V;subst OG;refine jy x fun y t OF e2 hl=> ?_;refine iR OF ?_;exact iR (one_sign e2) <| PySem.P.ord_of_char (i6 K (je.toks s _) (lQ _ _) (e▸h))
theorem XR{args:List PV}{v:PV}(hx:O4 args=some v):nq C A (.builtin "chr") args st v:=by
 intro σ s vals Q E K V h;refine iU hx fun p hp hx=>iU hx fun i hi hx=>kO hx fun q e=> ?_;clear hx;obtain rfl:=aj e
 replace V:=(jv hi)▸((jU hp)▸V)
 refine kG V fun w Y5 x=> ?_;clear hp hi hx e V;subst Y5;refine j4 x fun t VG=> ?_;refine iR VG ?_;exact PyProof.Rows.chr_of_range (o_ (jA q).1) (by have:=o_ (jA q).2;exact f7 (Int.le_of_lt this) (by decide)) (i6 K (je.toks s _) (qh rfl (by refine(?_:1<=sizeLine);decide)) h)
theorem BP{args:List PV}{v:PV}(hx:R_ args=some v):nq C A (.builtin "isinstance") args st v:=by
 intro σ s vals Q E K V h;refine iU hx fun p hp hx=>iU hx fun l hl hx=>iU hx fun t ht hx=>kO hx fun q e=> ?_;obtain rfl:=aj e
 replace V:=(aR.mp q)▸((sG ht)▸((jG hl)▸((pZ hp)▸V)))
 refine pI V fun w1 w2 VF x y=> ?_;refine iR VF ?_;refine jy x fun z t Y4 e hl=> ?_;refine iR Y4 ?_
 skip;(clear hp hl ht q hx V x e;refine iR y ?_)
 exact PySem.IsiPair.str_bytes (i6 K (je.toks s _) (oY _) h)
theorem U5{args:List PV}{v:PV}(hx:R8 args=some v):nq C A (.type "type") args st v:=by
 intro σ s vals Q E K V h;refine iU hx fun p hp hx=>jw hx fun l hl e=> ?_
 replace V:=(jG hl)▸((jU hp)▸V)
 refine kG V fun w VE x=> ?_;clear hx hp hl V;subst VE;refine jy x fun z t VD ζ ζ=> ?_;refine iR VD ?_;exact PySem.call_type_of (di s z t) (by decide) (i6 K je.rfl' (e▸rfl) h)
end
theorem ki.in1'{A:Around}{n:Nat}(R:ki A n):A.in1.handled=none/\A.in1.units+700<cLine:=⟨R.hh,by have:=R.units;refine(?_:A.units+1+700<_);lia⟩
section
variable{C:Cx}{sc:Scope}{env:Env}{σ σ':List Addr}{s s' s₁:Shared}{ρ:i8}{st ji:St}{A:Around}{n:Nat}{Q:aa}{E:aa}
theorem Uz{p q:PV}{va vb:Value}{r:Bool}(hk:A.handled=none/\A.units+700<cLine)(hx:O1 p q=some r)(xa:VR C σ s.heap p va)(xb:VR C σ s.heap q vb)(hq:Q (.bool r) s):wpAny C.M A (richCompare .Lt va vb) Q E s:=by
 refine qz hx (fun hx=>O5 (uB hx xa xb) hq) fun hx=>iU hx fun l h1 hx=>iU hx fun m h2 hx=> ?_
 replace xa:=(kD h1)▸xa
 replace xb:=(kD h2)▸xb
 refine cps fun G_ vF=>mR xa fun a o xs z1 ζ ho z2 ra=> ?_;subst z1;obtain⟨n1,rfl,_⟩:=z2;refine mR xb fun b o' ys z3 ζ qK z4 rb=> ?_;subst z3;obtain⟨n2,rfl,_⟩:=z4;exact vF <| g_ (op:=.Lt) (jt _ ho rfl) (jt _ qK rfl) PySem.F.slot_list_lt
  (wpAny_call (iy PySem.F.slot_list_lt.plain PySem.F.entry_list_lt (PySem.F.slot_list_lt.check _ _ _ _ _ _ _ _ (jt _ ho rfl) (PySem.F.args_list_lt_2 _ _) (Bv (R:=wants (fun v s'=>v≠ .notImplemented/\Q v s') E) (vv hx ra rb) ho qK ⟨nofun,hq⟩)))) (by have:=hk.2;(exact pD ‹_›))
theorem UQ{p q:PV}{va vb:Value}{r:Bool}(hk:A.handled=none/\A.units+700<cLine)(hx:O1 q p=some r)(xa:VR C σ s.heap p va)(xb:VR C σ s.heap q vb)(hq:Q (.bool r) s):wpAny C.M A (richCompare .Gt va vb) Q E s:=by
 refine qz hx (fun hx=>WU (uB hx xb xa) hq) fun hx=>iU hx fun l h1 hx=>iU hx fun m h2 hx=> ?_
 replace xb:=(kD h1)▸xb
 replace xa:=(kD h2)▸xa
 refine cps fun G_ BV=>mR xa fun a o xs z5 ζ ho z6 ra=> ?_;subst z5;obtain⟨n1,rfl,_⟩:=z6;refine mR xb fun b o' ys z7 ζ qK z8 rb=> ?_;subst z7;obtain⟨n2,rfl,_⟩:=z8;exact BV <| g_ (op:=.Gt) (jt _ ho rfl) (jt _ qK rfl) PySem.F.slot_list_gt
  (wpAny_call (iy PySem.F.slot_list_gt.plain PySem.F.entry_list_gt (PySem.F.slot_list_gt.check _ _ _ _ _ _ _ _ (jt _ ho rfl) (PySem.F.args_list_gt_2 _ _) (Bw (R:=wants (fun v s'=>v≠ .notImplemented/\Q v s') E) (vv hx rb ra).swap ho qK ⟨nofun,hq⟩)))) (by have:=hk.2;(exact pD ‹_›))
theorem Nh{R:Result->Shared->Prop}{s0:Shared}{I S:Addr}{fp wr:List Addr}{l:List PV}{vs:List Value}{St:Nat->Heap->Prop}{res:PV}(hr:ki A n)(W:Walks C.prog C.w A.in1 I fp wr vs.length (fun i v=>vs[i]? =some v) St)
  (hw:∀b∈wr,s0.heap.get? b=none) (Wa:s0.heap.get? S=none) (hSf:S∉fp) (VV:jH C σ s0.heap l vs):
  ∀(k j:Nat)(s:Shared)(best:PV)(vb:Value)(c:Nat),vs.length-(j+1)=k->j+1<=vs.length->St (j+1) s.heap->je s0 s->VR C σ s0.heap best vb->Ko best (l.drop (j+1))=some res->
  s.heap.get? S=some {cls:=.type "list",dict:=none,data:=.seq #[vb,vb] c,slots:= #[]}->(∀v s',je s0 s'->VR C σ s0.heap res v->R (.ok (.ret v)) s')->
  codeAny C.M A (.builtin "min.loop" ⟨[.ref I,.none,.ref S],[]⟩) R s:=by
 have S_:S∉wr:=fun h=>hSf (W.sub _ h);have uc:(toString "min"++toString ".loop":String)="min.loop":=by decide
 have jd:=VV.length;have gw:∀{s₁:Shared}{h':Heap}{tk:Nat},je s0 s₁->(∀b o,b∉wr->s₁.heap.get? b=some o->h'.get? b=some o)->je s0 {s₁ with heap:=h',toks:=tk}:=fun g hk=>
  ⟨fun b o e=>hk b o (fun hb=>by rw[hw b hb]at e;exact ku e) (g.keep b o e),g.gens,g.os⟩
 have gS:∀{s₁:Shared}{f:Obj->Obj},je s0 s₁->je s0 {s₁ with heap:=s₁.heap.update S f}:=fun g=>
  ⟨fun b o e=>(dw _ _ (fun q:S=b=>by rw[<-q,Wa]at e;exact ku e)).trans (g.keep b o e),g.gens,g.os⟩
 intro k
 induction k with
 |zero=>
  intro j s best vb c hk hj mq g J8 mL hS hR;have t8:j+1=vs.length:=by exact dz hj (fV hk)
  rw[dm (aE (jd.symm.trans t8.symm))]at mL;simp only[Ko,dZ]at mL;clear hw Wa jd;subst mL;refine bu PySem.F.entry_min_loop <| (?_:wpAny _ A.in1 (seqItems? (.ref S) >>= _) _ _ s)
  refine ai (e_ hS rfl (?_:wpAny _ A.in1 (tryCatch (pyNext (.ref I)) _ >>= _) _ _ s));refine ai (fc (W.done s _ _ (t8▸mq) fun h' tk qu=> ?_));have Aq:=qu S _ S_ hS;refine(ai ?_:wpAny _ A.in1 (updateSeq S (fun ζ=> #[]) >>= _) _ _ _);exact eU Aq rfl (ai (ff (ak (hR vb _ (gS (gw g qu)) J8))))
 |succ k ih=>
  intro j s best vb c hk hj mq g J8 mL hS hR;have jS:j+1<vs.length:=by exact fW hk
  have ry:l.drop (j+1)=l[j+1]'(jd▸jS)::l.drop (j+2):=bP (jd▸jS);rw[ry]at mL;refine bu PySem.F.entry_min_loop <| (?_:wpAny _ A.in1 (seqItems? (.ref S) >>= _) _ _ s)
  refine ai (e_ hS rfl (?_:wpAny _ A.in1 (tryCatch (pyNext (.ref I)) _ >>= _) _ _ s));refine ai (fc (W.item (j+1) s _ _ jS mq fun v h' tk hP tu qu=> ?_));have Aq:=qu S _ S_ hS;have g':=gw (tk:=tk) g qu;refine jm (VV.at hP) fun p hp vp=> ?_;have w6:l[j+1]'(jd▸jS)=p:=by
   rw[aO (jd▸jS)]at hp;exact aj hp
  rw[w6]at mL;refine iU mL fun r TJ mL=>(?_:wpAny _ A.in1 (tryCatch (holding [v,v] (richCompare .Lt v vb >>= _)) _ >>= _) _ _ _);refine ai (fc (aP (ai (Uz hr.in1' TJ (vp.grow g') (J8.grow g') (ai (aP (eF (ai (ff (ak ?_))))))))));cases r with
  |true=>
   dsimp only[if_true];exact ai <| eU Aq rfl (ai (ff (ak ⟨bA eK _,ih (j+1) _ p v _ (o5 hk) jS (W.frame _ _ _ tu fun b VX o e=>(dw _ _ (fun h:S=b=>hSf (by rw[h];exact VX))).trans e) (gS g') vp mL (cM _ Aq rfl) hR⟩)))
  |false=>
   dsimp only[Bool.false_eq_true,if_false];refine ai (ff ?_)
   first
    |(exact ak ⟨bA eK _,ih (j+1) _ best vb _ (o5 hk) jS tu g' J8 mL Aq hR⟩)
    |(refine ai (ff ?_);rw[uc];exact ak ⟨bA eK _,ih (j+1) _ best vb _ (o5 hk) jS tu g' J8 mL Aq hR⟩)
theorem U6{l:List PV}{a:PV}{v:PV}(hr:ki A n)(hx:Ko a l=some v):nq C A (.builtin "min") [.list (a::l)] st v:=by
 intro σ s vals Q E K V h;have uc:(toString "min"++toString ".loop":String)="min.loop":=by decide
 refine kG V fun w z9 x=>iR z9 <| mR x fun ad o vs kW hn ho so VV=>iR kW <| call_function_tree PySem.F.kind_min PySem.F.plain_min PySem.F.entry_min (PySem.F.args_min1 _) <| (?_:wpAny _ A.in1 (Builtin.Builtins.bindParams "min" ["key","default"] 0 ⟨[],[]⟩ >>= _) _ _ s)
 refine ai (bx (show Builtin.Builtins.bindParams "min" ["key","default"] 0 ⟨[],[]⟩=pure [none,none]from rfl) (ai (ak (ai (gb (so.isList ho) (ai (bM (iR uc ?_))))))));have W:Walks C.prog C.w A.in1 s.heap.objs.size [s.heap.objs.size,ad] [s.heap.objs.size] vs.length (fun i v=>vs[i]? =some v) (fun i h=>h.IsListIter s.heap.objs.size ad i/\h.IsList ad vs.toArray):=by
  have W0:=Walks.list (prog:=C.prog) (w:=C.w) (A:=A.in1) hr.hh s.heap.objs.size ad (cC (bF ho)) vs.toArray;have e:(fun(i:Nat)(v:Value)=>vs.toArray[i]? =some v)=fun i v=>vs[i]? =some v:=by funext i v;simp
  replace W0:=eG▸(e▸W0)
  exact W0
 have hsz:(s.heap.push ({cls:=.type "list_iterator",data:=.fields #[.ref ad,.int 0 0]}:Obj)).objs.size=s.heap.objs.size+1:=bK ..;have mq:∀o,(fun(i:Nat)(h:Heap)=>h.IsListIter s.heap.objs.size ad i/\h.IsList ad vs.toArray) 0 ((s.heap.push {cls:=.type "list_iterator",data:=.fields #[.ref ad,.int 0 0]}).push o):=fun o=>
  ⟨⟨_,az _ (aF _ rfl),rfl,rfl⟩,((so.isList ho).push _).push _⟩
 have uq:∀a,s.heap.objs.size<=a->s.heap.get? a=none:=fun a ha=>by
  cases e:s.heap.get? a with
  |none=>rfl
  |some o'=>exact absurd (bF e) (gB.mpr ha)
 generalize hH:(s.heap.push ({cls:=.type "list_iterator",data:=.fields #[.ref ad,.int 0 0]}:Obj))=H at hsz mq|-;have g0:∀o,je s {s with heap:=H.push o}:=fun o=>by(refine jC hH ?_);exact(je.push s _).trans (je.push {s with heap:=s.heap.push _} o)
 refine ak ⟨bA eK _,?_⟩;have hS:(H.push ({cls:=.type "list",data:=.seq #[]}:Obj)).get? H.objs.size=some {cls:=.type "list",data:=.seq #[]}:=aF _ rfl;have hSf:H.objs.size∉[s.heap.objs.size,ad]:=by
  refine iR hsz <| fun hm=>cg (aV.mp hm) (fun q=> ?_) fun hm=> ?_
  ·lia
  ·have:=bF ho;have q:=aA.mp hm
   replace this:=(fy q)▸this
   exact absurd (ia this) (dP _)
 have S_:H.objs.size∉[s.heap.objs.size]:=fun h=>hSf (aV.mpr (.inl (aA.mp h)));have tw:0<vs.length:=by(refine iR (VV.length) ?_);simp
 refine bu PySem.F.entry_min_loop <| iR (bG eK _) <| (?_:wpAny _ A.in1 (seqItems? (.ref H.objs.size) >>= _) _ _ _)
 refine ai (e_ hS rfl (?_:wpAny _ A.in1 (tryCatch (pyNext (.ref s.heap.objs.size)) _ >>= _) _ _ _));refine ai (fc (W.item 0 _ _ _ tw (mq _) fun v0 h' tk hP tu qu=> ?_));have Aq:=qu H.objs.size _ S_ hS;refine jm (VV.at (i:=0) (v:=v0) hP) fun p hp vp=> ?_;cases hp;refine(ai ?_:wpAny _ A.in1 (updateSeq H.objs.size (fun ζ=> #[v0,v0]) >>= _) _ _ _);refine eU Aq rfl <| iR uc ?_
 have g1:je s {s with heap:=h',toks:=tk}:=⟨fun b o e=>qu b o (by rw[aA];exact cC (bF e)) ((g0 _).keep b o e),rfl,rfl⟩;refine ak ⟨bA eK _,Nh (s0:=s) hr W (fun b hb=>by(refine iR (aA.mp hb) ?_);exact uq _ (aK _)) (uq _ (ao (dH _) (aE hsz.symm))) hSf VV _ 0 _ _ v0 _ rfl (Nat.succ_le_of_lt tw) (W.frame _ _ _ tu fun b hb o e=>(dw _ _ (fun q:H.objs.size=b=>hSf (iR q hb))).trans e) ?_ vp (hx) (cM _ Aq rfl) fun v' s' g' Y6=> ?_⟩
 ·exact⟨fun b o e=>(dw _ _ ((fun e q=>by have:=bF e;replace this:=hsz▸((fy q)▸this);exact absurd (ia this) (dP _):∀{b o},s.heap.get? b=some o->H.objs.size≠b) e)).trans (g1.keep b o e),rfl,rfl⟩
 ·exact i6 K g' (Y6.grow g') h
theorem Nl{R:Result->Shared->Prop}{s0:Shared}{I S:Addr}{fp wr:List Addr}{l:List PV}{vs:List Value}{St:Nat->Heap->Prop}{res:PV}(hr:ki A n)(W:Walks C.prog C.w A.in1 I fp wr vs.length (fun i v=>vs[i]? =some v) St)
  (hw:∀b∈wr,s0.heap.get? b=none) (Wa:s0.heap.get? S=none) (hSf:S∉fp) (VV:jH C σ s0.heap l vs):
  ∀(k j:Nat)(s:Shared)(best:PV)(vb:Value)(c:Nat),vs.length-(j+1)=k->j+1<=vs.length->St (j+1) s.heap->je s0 s->VR C σ s0.heap best vb->yO best (l.drop (j+1))=some res->
  s.heap.get? S=some {cls:=.type "list",dict:=none,data:=.seq #[vb,vb] c,slots:= #[]}->(∀v s',je s0 s'->VR C σ s0.heap res v->R (.ok (.ret v)) s')->
  codeAny C.M A (.builtin "max.loop" ⟨[.ref I,.none,.ref S],[]⟩) R s:=by
 have S_:S∉wr:=fun h=>hSf (W.sub _ h);have uc:(toString "max"++toString ".loop":String)="max.loop":=by decide
 have jd:=VV.length;have gw:∀{s₁:Shared}{h':Heap}{tk:Nat},je s0 s₁->(∀b o,b∉wr->s₁.heap.get? b=some o->h'.get? b=some o)->je s0 {s₁ with heap:=h',toks:=tk}:=fun g hk=>
  ⟨fun b o e=>hk b o (fun hb=>by rw[hw b hb]at e;exact ku e) (g.keep b o e),g.gens,g.os⟩
 have gS:∀{s₁:Shared}{f:Obj->Obj},je s0 s₁->je s0 {s₁ with heap:=s₁.heap.update S f}:=fun g=>
  ⟨fun b o e=>(dw _ _ (fun q:S=b=>by rw[<-q,Wa]at e;exact ku e)).trans (g.keep b o e),g.gens,g.os⟩
 intro k
 induction k with
 |zero=>
  intro j s best vb c hk hj mq g J8 mL hS hR;have t8:j+1=vs.length:=by exact dz hj (fV hk)
  rw[dm (aE (jd.symm.trans t8.symm))]at mL;simp only[yO,dZ]at mL;clear hw Wa jd;subst mL;refine bu PySem.F.entry_max_loop <| (?_:wpAny _ A.in1 (seqItems? (.ref S) >>= _) _ _ s)
  refine ai (e_ hS rfl (?_:wpAny _ A.in1 (tryCatch (pyNext (.ref I)) _ >>= _) _ _ s));refine ai (fc (W.done s _ _ (t8▸mq) fun h' tk qu=> ?_));have Aq:=qu S _ S_ hS;refine(ai ?_:wpAny _ A.in1 (updateSeq S (fun ζ=> #[]) >>= _) _ _ _);exact eU Aq rfl (ai (ff (ak (hR vb _ (gS (gw g qu)) J8))))
 |succ k ih=>
  intro j s best vb c hk hj mq g J8 mL hS hR;have jS:j+1<vs.length:=by exact fW hk
  have ry:l.drop (j+1)=l[j+1]'(jd▸jS)::l.drop (j+2):=bP (jd▸jS);rw[ry]at mL;refine bu PySem.F.entry_max_loop <| (?_:wpAny _ A.in1 (seqItems? (.ref S) >>= _) _ _ s)
  refine ai (e_ hS rfl (?_:wpAny _ A.in1 (tryCatch (pyNext (.ref I)) _ >>= _) _ _ s));refine ai (fc (W.item (j+1) s _ _ jS mq fun v h' tk hP tu qu=> ?_));have Aq:=qu S _ S_ hS;have g':=gw (tk:=tk) g qu;refine jm (VV.at hP) fun p hp vp=> ?_;have w6:l[j+1]'(jd▸jS)=p:=by
   rw[aO (jd▸jS)]at hp;exact aj hp
  rw[w6]at mL;refine iU mL fun r TJ mL=>(?_:wpAny _ A.in1 (tryCatch (holding [v,v] (richCompare .Gt v vb >>= _)) _ >>= _) _ _ _);refine ai (fc (aP (ai (UQ hr.in1' TJ (vp.grow g') (J8.grow g') (ai (aP (eF (ai (ff (ak ?_))))))))));cases r with
  |true=>
   dsimp only[if_true];exact ai <| eU Aq rfl (ai (ff (ak ⟨bA eL _,ih (j+1) _ p v _ (o5 hk) jS (W.frame _ _ _ tu fun b VX o e=>(dw _ _ (fun h:S=b=>hSf (by rw[h];exact VX))).trans e) (gS g') vp mL (cM _ Aq rfl) hR⟩)))
  |false=>
   dsimp only[Bool.false_eq_true,if_false];refine ai (ff ?_)
   first
    |(exact ak ⟨bA eL _,ih (j+1) _ best vb _ (o5 hk) jS tu g' J8 mL Aq hR⟩)
    |(refine ai (ff ?_);rw[uc];exact ak ⟨bA eL _,ih (j+1) _ best vb _ (o5 hk) jS tu g' J8 mL Aq hR⟩)
theorem U8{l:List PV}{a:PV}{v:PV}(hr:ki A n)(hx:yO a l=some v):nq C A (.builtin "max") [.list (a::l)] st v:=by
 intro σ s vals Q E K V h;have uc:(toString "max"++toString ".loop":String)="max.loop":=by decide
 refine kG V fun w lF x=> ?_;clear V;subst lF;refine mR x fun ad o vs mH hn ho so VV=>iR mH <| call_function_tree PySem.F.kind_max PySem.F.plain_max PySem.F.entry_max (PySem.F.args_max1 _) <| (?_:wpAny _ A.in1 (Builtin.Builtins.bindParams "max" ["key","default"] 0 ⟨[],[]⟩ >>= _) _ _ s)
 refine ai (bx (show Builtin.Builtins.bindParams "max" ["key","default"] 0 ⟨[],[]⟩=pure [none,none]from rfl) (ai (ak (ai (gb (so.isList ho) (ai (bM (iR uc ?_))))))));have jd:=VV.length;have W:Walks C.prog C.w A.in1 s.heap.objs.size [s.heap.objs.size,ad] [s.heap.objs.size] vs.length (fun i v=>vs[i]? =some v) (fun i h=>h.IsListIter s.heap.objs.size ad i/\h.IsList ad vs.toArray):=by
  have W0:=Walks.list (prog:=C.prog) (w:=C.w) (A:=A.in1) hr.hh s.heap.objs.size ad (cC (bF ho)) vs.toArray;have e:(fun(i:Nat)(v:Value)=>vs.toArray[i]? =some v)=fun i v=>vs[i]? =some v:=by funext i v;simp
  replace W0:=eG▸(e▸W0)
  exact W0
 have hsz:(s.heap.push ({cls:=.type "list_iterator",data:=.fields #[.ref ad,.int 0 0]}:Obj)).objs.size=s.heap.objs.size+1:=bK ..;have mq:∀o,(fun(i:Nat)(h:Heap)=>h.IsListIter s.heap.objs.size ad i/\h.IsList ad vs.toArray) 0 ((s.heap.push {cls:=.type "list_iterator",data:=.fields #[.ref ad,.int 0 0]}).push o):=fun o=>
  ⟨⟨_,az _ (aF _ rfl),rfl,rfl⟩,((so.isList ho).push _).push _⟩
 have uq:∀a,s.heap.objs.size<=a->s.heap.get? a=none:=fun a ha=>by
  cases e:s.heap.get? a with
  |none=>rfl
  |some o'=>exact absurd (bF e) (gB.mpr ha)
 generalize hH:(s.heap.push ({cls:=.type "list_iterator",data:=.fields #[.ref ad,.int 0 0]}:Obj))=H at hsz mq|-;have g0:∀o,je s {s with heap:=H.push o}:=fun o=>by(refine jC hH ?_);exact(je.push s _).trans (je.push {s with heap:=s.heap.push _} o)
 refine ak ⟨bA eL _,?_⟩;have hS:(H.push ({cls:=.type "list",data:=.seq #[]}:Obj)).get? H.objs.size=some {cls:=.type "list",data:=.seq #[]}:=aF _ rfl;have hSf:H.objs.size∉[s.heap.objs.size,ad]:=by
  refine iR hsz <| fun hm=>cg (aV.mp hm) (fun q=> ?_) fun hm=> ?_
  ·lia
  ·have:=bF ho;have q:=aA.mp hm
   replace this:=(fy q)▸this
   exact absurd (ia this) (dP _)
 have tw:0<vs.length:=by(refine iR jd ?_);simp
 refine bu PySem.F.entry_max_loop <| iR (bG eL _) <| (?_:wpAny _ A.in1 (seqItems? (.ref H.objs.size) >>= _) _ _ _)
 refine ai (e_ hS rfl (?_:wpAny _ A.in1 (tryCatch (pyNext (.ref s.heap.objs.size)) _ >>= _) _ _ _));refine ai (fc (W.item 0 _ _ _ tw (mq _) fun v0 h' tk hP tu qu=> ?_));have Aq:=qu H.objs.size _ (fun h=>hSf (aV.mpr (.inl (aA.mp h))):H.objs.size∉[s.heap.objs.size]) hS;refine jm (VV.at (i:=0) (v:=v0) hP) fun p hp vp=> ?_;cases hp;refine(ai ?_:wpAny _ A.in1 (updateSeq H.objs.size (fun ζ=> #[v0,v0]) >>= _) _ _ _);refine eU Aq rfl <| iR uc ?_
 have g1:je s {s with heap:=h',toks:=tk}:=⟨fun b o e=>qu b o (by simp only[aA];exact cC (bF e)) ((g0 _).keep b o e),rfl,rfl⟩;refine ak ⟨bA eL _,Nl (s0:=s) hr W (fun b hb=>by(refine iR (aA.mp hb) ?_);exact uq _ (aK _)) (uq _ (by lia)) hSf VV _ 0 _ _ v0 _ rfl (Nat.succ_le_of_lt tw) (W.frame _ _ _ tu fun b hb o e=>(dw _ _ (fun q:H.objs.size=b=>hSf (iR q hb))).trans e) ?_ vp (hx) (cM _ Aq rfl) fun v' s' g' Y6=> ?_⟩
 ·exact⟨fun b o e=>(dw _ _ ((fun e q=>by have:=bF e;replace this:=hsz▸((fy q)▸this);exact absurd (ia this) (dP _):∀{b o},s.heap.get? b=some o->H.objs.size≠b) e)).trans (g1.keep b o e),rfl,rfl⟩
 ·exact i6 K g' (Y6.grow g') h
end
end
section
open PySem PyProof.Rows
open Builtin NumText
theorem mE{c d:Nat}(h:qm c=some d):c<128/\c≠0/\c≠95/\c≠45/\c≠43/\¬ (c=120\/c=88)/\blank c=false/\d<16/\digit? c=some d:=by
 have hc:c<128:=by
  unfold qm at h;refine bc (p:=c<128) (fun q=> ?_) fun q=> ?_
  ·exact q
  ·exfalso;have h2:(decide (97<=c)&&decide (c<=102))=false:=by simp;exact fun ζ=>aW (by decide) (bw q)
   have h3:(decide (65<=c)&&decide (c<=70))=false:=by simp;exact fun ζ=>aW (by decide) (bw q)
   replace h:=h3▸(h2▸((by simp;exact fun ζ=>aW (by decide) (bw q):(decide (48<=c)&&decide (c<=57))=false)▸h))
   trivial
 have:=(by decide+kernel:∀c:_root_.Fin 128,(match qm c.val with
   |none=>true
   |some d=>c.val !=0&&c.val !=95&&c.val !=45&&c.val !=43&&c.val !=120&&c.val !=88&& !blank c.val&&decide (d<16)&&digit? c.val==some d)=true) ⟨c,hc⟩
 dsimp only at this
 replace this:=h▸this
 simp only[aG,bne_iff_ne,ne_eq,cz,bq,aR]at this;refine cps fun G_ z7=>lP this fun z1 a9=> ?_;obtain⟨⟨⟨⟨⟨⟨⟨a1,a2⟩,a3⟩,a4⟩,a5⟩,a6⟩,a7⟩,a8⟩:=z1;exact z7 <| i09 hc a1 a2 a3 a4 (fun q=>q.elim a5 a6) a7 a8 a9
theorem NU:∀(l:ah)(acc:Nat)(ds:Array Nat)(b:Bool)(n:Nat),oG acc l=some n->ds.foldl (fun a d=>a*16+d) 0=acc->
  ∃We:Array Nat,l.foldlM (NumText.step 16) (ds,b)=some (We,if l.isEmpty then b else true)/\We.foldl (fun a d=>a*16+d) 0=n/\We.size=ds.size+l.length:=by
 intro L0
 induction L0 with
 |nil=>
  intro acc ds b n h hd;simp only[oG,dZ]at h;subst h;exact sY ds rfl hd rfl
 |cons c r ih=>
  intro acc ds b n h hd;dsimp only[oG]at h;split at h
  ·rename_i d hv;refine cps fun G_ z8=>o09 (mE hv) fun h1 h2 h3 h4 h5 h6 h7 h8 h9=> ?_;obtain⟨We,e1,e2,e3⟩:=ih (acc*16+d) (ds.push d) true n h (iR Array.foldl_push <| iR hd rfl);refine z8 <| ⟨We,?_,e2,by(refine iR (e3 ..) ?_;refine iR (Array.size_push ..) ?_;refine iR (aB ..) ?_);exact dh ..⟩
   refine iR List.foldlM_cons ?_;have hs:NumText.step 16 (ds,b) c=some (ds.push d,true):=by
    dsimp only[NumText.step];rw[aS (by(simpa using h3)),h9];dsimp only;exact iR (a_ h8) rfl
   refine iR hs <| (?_:List.foldlM (NumText.step 16) (ds.push d,true) r=_)
   refine iR e1 ?_;simp
  ·exact ku h
theorem FO{l:ah}{n:Nat}(h:oG 0 l=some n)(hl:l≠[]):∃ds:Array Nat,digits? 16 l=some ds/\ds.foldl (fun a d=>a*16+d) 0=n/\ds.size=l.length:=by
 refine uO (NU l 0 #[] false n h rfl) fun ds e1 e2 e3=>⟨ds,?_,e2,by simpa using e3⟩
 replace e1:=(by cases l<;>simp_all:l.isEmpty=false)▸e1
 unfold digits?;exact iR e1 rfl
theorem Hh:∀{l:ah}{acc n:Nat},oG acc l=some n->∀c∈l,∃d,qm c=some d:=by
 intro L0
 induction L0 with
 |nil=>
  intro _ _ _ _ hc;exact nomatch hc
 |cons a r ih=>
  intro acc n h c hc;dsimp only[oG]at h;split at h
  ·rename_i d hv;rcases aV.mp hc with rfl|hc
   ·exact⟨d,hv⟩
   ·exact ih h c hc
  ·exact ku h
theorem sV{l:ah}(h:∀c∈l,∃d,qm c=some d):l.dropWhile blank=l:=by
 cases l with
 |nil=>rfl
 |cons a r=>
  exact m9 (h a (aT ..)) fun d hd=>o08 (mE hd) fun ζ ζ ζ ζ ζ ζ h7 ζ=>iR List.dropWhile_cons <| iR h7 rfl
theorem Mz{a:Nat}{r:ah}(h1:a≠45)(h2:a≠43):sign (a::r)=(false,a::r):=by
 delta sign sign.match_1
 simp only[dif_neg h1,dif_neg h2]
theorem JT{l:ah}(pT:∀c∈l,∃d,qm c=some d):based 16 l=(16,false,l):=by
 unfold based;cases hp:prefix? l with
 |none=>simp
 |some p=>
  have:p≠16:=by
   unfold prefix? at hp;split at hp
   ·rename_i c r;obtain⟨d,hd⟩:=pT c (by simp);obtain⟨_,_,_,_,_,h6,_⟩:=mE hd;rw[aS (by simpa using h6)]at hp;split at hp
    ·(refine jC (aj hp) ?_);decide
    ·split at hp
     ·(refine jC (aj hp) ?_);decide
     ·exact ku hp
   ·exact ku hp
  have:(16==0||16==p)=false:=by simp;lia
  dsimp only;rw[this];rfl
theorem MS{l:ah}{n:Nat}(h:oG 0 l=some n)(hl:l≠[]):(int_private%"readNumeral") 0 16 l=(int_private%"Numeral.value") (n:Int):=by
 have pT:=Hh h;refine uO (FO h hl) fun ds e1 e2 e3=>J_ (List.exists_cons_of_ne_nil hl) fun a r z2=> ?_;clear h hl e3;subst z2;refine m9 (pT a (aT ..)) fun d hd=>o09 (mE hd) fun h1 h2 h3 h4 h5 h6 h7 h8 h9=>iR (readNumeral_eq ..) <| iR (sV pT ..) <| iR (Mz h4 h5 ..) <| iR (JT pT) ?_
 dsimp only;refine iR (sV (l:=(a::r).reverse) fun c hc=>pT c (gv.mp hc) ..) <| iR (iw ..) <| iR (e1 ..) ?_
 unfold judge;dsimp only;rw[if_neg (by simp),e2];rfl
namespace KH
theorem typeCall_int_2(a b:Value):checkTypeCall "int" ⟨[a,b],[]⟩=pure ():=by kernel_rfl
theorem newCall_int_2(a b:Value):checkBuiltinCall "int.__new__" ⟨[.type "int",a,b],[]⟩=pure ():=by kernel_rfl
end KH
theorem HX{M:Model}{A:Around}{E:aa}{s:Shared}{Q:aa}{v:Value}{text:ah}{n:Int}
  (hs:(text.takeWhile (· !=0)).length<=640) (hr:(int_private%"readNumeral") 0 16 (text.takeWhile (· !=0))=(int_private%"Numeral.value") n)
  (ha:((text.takeWhile (· !=0)).length==text.length)=true) (h:Q (.int n s.toks) {s with toks:=s.toks+1}):
  wpAny M A ((int_private%"intFromText") v text 16) Q E s:=by
 obtain⟨hp,g,d,tk,os⟩:=s
 repeat (any_goals(first
  |assumption
  |(with_reducible refine wpAny_ite_true (aH hs) ?_)
  |(with_reducible refine wpAny_ite_true (aH ha) ?_)
  |wp_step))
 all_goals(try(refine iR hr ?_))
 all_goals(try skip)
 repeat (any_goals(first
  |assumption
  |(with_reducible refine wpAny_ite_true (aH hs) ?_)
  |(with_reducible refine wpAny_ite_true (aH ha) ?_)
  |wp_step))
structure Hid(p:Prop):Prop where
 out:p
theorem Dl{x:PySem.Str}{u w:Tok}{n:Nat}(hl:x.cps.toList.length<=640)(m_:x.cps.toList≠[])(hn:oG 0 x.cps.toList=some n):Gives (Builtin.«int.__new__» ⟨[.type "int",.str x u,.int 16 w],[]⟩) (.int n):=
 .of_wp fun M A E s Q h=>by
  have pT:=Hh hn;have zo:x.cps.toList.takeWhile (· !=0)=x.cps.toList:=by
   have:∀l:ah,(∀c∈l,∃d,qm c=some d)->l.takeWhile (· !=0)=l:=by
    intro l
    induction l with
    |nil=>intro _;rfl
    |cons a r ih=>
     intro hl;exact m9 (hl a (aT ..)) fun d hd=>iR List.takeWhile_cons <| iR (by(simpa using(mE hd).2.1):(a !=0)=true) <| iR (ih fun c hc=>hl c (aq _ hc)) rfl
   exact this _ pT
  have WR:x.cps.all (· <128)=true:=by
   rw[<-Array.all_toList,bZ];intro c hc;refine m9 (pT c hc) fun d hd=> ?_
   (simpa using(mE hd).1)
  have hk:=Hid.mk (And.intro WR (And.intro (And.intro hl (MS hn m_)) zo));clear WR hl m_ hn zo pT;obtain⟨hp,g,d,tk,os⟩:=s;have f1:=PySem.F.conv_sub_int;have f2:=PySem.F.madeHere_int
  repeat (any_goals(first
   |assumption
   |((with_reducible (show wpAny _ _ ((int_private%"intFromText") _ _ _) _ _ _));(refine iR (a_ hk.out.1) ?_);refine HX (n:=(n:Int)) (iR hk.out.2.2 hk.out.2.1.1) (iR hk.out.2.2 hk.out.2.1.2) (by(refine iR hk.out.2.2 ?_);simp) ?_)
   |wp_step))
  all_goals first|exact(jt _ rfl h)|skip
section
variable{C:Cx}{sc:Scope}{env:Env}{σ σ':List Addr}{s s' s₁:Shared}{ρ:i8}{st ji:St}{A:Around}{n:Nat}{Q:aa}{E:aa}
theorem XQ{args:List PV}{v:PV}(hx:O3 args=some v):nq C A (.type "int") args st v:=by
 intro σ s vals Q E K V h;refine iU hx fun p hp hx=>iU hx fun l hl hx=>iU hx fun b hb hx=>kO hx fun q hx=>jw hx fun m hm e=> ?_;have q1:=jA (jA q).1
 replace V:=(aR.mp q1.1)▸((jv hb)▸((jG hl)▸((pZ hp)▸V)))
 refine pI V fun w1 w2 z3 x y=> ?_;refine iR z3 ?_;refine jy x fun z t z4 e2 ζ=> ?_;refine iR z4 ?_;refine j4 y fun u z5=> ?_;refine iR z5 ?_;clear hx hp hl hb x y V;clear hx;subst e2;refine callType_new PySem.F.called_int PySem.F.newNe_int (KH.typeCall_int_2 _ _) (KH.newCall_int_2 _ _) (fun obj=>PySem.F.args_object_init_3 obj _ _) PySem.F.entry_int_new
  (Dl (by have:=o_ (jA q).2;exact lit ‹_›) (by(simpa using q1.2)) hm).meets ?_
 exact⟨rfl,i6 K (je.toks s _) (lQ _ _) (e▸h)⟩
end
end
section
open PySem PyProof.Rows
open Builtin
section
variable{C:Cx}{sc:Scope}{env:Env}{σ σ':List Addr}{s s' s₁:Shared}{ρ:i8}{st ji:St}{A:Around}{n:Nat}{Q:aa}{E:aa}
namespace KI
theorem sub_str_str:isSubtype (.type "str") (.type "str")=pure true:=by(refine iR (cu ..) ?_);kernel_rfl
theorem sub_tuple_tuple:isSubtype (.type "tuple") (.type "tuple")=pure true:=by(refine iR (cu ..) ?_);kernel_rfl
theorem Yb:typeOf (.type "str")=pure (.type "type"):=rfl
theorem sub_type_type:isSubtype (.type "type") (.type "type")=pure true:=by(refine iR (cu ..) ?_);kernel_rfl
end KI
theorem yZ{dep:Int}{tk:Tok}{P:Fin->Shared->Prop}(hq:P (.done (.ret (.bool true))) s):wpAny C.M A (Builtin.«issubclass.nested» ⟨[.type "str",.type "str",.int dep tk],[]⟩) P E s:=by
 obtain⟨h,g,d,t,os⟩:=s;have f1:=KI.sub_str_str
 repeat (any_goals(first|assumption|wp_step))
namespace KI
theorem kind_issub_nested:builtinKind "issubclass.nested"=none:=by decide+kernel
theorem plain_issub_nested:plainId "issubclass.nested"=true:=by decide+kernel
theorem args_issub_nested(a b c:Value):argsOk "issubclass.nested" ⟨[a,b,c],[]⟩:=by kernel_rfl
end KI
theorem Dj{tp:Addr}{c:Value}{o:Obj}{tk:Tok}{P:Fin->Shared->Prop}(ho:s.heap.get? tp=some o)(so:jY "tuple" o [.type "str",c])(hq:P (.done (.ret (.bool true))) s):
  wpAny C.M A (Builtin.«issubclass.nested» ⟨[.type "str",.ref tp,.int 0 tk],[]⟩) P E s:=by
 refine jm so fun k z1 ζ=> ?_;clear so;subst z1;have hT:s.TypeIs (.ref tp) "tuple":=(jt _ ho rfl);dsimp only[Builtin.«issubclass.nested»];refine ai (gF hT (gO (by decide) (ai (ai (gF hT (gO (by decide) (ak (ai (cG hT KI.sub_tuple_tuple (wpAny_ite_true (by decide) (gO (by decide) (ai (e_ ho rfl (ai (wpAny_arrayLoop ?_)))))))))))))));rw[fH,List.toList_toArray,b_];exact ai (ai (call_function_meets KI.kind_issub_nested KI.plain_issub_nested PySem.F.entry_issubclass_nested (KI.args_issub_nested _ _ _) (fun prog w A R s'(h':R (.ok (.ret (.bool true))) s')=>yZ (C:=⟨prog,w,default,fun ζ=>none⟩) h') (ai (m:=truthy (.bool true)) (ak (ai (ak (ak (ak (ak hq)))))))))
theorem Ru{args:List PV}{v:PV}(hx:LB args=some v):nq C A (.builtin "issubclass") args st v:=by
 intro σ s vals Q E K V h;refine iU hx fun p hp hx=>iU hx fun t ht hx=>iU hx fun l hl hx=>iU hx fun r hr hx=>iU hx fun u hu hx=>iU hx fun w hw hx=>kO hx fun q e=> ?_;clear hx;obtain rfl:=aj e;have q1:=jA (jA q).1
 replace V:=(aR.mp (jA q).2)▸((aR.mp q1.2)▸((aR.mp q1.1)▸((sG hw)▸((sG hu)▸((pZ hr)▸((qJ hl)▸((sG ht)▸((pZ hp)▸V))))))))
 refine pI V fun w1 w2 z2 x y=> ?_;refine iR z2 ?_;refine iR x ?_;refine oX y fun a o vs z3 hn ho so r=> ?_;refine iR z3 ?_;refine pI r fun u1 u2 z4 r1 r2=> ?_;subst z4;clear hp ht hl hr hu hw q hx q1 hn y V r2 r;subst r1;exact call_function_tree PySem.F.kind_issubclass PySem.F.plain_issubclass PySem.F.entry_issubclass (PySem.F.args_issubclass_2 _ _)
  (issubclass_outer (prog:=C.prog) (w:=C.w) (A:=A) (R:=wants Q E) (Dj (C:=C) ho so (i6 K je.rfl' (oY _) h)))
theorem U7(hh:A.handled=none){a b:Int}:nq C A (.builtin "max") [.int a,.int b] st (.int (max a b)):=by
 intro σ s vals Q E K V h;refine pI V fun w1 w2 z5 x y=> ?_;refine iR z5 ?_;refine j4 x fun t z6=> ?_;refine iR z6 ?_;refine j4 y fun u z7=> ?_;refine iR z7 ?_;refine PySem.max_two_ints hh fun h' tk hk=> ?_;have g:je s {s with heap:=h',toks:=tk}:=⟨hk,rfl,rfl⟩;have e:max a b=if b>a then b else a:=by(clear hh x y V hk;split)<;>lia
 refine i6 K g ?_ h;refine iR e ?_
 (clear hh K h x y V hk g e;split)<;>exact lQ _ _
end
namespace FZ
theorem mro_frozenset:mroOf (.type "frozenset")=pure [.type "frozenset",.type "object"]:=by(refine iR (mroOf_type ..) ?_);kernel_rfl
theorem lookup_new:typeLookup (.type "frozenset") "__new__"=pure (some (.builtin "frozenset.__new__")):=by(refine iR (cP ..) ?_;refine iR (bW ..) ?_);kernel_rfl
theorem lookup_init:typeLookup (.type "frozenset") "__init__"=pure (some (.builtin "object.__init__")):=by(refine iR (cP ..) ?_;refine iR (bW ..) ?_);kernel_rfl
theorem slot_init:Slot "frozenset" "__init__" "object.__init__":=
 .of (owner:="object") (n:="__init__") (by(refine iR (cP ..) ?_;refine iR (bW ..) ?_);kernel_rfl) (by decide+kernel) (by decide+kernel) (by decide+kernel)
  (by first|exact .inl (by decide+kernel)|exact .inr (by decide+kernel)) (by(refine iR (cu ..) ?_);kernel_rfl)
theorem sub_self:isSubtype (.type "frozenset") (.type "frozenset")=pure true:=by(refine iR (cu ..) ?_);kernel_rfl
theorem called:TypeCalled "frozenset" "frozenset.__new__" "object.__init__":=
 ⟨by decide+kernel,by decide+kernel,(DO _ _ mro_frozenset),madeBy_type mro_frozenset lookup_new (by decide+kernel),by decide+kernel,sub_self,slot_init⟩
theorem typeCall_0:checkTypeCall "frozenset" ⟨[],[]⟩=pure ():=by kernel_rfl
theorem newCall_0:checkBuiltinCall "frozenset.__new__" ⟨[.type "frozenset"],[]⟩=pure ():=by kernel_rfl
theorem entry_new:entryFor table "frozenset.__new__"=some Builtin.«frozenset.__new__»:=dR (by kernel_rfl)
theorem newNe:(some "frozenset.__new__" !=some "object.__new__")=true:=by decide+kernel
theorem args_init_1(a:Value):argsOk "object.__init__" ⟨[a],[]⟩:=by
 (refine iR (iM (id:="object.__init__") (n:=['_','_','t','i','n','i','_','_']) (o:=['t','c','e','j','b','o']) (by kernel_rfl) PySem.F.owner_object) ?_);kernel_rfl
end FZ
section
variable{C:Cx}{sc:Scope}{env:Env}{σ σ':List Addr}{s s' s₁:Shared}{ρ:i8}{st ji:St}{A:Around}{n:Nat}{Q:aa}{E:aa}
theorem r9:Meets (Builtin.«frozenset.__new__» ⟨[.type "frozenset"],[]⟩) (fun ζ R s=>∀led:Bool,
  R (.ok (.ret (.ref s.heap.objs.size))) {s with heap:=s.heap.push {cls:=.type "frozenset",dict:=none,data:=.set #[] 0 (.fresh 0 0 led)}}):=
 .of_wp fun prog w A R s h=>by
  unfold Builtin.«frozenset.__new__» Builtin.Frozenset.newClass;have aat:=FZ.sub_self;have f1:=FZ.lookup_init;obtain⟨hp,g,d,tk,os⟩:=s
  wp_walk
  refine cW (ak ?_);dsimp only;exact ai (wpAny_alloc (ak (ak (jt _ rfl (h _)))))
theorem DL{args:List PV}{v:PV}(hx:Sa args=some v):nq C A (.type "frozenset") args st v:=by
 intro σ s vals Q E K V h;refine kO hx fun q e=> ?_;clear hx;obtain rfl:=aj e;rw[iI.mp q]at V;refine iR (V.nilE) ?_;refine callType_new FZ.called FZ.newNe FZ.typeCall_0 FZ.newCall_0 (fun obj=>FZ.args_init_1 obj) FZ.entry_new r9 fun led=>⟨⟨_,aF _ rfl,rfl⟩,?_⟩;refine i6 K (je.push s _) ?_ h;refine⟨_,_,rfl,K.fresh_size,aF _ rfl,0,c9 _,#[],0,_,rfl,fun e he=>by simp at he,fun k=> ?_,rfl,rfl⟩;unfold Ed;split<;>simp
noncomputable def xU:List (Str×Value):=[("len",.builtin "len"),("range",.type "range"),("list",.type "list"),("sum",.builtin "sum"),("max",.builtin "max"),("min",.builtin "min"),("all",.builtin "all"),
 ("ord",.builtin "ord"),("chr",.builtin "chr"),("int",.type "int"),("isinstance",.builtin "isinstance"),("issubclass",.builtin "issubclass"),("type",.type "type"),("frozenset",.type "frozenset")]
noncomputable def Ew(f:Str):Option Value:=(xU.find? fun p=>p.1==f).map (·.2)
theorem JM{f:Str}{fv:Value}(h:Ew f=some fv):(∃id,fv= .builtin id)\/∃T,fv= .type T:=by
 refine jw h fun p hp z1=> ?_;subst z1;have hm:=List.mem_of_find?_eq_some hp;unfold xU at hm;simp only[aV,fK,or_false]at hm
 (clear hp h;rcases hm with rfl|rfl|rfl|rfl|rfl|rfl|rfl|rfl|rfl|rfl|rfl|rfl|rfl|rfl)<;>first|exact .inl ⟨_,rfl⟩|exact .inr ⟨_,rfl⟩
def Lo(C:Cx)(A:Around)(f:Str)(args:List PV)(st:St)(v:PV):Prop:=∃fv,Ew f=some fv/\bootBuiltins f=some fv/\f∈kJ/\nq C A fv args st v
theorem boot_all:(xU.all fun p=>decide (bootBuiltins p.1=some p.2)&&decide (p.1∈kJ))=true:=by decide+kernel
theorem Lo.mk{f g:Str}{fv:Value}{args:List PV}{v:PV}(q:(f==g)=true)(h1:Ew g=some fv)(h:nq C A fv args st v):Lo C A f args st v:=by
 refine iR (aR.mp q) <| jw h1 fun p hp e=>lP (aZ.mp (bZ.mp boot_all p (List.mem_of_find?_eq_some hp))) fun a b=> ?_
 have hg:(p.1==g)=true:=List.find?_some (p:=fun p:Str×Value=>p.1==g) hp;cases eq_of_beq hg;cases e;exact Yp _ h1 (bL a) (bL b) h
theorem XN(hr:ki A n){args:List PV}{v:PV}(hx:Wu args=some v):nq C A (.builtin "max") args st v:=by
 refine qz hx (fun hx=>iU hx fun p hp hx=>iU hx fun a ha hx=>jw hx fun b hb e=> ?_) fun hx=>iU hx fun p hp hx=>iU hx fun l hl hx=> ?_
 ·exact iR (pZ hp) <| iR (jv ha) <| iR (jv hb) <| jC e <| U7 hr.hh
 ·refine iR (jU hp) <| iR (kD hl) ?_
  cases l with
  |nil=>exact ku hx
  |cons a l=>exact U8 hr hx
theorem XM(hr:ki A n){args:List PV}{v:PV}(hx:Wt args=some v):nq C A (.builtin "min") args st v:=by
 refine iU hx fun p hp hx=>iU hx fun l hl hx=>iR (jU hp) <| iR (kD hl) ?_
 cases l with
 |nil=>exact ku hx
 |cons a l=>exact U6 hr hx
theorem FY{f:Str}{args:List PV}{v:PV}(hr:ki A n)(hx:lz st f args=some v):Lo C A f args st v:=
 mC hx (fun q hx=>.mk q rfl (XO hx)) fun hx=>
 mC hx (fun q hx=>.mk q rfl (Rt hx)) fun hx=>
 mC hx (fun q hx=>.mk q rfl (U9 hr.hh hx)) fun hx=>
 mC hx (fun q hx=>.mk q rfl (XJ hr.hh hx)) fun hx=>
 mC hx (fun q hx=>.mk q rfl (XN hr hx)) fun hx=>
 mC hx (fun q hx=>.mk q rfl (XM hr hx)) fun hx=>
 mC hx (fun q hx=>.mk q rfl (XS hr.hh hx)) fun hx=>
 mC hx (fun q hx=>.mk q rfl (XK hx)) fun hx=>
 mC hx (fun q hx=>.mk q rfl (XR hx)) fun hx=>
 mC hx (fun q hx=>.mk q rfl (XQ hx)) fun hx=>
 mC hx (fun q hx=>.mk q rfl (BP hx)) fun hx=>
 mC hx (fun q hx=>.mk q rfl (Ru hx)) fun hx=>
 mC hx (fun q hx=>.mk q rfl (U5 hx)) fun hx=>
 kO hx fun q hx=>.mk q rfl (DL hx)
end
structure GP(C:Cx):Prop where
 bor:∀(A:Around)(σ:List Addr)(s:Shared)(st:St)(a b:List Int)(va vb:Value)(Q:aa)(E:aa),A.handled=none->Ok C σ s st->VR C σ s.heap (.iset a) va->VR C σ s.heap (.iset b) vb->
  a≠[]->a.length<=20->b.length<=20->(KE C σ s st (.iset (nB a b)) Q)->wpAny C.M A (binaryOp .BitOr va vb) Q E s
 xor:∀(A:Around)(σ:List Addr)(s:Shared)(st:St)(a b:List Int)(va vb:Value)(Q:aa)(E:aa),A.handled=none->Ok C σ s st->VR C σ s.heap (.iset a) va->VR C σ s.heap (.iset b) vb->
  a.length<=20->b.length<=20->(KE C σ s st (.iset (mV a b)) Q)->wpAny C.M A (binaryOp .BitXor va vb) Q E s
section
variable{C:Cx}{sc:Scope}{env:Env}{σ σ':List Addr}{s s' s₁:Shared}{ρ:i8}{st ji:St}{A:Around}{n:Nat}{Q:aa}{E:aa}
theorem QK{c:Nat}{l:ah}{va vb:Value}(K:Ok C σ s st)(xa:VR C σ s.heap (.str [c]) va)(xb:VR C σ s.heap (.cset l) vb)
  (h:∀s',jX jP σ s σ s'->Ok C σ s' st->Q (.bool (l.contains c)) s'):wpAny C.M A (compareOp .In va vb) Q E s:=by
 refine jy xa fun x t z1 e ζ=> ?_;refine iR z1 ?_;have:=one_sign e;refine iR this ?_;clear xa e;obtain⟨a,o,rfl,hn,ho,k,hk,es,ep,tb,rfl,DT,oz,hsz,hf⟩:=xb;have hT:s.TypeIs (.ref a) "frozenset":=⟨_,ho,rfl⟩;refine ai ?_;unfold contains
 try with_reducible refine aP ?_
 refine ai (fX hT fP.lookup (ai (wpAny_callSpecialUnlessNone?_slot (name:=Str.ofString "__contains__") hT fP
  (bU fP hT PySem.W.FB.entry_frozenset_contains ?_ (PySem.W.FB.args_frozenset_contains_2 _ _)))))
 dsimp only[Builtin.«frozenset.__contains__»,Builtin.Frozenset.oneOther];simp only[List.isEmpty_nil,bind_assoc];refine ai (ak ?_)
 try skip
 refine ai (ak ?_)
 try dsimp only
 refine ai (fc (pQ (S:=Ed l) ho rfl DT oz (by rw[hsz];exact aD hk (by decide)) hf ?_));show wpAny _ _ (ret _) _ _ _;have g:=je.toks s (s.toks+1);exact ak ⟨_,rfl,eF (ak (h _ g.ext (K.grow g)))⟩
theorem wU{op:CmpOp}{x y:PV}{va vb:Value}{r:Bool}(hk:ki A n)(K:Ok C σ s st)(hx:jF st op x y=some r)(xa:VR C σ s.heap x va)(xb:VR C σ s.heap y vb)
  (h:KT C σ s st r fun b=>Q (.bool b)):wpAny C.M A (compareOp op va vb) Q E s:=
 Rh hk K hx xa xb (fun ζ ζ e1 e2 e3=>QK K (e1▸xa) (e2▸xb) fun s' X K'=>e3▸h σ s' X K') (h σ s jX.rfl' K)
theorem JP{op:Operator}{x y:PV}{va vb:Value}{v:PV}(I:GP C)(hk:ki A n)(K:Ok C σ s st)(hx:kZ st op x y=some v)(xa:VR C σ s.heap x va)(xb:VR C σ s.heap y vb)
  (h:KE C σ s st v Q):wpAny C.M A (binaryOp op va vb) Q E s:=by
 have lists:(oE st op x y).map .list=some v->wpAny C.M A (binaryOp op va vb) Q E s:=fun hx=>by
  refine jw hx fun l hl e=> ?_;subst e;cases op with
  |Add=>exact iU hl fun a ha hl=>iU hl fun b hb hl=>kO hl fun hs e=>DH K (pM ha) (pM hb) hs xa xb (aj e▸h)
  |_=>exact ku hl
 cases x with
 |int a=>
  refine iU hx fun b hb hx=>jw hx fun c hc e=> ?_
  replace xb:=(jv hb)▸xb
  refine j4 xa fun t z2=> ?_;refine iR z2 ?_;refine j4 xb fun u z3=> ?_;refine iR z3 ?_;exact JQ K hc (e▸h)
 |str a=>exact jw hx fun c hc e=>JO K hc xa xb (e▸h)
 |iset a=>
  refine iU hx fun b hb hx=>kO hx fun q hx=>jw hx fun c hc e=> ?_;subst e
  replace xb:=(yw hb)▸xb
  cases op with
  |BitOr=>exact kO hc fun m_ e=>I.bor A σ s st a b va vb Q E hk.hh K xa xb (fun e=>by replace m_:=e▸m_;cases m_) (o_ (jA q).1) (o_ (jA q).2) (aj e▸h)
  |BitXor=>exact I.xor A σ s st a b va vb Q E hk.hh K xa xb (o_ (jA q).1) (o_ (jA q).2) (aj hc▸h)
  |_=>exact ku hc
 |_=>exact lists hx
theorem Ah{b r:Bool}(h:cond b (some (true,st)) (some (false,st))=some (r,ji)):b=r/\st=ji:=by
 cases b<;>cases h<;>exact⟨rfl,rfl⟩
theorem JK{g:Scope->Expr->i8->St->Option (PV×St)}(S:yR C n g)(hr:ki A n):∀(c:CmpOp×Expr)(l:List (CmpOp×Expr))(pos:Pos)(x:PV)(xv:Value)(st ji:St)(σ:List Addr)(s:Shared)(b:Bool)(Q:aa),
  nR (g sc) ρ x (c::l) st=some (b,ji)->iZ C sc env σ s.heap ρ->Ok C σ s st->VR C σ s.heap x xv->(KT C σ s ji b fun b=>Q (.bool b))->
  wpAny C.M A (compareChain pos xv ((c::l).map (·.1)) (evalEach ((c::l).map (·.2)) env)) Q E s:=by
 intro c L0
 induction L0 generalizing c with
 |nil=>
  intro pos x xv st ji σ s b Q hx F K V h;refine iU hx fun p h1 h2=>iU h2 fun r h3 h4=>lP (Ah h4) fun z4 z5=> ?_;subst z4;subst z5;exact chain_last (S sc c.2 ρ st _ _ h1 A env σ s _ E hr F K fun yv kg t1 X1 K1 V1=>wU hr K1 h3 (V.mono X1.mono) V1 (h.after X1))
 |cons c' l ih=>
  intro pos x xv st ji σ s b Q hx F K V h;refine iU hx fun p h1 h2=>iU h2 fun r h3 h4=>chain_link (S sc c.2 ρ st _ _ h1 A env σ s _ E hr F K fun yv kg t1 X1 K1 V1=>wU hr K1 h3 (V.mono X1.mono) V1 fun qv t2 X2 K2=>eF ?_);cases r with
  |false=>(clear hx K V h1 h2 K1 h3;cases h4);exact h qv t2 (X1.trans X2) K2
  |true=>exact ih c' pos p.1 yv _ ji qv t2 b Q h4 ((F.ext X1).ext X2) K2 (V1.mono X2.mono) (h.after (X1.trans X2))
end
section
variable{C:Cx}{sc:Scope}{env:Env}{σ σ':List Addr}{s s' s₁:Shared}{ρ:i8}{st ji:St}{A:Around}{n:Nat}{Q:aa}{E:aa}{r:nI}{v x y:PV}{st1 jQ:St}{pos:Pos}
theorem IL{a b:Expr}{op:Operator}(I:GP C)(h1:kP C n sc a ρ st x st1)(h2:kP C n sc b ρ st1 y jQ)(h3:kZ jQ op x y=some v):kP C n sc (.BinOp a op b pos) ρ st v jQ:=fun A env σ s ζ E hr F K h=>
 wpAny_BinOp (h1 A env σ s _ E hr F K fun ζ kg t1 X1 K1 V1=>h2 A env kg t1 _ E hr (F.ext X1) K1 fun ζ ζ ζ X2 K2 V2=>JP I hr K2 h3 (V1.mono X2.mono) V2 (h.after (X1.trans X2)))
theorem MG{a:Expr}{i:Int}(h1:kP C n sc a ρ st (.int i) st1):kP C n sc (.UnaryOp .USub a pos) ρ st (.int (-i)) st1:=fun A env σ s ζ E hr F K h=>
 UnaryOp_ (h1 A env σ s _ E hr F K fun ζ ζ t1 X1 K1 V1=>by
  refine j4 V1 fun t z1=> ?_;clear h1 hr F K V1;refine iR z1 ?_;exact PyProof.Rows.neg_int (i6 K1 (je.toks t1 _) (lQ _ _) (h.after X1)))
theorem PY{a:Expr}{b:Bool}(h1:kP C n sc a ρ st x st1)(h2:lK st1 x=some b):kP C n sc (.UnaryOp .Not a pos) ρ st (.bool !b) st1:=fun A env σ s ζ E hr F K h=>
 UnaryOp_ (h1 A env σ s _ E hr F K fun ζ ζ ζ X1 K1 V1=>not_of (q7 K1 h2 V1 fun ζ g=>i6 K1 g (oY _) (h.after X1)))
theorem IJ{t a b:Expr}{c:Bool}(h1:xe C n sc t ρ st c st1)(h2:kP C n sc (cond c a b) ρ st1 v jQ):kP C n sc (.IfExp t a b pos) ρ st v jQ:=fun A env σ s ζ E hr F K h=>
 IfExp_ (h1 A env σ s _ E hr F K fun kg t1 X1 K1=>by
  cases c with
  |true=>exact h2 A env kg t1 _ E hr (F.ext X1) K1 (h.after X1)
  |false=>exact h2 A env kg t1 _ E hr (F.ext X1) K1 (h.after X1))
theorem IK{op:BoolOp}{a:Expr}(h1:kP C n sc a ρ st v st1):kP C n sc (.BoolOp op [a] pos) ρ st v st1:=fun A env σ s ζ E hr F K h=>
 BoolOp_one (h1 A env σ s _ E hr F K h)
theorem EZ{op:BoolOp}{a b:Expr}{es:List Expr}{t:Bool}(h1:kP C n sc a ρ st x st1)(h2:lK st1 x=some t)
  (h3:qo op t=true->kP C n sc (.BoolOp op (b::es) pos) ρ st1 v jQ) (h4:qo op t=false->v=x/\jQ=st1):kP C n sc (.BoolOp op (a::b::es) pos) ρ st v jQ:=fun A env σ s Q E hr F K h=>by
 have go:qo op t=true->∀{kg t1 t2},jX jP σ s kg t1->Ok C kg t1 st1->je t1 t2->wpAny C.M A (eval (.BoolOp op (b::es) pos) env) Q E t2:=fun c kg t1 t2 X1 K1 g=>
  h3 c A env kg t2 Q E hr ((F.ext X1).ext g.ext) (K1.grow g) (h.after (X1.trans g.ext))
 have stop:qo op t=false->∀{xv kg t1 t2},jX jP σ s kg t1->Ok C kg t1 st1->VR C kg t1.heap x xv->je t1 t2->Q xv t2:=fun c xv kg t1 t2 X1 K1 V1 g=>by
  refine lP (h4 c) fun z2 z3=> ?_;clear h3 h4 c;subst z2;cases z3;exact h xv kg t2 (X1.trans g.ext) (K1.grow g) (V1.grow g)
 cases op with
 |And=>exact BoolOp_and (h1 A env σ s _ E hr F K fun xv kg t1 X1 K1 V1=>q7 K1 h2 V1 fun t2 g=>by
   cases t with
   |true=>exact go rfl X1 K1 g
   |false=>exact stop rfl X1 K1 V1 g)
 |Or=>exact BoolOp_or (h1 A env σ s _ E hr F K fun xv kg t1 X1 K1 V1=>q7 K1 h2 V1 fun t2 g=>by
   cases t with
   |false=>exact go rfl X1 K1 g
   |true=>exact stop rfl X1 K1 V1 g)
theorem DG{ops:List CmpOp}{es:List Expr}(q:(!(lastMarks ops es||ops.length !=es.length||ops.isEmpty))=true):lastMarks ops es=false/\(ops.zip es).map (·.1)=ops/\(ops.zip es).map (·.2)=es/\ops≠[]:=by
 simp only[cz,e9,bne_eq_false_iff_eq]at q;exact⟨q.1.1,List.map_fst_zip (aE q.1.2),List.map_snd_zip (aE q.1.2.symm),fun e=>by replace q:=e▸q;cases q.2⟩
theorem C7{a:Expr}{ops:List CmpOp}{es:List Expr}{b:Bool}{c:CmpOp×Expr}{l:List (CmpOp×Expr)}(S:nJ C n r)(hm:lastMarks ops es=false)(e1:(c::l).map (·.1)=ops)(e2:(c::l).map (·.2)=es)(h1:kP C n sc a ρ st x st1)(h2:nR (r.E sc) ρ x (c::l) st1=some (b,jQ)):kP C n sc (.Compare a ops es pos) ρ st (.bool b) jQ:=fun A env σ s Q E hr F K h=>by
 refine(iR (markedEach_of_false _ _ _ hm) ?_:wpAny C.M A (do compareChain pos (<-eval a env) ops (markedEach ops es (evalEach es env))) Q E s);exact jC e1 <| jC e2 <| ai (h1 A env σ s _ E hr F K fun xv kg t1 X1 K1 V1=>JK S.E hr c l pos x xv _ _ kg t1 b Q h2 (F.ext X1) K1 V1 fun qv t2 X2 K2=>h _ qv t2 (X1.trans X2) K2 (oY _))
theorem IE{es:List Expr}{k:Nat}{q:List PV×St}(S:nJ C n r)(h1:j9 (r.E sc) ρ es st=some q)(hs:kM q.1=true):kP C n sc (.Tuple es k pos) ρ st (.tup q.1) q.2:=fun A env σ s Q E hr F K h=>by
 refine wpAny_Tuple <| iR (mF h1 ..) <| iR (nW ..) <| p8 S.E hr es st q σ s _ h1 F K fun vals kg t1 X1 K1 V1=> ?_
 have hl:vals.length<=sizeLine:=V1.length▸nv (ly hs);exact⟨hl,i6 K1 (je.push t1 _) (ve K1 V1 hl) (h.after X1)⟩
theorem Ok.newX(o:Obj):jX jP σ s (σ++[s.heap.objs.size]) {s with heap:=s.heap.push o}:=
 ⟨⟨_,rfl⟩,fun a h1 h2=>by
  refine cg (bg.mp h1) (fun h1=> ?_) fun h1=> ?_
  ·exact absurd h1 h2
  ·refine iR (aA.mp h1) ?_;cases e:s.heap.get? s.heap.objs.size with
   |none=>rfl
   |some o'=>exact absurd (bF e) (dP _),fun b o' e ζ ζ=>az o e,fun ζ ζ q=>q.elim,rfl,rfl⟩
theorem Ok.new{c:j8}{o:Obj}(K:Ok C σ s st)(ho:o.isFreed=false)(hc:ue C (σ++[s.heap.objs.size]) (s.heap.push o) s.heap.objs.size c):
  Ok C (σ++[s.heap.objs.size]) {s with heap:=s.heap.push o} (st++[c])/\jX jP σ s (σ++[s.heap.objs.size]) {s with heap:=s.heap.push o}:=by
 have X:=Ok.newX (σ:=σ) (s:=s) o;have fresh:C.h₀.get? s.heap.objs.size=none:=by
  cases e:C.h₀.get? s.heap.objs.size with
  |none=>rfl
  |some o'=>exact absurd (bF (K.base _ o' e)) (dP _)
 refine⟨⟨fun b o' e=>az o (K.base b o' e),fun a ha=> ?_,by(refine iR au ?_;refine iR au ?_;refine iR K.len ?_);rfl,?_,fun k a d ha hd=> ?_⟩,X⟩
 ·refine cg (bg.mp ha) (fun ha=> ?_) fun ha=> ?_
  ·exact K.fresh0 a ha
  ·exact iR (aA.mp ha) fresh
 ·exact c8.mpr ⟨K.nodup,fk.mpr ⟨fK,d8⟩,fun a ha b hb=>by
   exact iR (aA.mp hb) <| fun q=>K.fresh_size (q▸ha)⟩
 ·refine bc (p:=k<σ.length) (fun hk=> ?_) fun hk=> ?_
  ·replace ha:=(bf hk)▸ha
   replace hd:=(bf (K.len▸hk))▸hd
   exact jm (K.has (bJ ha)) fun o' qK ζ=>(K.cells k a d ha hd).mono X.mono ((az o qK).trans qK.symm)
  ·have qu:k=σ.length:=dz (by
    have:=(ay.mp ha).1
    replace this:=au▸this
    exact aM this) (bw hk)
   clear ho X fresh hk;subst qu
   replace ha:=(fC)▸ha
   replace hd:=(fC)▸(K.len▸hd)
   refine jC (aj ha) ?_;refine jC (aj hd) ?_;exact hc
theorem RY{h:Heap}{a:Addr}{k:Nat}(e:σ.length=k):VR C (σ++[a]) h (.lst k) (.ref a)/\VR C (σ++[a]) h (.dct k) (.ref a):=by
 subst e
 skip
 exact⟨(jt _ rfl (fC ..)),(jt _ rfl (fC ..))⟩
theorem MI{es:List Expr}{q:List PV×St}(S:nJ C n r)(h1:j9 (r.E sc) ρ es st=some q)(hs:kM q.1=true):kP C n sc (.List es pos) ρ st (.lst q.2.length) (q.2++[.lst q.1]):=fun A env σ s Q E hr F K h=>by
 refine wpAny_List <| iR (mF h1 ..) <| iR (nW ..) <| p8 S.E hr es st q σ s _ h1 F K fun vals kg t1 X1 K1 V1=> ?_
 have hl:vals.length<=sizeLine:=V1.length▸nv (ly hs);have m:tD kg t1.heap (kg++[t1.heap.objs.size]) (t1.heap.push {cls:=.type "list",data:=.seq vals.toArray}):=(Ok.newX (σ:=kg) (s:=t1) _).mono;refine lP (K1.new (c:=.lst q.1) (o:={cls:=.type "list",data:=.seq vals.toArray}) rfl ⟨_,vals,aF _ rfl,⟨0,rfl,hl⟩,V1.mono m⟩) fun K2 X2=> ?_;exact⟨hl,h _ _ _ (X1.trans X2) K2 (RY K1.len).1⟩
theorem MM:kP C n sc (.Dict [] [] pos) ρ st (.dct st.length) (st++[.dct []]):=fun A env σ s Q E hr F K h=>by
 refine iR (eval_Dict_empty ..) <| ai (cj (bM ?_))
 obtain⟨K2,X2⟩:=K.new (c:=.dct []) (o:={cls:=.type "dict",data:=.dict #[]}) rfl ⟨[],Heap.DictOf.new _,by rfl⟩;exact h _ _ _ X2 K2 (RY K.len).2
end
section
variable{C:Cx}{sc:Scope}{env:Env}{σ σ':List Addr}{s s' s₁:Shared}{ρ:i8}{st ji:St}{A:Around}{n:Nat}{Q:aa}{E:aa}{r:nI}{v x y:PV}{st1 jQ uM DX:St}{pos:Pos}
theorem AY{g:Scope->Expr->i8->St->Option (PV×St)}(S:yR C n g)(hr:ki A n){e:Option Expr}{o:Option Int×St}(F:iZ C sc env σ s.heap ρ)(K:Ok C σ s st)
  (hx:uT (g sc) ρ e st=some o) (h:∀val σ' s',jX jP σ s σ' s'->Ok C σ' s' o.2->pF o.1 val->Q val s'):wpAny C.M A (valueOrNone (evalOpt e env)) Q E s:=by
 cases e with
 |none=>obtain rfl:=aj hx;exact ak (h _ σ s jX.rfl' K .nil)
 |some e=>
  refine iU hx fun p h1 hx=>jw hx fun i hi e=> ?_;clear hx;clear hx;subst e;refine S sc _ ρ _ _ _ h1 A env σ s _ E hr F K fun xv kg t1 X1 K1 V1=> ?_
  replace V1:=(jv hi)▸V1
  refine j4 V1 fun t z1=> ?_;refine iR z1 ?_;exact h _ kg t1 X1 K1 (.one _ _)
theorem M_{g:Scope->Expr->i8->St->Option (PV×St)}{e:Option Expr}{o:Option Int×St}(hx:uT (g sc) ρ e st=some o):e=none↔o.1=none:=by
 cases e with
 |none=>refine jC (aj hx) ?_;exact⟨fun ζ=>rfl,fun ζ=>rfl⟩
 |some e=>exact iU hx fun p ζ hx=>jw hx fun i ζ e=>by(clear hx;(clear hx;subst e));exact⟨nofun,nofun⟩
theorem IF{a:Expr}{lo hi step:Option Expr}{pp:Pos}{l u k:Option Int×St}(S:nJ C n r)(h1:kP C n sc a ρ st x st1)(h2:uT (r.E sc) ρ lo st1=some l)(h3:uT (r.E sc) ρ hi l.2=some u)(h4:uT (r.E sc) ρ step u.2=some k)
  (h5:kR k.2 x l.1 u.1 k.1=some v):kP C n sc (.Subscript a (.Slice lo hi step pp) pos) ρ st v k.2:=fun A env σ s Q E hr F K h=>by
 refine Subscript_ (h1 A env σ s _ E hr F K fun xv kg t1 X1 K1 V1=> ?_);have F1:=F.ext X1;refine ai (AY S.E hr F1 K1 h2 fun lv qv t2 X2 K2 P2=> ?_);have F2:=F1.ext X2;refine ai (aP (AY S.E hr F2 K2 h3 fun uv SN t3 X3 K3 P3=>ai (aP (AY S.E hr (F2.ext X3) K3 h4 fun kv σ4 t4 X4 K4 P4=>bM ?_))));have X:=(X2.trans X3).trans X4;exact Iv (value:=a) (lo':=lo) (hi':=hi) (step':=step) (pp:=pp) K4 h5 (V1.mono X.mono) P2 P3 P4 (M_ h4) (h.after (X1.trans X))
theorem E_{h:Heap}{k:Str}:∀{l:List (ah×PV)}{kvs:List (Str×Value)}{p:PV},lu C σ h l kvs->sr k.cps.toList l=some p->∃u,valueAt kvs k=some u/\VR C σ h p u:=by
 intro L0
 induction L0 with
 |nil=>
  intro _ _ _ e;trivial
 |cons s_ l ih=>
  obtain⟨a,q⟩:=s_;intro kvs p x e;refine J9 x fun y u r' z2 ey hv hr=> ?_;clear x;subst z2;unfold sr at e
  replace e:=(List.find?_cons)▸e
  unfold valueAt;refine iR (List.find?_cons) ?_;refine bc (p:=y=k) (fun hk=> ?_) fun hk=> ?_
  ·subst hk;have:(a==y.cps.toList)=true:=by simp[ey]
   dsimp only at e;rw[this]at e;simp only[ee,dZ]at e;subst e;simp only[decide_true,ee];exact jt u rfl hv
  ·have:(a==k.cps.toList)=false:=by
    refine jC ey ?_;apply aL.mpr;intro q';apply hk;clear ey hv;obtain⟨c1⟩:=y;obtain⟨c2⟩:=k;congr 1;exact fJ.mp q'
   dsimp only at e
   replace e:=this▸e
   simp only[hk,decide_false];exact ih hr e
theorem Ok.dictAt{k:Nat}{l:List (ah×PV)}{u:Value}(K:Ok C σ s st)(hk:st[k]? =some (.dct l))(x:VR C σ s.heap (.dct k) u):
  ∃a kvs,u= .ref a/\σ[k]? =some a/\s.heap.DictOf (PySem.strKind C.prog C.w) a kvs/\lu C σ s.heap l kvs:=by
 refine jm x fun a z3 ha=> ?_;clear x;refine iR z3 ?_;exact jm (K.cells k a _ ha hk) fun kvs hd hp=>v9 a kvs rfl ha hd hp
theorem tW:typeLookup (.type "dict") "__getitem__"=pure (some (.builtin "dict.__getitem__")):=slot_dict_getitem.lookup
theorem QX{value slice:Expr}{p i q:PV}{pv iv:Value}(K:Ok C σ s st)(hx:jk st p i=some q)(x:VR C σ s.heap p pv)(y:VR C σ s.heap i iv)
  (hs:∀o i,subscripted slice false o i=operate [o,i] (getItem o i))
  (h:KE C σ s st q Q):wpAny C.M A (subscriptTail value slice pv iv) Q E s:=by
 have other:∀{j:Int},jJ i=some j->wpAny C.M A (subscriptTail value slice pv iv) Q E s:=fun e=>by
  rw[jv e]at y hx;refine j4 y fun u z4=> ?_;clear e;refine iR z4 ?_;exact NG K hx x (fun o=>hs o _) h
 cases p with
 |dct k=>
  refine iU hx fun z hz hx=>iU hx fun l hk hx=> ?_
  replace y:=(jG hz)▸y
  clear hz;refine DN (K.dictAt (vz hk) x) fun a kvs z5 ha hd hp=> ?_;clear x hk ha;refine iR z5 ?_;refine jy y fun w t kW lF ζ=> ?_;clear y;refine iR kW ?_;subst lF;refine jm (E_ hp hx) fun u hu vu=>tail_any hd.typeIs tW (wpAny_getItem_of (k:=w) (gA ..) hd.mapOf hu ?_) (hs _ _);exact i6 K (je.toks s _) (vu.grow (je.toks s _)) h
 |_=>exact iU hx fun j hj ζ=>other hj
theorem Ij{i:Expr}(hi:∀a b c d,i≠ .Slice a b c d):∀o j,subscripted i false o j=operate [o,j] (getItem o j):=by
 intro o j;cases i<;>first|rfl|exact absurd rfl (hi _ _ _ _)
theorem MJ{a i:Expr}(hi:∀a b c d,i≠ .Slice a b c d)(h1:kP C n sc a ρ st x st1)(h2:kP C n sc i ρ st1 y jQ)(h3:jk jQ x y=some v):kP C n sc (.Subscript a i pos) ρ st v jQ:=fun A env σ s ζ E hr F K h=>
 Subscript_ (h1 A env σ s _ E hr F K fun ζ kg t1 X1 K1 V1=>h2 A env kg t1 _ E hr (F.ext X1) K1 fun ζ ζ ζ X2 K2 V2=>QX K2 h3 (V1.mono X2.mono) V2 (Ij hi) (h.after (X1.trans X2)))
theorem E8{o:Expr}{name:Str}(h:ur o=true):attributeBase o name env (eval o env)=eval o env:=by
 cases o<;>first|rfl|trivial
theorem H8{x:PV}{xv:Value}{name:Str}{args:List PV}{q:PV×St}(K:Ok C σ s st)(hs:pK st x=true)(V:VR C σ s.heap x xv)(hm:methP ji x name args=some q):
  s.TypeIs xv (GB x)/\PlainAttrs (GB x)/\∀a,xv= .ref a->∃ob,s.heap.get? a=some ob/\ob.dict=none:=by
 cases x with
 |lst k=>
  refine m9 (Option.isSome_iff_exists.mp hs) fun l hl=>J9 (K.listAt (j_ hl) V) fun a m vs z8 ha ho ζ=> ?_;refine iR z8 ?_;exact⟨(jt _ ho rfl),PySem.F.plainAttrs_list,fun b e=>by(injection e with e;subst e);exact(jt _ ho rfl)⟩
 |str l=>
  refine jy V fun y t z9 ζ ζ=> ?_;refine iR z9 ?_;exact tZ (di s y t) PySem.F.plainAttrs_str nofun
 |cset l=>
  obtain⟨a,o,rfl,_,ho,k,_,es,ep,tb,rfl,_⟩:=V;exact⟨(jt _ ho rfl),FZ.plainAttrs_frozenset,fun b e=>by(injection e with e;subst e);exact(jt _ ho rfl)⟩
 |_=>exact ku hm
theorem EX{o:Expr}{name:Str}{apos:Pos}{args:List Expr}{q:List PV×St}(S:nJ C n r)(hp:ur o=true)(hl:(apos.endLine==pos.line)=true)(ha:args.length<20)(h1:kP C n sc o ρ st x st1)(mq:pK st1 x=true)(h2:j9 (r.E sc) ρ args st1=some q)(h3:methP q.2 x name q.1=some (v,jQ)):kP C n sc (.Call (.Attribute o name apos) args [] pos) ρ st v jQ:=fun A env σ s Q E hr F K h=>by
 refine uO (Nj (C:=C) h3) fun id Xq Xo GG=>wpAny_Call_method_lateS (E8 hp) ?_ hl ?_
 ·refine iR (mF (env:=env) h2 ..) <| iR (nW ..) ?_
  simp only[aG,bq,List.all_map,b8];refine⟨⟨by simp[Function.comp],rfl⟩,?_⟩;dsimp only[List.isEmpty_nil,if_true];exact lit ‹_›
 ·exact h1 A env σ s _ E hr F K fun xv kg t1 X1 K1 V1=>w4 (H8 K1 mq V1 h3) fun hT hP hD=>(i26 (GB x) id hP Xq Xo hT hD (JL S.E h2 hr (F.ext X1) K1 fun vals qv t2 X2 K2 V2=>GG A qv t2 xv vals Q E hr.hh K2 (V1.mono X2.mono) V2 (h.after (X1.trans X2))))
end
section
variable{C:Cx}{sc:Scope}{env:Env}{σ σ':List Addr}{s s' s₁:Shared}{ρ:i8}{st ji:St}{A:Around}{n:Nat}{Q:aa}{E:aa}{r:nI}{v:PV}
theorem G8{g:Scope->Expr->i8->St->Option (PV×St)}(S:yR C n g)(hr:ki A n){pos:Pos}:∀(kws:List Keyword)(st:St)(q:List (Str×PV)×St)(σ:List Addr)(s:Shared)(Q:List Value->Shared->Prop),
  B0 (g sc) ρ kws st=some q->iZ C sc env σ s.heap ρ->Ok C σ s st->Wg C σ s q.2 (q.1.map (·.2)) Q->wpAny C.M A (evalAll ((backToKw pos (keywordEach kws env)).map (·.2))) Q E s:=by
 intro L0
 induction L0 with
 |nil=>
  intro st q σ s Q hx F K h;obtain rfl:=aj hx;exact wpAny_evalAll_nil (h _ σ s jX.rfl' K jH.nil)
 |cons s_ kws ih=>
  obtain⟨x,e,p⟩:=s_;intro st q σ s Q hx F K h;refine iU hx fun x hn hx=>iU hx fun p h1 hx=>jw hx fun q' h2 e=> ?_;clear hx;clear hx;subst e;clear hx
  skip
  exact wpAny_evalAll_cons (ai (S sc _ ρ _ _ _ h1 A env σ s _ E hr F K fun xv kg t1 X1 K1 V1=>ai (cj (ak (ih _ q' kg t1 _ h2 (F.ext X1) K1 fun vals qv t2 X2 K2 V2=>h _ qv t2 (X1.trans X2) K2 (jH.cons (V1.mono X2.mono) V2))))))
theorem Js{g:Expr->i8->St->Option (PV×St)}{pos:Pos}:∀{kws:List Keyword}{st:St}{q:List (Str×PV)×St},B0 g ρ kws st=some q->
  (backToKw pos (keywordEach kws env)).all (·.1.isSome)=true/\(backToKw pos (keywordEach kws env)).filterMap (·.1)=q.1.map (·.1):=by
 intro L0
 induction L0 with
 |nil=>
  intro _ _ h;refine jC (aj h) ?_;exact⟨rfl,rfl⟩
 |cons s_ kws ih=>
  obtain⟨x,e,p⟩:=s_;intro _ _ h;refine iU h fun x hn h=>iU h fun p h1 h=>jw h fun q' h2 e=> ?_;clear h h1;refine jC e ?_;subst hn;obtain⟨e1,e2⟩:=ih h2;exact⟨e1,aQ _ e2⟩
theorem Gf{g:Scope->Expr->i8->St->Option (PV×St)}(S:yR C n g)(hr:ki A n){f:Value}{pos:Pos}{es:List Expr}{kws:List Keyword}{p:List PV×St}{q:List (Str×PV)×St}{Q:Args->Shared->Prop}
  (h1:j9 (g sc) ρ es st=some p) (h2:B0 (g sc) ρ kws p.2=some q) (F:iZ C sc env σ s.heap ρ) (K:Ok C σ s st)
  (h:∀vals us σ' s',jX jP σ s σ' s'->Ok C σ' s' q.2->jH C σ' s'.heap p.1 vals->jH C σ' s'.heap (q.1.map (·.2)) us->Q ⟨vals,(q.1.map (·.1)).zip us⟩ s'):
  wpAny C.M A (evalArgs f true (es.map (fun e=>(false,eval e env))) (backToKw pos (keywordEach kws env))) Q E s:=by
 refine lP (Js (env:=env) (pos:=pos) h2) fun e1 e2=> ?_;cases es with
 |nil=>
  obtain rfl:=aj h1;exact evalArgs_kw_nil e1 <| iR e2 <| G8 S hr kws _ q σ s _ h2 F K fun us σ' s' X K' V=>h [] us σ' s' X K' jH.nil V
 |cons e rest=>
  exact evalArgs_kw e1 <| iR e2 <| p8 S hr (e::rest) st p σ s _ h1 F K fun vals kg t1 X1 K1 V1=>G8 S hr kws _ q kg t1 _ h2 (F.ext X1) K1 fun us qv t2 X2 K2 V2=>h vals us qv t2 (X1.trans X2) K2 (V1.mono X2.mono) V2
theorem Cc{x:Str}{pos:Pos}(F:iZ C sc env σ s.heap ρ)(hk:i9 sc x=some .globalImplicit)(h:wpAny C.M A (loadGlobal env x) Q E s):wpAny C.M A (eval (.Name x pos) env) Q E s:=by
 refine wpAny_Name ?_ (p9 (F.plain x _ hk)).1;exact iR (loadName_read F.kind (F.glo x hk)) h
theorem uy{x:Str}{fv:Value}(T:nM C)(F:iZ C sc env σ s.heap ρ)(K:Ok C σ s st)(hk:i9 sc x=some .globalImplicit)(hn:C.mg x=none)(hb:bootBuiltins x=some fv)(h:Q fv s):wpAny C.M A (loadGlobal env x) Q E s:=
 let⟨_,hbn,ZJ⟩:=T.b
 gg (F.globals▸T.g.keeps K.base) hn (F.builtins▸hbn.keeps K.base) ((ZJ _ (p9 (F.plain x _ hk)).2.2).trans hb) h
theorem UD{x:Str}{fv:Value}(T:nM C)(F:iZ C sc env σ s.heap ρ)(K:Ok C σ s st)(hn:C.mg x=some fv)(h:Q fv s):wpAny C.M A (loadGlobal env x) Q E s:=
 gr (F.globals▸T.g.keeps K.base) hn h
def LU(C:Cx):Prop:=∀(n:Nat)(r:nI),nJ C n r->∀(A:Around)(σ:List Addr)(s:Shared)(st st1 ji:St)(nm:Str)(k:Nat)(l vs:List PV)(fv xv:Value)(Q:aa)(E:aa),ki A (n+1)->Ok C σ s st->
 C.mg nm=some fv->VR C σ s.heap (.lst k) xv->st[k]? =some (.lst l)->w_ (fun a st=>r.C nm a [] st) (putL st.length) (kI (.lst k) st) l (st++[.lst []])=some st1->finish st.length st1 (.lst st.length)=some (.list vs,ji)->
 (KE C σ s ji (.tup vs) Q)->
 wpAny C.M A (call (.type "map") [fv,xv]) (fun mv s₁=>wpAny C.M A (call (.type "tuple") [mv]) Q E s₁) E s
theorem tP{f:Str}(h:ql sc ρ f=true):i9 sc f=some .globalImplicit:=yk (jA h).2
theorem ND{g:Expr->i8->St->Option (PV×St)}{kws:List Keyword}{q:List (Str×PV)×St}(h:B0 g ρ kws st=some q)(hq:q.1.isEmpty=true):kws=[]/\q.2=st:=by
 cases kws with
 |nil=>(refine jC (aj h) ?_);exact⟨rfl,rfl⟩
 |cons k kws=>exact iU h fun x hn h=>iU h fun p h1 h=>jw h fun q' h2 e=>by(clear h hn h1 h2;(clear h;subst e));(exact nomatch hq)
theorem C8{f:Str}{args:List Expr}{np pos:Pos}{p:List PV×St}(T:nM C)(S:nJ C n r)(hk:i9 sc f=some .globalImplicit)(h1:j9 (r.E sc) ρ args st=some p)(h3:lz p.2 f p.1=some v):kP C n sc (.Call (.Name f np) args [] pos) ρ st v p.2:=fun A env σ s Q E hr F K h=>by
 refine iR (eO ..) <| iR (mF (env:=env) h1 ..) <| iR (nW ..) <| ai (Cc F hk (Zb (FY (C:=C) (A:=A) hr h3) fun fv YB zw oz GG=>uy T F K hk (T.free f (aY _ oz)) zw ?_))
 have go:Wg C σ s p.2 p.1 fun vals s'=>wpAny C.M A (call fv ([]++vals)) Q E s':=fun vals kg t1 X1 K1 V1=>GG kg t1 vals Q E K1 V1 (h.after X1);clear T hk h3 h zw oz GG;rcases JM YB with⟨id,rfl⟩|⟨T',rfl⟩
 ·exact gC (vg args) (xV S.E h1 hr F K go)
 ·exact PySem.callWith_type (vg args) (xV S.E h1 hr F K go)
theorem MN{f:Str}{args:List Expr}{kws:List Keyword}{np pos:Pos}{p:List PV×St}{q:List (Str×PV)×St}(T:nM C)(S:nJ C n r)(hk:i9 sc f=some .globalImplicit)(h1:j9 (r.E sc) ρ args st=some p)(h2:B0 (r.E sc) ρ kws p.2=some q)
  (hf:(!(fnOf f).isNone)=true) (hx:r.C f p.1 q.1 q.2=some (v,ji)):kP C n sc (.Call (.Name f np) args kws pos) ρ st v ji:=fun A env σ s Q E hr F K h=>by
 refine iR (eO ..) <| iR (mF (env:=env) h1 ..) <| iR (nW ..) <| ai (Cc F hk ?_)
 cases e:fnOf f with
 |none=>replace hf:=e▸hf;(exact nomatch hf)
 |some w=>
  clear hk hf;obtain⟨a,body,kh⟩:=w;exact o74 (T.fns f a body kh e) fun fa o pm cd doc dV kV wH ho hd ζ=>UD T F K wH <| callWith_function_kw (o:=o) (fd:={Calls.docDef f a body kh pm cd doc with defaults:=dV,kwdefaults:=kV}) (Gf S.E hr h1 h2 F K fun vals us kg t1 X1 K1 V1 V2=>⟨⟨K1.base _ _ ho,hd⟩,S.C' f p.1 q.1 _ v ji hx A kg t1 vals us (.ref fa) Q E hr K1 V1 V2 wH (h.after X1)⟩)
theorem IC{f:Str}{args:List Expr}{kws:List Keyword}{np pos:Pos}(T:nM C)(S:nJ C n r)(hk:i9 sc f=some .globalImplicit)(hx:Li r sc f args kws ρ st=some (v,ji)):kP C n sc (.Call (.Name f np) args kws pos) ρ st v ji:=by
 refine iU hx fun p h1 hx=>iU hx fun q h2 hx=>mC hx (fun ζ hx=>kO hx fun hq hx=>jw hx fun w h3 e=> ?_) fun hx=>kO hx fun hf hx=>MN T S hk h1 h2 hf hx;refine lP (ND h2 hq) fun z1 e2=> ?_;refine iR z1 ?_;clear hx hq h2;clear hx;cases e;rw[e2]at h3|-;exact C8 T S hk h1 h3
end
section
variable{C:Cx}{sc:Scope}{env:Env}{σ σ':List Addr}{s s' s₁:Shared}{ρ:i8}{st ji:St}{A:Around}{n:Nat}{E:aa}{r:nI}{v x:PV}{st1 jQ:St}{pos:Pos}{b c:Bool}
theorem Mh{g:Scope->Expr->i8->St->Option (PV×St)}(S:yR C n g)(hr:ki A n):∀(c:CmpOp×Expr)(l:List (CmpOp×Expr))(pos:Pos)(x:PV)(xv:Value)(st ji:St)(σ:List Addr)(s:Shared)(b:Bool)(Q:Bool->Shared->Prop),
  nR (g sc) ρ x (c::l) st=some (b,ji)->iZ C sc env σ s.heap ρ->Ok C σ s st->VR C σ s.heap x xv->KT C σ s ji b Q->
  wpAny C.M A (testChain pos xv ((c::l).map (·.1)) (evalEach ((c::l).map (·.2)) env)) Q E s:=by
 intro c L0
 induction L0 generalizing c with
 |nil=>
  intro pos x xv st ji σ s b Q hx F K V h;refine iU hx fun p h1 h2=>iU h2 fun r h3 h4=>lP (Ah h4) fun z1 z2=> ?_;subst z1;subst z2;exact test_last (S sc c.2 ρ st _ _ h1 A env σ s _ E hr F K fun yv kg t1 X1 K1 V1=>wU hr K1 h3 (V.mono X1.mono) V1 fun qv t2 X2 K2=>eF (h qv t2 (X1.trans X2) K2))
 |cons c' l ih=>
  intro pos x xv st ji σ s b Q hx F K V h;refine iU hx fun p h1 h2=>iU h2 fun r h3 h4=>test_link (S sc c.2 ρ st _ _ h1 A env σ s _ E hr F K fun yv kg t1 X1 K1 V1=>wU hr K1 h3 (V.mono X1.mono) V1 fun qv t2 X2 K2=>eF ?_);cases r with
  |false=>(clear hx K V h1 h2 K1 h3;(cases h4));exact h qv t2 (X1.trans X2) K2
  |true=>exact ih c' pos p.1 yv _ ji qv t2 b Q h4 ((F.ext X1).ext X2) K2 (V1.mono X2.mono) (h.after (X1.trans X2))
theorem MD{e:Expr}(S:nJ C n r)(he:∀env,isTrue e env (eval e env)=(do let v<-eval e env;standAt e.pos;holding [v] (truthy v)))(hx:Wj r sc e ρ st=some (b,ji)):xe C n sc e ρ st b ji:=fun A env σ s Q E hr F K h=>by
 refine iU hx fun p h1 hx=>jw hx fun c h2 e=> ?_;clear hx;clear hx;cases e;exact isTrue_plain (S.E sc _ ρ _ _ _ h1 A env σ s _ E hr F K fun xv kg t1 X1 K1 V1=>q7 K1 h2 V1 fun t2 g=>h kg t2 (X1.trans g.ext) (K1.grow g)) (he env)
theorem ME{a:Expr}(h1:xe C n sc a ρ st c st1):xe C n sc (.UnaryOp .Not a pos) ρ st (!c) st1:=fun A env σ s ζ E hr F K h=>
 isTrue_not (h1 A env σ s _ E hr F K fun kg t1 X1 K1=>h kg t1 X1 K1)
theorem MF{op:BoolOp}:xe C n sc (.BoolOp op [] pos) ρ st (op== .And) st:=fun A env σ s ζ E hr F K h=>by
 cases op with
 |And=>exact isTrue_and_nil (h σ s jX.rfl' K)
 |Or=>exact isTrue_or_nil (h σ s jX.rfl' K)
theorem IB{op:BoolOp}{a:Expr}{es:List Expr}(h1:xe C n sc a ρ st c st1)(h3:qo op c=true->xe C n sc (.BoolOp op es pos) ρ st1 b jQ)(h4:qo op c=false->b=c/\jQ=st1):xe C n sc (.BoolOp op (a::es) pos) ρ st b jQ:=fun A env σ s Q E hr F K h=>by
 have stop:qo op c=false->∀{kg t1},jX jP σ s kg t1->Ok C kg t1 st1->Q c t1:=fun q kg t1 X1 K1=>by
  refine lP (h4 q) fun z3 z4=> ?_;clear h4;refine jC z3 ?_;subst z4;exact h kg t1 X1 K1
 have go:qo op c=true->∀{kg t1},jX jP σ s kg t1->Ok C kg t1 st1->wpAny C.M A (isTrue (.BoolOp op es pos) env (eval (.BoolOp op es pos) env)) Q E t1:=fun q kg t1 X1 K1=>
  h3 q A env kg t1 Q E hr (F.ext X1) K1 (h.after X1)
 cases op with
 |And=>
  refine isTrue_and (h1 A env σ s _ E hr F K fun kg t1 X1 K1=> ?_);cases c with
  |true=>exact go rfl X1 K1
  |false=>exact stop rfl X1 K1
 |Or=>
  refine isTrue_or (h1 A env σ s _ E hr F K fun kg t1 X1 K1=> ?_);cases c with
  |false=>exact go rfl X1 K1
  |true=>exact stop rfl X1 K1
theorem Bk{a:Expr}{ops:List CmpOp}{es:List Expr}{c:CmpOp×Expr}{l:List (CmpOp×Expr)}(S:nJ C n r)(hm:lastMarks ops es=false)(e1:(c::l).map (·.1)=ops)(e2:(c::l).map (·.2)=es)(h1:kP C n sc a ρ st x st1)(h2:nR (r.E sc) ρ x (c::l) st1=some (b,jQ)):xe C n sc (.Compare a ops es pos) ρ st b jQ:=fun A env σ s Q E hr F K h=>by
 refine(iR (markedEach_of_false _ _ _ hm) ?_:wpAny C.M A (do testChain pos (<-eval a env) ops (markedEach ops es (evalEach es env))) Q E s);exact jC e1 <| jC e2 <| ai (h1 A env σ s _ E hr F K fun xv kg t1 X1 K1 V1=>Mh S.E hr c l pos x xv _ _ kg t1 b Q h2 (F.ext X1) K1 V1 (h.after X1))
theorem CR{a:Expr}{ops:List CmpOp}{es:List Expr}{q:Bool×St}{G:Prop}(hx:KA r sc a ops es ρ st=some q)
  (k:∀p c l,lastMarks ops es=false->(c::l:List (CmpOp×Expr)).map (·.1)=ops->(c::l).map (·.2)=es->r.E sc a ρ st=some p->nR (r.E sc) ρ p.1 (c::l) p.2=some q->G):G:=by
 refine kO hx fun h hx=>iU hx fun p h1 hx=>o04 (DG h) fun hm e1 e2 ha=> ?_;cases e:ops.zip es with
 |nil=>rw[e]at e1;exact absurd e1.symm ha
 |cons c l=>rw[e]at e1 e2 hx;exact k p c l hm e1 e2 h1 hx
theorem PJ(S:nJ C n r){e:Expr}{q:Bool×St}(hx:stepT r sc e ρ st=some q):xe C n sc e ρ st q.1 q.2:=by
 cases e with
 |UnaryOp op a p=>cases op with
  |Not=>exact jw hx fun q' h1 e=>e▸ME (S.T _ _ _ _ _ _ h1)
  |_=>exact ku hx
 |BoolOp op es p=>cases es with
  |nil=>exact aj hx▸MF
  |cons a es=>
   refine iU hx fun p h1 hx=>IB (S.T _ _ _ _ _ _ h1) (fun g=> ?_) fun g=> ?_
   ·rw[g]at hx;exact S.T _ _ _ _ _ _ hx
   ·rw[g]at hx;refine iR (aj hx) ?_;exact⟨rfl,rfl⟩
 |Compare a ops es p=>exact CR hx fun p c l hm e1 e2 h1 h2=>Bk S hm e1 e2 (S.E _ _ _ _ _ _ h1) h2
 |IfExp=>exact ku hx
 |_=>exact MD S (fun ζ=>rfl) hx
theorem T6(S:nJ C n r):TP C n (stepT r):=fun ζ ζ ζ ζ ζ ζ hx=>PJ S hx
end
theorem om{x y:Str}{v:PV}:∀{ρ:i8},jW y (Kn x v ρ)=if x=y then some v else jW y ρ
 |[]=>by
  dsimp only[Kn,jW,jW];refine bc (p:=x=y) (fun h=> ?_) fun h=> ?_
  ·lia
  ·have:(x==y)=false:=aL.mpr h
   lia
 |(z,u)::r=>by
  dsimp only[Kn];refine bc (p:=z=x) (fun hz=> ?_) fun hz=> ?_
  ·subst hz;refine iR (a_ (cO z)) ?_;dsimp only[jW];refine bc (p:=z=y) (fun h=> ?_) fun h=> ?_
   ·simp[h]
   ·have:(z==y)=false:=aL.mpr h;simp only[this,bz,d7,h]
  ·refine iR (aS (by(simpa using hz))) ?_;dsimp only[jW];refine bc (p:=z=y) (fun h=> ?_) fun h=> ?_
   ·subst h;have:¬ x=z:=fun e=>hz e.symm;simp[this]
   ·have:(z==y)=false:=aL.mpr h;simp only[this,bz,d7];exact om
section
variable{C:Cx}{sc:Scope}{env:Env}{σ σ':List Addr}{s s' s₁:Shared}{ρ kC:i8}{st ji:St}{A:Around}{n:Nat}{E:aa}{r:nI}{v:PV}
theorem iZ.hp(F:iZ C sc env σ s.heap ρ):(env.scope.kind== .class||(env.scope.kind== .module&&env.locals !=env.globals))=false:=by(refine iR F.kind ?_);rfl
theorem yb{a:Addr}(F:iZ C sc env σ s.heap ρ)(ha:own sc env a){h':Heap}(hs:Heap.SameBut a s.heap h')(hn:∃o,h'.get? a=some o/\¬ lq o)(tk:Nat):jX (own sc env) σ s σ {s with heap:=h',toks:=tk}:=
 ⟨⟨[],by simp⟩,fun ζ p q=>absurd p q,fun b o e ζ hb=>(hs.2 b (fun q=>hb (q▸ha))).trans e,fun b o hb e=>⟨F.ownData b o hb e,by
  refine bc (p:=b=a) (fun q=> ?_) fun q=> ?_
  ·clear ha;refine iR q ?_;exact hn
  ·exact(jt o ((hs.2 b q).trans e) (F.ownData b o hb e))⟩,rfl,rfl⟩
theorem Ok.own{a:Addr}(K:Ok C σ s st)(F:iZ C sc env σ s.heap ρ)(ha:own sc env a)(h0:C.h₀.get? a=none){h':Heap}(hs:Heap.SameBut a s.heap h')(tk:Nat):Ok C σ {s with heap:=h',toks:=tk} st where
 base:=fun b o e=>(hs.2 b (fun q=>by replace e:=h0▸(q▸e);exact ku e)).trans (K.base b o e)
 fresh0:=K.fresh0
 len:=K.len
 nodup:=K.nodup
 cells:=fun k b c hb hc=>by
  exact(K.cells k b c hb hc).mono (⟨⟨[],by simp⟩,fun ζ p q=>absurd p q,fun d o e ζ hv=>(hs.2 d (fun q=>F.ownData d o (q▸ha) e hv)).trans e⟩:tD σ s.heap σ h') (hs.2 b (fun q=>F.ownOut a ha (q▸bJ hb)))
theorem pe{x:Str}{val:Value}{Q:Unit->Shared->Prop}(F:iZ C sc env σ s.heap ρ)(K:Ok C σ s st)(hx:qQ sc x v ρ=some kC)(V:VR C σ s.heap v val)
  (h:∀s',jX (own sc env) σ s σ s'->Ok C σ s' st->iZ C sc env σ s'.heap kC->Q () s'):wpAny C.M A (storeName env x val) Q E s:=by
 refine kO hx fun hk e=> ?_;clear hx;obtain rfl:=aj e;rcases Ju hk with hk|hk
 ·refine F.nsC fun m hn hv=>wpAny_storeName_local (F.loc x hk) hn (fun h' RO hs=> ?_) F.hp;have ha:own sc env env.locals:=.inl rfl;have X:jX (own sc env) σ s σ {s with heap:=h',toks:=s.toks+1}:=yb F ha hs (by
   exact J0 RO fun o es ep ho hd ζ=>(jt o ho (fun z=>z.dict hd))) _
  exact h _ X (K.own F ha F.newL hs _) <| {
   kind:=F.kind,plain:=F.plain,loc:=F.loc,cel:=F.cel,fre:=F.fre,glo:=F.glo,globals:=F.globals,builtins:=F.builtins,code:=F.code
   ns:=(jt _ RO (fun y u hy Yu=>by
    rw[om]at hy;refine bc (p:=x=y) (fun q=> ?_) fun q=> ?_
    ·subst q;rw[a_ rfl]at hy;obtain rfl:=aj hy;exact iR (a_ rfl) <| jt val rfl (V.mono X.mono)
    ·rw[aS q]at hy;exact iR (aS (fun e=>q e.symm)) <| jm (hv y u hy Yu) fun w h1 h2=>(jt w h1 (h2.mono X.mono))))
   cells:=fun y hy=>by
    refine F.cellsC y hy fun c vo h1 z1 h2 h3=>jm z1 fun o ho hd=> ?_;have m_:c≠env.locals:=fun q=>by
     refine J0 hn fun o2 es ep wG J5 ζ=> ?_;rw[q,wG]at ho;(injection ho with ho;subst ho);rw[J5]at hd;contradiction
    refine(v9 c vo h1 (jt o ((hs.2 c m_).trans ho) hd) h2 (fun u hu=> ?_));rw[om]at hu;refine bc (p:=x=y) (fun q=> ?_) fun q=> ?_
    ·subst q;refine cg hy (fun hy=> ?_) fun hy=> ?_<;>(rw[hk]at hy;contradiction)
    ·rw[aS q]at hu;exact jm (h3 u hu) fun w a b=>jt w a (b.mono X.mono)
   apart:=F.apart
   dom:=fun y u hy=>by
    replace hy:=om▸hy
    refine bc (p:=x=y) (fun q=> ?_) fun q=> ?_
    ·subst q;exact .inl hk
    ·rw[aS q]at hy;exact F.dom y u hy
   newL:=F.newL,newC:=F.newC,notL:=F.notL}
 ·refine F.cellsC x (.inl hk) fun c vo hc hi aaH hcv=>wpAny_storeName_cell F.kind (F.cel x hk) hc hi fun h' hi' hs=> ?_;have ha:own sc env c:=.inr (jt x hk hc);have X:jX (own sc env) σ s σ {s with heap:=h',toks:=s.toks}:=yb F ha hs (by
   exact jm hi' fun o ho hd=>(jt o ho (fun z=>z.cell hd))) _
  have hLc:env.locals≠c:=fun q=>by
   refine F.nsC fun m z7 ζ=>J0 z7 fun o2 es ep wG J5 ζ=>jm hi fun o ho hd=> ?_;rw[<-q,wG]at ho;obtain rfl:=aj ho;rw[J5]at hd;contradiction
  exact h {s with heap:=h',toks:=s.toks} X (K.own F ha (F.newC x c hk hc) hs _) <| {
   kind:=F.kind,plain:=F.plain,loc:=F.loc,cel:=F.cel,fre:=F.fre,glo:=F.glo,globals:=F.globals,builtins:=F.builtins,code:=F.code
   ns:=by
    refine F.nsC fun m hn hv=> ?_;refine(jt m (hn.sameBut hs hLc) (fun y u hy Yu=> ?_));rw[om]at hy;refine bc (p:=x=y) (fun q=> ?_) fun q=> ?_
    ·subst q;rw[hk]at Yu;contradiction
    ·rw[aS q]at hy;exact jm (hv y u hy Yu) fun w h1 h2=>jt w h1 (h2.mono X.mono)
   cells:=fun y hy=>by
    refine bc (p:=x=y) (fun q=> ?_) fun q=> ?_
    ·refine jC q ?_;refine(v9 c (some val) hc hi' aaH (fun u hu=> ?_));rw[om,a_ rfl]at hu;refine jC (aj hu) ?_;exact jt val rfl (V.mono X.mono)
    ·refine F.cellsC y hy fun d wo h1 z3 h2 h3=>jm z3 fun o ho hd=> ?_;have m_:d≠c:=fun e=>F.apart x y c hk hy q hc (iR h1 <| iR e rfl);refine(v9 d wo h1 (jt o ((hs.2 d m_).trans ho) hd) h2 (fun u hu=> ?_));rw[om,aS q]at hu;exact jm (h3 u hu) fun w a b=>jt w a (b.mono X.mono)
   apart:=F.apart
   dom:=fun y u hy=>by
    rw[om]at hy;refine bc (p:=x=y) (fun q=> ?_) fun q=> ?_
    ·refine jC q ?_;exact .inr (.inl hk)
    ·rw[aS q]at hy;exact F.dom y u hy
   newL:=F.newL,newC:=F.newC,notL:=F.notL}
theorem vE:∀{es:List Expr}{xs:List Str},namesOf es=some xs->(assignEach es env).length=xs.length/\(assignEach es env).findIdx? (·.1)=none/\xs.length=es.length:=by
 intro L0
 induction L0 with
 |nil=>
  intro xs h;refine jC (aj h) ?_;exact tZ rfl rfl rfl
 |cons e r ih=>
  intro xs h;refine iU h fun x hv h=>jw h fun ys hy e0=> ?_;refine jC e0 ?_;refine w4 (ih hy) fun e1 e2 e3=>tF hv fun p=>(tZ (aQ Nat.succ e1) ?_ (aQ Nat.succ e3));refine(iR (gH) ?_:((false,assign (.Name x p) env)::assignEach r env).findIdx? (·.1)=none);exact iR e2 rfl
theorem EO:∀(es:List Expr)(xs:List Str)(vs:List PV)(vals:List Value)(ρ kC:i8)(s:Shared)(Q:Unit->Shared->Prop),namesOf es=some xs->storeAll sc xs vs ρ=some kC->iZ C sc env σ s.heap ρ->Ok C σ s st->jH C σ s.heap vs vals->
  (∀s',jX (own sc env) σ s σ s'->Ok C σ s' st->iZ C sc env σ s'.heap kC->Q () s')->wpAny C.M A (assignInOrder ((assignEach es env).map (·.2)) vals) Q E s:=by
 intro L0
 induction L0 with
 |nil=>
  intro xs vs vals ρ kC s Q hn hx F K V h;obtain rfl:=aj hn;cases vs with
  |nil=>
   obtain rfl:=aj hx;refine jC (V.nilE) ?_;exact ak (h s (jX.refl F.ownData) K F)
  |cons=>exact ku hx
 |cons e r ih=>
  intro xs vs vals ρ kC s Q hn hx F K V h;refine iU hn fun x hv hn=>jw hn fun ys hy e0=> ?_;subst e0;cases vs with
  |nil=>exact ku hx
  |cons w ws=>
   refine iU hx fun lO h1 h2=>qL V.consE fun val rest z4 V1 V2=>tF hv fun p=> ?_;clear V hx;refine iR z4 ?_;exact ai (aP (gc (pe F K h1 V1 fun s1 X1 K1 F1=>ih ys ws rest lO kC s1 Q hy h2 F1 K1 (V2.mono X1.mono) fun s2 X2 K2 F2=>h s2 (X1.trans X2) K2 F2)))
def nk(C:Cx):Prop:=∀(A:Around)(σ:List Addr)(s:Shared)(st:St)(env:Env)(x:Str)(p pos:Pos)(k:Nat)(b:Bool)(v:Value)(Q:Unit->Shared->Prop)(E:aa),A.handled=none->Ok C σ s st->VR C σ s.heap (.bset b) v->
 (∀s',je s s'->wpAny C.M A (assign (.Name x p) env (.bool b)) Q E s')->wpAny C.M A (assign (.Tuple [.Name x p] k pos) env v) Q E s
theorem Jh{es:List Expr}{x:Str}(hn:namesOf es=some [x]):∃p,es=[.Name x p]:=by
 cases es with
 |nil=>cases hn
 |cons e r=>
  refine iU hn fun y hv hn=>jw hn fun ys hy e0=> ?_;refine jC ((gQ e0).1) ?_;cases r with
  |nil=>exact tF hv fun p=>⟨p,rfl⟩
  |cons e' r'=>exact iU hy fun ζ ζ h=>jw h fun ζ ζ e=>nomatch (gQ e0).2.symm.trans e.symm
theorem tU{t:Expr}{val:Value}{Q:Unit->Shared->Prop}(U:nk C)(hh:A.handled=none)(F:iZ C sc env σ s.heap ρ)(K:Ok C σ s st)(hx:kX sc st t v ρ=some kC)(V:VR C σ s.heap v val)
  (h:∀s',jX (own sc env) σ s σ s'->Ok C σ s' st->iZ C sc env σ s'.heap kC->Q () s'):wpAny C.M A (assign t env val) Q E s:=by
 refine qz hx (fun hx=>iU hx fun x hv hx=>tF hv fun p=>gc (pe F K hx V h)) fun hx=>iU hx fun es hv hx=>Pu hv fun k pos=> ?_
 ·refine iU hx fun xs J3 hx=>qz hx (fun hx=>iU hx fun b hb hx=>iU hx fun x Zm Zk=> ?_) fun hx=>iU hx fun l hl hx=>kO hx fun q hx=> ?_
  ·replace J3:=(jU Zm)▸J3
   refine m9 (Jh J3) fun p z5=> ?_;refine iR z5 ?_;exact U A σ s st env x p pos k b val Q E hh K (Ge hb▸V) fun s1 g=>gc (pe (F.ext g.ext) (K.grow g) Zk (oY b) fun s2 X2 K2 F2=>h s2 ((F.weaken g.ext).trans X2) K2 F2)
  ·replace V:=(qJ hl)▸V
   refine oX V fun a o vs z6 RO ho so r=> ?_;clear U hl V RO;refine iR z6 ?_;refine w4 (vE (env:=env) J3) fun e1 e2 e3=>wpAny_assign_Tuple hh (so.isTuple ho) (iR e1 <| iR (aR.mp q) r.length.symm) e2 fun h' hs=> ?_;have g:je s {s with heap:=h'}:=⟨fun b o e=>hs b o (cC (bF e)) e,rfl,rfl⟩;exact EO es xs l _ ρ kC _ Q J3 hx (F.ext g.ext) (K.grow g) (r.grow g) fun s2 X2 K2 F2=>h s2 ((F.weaken g.ext).trans X2) K2 F2
end
theorem mG:∀(names:List (Str×NameKind))(n:Nat)(acc:List (Str×Addr)),cellsFrom n names acc=cellsFrom n names []++acc:=by
 intro L0
 induction L0 with
 |nil=>
  intro _ _;exact rfl
 |cons s_ r ih=>
  obtain⟨x,k⟩:=s_;intro n acc;dsimp only[cellsFrom];split
  ·refine iR (ih (n+1) ((x,n)::acc)) <| iR (ih (n+1) [(x,n)]) ?_
   simp
  ·exact ih n acc
theorem zg:∀(names:List (Str×NameKind))(n:Nat)(x:Str)(c:Addr),(x,c)∈cellsFrom n names []->(x,NameKind.cell)∈names:=by
 intro L0
 induction L0 with
 |nil=>
  intro _ _ _ h;cases h
 |cons s_ r ih=>
  obtain⟨y,k⟩:=s_;intro n x c h;dsimp only[cellsFrom]at h;split at h
  ·rename_i hk;rw[mG]at h;refine cg (bg.mp h) (fun h=> ?_) fun h=> ?_
   ·exact aq _ (ih _ x c h)
   ·have e:=aA.mp h
    (injection e with e;refine jC e ?_)
    exact iR (aR.mp hk) <| aT ..
  ·exact aq _ (ih _ x c h)
theorem qt:∀(names:List (Str×NameKind))(n:Nat)(x:Str),(x,NameKind.cell)∈names->∃c,(x,c)∈cellsFrom n names []
 |(y,k)::r,n,x,h=>by
  dsimp only[cellsFrom];refine cg (aV.mp h) (fun e=> ?_) fun h=> ?_
  ·cases e;exact iR (a_ (cO _) ..) <| iR (mG ..) <| ⟨n,dJ _ (aA.mpr rfl)⟩
  ·split
   ·exact m9 (qt r (n+1) x h) fun c hc=>iR (mG ..) <| ⟨c,aY _ hc⟩
   ·exact qt r n x h
theorem pP{α:Type}:∀{l:List (Str×α)}{x:Str}{k:α},(x,k)∈l->∃k',l.lookup x=some k'
 |(y,u)::r,x,k,h=>by
  refine iR fL ?_;cases e:x==y with
  |true=>exact⟨u,rfl⟩
  |false=>
   rcases aV.mp h with q|h
   ·(injection q with q;subst q);simp at e
   ·exact pP h
theorem Dh{α:Type}:∀{l:List (Str×α)}{x:Str},(∀k,(x,k)∉l)->l.lookup x=none:=by
 intro L0
 induction L0 with
 |nil=>
  intro _ _;exact rfl
 |cons s_ r ih=>
  obtain⟨y,u⟩:=s_;intro x h;refine iR fL ?_;have:(x==y)=false:=aL.mpr fun q=>h u (iR q <| aT ..);exact iR this <| ih fun k hk=>h k (aq _ hk)
theorem yh{α:Type}:∀(l m:List (Str×α))(x:Str),(l++m).lookup x=(l.lookup x).or (m.lookup x):=by
 intro L0
 induction L0 with
 |nil=>
  intro m x;simp
 |cons s_ r ih=>
  obtain⟨y,u⟩:=s_;intro m x;refine iR gz <| iR fL <| iR fL ?_
  cases x==y with
  |true=>rfl
  |false=>exact ih m x
theorem tN:∀{l:List (Str×NameKind)}{x:Str}{k k':NameKind},pO l=true->l.lookup x=some k->(x,k')∈l->k=k'
 |(y,u)::r,x,k,k',hn,hl,hm=>by
  dsimp only[pO]at hn;rw[aG,eV]at hn;rw[fL]at hl;cases e:x==y with
  |true=>
   replace hl:=e▸hl
   (injection hl with hl;subst hl)
   have OO:=aR.mp e;subst OO;rcases aV.mp hm with q|hm
   ·cases q;rfl
   ·refine m9 (pP hm) fun k'' hk=> ?_;rw[hn.1]at hk;exact ku hk
  |false=>
   rw[e]at hl;refine cg (aV.mp hm) (fun q=> ?_) fun hm=> ?_
   ·(injection q with q;subst q);simp at e
   ·exact tN hn.2 hl hm
structure Ph(sc:Scope):Prop where
 kind:sc.kind= .function
 gen:sc.isGenerator=false
 co:sc.isCoroutine=false
 plain:∀x k,i9 sc x=some k->ng x=true
 nodup:pO sc.names=true
theorem Cu{sc:Scope}(h:Kl sc=true):Ph sc:=by
 unfold Kl at h;simp only[aG,aR,cz,bZ]at h;refine lP h fun z1 h5=>lP z1 fun z5 h4=> ?_;obtain⟨⟨h1,h2⟩,h3⟩:=z5;exact⟨h1,h2,h3,fun x k hk=>(h4 (x,k) (mem_of_lookup hk)).1,h5⟩
noncomputable def bindAll(env:Env)(binds:List (Str×Value)):Sem Env:=do
 for (name,v) in binds do storeName env name v
 return env
section
variable{C:Cx}{σ σ':List Addr}{s s' s₁:Shared}{ρ kC:i8}{st ji:St}{A:Around}{n:Nat}{E:aa}{r:nI}{v:PV}
theorem Ok.newAddr(K:Ok C σ s st){a:Addr}(h:s.heap.get? a=none):a∉σ/\C.h₀.get? a=none:=
 ⟨fun hm=>(by refine jm (K.has hm) fun o ho ζ=> ?_;rw[h]at ho;contradiction),by
  cases e:C.h₀.get? a with
  |none=>rfl
  |some o=>rw[K.base a o e]at h;contradiction⟩
theorem lE{h:Heap}{a:Addr}(ha:h.objs.size<=a):h.get? a=none:=by
 cases e:h.get? a with
 |none=>rfl
 |some o'=>exact absurd (bF e) (gB.mpr ha)
theorem ye{scope:Scope}{closure:List (Str×Addr)}{binds:List (Str×Value)}{qual:Str}{func:Option Addr}{code:Value}{around:Option Env}{builtins:Addr}{DW:i8}{xs:List Str}{vs:List PV}{vals:List Value}{Q:Env->Shared->Prop}
  (uL:Ph scope) (K:Ok C σ s st) (hb:(match around with|some o=>o.builtins|none=>builtins)=builtinsNs)
  (XE:AR C.h₀ (match around with|some o=>o.code|none=>code))
  (wI:∀x,i9 scope x=some .free->∃c vo,closure.lookup x=some c/\s.heap.IsCell c vo/\c∉σ/\∀v,jW x DW=some v->∃val,vo=some val/\VR C σ s.heap v val)
  (TH:∀x v,jW x DW=some v->i9 scope x=some .free) (UN:binds=xs.zip vals) (mq:storeAll scope xs vs DW=some ρ) (V:jH C σ s.heap vs vals)
  (h:∀env s',env=newEnv scope s.heap.objs.size mainGlobals (cellsFrom (s.heap.objs.size+1) scope.names closure) qual func code around builtins->
   jX jP σ s σ s'->Ok C σ s' st->iZ C scope env σ s'.heap ρ->(∀a,own scope env a->s.heap.get? a=none)->Q env s'):
  wpAny C.M A (newFunctionEnv scope mainGlobals closure binds qual func code around builtins) Q E s:=by
 refine ai (wpAny_alloc (ai (wpAny_layCells _ (fun name kind cells=>by cases hkc:kind==NameKind.cell<;>simp[hkc]) _ _ _ _ ?_)));have GC:(s.heap.push {cls:=.type (if around.isSome then "dict" else "frame"),data:=.dict #[]}).objs.size=s.heap.objs.size+1:=bK ..;have ok:=cellsFrom_ok scope.names (s.heap.push {cls:=.type (if around.isSome then "dict" else "frame"),data:=.dict #[]}) (s.heap.objs.size+1) [] ⟨fun ζ ζ hm=>(nomatch hm),List.Pairwise.nil⟩ (iR GC <| aK _)
 replace ok:=GC▸ok
 refine iR (show({s with heap:=s.heap.push {cls:=.type (if around.isSome then "dict" else "frame"),data:=.dict #[]}}:Shared).heap.objs.size=s.heap.objs.size+1 from GC) ?_;generalize hH0:s.heap.push {cls:=.type (if around.isSome then "dict" else "frame"),data:=.dict #[]}=H0 at GC ok|-;generalize Es:cellsFrom (s.heap.objs.size+1) scope.names []=cells at ok;have Se:∀b o,s.heap.get? b=some o->(pushCells H0 scope.names).get? b=some o:=fun b o e=>pushCells_keeps _ _ _ _ (jC hH0 <| az _ e);have g1:je s {s with heap:=pushCells H0 scope.names}:=⟨Se,rfl,rfl⟩;have fresh:s.heap.get? s.heap.objs.size=none:=lE (aK _);obtain⟨aaM,hL0⟩:=K.newAddr fresh;have wV:∀x c,(x,c)∈cells->s.heap.get? c=none:=fun x c hm=>lE (Nat.le_of_succ_le (ok.empty x c hm).2);have look:∀env:Env,env.cells=cells++closure->(∀x,i9 scope x=some .cell->∃c,(x,c)∈cells/\env.cells.lookup x=some c)/\(∀x,i9 scope x=some .free->env.cells.lookup x=closure.lookup x):=by
  intro env he;refine⟨fun x hx=> ?_,fun x hx=> ?_⟩
  ·obtain⟨c,hc⟩:=qt scope.names (s.heap.objs.size+1) x (mem_of_lookup hx)
   replace hc:=Es▸hc
   obtain⟨c',Kg⟩:=pP hc;exact⟨c',mem_of_lookup Kg,by(refine iR (he ..) ?_;refine iR (yh ..) ?_;refine iR (Kg ..) ?_);rfl⟩
  ·have:cells.lookup x=none:=Dh fun k hk=>by
    replace hk:=(fy Es)▸hk
    have:=tN uL.nodup hx (zg _ _ _ _ hk);cases this
   exact iR (he ..) <| iR (yh ..) <| iR (this ..) rfl
 have main:∀env:Env,env=newEnv scope s.heap.objs.size mainGlobals (cellsFrom (s.heap.objs.size+1) scope.names closure) qual func code around builtins->
   wpAny C.M A (bindAll env binds) Q E {s with heap:=pushCells H0 scope.names}:=by
  intro env he;have e1:env.scope=scope:=by(refine iR he ?_);cases around<;>rfl
  have e2:env.locals=s.heap.objs.size:=by(refine iR he ?_);cases around<;>rfl
  have e3:env.globals=mainGlobals:=by(refine iR he ?_);cases around<;>rfl
  have e4:env.cells=cells++closure:=by rw[he,<-(by(refine iR (mG ..) ?_;refine iR (Es ..) ?_;exact rfl):cellsFrom (s.heap.objs.size+1) scope.names closure=cells++closure)];cases around<;>rfl
  have e5:env.builtins=builtinsNs:=by(refine iR he ?_;refine jC hb ?_);cases around<;>rfl
  have e6:AR C.h₀ env.code:=by(refine iR he ?_);cases around<;>exact XE
  refine lP (look env e4) fun VK lk2=> ?_;have F0:iZ C scope env σ (pushCells H0 scope.names) DW:={
   kind:=by(refine iR e1 ?_);exact uL.kind
   plain:=uL.plain
   loc:=fun x hx=>by refine(?_:env.scope.names.lookup x=_);(refine iR e1 ?_);exact hx
   cel:=fun x hx=>by refine(?_:env.scope.names.lookup x=_);(refine iR e1 ?_);exact hx
   fre:=fun x hx=>.inl (by refine(?_:env.scope.names.lookup x=_);(refine iR e1 ?_);exact hx)
   glo:=fun x hx=>by refine(?_:env.scope.names.lookup x=_);(refine iR e1 ?_);exact hx
   globals:=e3
   builtins:=e5
   code:=e6
   ns:=⟨fun ζ=>none,by
    refine iR e2 ?_;have:H0.Ns s.heap.objs.size (fun ζ=>none):=by(refine jC hH0 ?_);exact Heap.Ns.new s.heap _
    exact this.keeps (pushCells_keeps _ _),fun x v hx hk=>by
    have:=TH x v hx
    replace this:=hk▸this;contradiction⟩
   cells:=fun x hx=>by
    rcases hx with hx|hx
    ·exact jm (VK x hx) fun c hc hl=>⟨c,none,hl,(ok.empty x c hc).1,(K.newAddr (wV x c hc)).1,fun v hv=>by
      have:=TH x v hv
      replace this:=hx▸this;contradiction⟩
    ·refine DN (wI x hx) fun c vo h1 z2 h3 h4=> ?_;obtain⟨o,ho,hd⟩:=z2;exact v9 c vo ((lk2 x hx).trans h1) ⟨o,Se c o ho,hd⟩ h3 (fun v hv=>let⟨val,a,b⟩:=h4 v hv;⟨val,a,b.grow g1⟩)
   apart:=fun x y c hx hy m_ hc RL=>by
    refine jm (VK x hx) fun d hd hl=> ?_
    replace hc:=hl▸hc
    obtain rfl:=aj hc;refine cg hy (fun hy=> ?_) fun hy=> ?_
    ·refine jm (VK y hy) fun d' RQ DR=> ?_
     replace RL:=DR▸RL
     obtain rfl:=aj RL;exact m_ (name_of_addr ok.apart hd RQ)
    ·refine qL (wI y hy) fun c' vo h1 z3 ζ=> ?_;obtain⟨o,ho,_⟩:=z3
     replace RL:=h1▸((lk2 y hy)▸RL);(injection RL with RL;subst RL)
     replace ho:=(wV x _ hd)▸ho
     exact ku ho
   dom:=fun x v hx=>.inr (.inr (TH x v hx))
   newL:=by(refine iR e2 ?_);exact hL0
   newC:=fun x c hx hc=>by
    refine jm (VK x hx) fun d hd hl=> ?_
    replace hc:=hl▸hc
    refine jC (aj hc) ?_;exact(K.newAddr (wV x _ hd)).2
   notL:=by(refine iR e2 ?_);exact aaM}
  have AG:∀a,own scope env a->s.heap.get? a=none:=by
   rintro a (rfl|⟨x,hx,hc⟩)
   ·exact iR e2 fresh
   ·refine jm (VK x hx) fun d hd hl=> ?_
    replace hc:=hl▸hc
    refine jC (aj hc) ?_;exact wV x _ hd
  have K0:=K;have V1:=V.grow g1;have binder:∀(xs:List Str)(vs:List PV)(vals:List Value)(DW:i8)(s₁:Shared),storeAll scope xs vs DW=some ρ->jH C σ s₁.heap vs vals->iZ C scope env σ s₁.heap DW->Ok C σ s₁ st->jX (own scope env) σ {s with heap:=pushCells H0 scope.names} σ s₁->
    wpAny C.M A (bindAll env (xs.zip vals)) Q E s₁:=by
   intro xs
   induction xs with
   |nil=>
    intro vs vals DW s₁ mq V F K X;cases vs with
    |nil=>
     obtain rfl:=aj mq;refine ai (ak (ak (h env s₁ he ?_ K F AG)));have X0:jX (own scope env) σ s σ {s with heap:=pushCells H0 scope.names}:=g1.ext.weaken (fun a ha=>(K0.newAddr (AG a ha)).1) (fun a o ha e=>by replace e:=(AG a ha)▸e;exact ku e);exact(X0.trans X).strip (fun a ha ζ=>AG a ha) (fun ζ q=>q.elim)
    |cons _ _=>exact ku mq
   |cons x xs ih=>
    intro vs vals DW s₁ mq V F K X;cases vs with
    |nil=>exact ku mq
    |cons w ws=>
     refine iU mq fun lO h1 h2=>qL V.consE fun val rest z4 V1 V2=> ?_;refine iR z4 ?_;have e:bindAll env ((x,val)::xs.zip rest)=(do storeName env x val;bindAll env (xs.zip rest)):=by
      dsimp only[bindAll];refine iR (b_ ..) ?_;simp only[bind_assoc,pure_bind]
     refine(iR e ?_:wpAny C.M A (bindAll env ((x,val)::xs.zip rest)) Q E s₁);exact ai (pe F K h1 V1 fun s2 X2 K2 F2=>ih ws rest lO s2 h2 (V2.mono X2.mono) F2 K2 (X.trans X2))
  exact iR UN <| binder xs vs vals DW _ mq V1 F0 (K.grow g1) (jX.refl F0.ownData)
 cases around with
 |none=>exact main _ rfl
 |some o=>exact main _ rfl
end
mutual
theorem vD{C:Cx}{σ τ:List Addr}{h:Heap}:∀{p:PV}{v:Value},VR C (σ++τ) h p v->below σ.length p=true->VR C σ h p v
 | .none,_,x,_=>by exact x
 | .bool b,_,x,_=>by exact x
 | .int i,_,x,_=>by exact x
 | .str l,_,x,_=>by exact x
 | .tup l,_,x,b=>by
  skip
  refine wF x fun a o vs z1 hn ho so r=> ?_;subst z1;exact Ak a o vs rfl (fun q=>hn (aY _ q)) ho so (m8 r b)
 | .list l,_,x,b=>by
  skip
  refine wF x fun a o vs z2 hn ho so r=> ?_;subst z2;exact Ak a o vs rfl (fun q=>hn (aY _ q)) ho so (m8 r b)
 | .lst k,_,x,b=>by
  have b:=bL b;refine jm x fun a z3 ha=> ?_;subst z3;exact⟨a,rfl,by replace ha:=(bf b)▸ha;exact ha⟩
 | .dct k,_,x,b=>by
  have b:=bL b;refine jm x fun a z4 ha=> ?_;subst z4;exact⟨a,rfl,by replace ha:=(bf b)▸ha;exact ha⟩
 | .iset l,_,x,_=>by
  refine qL x fun a o z5 hn r=> ?_;subst z5;exact BR a o rfl (fun q=>hn (aY _ q)) r
 | .cset l,_,x,_=>by
  refine qL x fun a o z6 hn r=> ?_;subst z6;exact BR a o rfl (fun q=>hn (aY _ q)) r
 | .bset b,_,x,_=>by
  refine qL x fun a o z7 hn r=> ?_;subst z7;exact BR a o rfl (fun q=>hn (aY _ q)) r
 | .fn n,_,x,_=>by exact x
 | .typ t,_,x,_=>by exact x
 | .rng a b,_,x,_=>by
  refine qL x fun a o z8 hn r=> ?_;refine iR z8 ?_;exact BR a o rfl (fun q=>hn (aY _ q)) r
theorem m8{C:Cx}{σ τ:List Addr}{h:Heap}:∀{l:List PV}{vs:List Value},jH C (σ++τ) h l vs->i_ σ.length l=true->jH C σ h l vs
 |[],_,x,_=>by exact x
 |_::_,_,x,b=>by
  rw[i_,aG]at b;refine qL x fun v r z9 x1 x2=> ?_;clear x;refine iR z9 ?_;exact BR v r rfl (vD x1 b.1) (m8 x2 b.2)
end
theorem sW{C:Cx}{σ τ:List Addr}{h:Heap}:∀{l:List (ah×PV)}{r:List (Str×Value)},lu C (σ++τ) h l r->i_ σ.length (l.map (·.2))=true->lu C σ h l r:=by
 intro L0
 induction L0 with
 |nil=>
  intro _ x _;exact x
 |cons s_ _ ih=>
  obtain⟨_,_⟩:=s_;intro _ x b;rw[aU,i_,aG]at b;refine J9 x fun y v r' kW e x1 x2=> ?_;clear x;refine iR kW ?_;exact ON y v r' rfl e (vD x1 b.1) (ih x2 b.2)
section
variable{C:Cx}{σ σ' τ:List Addr}{s s' s₁:Shared}{ρ kC:i8}{st ji:St}{A:Around}{n:Nat}{E:aa}{r:nI}{v:PV}
theorem A9(f:PV->Option PV){h:Heap}(hf:∀p q v,f p=some q->VR C (σ++τ) h p v->VR C σ h q v):∀{l m:List PV}{vs:List Value},mW f l=some m->jH C (σ++τ) h l vs->jH C σ h m vs:=by
 intro L0
 induction L0 with
 |nil=>
  intro m vs e x;refine jC (aj e) ?_;refine iR (x.nilE) ?_;exact jH.nil
 |cons a l ih=>
  intro m vs e x;refine iU e fun q h1 e=>jw e fun m' h2 e=> ?_;refine jC e ?_;refine qL x.consE fun v r lF x1 x2=> ?_;clear x e;refine iR lF ?_;exact jH.cons (hf _ _ _ h1 x1) (ih h2 x2)
theorem Fy(K:Ok C (σ++τ) s st):∀(fuel:Nat)(p q:PV)(v:Value),jh st σ.length fuel p=some q->VR C (σ++τ) s.heap p v->VR C σ s.heap q v:=by
 intro L0
 induction L0 with
 |zero=>
  intro p q v e _;exact nomatch e
 |succ fuel ih=>
  intro p q v e x;have same:∀{b:Bool},b=true->some p=some q->b=below σ.length p->VR C σ s.heap q v:=fun hb e h=>aj e▸vD x (h▸hb);cases p with
  |tup l=>
   refine jw e fun m h1 e=> ?_;subst e;refine oX x fun a o vs mH hn ho so r=> ?_;subst mH
   skip
   exact Ak a o vs rfl (fun z=>hn (aY _ z)) ho so (A9 _ ih h1 r)
  |list l=>
   refine jw e fun m h1 e=> ?_;subst e;refine mR x fun a o vs nh hn ho so r=> ?_;subst nh
   skip
   exact Ak a o vs rfl (fun z=>hn (aY _ z)) ho so (A9 _ ih h1 r)
  |lst k=>
   refine bc (p:=k<σ.length) (fun hk=> ?_) fun hk=> ?_
   ·exact same (aH hk) ((a_ hk).symm.trans e) rfl
   ·refine iU ((aS hk).symm.trans e) fun l hl e=>jw e fun m h1 e=> ?_;refine jC e ?_
    skip
    refine jm x fun a oU ha=> ?_;refine iR oU ?_;refine qL (K.cells k a _ ha (j_ hl)) fun o vs ho so r=> ?_
    skip
    refine(Ak a o vs rfl (fun z=> ?_) ho so (A9 _ ih h1 r));refine m9 (eX.mp z) fun j hj=> ?_;have hjl:=(ay.mp hj).1;have e1:=ay.mp ha;have e2:=ay.mp ((bf (l₂:=τ) hjl).trans hj);exact hk (vj K.nodup e1.1 e2.1 (e1.2.trans e2.2.symm)▸hjl)
  |dct k=>
   refine bc (p:=k<σ.length) (fun hk=> ?_) fun hk=> ?_
   ·exact same (aH hk) ((a_ hk).symm.trans e) rfl
   ·exact ku ((aS hk).symm.trans e)
  |_=>exact same rfl e rfl
theorem Ok.shrink(K:Ok C (σ++τ) s st)(hb:(st.take σ.length).all (jK σ.length)=true):Ok C σ s (st.take σ.length) where
 base:=K.base
 fresh0:=fun a ha=>K.fresh0 a (aY _ ha)
 len:=by
  have:=K.len
  replace this:=au▸this
  (refine iR bD ?_);exact(cI (ao (eu ..) (aE this))).symm
 nodup:=(c8.mp K.nodup).1
 cells:=fun k a c ha hc=>by
  have hk:=(ay.mp ha).1;have V9:(σ++τ)[k]? =some a:=by(refine iR (bf hk) ?_);exact ha
  have Kg:st[k]? =some c:=by replace hc:=(List.getElem?_take_of_lt hk)▸hc;exact hc
  have x:=K.cells k a c V9 Kg;have b:jK σ.length c=true:=bZ.mp hb c (bJ hc);cases c with
  |lst l=>
   exact qL x fun o vs ho so r=>BR o vs ho so (m8 r b)
  |dct l=>
   exact jm x fun kvs hd hp=>jt kvs hd (sW hp b)
  |bs o=>(clear K hb ha hk V9 hc Kg b;cases o)<;>exact x
theorem jX.shrink{own:Addr->Prop}(x:jX own σ s (σ++τ) s'):jX own σ s σ s':=⟨⟨[],by simp⟩,fun ζ p q=>absurd p q,x.keep,x.alive,x.gens,x.os⟩
theorem tS{own:Addr->Prop}{w:PV}{jQ:St}{val:Value}(K0:Ok C σ s st)(K:Ok C σ' s' ji)(X:jX own σ s σ' s')(hx:finish st.length ji v=some (w,jQ))(V:VR C σ' s'.heap v val):
  jX own σ s σ s'/\Ok C σ s' jQ/\VR C σ s'.heap w val:=by
 refine m9 X.pre fun τ qb=> ?_;subst qb;refine kO hx fun q hx=>jw hx fun u h1 e=> ?_;clear hx;clear hx;cases e;rw[<-K0.len]at h1 q|-;exact tZ X.shrink (K.shrink (jA q).2) (Fy K 6 v _ val h1 V)
end
section
variable{C:Cx}{sc:Scope}{env:Env}{σ σ' jN lX:List Addr}{s s' s₁ j5:Shared}{ρ kC:i8}{st ji:St}{A:Around}{n:Nat}{E:aa}{r:nI}{v:PV}{fl:jf}
theorem zV{f:Flow}{X:Prop}{R:Result->Shared->Prop}(fR:Ln C σ s.heap fl f)(h1:Gy fl=none->X)(h2:∀YL,Gy fl=some YL->∀f,Ln C σ s.heap YL f->R (.ok f) s):
  (match(generalizing:=false) f with| .next| .cont=>X| .brk=>R (.ok .next) s| .ret v=>R (.ok (.ret v)) s):=by
 cases fl with
 |ret v=>(refine jm fR fun val z1 V=> ?_;refine iR z1 ?_);exact h2 _ rfl _ (jt val rfl V)
 |next=>obtain rfl:f= .next:=fR;exact h1 rfl
 |cont=>obtain rfl:f= .cont:=fR;exact h1 rfl
 |brk=>(clear h1;obtain rfl:f= .brk:=fR);exact h2 _ rfl _ rfl
theorem pg{g:Scope->Stmt->i8->St->Option (jf×i8×St)}(S:TQ C n g)(hr:ki A n):∀(body:List Stmt)(ρ:i8)(st:St)(q:jf×i8×St)(σ:List Addr)(s:Shared)(Q:Flow->Shared->Prop),
  i0 (g sc) body ρ st=some q->iZ C sc env σ s.heap ρ->Ok C σ s st->KS C sc env σ s q.2.2 q.2.1 q.1 Q->wpAny C.M A (execs body env) Q E s:=by
 intro L0
 induction L0 with
 |nil=>
  intro ρ st q σ s Q hx F K h;obtain rfl:=aj hx;exact wpAny_execs_nil (h _ σ s (jX.refl F.ownData) K F rfl)
 |cons e rest ih=>
  intro ρ st q σ s Q hx F K h;refine iU hx fun p h1 hx=> ?_;obtain⟨f1,lO,st1⟩:=p;refine wpAny_execs_cons (S sc e ρ st f1 lO st1 h1 A env σ s _ E hr F K fun fv kg t1 X1 K1 F1 fR=> ?_);cases f1 with
  |next=>(clear F K h1;obtain rfl:fv= .next:=fR);exact ih lO st1 q kg t1 Q hx F1 K1 (h.after X1)
  |brk=>(clear S hr F K h1;obtain rfl:fv= .brk:=fR);(obtain rfl:=aj hx);exact h _ kg t1 X1 K1 F1 rfl
  |cont=>(clear S hr F K h1;obtain rfl:fv= .cont:=fR);(obtain rfl:=aj hx);exact h _ kg t1 X1 K1 F1 rfl
  |ret w=>(refine jm fR fun val z2 V=> ?_;(clear S hr ih F K h1 fR;refine iR z2 ?_));(obtain rfl:=aj hx);exact h _ kg t1 X1 K1 F1 (jt val rfl V)
inductive WY(C:Cx)(sc:Scope)(env:Env)(T:i8->St->Option (Bool×St))(B:i8->St->Option (jf×i8×St))(q:jf×i8×St)(σ:List Addr)(s:Shared)(m:Nat)(s₁:Shared):Prop
 |mk (jN:List Addr) (st1:St) (lO:i8):mX T B m lO st1=some q->iZ C sc env jN s₁.heap lO->Ok C jN s₁ st1->jX (own sc env) σ s jN s₁->WY C sc env T B q σ s m s₁
theorem ID(S:nJ C n r){t:Expr}{body:List Stmt}{k:Nat}{q:jf×i8×St}{pos:Pos}(hx:mX (r.T sc t) (i0 (r.S sc) body) k ρ st=some q):tC C n sc (.While t body [] pos) ρ st q.1 q.2.1 q.2.2:=fun A env σ s Q E hr F K h=>by
 refine wpAny_While (codeAny_whileLoop (WY C sc env (r.T sc t) (i0 (r.S sc) body) q σ s) ?_ k ⟨σ,st,ρ,hx,F,K,jX.refl F.ownData⟩);rintro m s₁ ⟨jN,st1,lO,hx,F1,K1,X1⟩;cases m with
 |zero=>exact ku hx
 |succ m=>
  refine iU hx fun p h1 hx=> ?_;clear F K;obtain⟨b,jQ⟩:=p;refine S.T sc t lO _ _ _ h1 A env jN s₁ _ _ hr F1 K1 fun qv t2 X2 K2=> ?_;have F2:=F1.ext X2;have Z0:=X1.trans (F1.weaken X2);cases b with
  |false=>(obtain rfl:=aj hx);exact wpAny_execs_nil (h _ qv t2 Z0 K2 F2 rfl)
  |true=>
   exact iU hx fun p h3 hx=>pg S.S hr body lO jQ p qv t2 _ h3 F2 K2 fun fv SN t3 X3 K3 F3 fR=>zV (R:=fun r s=>match r with| .ok f=>Q f s| .error e=>cameBackBy C.M A env E e s) fR (fun e=>⟨m,fG _,SN,p.2.2,p.2.1,by replace hx:=e▸hx;exact hx,F3,K3,Z0.trans X3⟩) fun YL e f ZV=>by
    replace hx:=e▸hx
    obtain rfl:=aj hx;exact h _ SN t3 (Z0.trans X3) K3 F3 ZV
theorem Ok.notW(K:Ok C σ s st){W:Addr->Prop}(hW:rz W s):∀a,W a->a∉σ:=fun a ha hm=>by
 refine jm (hW a ha) fun o h1 h2=>jm (K.has hm) fun o' h3 h4=> ?_
 replace h3:=h1▸h3
 obtain rfl:=aj h3;clear K hW ha hm h1;rcases h4 with⟨x,k,e⟩|⟨x,k,e⟩|⟨x,k,t,e⟩
 ·exact h2.val (.inl (DO _ _ e))
 ·exact h2.dict _ _ e
 ·exact h2.val (.inr (.inl (RK _ _ _ e)))
inductive TR(C:Cx)(sc:Scope)(env:Env)(B:i8->St->Option (jf×i8×St))(target:Expr)(fit:St->Bool)(l:List PV)(q:jf×i8×St)(kQ:St->Prop)(mK:Nat->List Addr->Shared->Prop)(σ:List Addr)(s:Shared)(m:Nat)(s₁:Shared):Prop
 |mk (i:Nat) (jN:List Addr) (st1:St) (lO:i8):m=l.length-i->i<=l.length->qy B sc target fit (l.drop i) lO st1=some q->kQ st1->iZ C sc env jN s₁.heap lO->Ok C jN s₁ st1->mK i jN s₁->jX (own sc env) σ s jN s₁->TR C sc env B target fit l q kQ mK σ s m s₁
theorem o9{t:Expr}(h:kX sc st t v ρ=some kC):(∃es k p,t= .Tuple es k p)\/∃x p,t= .Name x p:=by
 cases t with
 |Tuple=>exact .inl (RK _ _ _ rfl)
 |Name=>exact .inr (DO _ _ rfl)
 |_=>exact ku h
theorem Hj(U:nk C)(S:nJ C n r)(hr:ki A n){target:Expr}{body:List Stmt}{l:List PV}{fit:St->Bool}{I:Addr}{W:Addr->Prop}{kQ:St->Prop}{mK:Nat->List Addr->Shared->Prop}{mD:Nat->Value->List Addr->Shared->Prop}{R:Result->Shared->Prop}{q:jf×i8×St}
  (M:MW C l I W kQ mK mD) (hx:qy (i0 (r.S sc) body) sc target fit l ρ st=some q) (lH:∀jQ,fit jQ=true->kQ jQ) (YK:kQ st)
  (F:iZ C sc env lX j5.heap ρ) (K:Ok C lX j5 st) (P0:mK 0 lX j5) (X0:jX (own sc env) jN s₁ lX j5) (j6:∀b o,C.h₀.get? b=some o->s₁.heap.get? b=some o) (hW:∀a,W a->s₁.heap.get? a=none)
  (ht:isTuple target=true\/∀i v σ s,mD i v σ s->mK i σ s)
  (hR:KS C sc env jN s₁ q.2.2 q.2.1 q.1 fun f s=>R (.ok f) s):codeAny C.M A (.forLoop target (.ref I) body [] env) R j5:=by
 have h0:∀a,W a->C.h₀.get? a=none:=fun a ha=>by
  cases e:C.h₀.get? a with
  |none=>rfl
  |some o=>have:=j6 a o e;rw[hW a ha]at this;exact ku this
 refine codeAny_forLoop_any (TR C sc env (i0 (r.S sc) body) target fit l q kQ mK jN s₁) ?_ l.length ⟨0,lX,st,ρ,rfl,c9 _,hx,YK,F,K,P0,X0⟩;rintro m nL ⟨i,lM,uM,SO,rfl,hi,hx,hC,F3,K3,P3,X3⟩;have HH:=M.objs i lM nL P3;by_cases jS:i<l.length
 ·rw[bP jS]at hx;refine iU hx fun VA h4 hx=>iU hx fun p h5 hx=>M.item A i lM nL uM _ _ hr.hh jS K3 hC P3 fun val w s4 hq V4 Pm R4=> ?_;obtain rfl:=aj ((aO jS).symm.trans hq);have F4:=F3.raw R4 HH;have K4:=K3.raw R4 HH h0 (K3.notW HH);have X4:=X3.raw R4 hW;have go:∀s5,mK (i+1) lM s5->iZ C sc env lM s5.heap SO->Ok C lM s5 uM->jX (own sc env) jN s₁ lM s5->VR C lM s5.heap l[i] val->
    wpAny C.M A (assign target env val) (fun ζ j5=>wpAny C.M A (execs body env) (fun f nL=>match f with
      | .next| .cont=>∃m,m<l.length-i/\TR C sc env (i0 (r.S sc) body) target fit l q kQ mK jN s₁ m nL
      | .brk=>R (.ok .next) nL
      | .ret v=>R (.ok (.ret v)) nL) (notedBy C.M A env fun e s'=>R (.error e) s') j5) (notedBy C.M A env fun e s'=>R (.error e) s') s5:=by
   intro s5 P5 F5 K5 X5 V5;have Wb:=M.objs _ _ _ P5;refine tU U hr.hh F5 K5 h4 V5 fun s6 X6 K6 F6=> ?_;have P6:mK (i+1) lM s6:=M.keep (own sc env) _ _ _ _ _ X6 (fun a ha=>⟨F5.notW Wb a ha,K5.notW Wb a ha⟩) P5;have hI6:=M.objs _ _ _ P6;refine pg S.S hr body VA uM p lM s6 _ h5 F6 K6 fun fv Vh s7 X7 K7 F7 fR=> ?_;have P7:mK (i+1) Vh s7:=M.keep (own sc env) _ _ _ _ _ X7 (fun a ha=>⟨F6.notW hI6 a ha,K6.notW hI6 a ha⟩) P6;have Wf:=(X5.trans X6).trans X7;refine zV (R:=R) fR (fun e=> ?_) fun YL e f ZV=> ?_
   ·rw[e]at hx;exact kO hx fun hf hx=>⟨l.length-(i+1),ig _ _ jS,⟨i+1,Vh,_,_,rfl,jS,hx,lH _ hf,F7,K7,P7,Wf⟩⟩
   ·rw[e]at hx;obtain rfl:=aj hx;exact hR _ Vh s7 Wf K7 F7 ZV
  rcases o9 h4 with⟨es,k,p,rfl⟩|⟨x,p,rfl⟩
  ·refine M.go A es k p (i+1) val lM s4 _ _ Pm fun s5 P5 R5=> ?_;have OW:=M.objsM _ _ _ _ Pm;exact go s5 P5 (F4.raw R5 OW) (K4.raw R5 OW h0 (K4.notW OW)) (X4.raw R5 hW) (V4.mono (R5.mono OW))
  ·exact ak (go s4 (ht.elim (fun q=>nomatch q) id _ _ _ _ Pm) F4 K4 X4 V4)
 ·rw[dm (bw jS)]at hx;obtain rfl:=aj hx;obtain rfl:=dz hi (bw jS);exact M.done A lM nL _ _ _ hr.hh K3 hC P3 fun s4 R4=>wpAny_execs_nil (hR _ lM s4 (X3.raw R4 hW) (K3.raw R4 HH h0 (K3.notW HH)) (F3.raw R4 HH) rfl)
end
theorem oK{p:PV}{st ji:St}(h:kI p st ji=true):contents ji p=contents st p:=by
 cases p with
 |lst k=>exact @bL (j7 ji k=j7 st k) (Classical.propDecidable _) h
 |_=>rfl
section
variable{C:Cx}{sc:Scope}{env:Env}{σ σ' jN lX:List Addr}{s s' s₁ j5:Shared}{ρ kC:i8}{st ji:St}{A:Around}{n:Nat}{E:aa}{r:nI}{v:PV}{fl:jf}
theorem E3(a b:Int):sI a b=xj a 1 (b-a).toNat:=by
 apply dU;intro i _;exact iR (Int.mul_one ..) rfl
theorem fresh_size(s:Shared):s.heap.get? s.heap.objs.size=none:=lE (aK _)
theorem CK{p:PV}{l:List PV}{val:Value}{Q:aa}(hh:A.handled=none)(K:Ok C σ s st)(hc:contents st p=some l)(V:VR C σ s.heap p val)
  (h:∀I W kQ mK mD s',MW C l I W kQ mK mD->(∀i v σ s,mD i v σ s->mK i σ s)->(∀ji,contents ji p=some l->kQ ji)->(∀a,W a->s.heap.get? a=none)->je s s'->mK 0 σ s'->Q (.ref I) s'):wpAny C.M A (pyIter val) Q E s:=by
 have lst:pX st p l->(∀ji,contents ji p=some l->uS ji p=some l)->wpAny C.M A (pyIter val) Q E s:=fun hp hc=>by
  refine jx K hp V fun a o vs z1 ho so r=> ?_;subst z1;refine gb (so.isList ho) ?_;have g:=je.push s {cls:=.type "list_iterator",data:=.fields #[.ref a,.int 0 0]};exact h _ _ _ _ _ _ (MW.list (a:=a)) (fun ζ ζ ζ ζ z=>z) hc (fun b hb=>by(refine iR hb ?_);exact fresh_size s) g
   ⟨(sY _ (aF _ rfl) rfl rfl),V.grow g⟩
 clear hh K;rcases BL hc with⟨a,b,rfl,rfl⟩|rfl|rfl|⟨k,rfl,hk⟩
 ·refine Y_ (tK V) fun x t u w z2 hn hr h1 h2 h3 h4=> ?_;refine iR z2 ?_;refine wpAny_pyIter_range hr (small_one (f7 (by decide) h1) (by lia) (f7 (by decide) h3) (by lia)) <| iR ((rangeSize_one ..).trans (Tg a b):Builtin.Range.rangeSize a b 1=((b-a).toNat:Int)) ?_
  rw[E3]at h;have g:=je.push s {cls:=.type "range_iterator",data:=.fields #[rawInt a,rawInt ((b-a).toNat:Int),rawInt 1]};refine h _ _ _ _ _ _ (MW.range a 1 (b-a).toNat) (fun ζ ζ ζ ζ z=>z) (fun ζ ζ=>trivial) (fun b hb=>by(refine iR hb ?_);exact fresh_size s) g ?_;refine(?_:IsRangeIter _ _ _ _ _);have:=aF s.heap (o:={cls:=.type "range_iterator",data:=.fields #[rawInt a,rawInt ((b-a).toNat:Int),rawInt 1]}) rfl
  (simpa using this)
 ·refine oX V fun a o vs z3 ζ ho so r=> ?_;subst z3;refine wpAny_pyIter_tuple (so.isTuple ho) ?_;have g:=je.push s {cls:=.type "tuple_iterator",data:=.fields #[.ref a,.int 0 0]};exact h _ _ _ _ _ _ (MW.tuple (a:=a)) (fun ζ ζ ζ ζ z=>z) (fun ζ ζ=>trivial) (fun b hb=>by(refine iR hb ?_);exact fresh_size s) g
   ⟨(sY _ (aF _ rfl) rfl rfl),V.grow g⟩
 ·exact lst (.inl rfl) fun ζ z=>z
 ·exact lst (.inr (jt k rfl hk)) fun ζ z=>z
end
theorem BN(elt target iter:Expr)(scope:Scope)(pos:Pos)(it acc:Value)(env:Env)(ifs:List Expr):
  compTurn (.SetComp elt [⟨target,iter,ifs,0⟩] scope pos) 0 it acc env=(do
   standAt iter.pos
   match<-pyNext it with
   |none=>pure (.done .next)
   |some v=>
    letOwnedTupleGo target it v
    assign target env v
    let mut ok:=true
    for c in ifs do
     if ok then ok<-isTrue c env (eval c env)
    if ok then
     (do let v<-eval elt env;standAt elt.pos;let _<-call (.builtin "set.add") [acc,v])
    again (.compLoop (.SetComp elt [⟨target,iter,ifs,0⟩] scope pos) 0 it acc env)):=by rfl
section
variable{prog:Program}{w:World}{A:Around}{R:Result->Shared->Prop}{s:Shared}
theorem ze{elt target iter:Expr}{ifs:List Expr}{scope:Scope}{pos:Pos}{it acc:Value}{env:Env}(I:Nat->Shared->Prop)
  (turn:∀n s,I n s->wpAny (model prog w) A (pyNext it) (fun r s₁=>match r with
   |none=>R (.ok .next) s₁
   |some v=>wpAny (model prog w) A (letOwnedTupleGo target it v) (fun ζ xh=>wpAny (model prog w) A (assign target env v) (fun ζ j5=>
     wpAny (model prog w) A (forIn ifs true fun c r=>if r=true then do let ok<-isTrue c env (eval c env);pure (ForInStep.yield ok)else pure (ForInStep.yield r)) (fun ok nL=>
      if ok=true then wpAny (model prog w) A (eval elt env) (fun x As=>
       wpAny (model prog w) A (call (.builtin "list.append") [acc,x]) (fun ζ D4=>∃m,m<n/\I m D4) (notedBy (model prog w) A env fun e s'=>R (.error e) s') As) (notedBy (model prog w) A env fun e s'=>R (.error e) s') nL
      else∃m,m<n/\I m nL) (notedBy (model prog w) A env fun e s'=>R (.error e) s') j5) (notedBy (model prog w) A env fun e s'=>R (.error e) s') xh) (notedBy (model prog w) A env fun e s'=>R (.error e) s') s₁) (notedBy (model prog w) A env fun e s'=>R (.error e) s') s)
  (n:Nat) (h:I n s):
  codeAny (model prog w) A (.compLoop (.ListComp elt [⟨target,iter,ifs,0⟩] scope pos) 0 it acc env) R s:=by
 refine codeAny_loop rfl I (fun n s hI=> ?_) n h;refine(wpAny_noted ?_:wpAny _ A ((compTurn (.ListComp elt [⟨target,iter,ifs,0⟩] scope pos) 0 it acc env).onRaise (fun x=>do noteFrame x env;theTreesLotGoes x)) _ _ s);refine iR (compTurn_list ..) <| ai (cj (ai (bO (turn n s hI) (fun r s₁ j6=> ?_) fun ζ ζ h'=>h')))
 cases r with
 |none=>exact ak j6
 |some v=>
  refine ai (bO j6 (fun ζ xh K_=> ?_) fun ζ ζ h'=>h');refine ai (bO K_ (fun ζ j5 oV=>ai (bO oV (fun ok nL Kp=> ?_) fun ζ ζ h'=>h')) fun ζ ζ h'=>h');cases ok with
  |false=>exact ak ⟨rfl,Kp⟩
  |true=>
   exact ai (ai (bO Kp (fun x As Tq=>ai (bO Tq (fun ζ D4 Tp=>ak (ak ⟨rfl,Tp⟩)) fun ζ ζ h'=>h')) fun ζ ζ h'=>h'))
theorem yH{elt target iter ifs rest scope pos it acc env}
  (h0:codeAny (model prog w) A (.compLoop (.ListComp elt (⟨target,iter,ifs,0⟩::rest) scope pos) 0 it acc env) R s)
  (h:wpAny (model prog w) A (pyIter it) (fun OM s'=>codeAny (model prog w) A (.compLoop (.ListComp elt (⟨target,iter,ifs,0⟩::rest) scope pos) 0 OM acc env) R s')
   (notedBy (model prog w) A env fun x s'=>R (.error x) s') s):
  codeAny (model prog w) A (.compStart (.ListComp elt (⟨target,iter,ifs,0⟩::rest) scope pos) 0 it acc env) R s:=by
 refine gP <| (?_:wpAny _ _ ((compStart (.ListComp elt (⟨target,iter,ifs,0⟩::rest) scope pos) 0 it acc env).onRaise (fun x=>do noteFrame x env;standAt theWindowsPlace)) _ _ s)
 refine wpAny_notedAt <| (?_:wpAny _ _ (ask >>= _) _ _ s)
 refine ai (cW (wpAny_ite ?_));split
 ·first
   |exact ai (ak (ak (And.intro rfl h0)))
   |exact ak (And.intro rfl h0)
 ·first
   |exact ai (dS (ai (cj (ai (bO h (fun OM s' h'=>ak (And.intro rfl h')) fun ζ ζ x=>x)))))
   |(refine ai (dS ?_);show wpAny _ _ (standAt iter.pos >>= _) _ _ s;exact ai (cj (ai (bO h (fun OM s' h'=>ak (And.intro rfl h')) fun ζ ζ x=>x))))
theorem BO{elt target iter:Expr}{ifs:List Expr}{scope:Scope}{pos:Pos}{it acc:Value}{env:Env}(I:Nat->Shared->Prop)
  (turn:∀n s,I n s->wpAny (model prog w) A (pyNext it) (fun r s₁=>match r with
   |none=>R (.ok .next) s₁
   |some v=>wpAny (model prog w) A (letOwnedTupleGo target it v) (fun ζ xh=>wpAny (model prog w) A (assign target env v) (fun ζ j5=>
     wpAny (model prog w) A (forIn ifs true fun c r=>if r=true then do let ok<-isTrue c env (eval c env);pure (ForInStep.yield ok)else pure (ForInStep.yield r)) (fun ok nL=>
      if ok=true then wpAny (model prog w) A (eval elt env) (fun x As=>
       wpAny (model prog w) A (call (.builtin "set.add") [acc,x]) (fun ζ D4=>∃m,m<n/\I m D4) (notedBy (model prog w) A env fun e s'=>R (.error e) s') As) (notedBy (model prog w) A env fun e s'=>R (.error e) s') nL
      else∃m,m<n/\I m nL) (notedBy (model prog w) A env fun e s'=>R (.error e) s') j5) (notedBy (model prog w) A env fun e s'=>R (.error e) s') xh) (notedBy (model prog w) A env fun e s'=>R (.error e) s') s₁) (notedBy (model prog w) A env fun e s'=>R (.error e) s') s)
  (n:Nat) (h:I n s):
  codeAny (model prog w) A (.compLoop (.SetComp elt [⟨target,iter,ifs,0⟩] scope pos) 0 it acc env) R s:=by
 refine codeAny_loop rfl I (fun n s hI=> ?_) n h;refine(wpAny_noted ?_:wpAny _ A ((compTurn (.SetComp elt [⟨target,iter,ifs,0⟩] scope pos) 0 it acc env).onRaise (fun x=>do noteFrame x env;theTreesLotGoes x)) _ _ s);refine iR (BN ..) <| ai (cj (ai (bO (turn n s hI) (fun r s₁ j6=> ?_) fun ζ ζ h'=>h')))
 cases r with
 |none=>exact ak j6
 |some v=>
  refine ai (bO j6 (fun ζ xh K_=> ?_) fun ζ ζ h'=>h');refine ai (bO K_ (fun ζ j5 oV=>ai (bO oV (fun ok nL Kp=> ?_) fun ζ ζ h'=>h')) fun ζ ζ h'=>h');cases ok with
  |false=>exact ak ⟨rfl,Kp⟩
  |true=>
   exact ai (ai (bO Kp (fun x As Tq=>ai (cj (ai (bO Tq (fun ζ D4 Tp=>ak (ak ⟨rfl,Tp⟩)) fun ζ ζ h'=>h')))) fun ζ ζ h'=>h'))
theorem zd{elt target iter ifs rest scope pos it acc env}
  (h0:codeAny (model prog w) A (.compLoop (.SetComp elt (⟨target,iter,ifs,0⟩::rest) scope pos) 0 it acc env) R s)
  (h:wpAny (model prog w) A (pyIter it) (fun OM s'=>codeAny (model prog w) A (.compLoop (.SetComp elt (⟨target,iter,ifs,0⟩::rest) scope pos) 0 OM acc env) R s')
   (notedBy (model prog w) A env fun x s'=>R (.error x) s') s):
  codeAny (model prog w) A (.compStart (.SetComp elt (⟨target,iter,ifs,0⟩::rest) scope pos) 0 it acc env) R s:=by
 refine gP <| (?_:wpAny _ _ ((compStart (.SetComp elt (⟨target,iter,ifs,0⟩::rest) scope pos) 0 it acc env).onRaise (fun x=>do noteFrame x env;standAt theWindowsPlace)) _ _ s)
 refine wpAny_notedAt <| (?_:wpAny _ _ (ask >>= _) _ _ s)
 refine ai (cW (wpAny_ite ?_));split
 ·first
   |exact ai (ak (ak (And.intro rfl h0)))
   |exact ak (And.intro rfl h0)
 ·first
   |exact ai (dS (ai (cj (ai (bO h (fun OM s' h'=>ak (And.intro rfl h')) fun ζ ζ x=>x)))))
   |(refine ai (dS ?_);show wpAny _ _ (standAt iter.pos >>= _) _ _ s;exact ai (cj (ai (bO h (fun OM s' h'=>ak (And.intro rfl h')) fun ζ ζ x=>x))))
end
noncomputable def t_(env:Env):List (Str×NameKind)->List (Str×Addr)->List (Str×Addr)
 |[],acc=>acc
 |(x,k)::r,acc=>if k== .free then t_ env r ((x,(env.cells.lookup x).getD 0)::acc)else t_ env r acc
theorem zf{scope:Scope}{env:Env}(h:∀x,(x,NameKind.free)∈scope.names->∃c,env.cells.lookup x=some c):closureFor scope env=pure (t_ env scope.names []):=by
 have key:∀(l:List (Str×NameKind))(acc:List (Str×Addr)),(∀x,(x,NameKind.free)∈l->∃c,env.cells.lookup x=some c)->
   (forIn l acc fun(x:Str×NameKind)(r:List (Str×Addr))=>(match x with
    |(name,kind)=>if(kind==NameKind.free)=true then do let __do_lift<-cellOf env name;pure (ForInStep.yield ((name,__do_lift)::r))else pure (ForInStep.yield r):Sem (ForInStep (List (Str×Addr)))))=pure (t_ env l acc):=by
  intro l
  induction l with
  |nil=>intro acc _;rfl
  |cons p r ih=>
   intro acc hl;obtain⟨x,k⟩:=p;refine iR (b_ ..) ?_;dsimp only;dsimp only[t_];by_cases hk:(k==NameKind.free)=true
   ·refine iR (a_ hk) <| iR (a_ hk) ?_
    have qu:=aR.mp hk;subst qu;obtain⟨c,hc⟩:=hl x (aT ..);have:cellOf env x=pure c:=by unfold cellOf;(refine iR hc ?_;exact rfl)
    exact iR this <| iR hc <| ih _ fun y hy=>hl y (aq _ hy)
   ·exact iR (aS hk) <| iR (aS hk) <| ih _ fun y hy=>hl y (aq _ hy)
 have:=aQ (fun t:Sem (List (Str×Addr))=>t >>= pure) (key scope.names [] h)
 skip
 exact this
theorem xS(env:Env):∀(l:List (Str×NameKind))(acc:List (Str×Addr)),t_ env l acc=t_ env l []++acc:=by
 intro L0
 induction L0 with
 |nil=>
  intro _;exact rfl
 |cons s_ r ih=>
  obtain⟨x,k⟩:=s_;intro acc;dsimp only[t_];split
  ·refine iR (ih ((x,_)::acc)) <| iR (ih [(x,_)]) ?_
   simp
  ·exact ih acc
theorem N8(env:Env):∀{l:List (Str×NameKind)}{x:Str}{c:Addr},(x,c)∈t_ env l []->c=(env.cells.lookup x).getD 0:=by
 intro L0
 induction L0 with
 |nil=>
  intro _ _ h;cases h
 |cons s_ r ih=>
  obtain⟨y,k⟩:=s_;intro x c h;dsimp only[t_]at h;split at h
  ·rw[xS]at h;refine cg (bg.mp h) (fun h=> ?_) fun h=> ?_
   ·exact ih h
   ·have:=aA.mp h;cases this;rfl
  ·exact ih h
theorem CS(env:Env):∀{l:List (Str×NameKind)}{x:Str},(x,NameKind.free)∈l->∃c,(x,c)∈t_ env l []
 |(y,k)::r,x,h=>by
  dsimp only[t_];refine cg (aV.mp h) (fun e=> ?_) fun h=> ?_
  ·cases e;exact iR (a_ (cO _) ..) <| iR (xS ..) <| ⟨_,dJ _ (aA.mpr rfl)⟩
  ·refine m9 (CS env h) fun c hc=> ?_;clear h;split
   ·exact iR (xS ..) <| ⟨c,aY _ hc⟩
   ·exact⟨c,hc⟩
theorem DF{env:Env}{l:List (Str×NameKind)}{x:Str}{c:Addr}(h:(x,NameKind.free)∈l)(hc:env.cells.lookup x=some c):(t_ env l []).lookup x=some c:=by
 refine m9 (CS env h) fun d hd=>m9 (pP hd) fun d' RQ=> ?_;have:=N8 env (mem_of_lookup RQ)
 replace this:=hc▸this
 exact iR RQ <| iR this rfl
theorem Ab{sc:Scope}{x:Str}:∀{ρ:i8},jW x (freeOf sc ρ)=if i9 sc x==some .free then jW x ρ else none:=by
 intro L0
 induction L0 with
 |nil=>
  dsimp only[freeOf,jW];split<;>rfl
 |cons s_ r ih=>
  obtain⟨y,v⟩:=s_;dsimp only[freeOf];refine bc (p:=(i9 sc y==some .free)=true) (fun hy=> ?_) fun hy=> ?_
  ·refine iR (a_ hy) ?_;dsimp only[jW];refine bc (p:=y=x) (fun OO=> ?_) fun OO=> ?_
   ·refine jC OO ?_;refine iR (a_ (cO y)) <| iR (a_ hy) ?_
    simp
   ·have:(y==x)=false:=aL.mpr OO;simp only[this,bz,d7];exact ih
  ·refine iR (aS hy) <| bc (p:=y=x) (fun OO=> ?_) fun OO=> ?_
   ·subst OO;exact iR ih <| iR (aS hy) <| iR (aS hy) rfl
   ·have:(y==x)=false:=aL.mpr OO;refine iR ih ?_
    conv=>rhs;unfold jW
    simp only[this,bz,d7]
section
variable{C:Cx}{sc:Scope}{env:Env}{σ σ' jN lX:List Addr}{s s' s₁ j5:Shared}{ρ kC:i8}{st ji:St}{A:Around}{n:Nat}{E:aa}{r:nI}{v:PV}{fl:jf}
theorem Ic{env:Env}:∀(ifs:List Expr),(forIn ifs false fun c r=>if r=true then do let ok<-isTrue c env (eval c env);pure (ForInStep.yield ok)else pure (ForInStep.yield r):Sem Bool)=pure false:=by
 intro L0
 induction L0 with
 |nil=>
  exact rfl
 |cons e r ih=>
  exact iR (b_ ..) ih
theorem Ib{g:Scope->Expr->i8->St->Option (Bool×St)}(S:TP C n g)(hr:ki A n):∀(ifs:List Expr)(st:St)(q:Bool×St)(σ:List Addr)(s:Shared)(Q:Bool->Shared->Prop),
  rI (g sc) ρ ifs st=some q->iZ C sc env σ s.heap ρ->Ok C σ s st->KT C σ s q.2 q.1 Q->
  wpAny C.M A (forIn ifs true fun c r=>if r=true then do let ok<-isTrue c env (eval c env);pure (ForInStep.yield ok)else pure (ForInStep.yield r)) Q E s:=by
 intro L0
 induction L0 with
 |nil=>
  intro st q σ s Q hx F K h;obtain rfl:=aj hx;exact ak (h σ s jX.rfl' K)
 |cons e rest ih=>
  intro st q σ s Q hx F K h;refine iU hx fun p h1 hx=> ?_;obtain⟨c,s1⟩:=p;refine iR (b_ ..) ?_;simp only[iH,bind_assoc,pure_bind];refine ai (S sc e ρ _ _ _ h1 A env σ s _ E hr F K fun kg t1 X1 K1=> ?_);cases c with
  |true=>exact ih s1 q kg t1 Q hx (F.ext X1) K1 (h.after X1)
  |false=>
   obtain rfl:=aj hx;exact iR (Ic ..) <| ak (h kg t1 X1 K1)
theorem jX.idx{own:Addr->Prop}(x:jX own σ s σ' s'){k:Nat}{a:Addr}(h:σ[k]? =some a):σ'[k]? =some a:=by
 refine m9 x.pre fun t z1=> ?_;clear x;refine iR z1 ?_;refine iR (bf (ay.mp h).1) ?_;exact h
def Puts(C:Cx)(A:Around)(put:PV->St->Option St)(N:Nat)(D:Addr)(id:String):Prop:=
 ∀(σ:List Addr)(s:Shared)(st ji:St)(x:PV)(xv:Value)(Q:aa)(E:aa),put x st=some ji->Ok C σ s st->σ[N]? =some D->VR C σ s.heap x xv->
  (∀v σ' s',jX jP σ s σ' s'->Ok C σ' s' ji->Q v s')->wpAny C.M A (call (.builtin id) [.ref D,xv]) Q E s
theorem IV{N:Nat}{D:Addr}(hh:A.handled=none):Puts C A (putL N) N D "list.append":=by
 intro σ s st ji x xv Q E hx K hD V h;refine iU hx fun l hl hx=>kO hx fun hs e=> ?_;clear hx;obtain rfl:=aj e;exact(vV (C:=C) (j_ hl) hs).2.2 A σ s (.ref D) [xv] Q E hh K (by skip;exact(jt D rfl hD)) (jH.cons V jH.nil) fun val σ' s' X K' ζ=>h val σ' s' X K'
def Oo(C:Cx)(A:Around)(id:String)(elt target:Expr)(ifs:List Expr)(it acc:Value)(env:Env)(R:Result->Shared->Prop)(I:Nat->Shared->Prop)(n:Nat)(s:Shared):Prop:=
 wpAny C.M A (pyNext it) (fun r s₁=>match r with
   |none=>R (.ok .next) s₁
   |some v=>wpAny C.M A (letOwnedTupleGo target it v) (fun ζ xh=>wpAny C.M A (assign target env v) (fun ζ j5=>
     wpAny C.M A (forIn ifs true fun c r=>if r=true then do let ok<-isTrue c env (eval c env);pure (ForInStep.yield ok)else pure (ForInStep.yield r)) (fun ok nL=>
      if ok=true then wpAny C.M A (eval elt env) (fun x As=>
       wpAny C.M A (call (.builtin id) [acc,x]) (fun ζ D4=>∃m,m<n/\I m D4) (notedBy C.M A env fun e s'=>R (.error e) s') As) (notedBy C.M A env fun e s'=>R (.error e) s') nL
      else∃m,m<n/\I m nL) (notedBy C.M A env fun e s'=>R (.error e) s') j5) (notedBy C.M A env fun e s'=>R (.error e) s') xh) (notedBy C.M A env fun e s'=>R (.error e) s') s₁) (notedBy C.M A env fun e s'=>R (.error e) s') s
def uF(C:Cx)(A:Around)(id:String)(elt target:Expr)(ifs:List Expr)(it acc:Value)(env:Env)(code:Code):Prop:=
 ∀(R:Result->Shared->Prop)(s:Shared)(I:Nat->Shared->Prop),(∀n s,I n s->Oo C A id elt target ifs it acc env R I n s)->∀n,I n s->codeAny C.M A code R s
inductive KL(C:Cx)(sc:Scope)(env:Env)(P:List PV->i8->St->Option St)(l:List PV)(rC:St)(kQ:St->Prop)(mK:Nat->List Addr->Shared->Prop)(N:Nat)(D:Addr)(σ:List Addr)(s:Shared)(m:Nat)(s₁:Shared):Prop
 |mk (i:Nat) (jN:List Addr) (st1:St) (lO:i8):m=l.length-i->i<=l.length->P (l.drop i) lO st1=some rC->kQ st1->iZ C sc env jN s₁.heap lO->Ok C jN s₁ st1->mK i jN s₁->jN[N]? =some D->jX (own sc env) σ s jN s₁->KL C sc env P l rC kQ mK N D σ s m s₁
theorem N7(U:nk C)(S:nJ C n r)(hr:ki A n){cenv:Env}{kh:Scope}{elt target:Expr}{ifs:List Expr}{id:String}{code:Code}{l:List PV}{fit:St->Bool}{put:PV->St->Option St}{N:Nat}{D I:Addr}{W:Addr->Prop}{kQ:St->Prop}
  {mK:Nat->List Addr->Shared->Prop} {mD:Nat->Value->List Addr->Shared->Prop} {R:Result->Shared->Prop} {rC:St}
  (rule:uF C A id elt target ifs (.ref I) (.ref D) cenv code) (M:MW C l I W kQ mK mD) (tH:∀i v σ s,mD i v σ s->mK i σ s) (hp:Puts C A put N D id) (hx:lZ r kh put elt target ifs fit l ρ st=some rC) (lH:∀jQ,fit jQ=true->kQ jQ) (YK:kQ st)
  (F:iZ C kh cenv lX j5.heap ρ) (K:Ok C lX j5 st) (P0:mK 0 lX j5) (hD:lX[N]? =some D) (X0:jX (own kh cenv) jN s₁ lX j5) (j6:∀b o,C.h₀.get? b=some o->s₁.heap.get? b=some o) (hW:∀a,W a->s₁.heap.get? a=none)
  (hR:∀σ' s',jX (own kh cenv) jN s₁ σ' s'->Ok C σ' s' rC->σ'[N]? =some D->(∃m,s'.heap.Ns cenv.locals m)->R (.ok .next) s'):codeAny C.M A code R j5:=by
 have h0:∀a,W a->C.h₀.get? a=none:=fun a ha=>by
  cases e:C.h₀.get? a with
  |none=>rfl
  |some o=>have:=j6 a o e;rw[hW a ha]at this;exact ku this
 refine rule R j5 (KL C kh cenv (lZ r kh put elt target ifs fit) l rC kQ mK N D jN s₁) ?_ l.length ⟨0,lX,st,ρ,rfl,c9 _,hx,YK,F,K,P0,hD,X0⟩;rintro m nL ⟨i,lM,uM,SO,rfl,hi,hx,hC,F3,K3,P3,YH,X3⟩;have HH:=M.objs i lM nL P3;by_cases jS:i<l.length
 ·rw[bP jS]at hx;refine iU hx fun VA h4 hx=>iU hx fun b h5 hx=>iU hx fun Y8 h8 hx=>kO hx fun hf hx=> ?_;have again:∀{SM s9},mK (i+1) SM s9->iZ C kh cenv SM s9.heap VA->Ok C SM s9 Y8->SM[N]? =some D->jX (own kh cenv) jN s₁ SM s9->∃m,m<l.length-i/\KL C kh cenv (lZ r kh put elt target ifs fit) l rC kQ mK N D jN s₁ m s9:=
   fun P9 F9 K9 hD9 X9=>⟨l.length-(i+1),ig _ _ jS,⟨i+1,_,Y8,VA,rfl,jS,hx,lH _ hf,F9,K9,P9,hD9,X9⟩⟩
  clear hx;refine M.item A i lM nL uM _ _ hr.hh jS K3 hC P3 fun val w s4 hq V4 Pm R4=> ?_;obtain rfl:=aj ((aO jS).symm.trans hq);have F4:=F3.raw R4 HH;have K4:=K3.raw R4 HH h0 (K3.notW HH);have X4:=X3.raw R4 hW;have go:∀s5,mK (i+1) lM s5->iZ C kh cenv lM s5.heap SO->Ok C lM s5 uM->jX (own kh cenv) jN s₁ lM s5->VR C lM s5.heap l[i] val->
    wpAny C.M A (assign target cenv val) (fun ζ j5=>
     wpAny C.M A (forIn ifs true fun c r=>if r=true then do let ok<-isTrue c cenv (eval c cenv);pure (ForInStep.yield ok)else pure (ForInStep.yield r)) (fun ok nL=>
      if ok=true then wpAny C.M A (eval elt cenv) (fun x As=>
       wpAny C.M A (call (.builtin id) [.ref D,x]) (fun ζ nL=>∃m,m<l.length-i/\KL C kh cenv (lZ r kh put elt target ifs fit) l rC kQ mK N D jN s₁ m nL) (notedBy C.M A cenv fun e s'=>R (.error e) s') As) (notedBy C.M A cenv fun e s'=>R (.error e) s') nL
      else∃m,m<l.length-i/\KL C kh cenv (lZ r kh put elt target ifs fit) l rC kQ mK N D jN s₁ m nL) (notedBy C.M A cenv fun e s'=>R (.error e) s') j5) (notedBy C.M A cenv fun e s'=>R (.error e) s') s5:=by
   intro s5 P5 F5 K5 X5 V5;have Wb:=M.objs _ _ _ P5;refine tU U hr.hh F5 K5 h4 V5 fun s6 X6 K6 F6=> ?_;have P6:mK (i+1) lM s6:=M.keep (own kh cenv) _ _ _ _ _ X6 (fun a ha=>⟨F5.notW Wb a ha,K5.notW Wb a ha⟩) P5;refine Ib S.T hr ifs uM b lM s6 _ h5 F6 K6 fun Vh s7 X7 K7=> ?_;have P7:mK (i+1) Vh s7:=M.keep jP _ _ _ _ _ X7 (fun a ha=>⟨_root_.id,K6.notW (M.objs _ _ _ P6) a ha⟩) P6;have F7:=F6.ext X7;have hI7:=M.objs _ _ _ P7;have Wf:=(X5.trans X6).trans (F6.weaken X7);obtain⟨b,st5⟩:=b;cases b with
   |false=>(obtain rfl:=aj h8);exact again P7 F7 K7 (X7.idx YH) Wf
   |true=>
    refine iU h8 fun p h8 h9=>S.E kh elt VA _ _ _ h8 A cenv Vh s7 _ _ hr F7 K7 fun xv σ8 s8 X8 K8 V8=> ?_;have P8:mK (i+1) σ8 s8:=M.keep jP _ _ _ _ _ X8 (fun a ha=>⟨_root_.id,K7.notW hI7 a ha⟩) P7;have F8:=F7.ext X8;have hI8:=M.objs _ _ _ P8;refine hp σ8 s8 _ Y8 _ xv _ _ h9 K8 (X8.idx (X7.idx YH)) V8 fun ζ SM s9 X9 K9=> ?_;have P9:mK (i+1) SM s9:=M.keep jP _ _ _ _ _ X9 (fun a ha=>⟨_root_.id,K8.notW hI8 a ha⟩) P8;exact again P9 (F8.ext X9) K9 (X9.idx (X8.idx (X7.idx YH))) ((Wf.trans (F7.weaken X8)).trans (F8.weaken X9))
  clear U S rule hp lH YK F K P0 hD X0 j6 h5 h8 hf again hq;rcases o9 h4 with⟨es,k,p,rfl⟩|⟨x,p,rfl⟩
  ·refine M.go A es k p (i+1) val lM s4 _ _ Pm fun s5 P5 R5=> ?_;have OW:=M.objsM _ _ _ _ Pm;exact go s5 P5 (F4.raw R5 OW) (K4.raw R5 OW h0 (K4.notW OW)) (X4.raw R5 hW) (V4.mono (R5.mono OW))
  ·exact ak (go s4 (tH _ _ _ _ Pm) F4 K4 X4 V4)
 ·rw[dm (bw jS)]at hx;obtain rfl:=aj hx;obtain rfl:=dz hi (bw jS);refine M.done A lM nL _ _ _ hr.hh K3 hC P3 fun s4 R4=> ?_;have F4:=F3.raw R4 HH;obtain⟨mm,hn,_⟩:=F4.ns;exact hR lM s4 (X3.raw R4 hW) (K3.raw R4 HH h0 (K3.notW HH)) YH ⟨mm,hn⟩
theorem IP{elt target iter:Expr}{ifs:List Expr}{scope:Scope}{pos:Pos}{it acc:Value}:uF C A "list.append" elt target ifs it acc env (.compLoop (.ListComp elt [⟨target,iter,ifs,0⟩] scope pos) 0 it acc env):=fun ζ ζ I turn n h=>ze I turn n h
theorem MP{elt target iter:Expr}{ifs:List Expr}{scope:Scope}{pos:Pos}{it acc:Value}:uF C A "set.add" elt target ifs it acc env (.compLoop (.SetComp elt [⟨target,iter,ifs,0⟩] scope pos) 0 it acc env):=fun ζ ζ I turn n h=>BO I turn n h
end
theorem r6{env:Env}:∀{names:List (Str×NameKind)}{x:Str},(names.map fun(n,k)=>if(k==NameKind.free&&env.scope.kind== .function&&env.kindOf n==some .cell)then(n,NameKind.cell)else(n,k)).lookup x=
  (names.lookup x).map fun k=>if(k==NameKind.free&&env.scope.kind== .function&&env.kindOf x==some .cell)then NameKind.cell else k
 |[],_=>rfl
 |(n,k)::r,x=>by
  refine(?_:List.lookup x ((if(k==NameKind.free&&env.scope.kind== .function&&env.kindOf n==some .cell)=true then(n,NameKind.cell)else(n,k))::_)=_);have qN:∀(b:Bool),List.lookup x ((if b=true then(n,NameKind.cell)else(n,k))::(r.map fun(n,k)=>if(k==NameKind.free&&env.scope.kind== .function&&env.kindOf n==some .cell)then(n,NameKind.cell)else(n,k)))=
    if(x==n)=true then some (if b=true then NameKind.cell else k)else List.lookup x (r.map fun(n,k)=>if(k==NameKind.free&&env.scope.kind== .function&&env.kindOf n==some .cell)then(n,NameKind.cell)else(n,k)):=by
   intro b
   (cases b)<;>(simp only[bz,iH,d7,fL];cases x==n<;>rfl)
  refine iR (qN ..) <| iR (fL ..) ?_
  cases hx:x==n with
  |true=>
   have e:=aR.mp hx;clear qN hx;refine iR e ?_;rfl
  |false=>exact(@r6 env r x)
section
variable{C:Cx}{sc:Scope}{env:Env}{σ σ' jN lX:List Addr}{s s' s₁ j5:Shared}{ρ kC:i8}{st ji:St}{A:Around}{n:Nat}{E:aa}{r:nI}{v:PV}{fl:jf}{W:Addr->Prop}
theorem iZ.relabel{outer:Env}(F:iZ C sc env σ s.heap ρ)(hs:env.scope=sc):iZ C sc {env with scope:=PySem.relabel sc outer} σ s.heap ρ:=
 have lk:∀x,Env.kindOf {env with scope:=PySem.relabel sc outer} x=(i9 sc x).map fun k=>if(k==NameKind.free&&outer.scope.kind== .function&&outer.kindOf x==some .cell)then NameKind.cell else k:=fun x=>r6
 {kind:=by have:=F.kind;replace this:=hs▸this;exact this
  plain:=F.plain
  loc:=fun x hx=>by(refine iR (lk ..) ?_;refine iR (hx ..) ?_);rfl
  cel:=fun x hx=>by(refine iR (lk ..) ?_;refine iR (hx ..) ?_);rfl
  fre:=fun x hx=>by
   refine iR (lk ..) <| iR (hx ..) <| iR (ee ..) <| bc (p:=(NameKind.free==NameKind.free&&outer.scope.kind== .function&&outer.kindOf x==some .cell)=true) (fun q=> ?_) fun q=> ?_
   ·exact iR (a_ q) <| .inr rfl
   ·exact iR (aS q) <| .inl rfl
  glo:=fun x hx=>by(refine iR (lk ..) ?_;refine iR (hx ..) ?_);rfl
  globals:=F.globals,builtins:=F.builtins,code:=F.code,ns:=F.ns,cells:=F.cells,apart:=F.apart,dom:=F.dom,newL:=F.newL,newC:=F.newC,notL:=F.notL}
theorem we.mono'(x:we W s s')(hW:∀a o,W a->s.heap.get? a=some o->¬ lq o):tD σ s.heap σ s'.heap:=
 ⟨⟨[],by simp⟩,fun ζ a b=>absurd a b,fun b o e ζ hv=>x.keep b o (fun hb=>hW b o hb e hv) e⟩
theorem Ok.raw'(K:Ok C σ s st)(x:we W s s')(hW:∀a o,W a->s.heap.get? a=some o->¬ lq o)(h0:∀a,W a->C.h₀.get? a=none)(VL:∀a,W a->a∉σ):Ok C σ s' st where
 base:=fun b o e=>x.keep b o (fun hb=>by replace e:=(h0 b hb)▸e;exact ku e) (K.base b o e)
 fresh0:=K.fresh0
 len:=K.len
 nodup:=K.nodup
 cells:=fun k a c ha hc=>by
  exact jm (K.has (bJ ha)) fun o ho ζ=>(K.cells k a c ha hc).mono (x.mono' hW) ((x.keep a o (fun hb=>VL a hb (bJ ha)) ho).trans ho.symm)
theorem LD{iter:Expr}(h:oF iter=false):∀x,foldedSetIterable iter env x=pure x:=by
 intro x
 (cases iter)<;>first|rfl|(trivial)
theorem MO{sc:Scope}(h:Ph sc):∀x∈sc.names,x.2= .local->sc.names.lookup x.1=some .local:=by
 rintro⟨x,k⟩ hm hk;dsimp only at hk|-;refine jC hk ?_;obtain⟨k',qu⟩:=pP hm;have:=tN h.nodup qu hm;exact iR qu <| iR this rfl
theorem NS{sc kh:Scope}(h:Et sc kh=true):∀y,(y,NameKind.free)∈kh.names->i9 sc y=some .cell\/i9 sc y=some .free:=by
 intro y hy;have:=bZ.mp h _ hy;simpa using this
theorem FQ{sc kh:Scope}{iter:Expr}(h:qX sc kh iter=true):Ph kh/\oF iter=false/\Et sc kh=true:=by
 unfold qX at h;simp only[cz,e9,Bool.not_eq_false']at h;exact tZ (Cu h.1.1) h.1.2 h.2
theorem yg{t:St}{k:Nat}{l:List PV}(h:j7 st k=some l):j7 (st++t) k=some l:=by
 have e:=j_ h;unfold j7;refine iR (bf (ay.mp e).1) ?_;exact iR e rfl
theorem zb{t:St}{x:PV}{l:List PV}(h:contents st x=some l):contents (st++t) x=some l:=by
 cases x with
 |lst k=>exact yg h
 |_=>exact h
structure wY(C:Cx)(σ:List Addr)(s:Shared)(ji:St)(v:PV)(acc:Value)(Cl:Addr)(σ':List Addr)(s':Shared):Prop where
 X:jX jP σ s σ' s'
 K:Ok C σ' s' ji
 V:VR C σ' s'.heap v acc
 ns:∃m,s'.heap.Ns Cl m
 new:s.heap.get? Cl=none
 out:Cl∉σ'
 base:C.h₀.get? Cl=none
theorem Aa{a:Addr}(g:je s s')(h:s'.heap.get? a=none):s.heap.get? a=none:=by
 cases e:s.heap.get? a with
 |none=>rfl
 |some o=>replace h:=(g.keep a o e)▸h;cases h
theorem N1{a:Addr}(X:jX jP σ s σ' s')(hs:a∉σ')(h:s'.heap.get? a=none):s.heap.get? a=none:=by
 cases e:s.heap.get? a with
 |none=>rfl
 |some o=>replace h:=(X.keep a o e (fun q=>hs (X.mem q)) id)▸h;cases h
theorem qa(U:nk C)(S:nJ C n r)(hr:ki A n){comp:Expr}{kh:Scope}{elt target iter:Expr}{ifs:List Expr}{id:String}{mk:Sem Value}{c:j8}{put:Nat->PV->St->Option St}{p:Pos}{x:PV}{l:List PV}{st1 rC:St}{use:Option (Value->Sem Unit)}{Q:aa}
  (wI:clausesOf comp=[⟨target,iter,ifs,0⟩]) (rule:∀it acc cenv,uF C A id elt target ifs it acc cenv (.compLoop comp 0 it acc cenv))
  (start:∀{it acc cenv R s},codeAny C.M A (.compLoop comp 0 it acc cenv) R s->wpAny C.M A (pyIter it) (fun OM s'=>codeAny C.M A (.compLoop comp 0 OM acc cenv) R s') (notedBy C.M A cenv fun x s'=>R (.error x) s') s->codeAny C.M A (.compStart comp 0 it acc cenv) R s)
  (make:∀(s:Shared)(Q E:aa),(∀o,o.isFreed=false->(∀σ h a,h.get? a=some o->ue C σ h a c)->Q (.ref s.heap.objs.size) {s with heap:=s.heap.push o})->wpAny C.M A mk Q E s)
  (aag:∀N D,Puts C A (put N) N D id)
  (F:iZ C sc env σ s.heap ρ) (K:Ok C σ s st) (ok:qX sc kh iter=true)
  (h1:r.E sc iter ρ st=some (x,st1)) (h2:contents st1 x=some l) (h3:lZ r kh (put st1.length) elt target ifs (kI x st1) l (freeOf kh ρ) (st1++[c])=some rC)
  (fin:∀(own:Addr->Prop)(σ σ':List Addr)(s s':Shared)(D:Addr),Ok C σ s st1->Ok C σ' s' rC->σ'[st1.length]? =some D->jX own σ s σ' s'->jX own σ s σ s'/\Ok C σ s' ji/\VR C σ s'.heap v (.ref D))
  (h:∀acc Cl kg s' f,wY C σ s ji v acc Cl kg s'->compPost C.M A E use Q acc Cl (.ok f) s'):
  wpAny C.M A (comprehension comp kh env p mk false (eval iter env) use) Q E s:=by
 refine w4 (FQ ok) fun uL oW rH=> ?_;have Ke:=NS rH;have aaI:closureFor kh env=pure (t_ env kh.names []):=zf fun y hy=>
  have⟨c,_,hc,_⟩:=F.cells y (Ke y hy)
  ⟨c,hc⟩
 refine wpAny_comprehension_free wI (LD oW) aaI uL.kind (MO uL) (S.E sc iter ρ _ _ _ h1 A env σ s _ E hr F K fun xv kg t1 X1 K1 V1=>CK hr.hh K1 h2 V1 fun I W kQ mK mD t2 M tH vK hW g P0=>make _ _ _ fun o S3 ho=> ?_);have K2:=K1.grow g;refine lP (K2.new (c:=c) (o:=o) S3 (ho _ _ _ (aF _ S3))) fun K3 X3=> ?_;have F3:=((F.ext X1).ext g.ext).ext X3;refine F.globals▸ye (DW:=freeOf kh ρ) (ρ:=freeOf kh ρ) (xs:=[]) (vs:=[]) (vals:=[]) uL K3 F.builtins F.code (fun y hy=> ?_) (fun y u hu=> ?_) rfl rfl jH.nil fun HT t4 he X4 K4 F4 wj=> ?_
 ·have hm:=mem_of_lookup hy;exact DN (F3.cells y (Ke y hm)) fun c vo e1 e2 e3 e4=>⟨c,vo,DF hm e1,e2,e3,fun u hu=>e4 u (by replace hu:=hy▸(Ab▸hu);exact hu)⟩
 ·replace hu:=Ab▸hu
  refine bc (p:=(i9 kh y==some .free)=true) (fun q=> ?_) fun q=> ?_
  ·exact aR.mp q
  ·replace hu:=(aS q)▸hu
   exact ku hu
 have F5:=F4.relabel (outer:=env) (iR he rfl);have P3:=M.keep jP _ _ _ _ _ X3 (fun a ha=>⟨_root_.id,K2.notW (M.objs _ _ _ P0) a ha⟩) P0;have P4:=M.keep jP _ _ _ _ _ X4 (fun a ha=>⟨_root_.id,K3.notW (M.objs _ _ _ P3) a ha⟩) P3;have GD:∀a,own kh {HT with scope:=PySem.relabel kh env} a->t1.heap.get? a=none:=fun a ha=>Aa (g.trans (je.push t2 o)) (wj a ha);clear wj he F4 F3 P0 P3;have X0:jX (own kh {HT with scope:=PySem.relabel kh env}) kg t1 (kg++[t2.heap.objs.size]) t4:=((g.ext.trans X3).trans X4).weaken (fun a ha=>(K1.newAddr (GD a ha)).1) fun a o ha e=>by replace e:=(GD a ha)▸e;exact ku e
 have loop:codeAny C.M A (.compLoop comp 0 (.ref I) (.ref t2.heap.objs.size) {HT with scope:=PySem.relabel kh env}) (compPost C.M A E use Q (.ref t2.heap.objs.size) HT.locals) t4:=by
  refine N7 U S hr (rule _ _ _) M tH (aag _ _) h3 (fun jQ hf=>vK _ ((oK hf).trans h2)) (vK _ (zb h2)) F5 K4 P4 (by(refine jC K1.len ?_;refine iR (cX (aK _)) ?_);simp:(kg++[t2.heap.objs.size])[st1.length]? =some t2.heap.objs.size) X0 (fun b o e=>K1.base b o e) hW fun σ5 s5 X5 K5 hD5 hNs=> ?_;refine w4 (fin _ _ _ _ _ _ K1 K5 hD5 X5) fun X6 K6 V6=> ?_;have hLn:=GD HT.locals (.inl rfl);have ZQ:=K1.newAddr hLn;exact h _ HT.locals kg s5 _ ⟨X1.trans (X6.strip (fun a ha ζ=>GD a ha) fun ζ q=>q.elim),K6,V6,hNs,N1 X1 ZQ.1 hLn,ZQ.1,ZQ.2⟩
 exact start loop (M.self A 0 _ t4 _ _ P4 loop)
theorem iZ.raw'(F:iZ C sc env σ s.heap ρ)(x:we W s s')(hW:∀a o,W a->s.heap.get? a=some o->¬ lq o)(hL:¬ W env.locals)(hc:∀y c,(i9 sc y=some .cell\/i9 sc y=some .free)->env.cells.lookup y=some c->¬ W c):iZ C sc env σ s'.heap ρ where
 kind:=F.kind
 plain:=F.plain
 loc:=F.loc
 cel:=F.cel
 fre:=F.fre
 glo:=F.glo
 globals:=F.globals
 builtins:=F.builtins
 code:=F.code
 ns:=by
  exact F.nsC fun m hn hv=>⟨m,hn.at fun o e=>x.keep _ o hL e,fun y v h1 h2=>let⟨val,a,b⟩:=hv y v h1 h2;(jt val a (b.mono (x.mono' hW)))⟩
 cells:=fun y hy=>by
  refine F.cellsC y hy fun c vo h1 z1 h2 h3=> ?_;obtain⟨o,ho,hd⟩:=z1;exact⟨c,vo,h1,(jt o (x.keep _ o (hc y c hy h1) ho) hd),h2,fun v hv=>let⟨val,a,b⟩:=h3 v hv;(jt val a (b.mono (x.mono' hW)))⟩
 apart:=F.apart
 dom:=F.dom
 newL:=F.newL
 newC:=F.newC
 notL:=F.notL
theorem Cv{a:Addr}{h':Heap}(hs:Heap.SameBut a s.heap h'):we (· =a) s {s with heap:=h'}:=⟨fun b o hb e=>(hs.2 b hb).trans e,rfl,rfl⟩
theorem LC{a:Addr}{m:Str->Option Value}(h:s.heap.Ns a m):∀b o,b=a->s.heap.get? b=some o->¬ lq o:=fun b o hb e=>by
 subst hb;refine J0 h fun o' es ep ho hd ζ=> ?_
 replace e:=ho▸e
 refine jC (aj e) ?_;exact fun z=>z.dict hd
theorem zR{Q:aa}{acc:Value}{Cl:Addr}{kg:List Addr}{f:Flow}(h:KE C σ s ji v Q)(e:wY C σ s ji v acc Cl kg s'):compPost C.M A E none Q acc Cl (.ok f) s':=
 have⟨m,hm⟩:=e.ns
 (jt m hm (fun ζ hs=>
  have R:=Cv hs;have hv:=LC hm
  h acc kg _ (e.X.raw R fun a ha=>(show a=Cl from ha)▸e.new) (e.K.raw' R hv (fun a ha=>(show a=Cl from ha)▸e.base) (fun a ha=>(show a=Cl from ha)▸e.out)) (e.V.mono (R.mono' hv))))
theorem IY{Q:aa}{acc:Value}{Cl:Addr}{kg:List Addr}{f:Flow}{x:Str}{p:Pos}(F:iZ C sc env σ s.heap ρ)(mq:qQ sc x v ρ=some kC)
  (h:∀σ' s',jX (own sc env) σ s σ' s'->Ok C σ' s' ji->iZ C sc env σ' s'.heap kC->Q .none s') (e:wY C σ s ji v acc Cl kg s'):compPost C.M A E (some (assign (.Name x p) env)) Q acc Cl (.ok f) s':=by
 refine m9 e.ns fun m hm=> ?_;have zu:∀y c,(i9 sc y=some .cell\/i9 sc y=some .free)->env.cells.lookup y=some c->¬ c=Cl:=fun y c hy hc q=>by
  refine F.cellsC y hy fun d vo e1 z2 ζ ζ=> ?_;obtain⟨o,ho,_⟩:=z2
  replace e1:=hc▸e1
  obtain rfl:=aj e1
  replace ho:=e.new▸(q▸ho)
  exact ku ho
 have WH:¬ env.locals=Cl:=fun q=>by
  refine F.nsC fun m' z3 ζ=> ?_;obtain⟨o,es,ep,ho,_⟩:=z3
  replace ho:=e.new▸(q▸ho)
  exact ku ho
 refine(gc (pe (F.ext e.X) e.K mq e.V fun s2 X2 K2 F2=> ?_):wpAny C.M A (assign (.Name x p) env acc) _ E s');have yK:s2.heap.Ns Cl m:=hm.at fun o q=>X2.keep _ o q e.out (fun q=>q.elim (fun q=>WH q.symm) fun⟨y,hk,hc⟩=>zu y Cl (.inl hk) hc rfl:¬ own sc env Cl);refine(jt m yK (fun h' hs=> ?_));have R:=Cv hs;have hv:=LC yK;exact h kg _ (((F.weaken e.X).trans X2).raw R fun a ha=>(show a=Cl from ha)▸e.new) (K2.raw' R hv (fun a ha=>(show a=Cl from ha)▸e.base) (fun a ha=>(show a=Cl from ha)▸e.out)) (F2.raw' R hv WH fun y c hy hc=>zu y c hy hc)
theorem FN{P:Prop}{elt target iter:Expr}{ifs:List Expr}{kh:Scope}{q:PV×St}(hx:vc r sc elt target iter ifs kh ρ st=some q)
  (k:∀x st1 l rC,qX sc kh iter=true->r.E sc iter ρ st=some (x,st1)->contents st1 x=some l->lZ r kh (putL st1.length) elt target ifs (kI x st1) l (freeOf kh ρ) (st1++[.lst []])=some rC->finish st1.length rC (.lst st1.length)=some q->P):P:=
 kO hx fun ok hx=>iU hx fun p h1 hx=>iU hx fun l h2 hx=>iU hx fun rC h3 hx=>k p.1 p.2 l rC ok h1 h2 h3 hx
theorem pR(U:nk C)(S:nJ C n r)(hr:ki A n){kh:Scope}{elt target iter:Expr}{ifs:List Expr}{pos p:Pos}{use:Option (Value->Sem Unit)}{Q:aa}
  (F:iZ C sc env σ s.heap ρ) (K:Ok C σ s st) (hx:vc r sc elt target iter ifs kh ρ st=some (v,ji)) (h:∀acc Cl kg s' f,wY C σ s ji v acc Cl kg s'->compPost C.M A E use Q acc Cl (.ok f) s'):
  wpAny C.M A (comprehension (.ListComp elt [⟨target,iter,ifs,0⟩] kh pos) kh env p (newList []) false (eval iter env) use) Q E s:=
 FN hx fun ζ ζ ζ ζ ok h1 h2 h3 h4=>qa (put:=putL) (c:=.lst []) U S hr rfl (fun ζ ζ ζ=>IP) yH (fun ζ ζ ζ g=>bM (g _ rfl fun ζ ζ ζ e=>⟨_,[],e,(jt 0 rfl (c9 _)),jH.nil⟩)) (fun ζ ζ=>IV hr.hh) F K ok h1 h2 h3
  (fun ζ ζ ζ ζ ζ D K1 K5 hD X=>tS K1 K5 X h4 (jt D rfl hD)) h
theorem Bl(U:nk C)(S:nJ C n r){elt target iter:Expr}{ifs:List Expr}{kh:Scope}{pos:Pos}(hx:vc r sc elt target iter ifs kh ρ st=some (v,ji)):kP C n sc (.ListComp elt [⟨target,iter,ifs,0⟩] kh pos) ρ st v ji:=fun ζ ζ ζ ζ ζ ζ hr F K h=>
 eval_ListComp .. ▸pR (use:=none) U S hr F K hx fun ζ ζ ζ ζ ζ e=>zR h e
theorem II(U:nk C)(S:nJ C n r){elt target iter:Expr}{ifs:List Expr}{kh:Scope}{pos tp spos:Pos}{t:Str}(hx:vc r sc elt target iter ifs kh ρ st=some (v,ji))(mq:qQ sc t v ρ=some kC):W2 C n sc elt [⟨target,iter,ifs,0⟩] kh pos t tp spos ρ kC st ji:=fun A env σ s Q E hr F K OQ h=>by
 refine iR (exec_Assign_Name_used _ _ _ _ OQ) <| ai (cj (ai (?_:wpAny _ A (do let _<-comprehension (.ListComp elt [⟨target,iter,ifs,0⟩] kh pos) kh env _ (newList []) false (eval iter env) (some (assign (.Name t tp) env))) _ _ s)))
 exact ai (pR (use:=some (assign (.Name t tp) env)) U S hr F K hx fun ζ ζ ζ ζ ζ e=>IY F mq (fun σ' s' X K F=>ak (ak (h σ' s' X K F))) e)
theorem yV{l:Addr}{items:Array Value}{k:Int}{t:Tok}{val:Value}{n:Nat}{Q:Unit->Shared->Prop}(ho:s.heap.get? l=some {cls:=.type "list",dict:=none,data:=.seq items n,slots:= #[]})
  (h0:0<=k) (lH:k<2^63) (hn:k<items.size) (hQ:Q () {s with heap:=s.heap.update l (Obj.mapSeq (·.setIfInBounds k.toNat val))}):wpAny C.M A (setItem (.ref l) (.int k t) val) Q E s:=by
 have hT:s.TypeIs (.ref l) "list":=(jt _ ho rfl);unfold setItem
 try with_reducible refine aP ?_
 first|refine ai (ak ?_)|skip
 refine ai (wpAny_sequenceKey hT (by decide) (ai (cY (name:=Str.ofString "__setitem__") hT PySem.slot_list_setitem
  (PySem.wpAny_call_entry PySem.slot_list_setitem hT PySem.entry_list_setitem ?_ (PySem.args_list_setitem _ _ _)))))
 refine(ai (wpAny_listSubscript_int (fitsIndex_of h0 lH) ?_):wpAny _ _ (Builtin.List.listSubscript? (.int k t) >>= _) _ _ s);clear lH;refine m9 (Int.eq_ofNat_of_zero_le h0) fun j z1=> ?_;subst z1;have hj:j<items.size:=by exact cE.mp ‹_›
 refine(ai (ai (wpAny_seqItemAt ho rfl (ak ?_))):wpAny _ _ ((seqItemAt l j >>= fun r=>pure (r.map (j,·))) >>= _) _ _ s);refine iR (dg hj:items[j]? =some items[j]) ?_;refine(ai (wpAny_setSeqItemAt ho rfl ?_):wpAny _ _ (setSeqItemAt l j val >>= _) _ _ s)
 first
  |exact ai (ak (ak (jt (.none) rfl (ak hQ))))
  |exact ak ⟨.none,rfl,ak hQ⟩
theorem I_{h:Heap}{k:Str}:∀{l:List (ah×PV)}{kvs:List (Str×Value)},lu C σ h l kvs->(kvs.any fun kv=>kv.1=k)=l.any fun kv=>kv.1==k.cps.toList:=by
 intro L0
 induction L0 with
 |nil=>
  intro kvs x
  skip;refine iR x ?_;rfl
 |cons s_ l ih=>
  obtain⟨a,q⟩:=s_;intro kvs x
  skip
  refine J9 x fun y u r' z2 ey hv hr=> ?_;refine iR z2 ?_;refine iR List.any_cons <| iR List.any_cons <| iR (ih hr) ?_
  congr 1;dsimp only;refine jC ey <| bc (p:=y=k) (fun h=> ?_) fun h=> ?_
  ·clear ey hv hr;clear ih x;subst h;simp
  ·have:y.cps.toList≠k.cps.toList:=fun q'=>by
    apply h
    (clear ey hv hr;(clear ih x;obtain⟨c1⟩:=y));(try clear ey;try clear hr;try clear hv;obtain⟨c2⟩:=k)
    congr 1;exact fJ.mp q'
   exact iR (cD h) <| iR (aL.mpr this) rfl
theorem I8{h:Heap}{k:Str}{p:PV}{u:Value}(V:VR C σ h p u):∀{l:List (ah×PV)}{kvs:List (Str×Value)},lu C σ h l kvs->lu C σ h (l.map fun kv=>if kv.1==k.cps.toList then(kv.1,p)else kv) (kvs.map fun kv=>if kv.1=k then(kv.1,u)else kv):=by
 intro L0
 induction L0 with
 |nil=>
  intro kvs x
  skip;refine iR x ?_;refine(?_:lu C σ h [] []);rfl
 |cons s_ l ih=>
  obtain⟨a,q⟩:=s_;intro kvs x
  skip
  refine J9 x fun y w r' z3 ey hv hr=> ?_;clear x;subst z3;refine iR aU <| iR aU <| bc (p:=y=k) (fun hk=> ?_) fun hk=> ?_
  ·have:(a==k.cps.toList)=true:=by(refine jC ey ?_;refine iR hk ?_);simp
   dsimp only;rw[this,if_pos rfl,if_pos hk];exact ON y u _ rfl ey V (ih hr)
  ·have:(a==k.cps.toList)=false:=by
    refine jC ey ?_;apply aL.mpr;intro q';apply hk;obtain⟨c1⟩:=y;obtain⟨c2⟩:=k;congr 1;exact fJ.mp q'
   dsimp only;rw[this,if_neg (by trivial),if_neg hk];exact ON y w _ rfl ey hv (ih hr)
theorem I9{h:Heap}{k:Str}{p:PV}{u:Value}(V:VR C σ h p u):∀{l:List (ah×PV)}{kvs:List (Str×Value)},lu C σ h l kvs->lu C σ h (l++[(k.cps.toList,p)]) (kvs++[(k,u)]):=by
 intro L0
 induction L0 with
 |nil=>
  intro kvs x
  skip;refine iR x ?_
  refine(?_:lu C σ h [(k.cps.toList,p)] [(k,u)])
  skip
  exact⟨k,u,[],rfl,rfl,V,by rfl⟩
 |cons s_ l ih=>
  obtain⟨a,q⟩:=s_;intro kvs x
  skip
  refine J9 x fun y w r' z4 ey hv hr=> ?_;clear V x;refine iR z4 ?_;refine(?_:lu C σ h ((a,q)::(l++[(k.cps.toList,p)])) ((y,w)::(r'++[(k,u)])))
  skip
  exact ON y w _ rfl ey hv (ih hr)
theorem pairs_len{h:Heap}:∀{l:List (ah×PV)}{kvs:List (Str×Value)},lu C σ h l kvs->kvs.length=l.length:=by
 intro L0
 induction L0 with
 |nil=>
  intro kvs x
  skip;refine iR x ?_;rfl
 |cons s_ l ih=>
  obtain⟨a,q⟩:=s_;intro kvs x
  skip
  refine J9 x fun y w r' z5 ey hv hr=> ?_;clear x ey hv;refine iR z5 ?_;exact iR aB <| iR aB <| iR (ih hr) rfl
theorem Nr{n:Nat}(h:n<=1000):n<=sizeLine:=by(refine iR eS ?_);exact lit ‹_›
theorem Bq{h h':Heap}{k:Str}{p:PV}{u:Value}{l:List (ah×PV)}{kvs:List (Str×Value)}(m:tD σ h σ h')(V:VR C σ h p u)(hp:lu C σ h l kvs):lu C σ h' (D7 k.cps.toList p l) (stored kvs k u):=by
 dsimp only[D7,stored];refine iR (I_ hp) ?_;split
 ·exact I8 (V.mono m) (hp.mono m)
 ·exact I9 (V.mono m) (hp.mono m)
theorem PS{p i:PV}{pv iv val:Value}{Q:Unit->Shared->Prop}(K:Ok C σ s st)(hx:pL st p i v=some ji)(x:VR C σ s.heap p pv)(y:VR C σ s.heap i iv)(z:VR C σ s.heap v val)
  (h:∀s',jX jP σ s σ s'->Ok C σ s' ji->Q () s'):wpAny C.M A (setItem pv iv val) Q E s:=by
 cases p with
 |lst k=>
  refine iU hx fun j hj hx=>iU hx fun l hl hx=>kO hx fun q hx=> ?_;obtain rfl:=aj hx;obtain rfl:=jv hj;have q:=jA q;refine wF (K.listAt (j_ hl) x) fun a m vs z6 ha ho jd V=> ?_;refine iR z6 ?_;refine j4 y fun t z7=> ?_;refine iR z7 ?_;have hjn:j.toNat<vs.length:=V.length▸o_ q.2;have ZS:=qT jd;refine yV ho (o_ q.1) (Int.lt_trans ((iQ (o_ q.1)).mp hjn) ZS) (by(refine iR eG ?_);exact(iQ (o_ q.1)).mp hjn) ?_;obtain⟨K',X⟩:=K.setList (l':=l.set j.toNat v) (vs':=vs.set j.toNat val) ha (j_ hl) ho ⟨m,rfl,jd⟩ (·.setIfInBounds j.toNat val) (by simp) (V.set z j.toNat) (iR cJ jd);exact h _ X K'
 |dct k=>
  refine iU hx fun key hj hx=>iU hx fun l hl hx=>kO hx fun q hx=> ?_;obtain rfl:=aj hx;obtain rfl:=jG hj;refine DN (K.dictAt (vz hl) x) fun a kvs z8 ha hd hp=> ?_;refine iR z8 ?_;refine jy y fun w t z9 kW ζ=> ?_;refine iR z9 ?_;subst kW;refine wpAny_setItem_pairs (k:=w) (gA ..) hd (fun h' RQ hs=> ?_) (pairs_len hp▸Nr (o_ q));have m:tD σ s.heap σ h':=⟨⟨[],by simp⟩,fun ζ p q=>absurd p q,fun b o e hb ζ=>(hs.2 b (fun q=>hb (q▸bJ ha))).trans e⟩;exact lP (K.set ha (vz hl) hs (c':=.dct (D7 w.cps.toList v l)) ⟨_,RQ,Bq m z hp⟩) fun K' X=>h _ (X.toks _) (K'.toks _)
 |_=>exact ku hx
structure Ei(C:Cx):Prop where
 rev:∀(A:Around)(σ:List Addr)(s:Shared)(st:St)(a b:Int)(val:Value)(Q:aa)(E:aa),A.handled=none->Ok C σ s st->VR C σ s.heap (.rng a b) val->
  (∀I W kQ mK mD s',MW C (sI a b).reverse I W kQ mK mD->(∀i v σ s,mD i v σ s->mK i σ s)->(∀ji,kQ ji)->(∀x,W x->s.heap.get? x=none)->je s s'->mK 0 σ s'->Q (.ref I) s')->
  wpAny C.M A (call (.type "reversed") [val]) (fun rv s₁=>wpAny C.M A (pyIter rv) Q E s₁) E s
 enum:∀(A:Around)(σ:List Addr)(s:Shared)(st:St)(l:List PV)(val:Value)(Q:aa)(E:aa),A.handled=none->Ok C σ s st->VR C σ s.heap (.list l) val->
  (∀I W kQ mK mD s',MW C (D8 l) I W kQ mK mD->(∀ji,kQ ji)->(∀x,W x->s.heap.get? x=none)->je s s'->mK 0 σ s'->Q (.ref I) s')->
  wpAny C.M A (call (.type "enumerate") [val]) (fun rv s₁=>wpAny C.M A (pyIter rv) Q E s₁) E s
theorem BQ{t e:Expr}{pos:Pos}{Q:Flow->Shared->Prop}(U:nk C)(S:nJ C n r)(hr:ki A n)(F:iZ C sc env σ s.heap ρ)(K:Ok C σ s st){st1:St}
  (h1:r.E sc e ρ st=some (v,st1)) (h2:kX sc st1 t v ρ=some kC) (OQ:swapsWith e (some t) pos.line env=pure false) (aas:(isTuple t&&isTuple e)=false)
  (h:∀σ' s',jX (own sc env) σ s σ' s'->Ok C σ' s' st1->iZ C sc env σ' s'.heap kC->Q .next s'):wpAny C.M A (exec (.Assign [t] e pos) env) Q E s:=by
 have body:wpAny C.M A (do let v<-eval e env;assign t env v;pure .next:Sem Flow) Q E s:=by
  refine ai (S.E sc e ρ _ _ _ h1 A env σ s _ E hr F K fun xv kg t1 X1 K1 V1=>ai (tU U hr.hh (F.ext X1) K1 h2 V1 fun s2 X2 K2 F2=>ak (h kg s2 ((F.weaken X1).trans X2) K2 F2)))
 have hs:swappedStores [t] e env=pure none/\assignEach [t] env=[(false,assign t env)]:=by
  clear U S hr F K h1 h;rcases o9 h2 with⟨es,k,p,rfl⟩|⟨x,p,rfl⟩
  ·refine⟨?_,rfl⟩;cases e<;>first|rfl|cases aas
  ·exact⟨rfl,rfl⟩
 refine ai (cj (?_:wpAny C.M A (swapsWith e (some t) pos.line env >>= _) Q E s));refine iR OQ <| iR hs.1 <| iR hs.2 <| ai (ak (?_:wpAny C.M A (do let v<-eval e env;let o<-(pure none:Sem (Option (List Str)));assignStores env v o [assign t env]) Q E s))
 exact body
theorem C0{e:Expr}{es:List Expr}{k:Nat}{p:Pos}{line:Nat}:swapsWith e (some (.Tuple es k p)) line env=pure false:=by
 cases e<;>rfl
theorem Ii{e a i:Expr}{p:Pos}{line:Nat}:swapsWith e (some (.Subscript a i p)) line env=pure false:=by
 cases e<;>rfl
theorem EM{e:Expr}{x:Str}{p:Pos}{line:Nat}:(∃b,swapsWith e (some (.Name x p)) line env=pure b)/\(swapsWith e (some (.Name x p)) line env=pure false\/(∃elt gens s q,e= .ListComp elt gens s q)\/(∃elt gens s q,e= .SetComp elt gens s q)\/∃k v g s q,e= .DictComp k v g s q):=by
 (cases e)<;>first
  |exact⟨⟨_,rfl⟩,.inl rfl⟩
  |exact⟨⟨_,rfl⟩,.inr (.inl (Vl _ _ _ _ rfl))⟩
  |exact⟨⟨_,rfl⟩,.inr (.inr (.inl (Vl _ _ _ _ rfl)))⟩
  |exact⟨⟨_,rfl⟩,.inr (.inr (.inr (SV _ _ _ _ _ rfl)))⟩
theorem Ug{t:Expr}{a b:List Stmt}{pos:Pos}{c:Bool}{st1:St}{q:jf×i8×St}(S:nJ C n r)(h1:r.T sc t ρ st=some (c,st1))(h2:cond c (i0 (r.S sc) a ρ st1) (i0 (r.S sc) b ρ st1)=some q):
  tC C n sc (.If t a b pos) ρ st q.1 q.2.1 q.2.2:=fun A env σ s Q E hr F K h=>
 wpAny_If (S.T sc t ρ _ _ _ h1 A env σ s _ E hr F K fun kg t1 X1 K1=>by
  cases c with
  |true=>exact pg S.S hr a ρ st1 q kg t1 Q h2 (F.ext X1) K1 (h.after (F.weaken X1))
  |false=>exact pg S.S hr b ρ st1 q kg t1 Q h2 (F.ext X1) K1 (h.after (F.weaken X1)))
theorem Rv{a b w:PV}{av bv:Value}{Q:aa}(hx:Pf a b=some w)(V:VR C σ s.heap a av)(W:VR C σ s.heap b bv)
  (h:∀v s',je s s'->VR C σ s'.heap w v->Q v s'):wpAny C.M A (inplaceOp .Add av bv) Q E s:=by
 cases a with
 |int m=>
  refine jw hx fun k hk e=> ?_;obtain rfl:=jv hk;refine j4 V fun t z1=> ?_;refine iR z1 ?_;refine j4 W fun u z2=> ?_;refine iR z2 ?_;exact wpAny_iadd_int (h _ _ (je.toks s (s.toks+1)) (e▸lQ _ _))
 |str m=>
  refine iU hx fun k hk hx=>kO hx fun q e=> ?_;obtain rfl:=jG hk;refine jy V fun y t z3 z4 ζ=> ?_;refine iR z3 ?_;subst z4;refine jy W fun z u z5 z6 ζ=> ?_;clear W hk V;subst z5;subst z6;have e1:(y++z).cps.toList=y.cps.toList++z.cps.toList:=gk;have hl:(y++z).length<=sizeLine:=by(refine iR (xd ..) ?_;refine iR (e1 ..) ?_);exact nv (ly q)
  refine PySem.SB.iadd (fun t' k=> ?_) (Array.size_append (xs:=y.cps) (ys:=z.cps)▸hl);exact h _ _ (je.toks s k) (aj e▸qh e1 hl)
 |_=>exact ku hx
theorem P_{x:Str}{np pos:Pos}{e:Expr}{q:jf×i8×St}(T:nM C)(S:nJ C n r)(hx:Wl r sc x e ρ st=some q):tC C n sc (.AugAssign (.Name x np) .Add e pos) ρ st q.1 q.2.1 q.2.2:=fun A env σ s Q E hr F K h=>by
 refine iU hx fun a h0 hx=>iU hx fun p h1 hx=>iU hx fun w h2 hx=>jw hx fun lO h3 e0=> ?_;clear hx;subst e0;refine wpAny_AugAssign_Name (G6 T F K (x:=x) (p:=a) (by unfold Cb;(refine iR h0 ?_);rfl) ((F.dom x a h0).elim (F.plain x _) fun k=>k.elim (F.plain x _) (F.plain x _):ng x=true) fun av V0=> ?_);exact S.E sc e ρ _ _ _ h1 A env σ s _ E hr F K fun bv kg t1 X1 K1 V1=>Rv h2 (V0.mono X1.mono) V1 fun v t2 g V=>pe ((F.ext X1).ext g.ext) (K1.grow g) h3 V fun s2 X3 K2 F2=>h _ kg s2 ((F.weaken (X1.trans g.ext)).trans X3) K2 F2 rfl
theorem PW{a i e:Expr}{sp pos:Pos}{q:jf×i8×St}(S:nJ C n r)(hx:Wk r sc a i e ρ st=some q):tC C n sc (.Assign [.Subscript a i sp] e pos) ρ st q.1 q.2.1 q.2.2:=fun A env σ s Q E hr F K h=>by
 refine iU hx fun x h1 hx=>iU hx fun y h2 hx=>iU hx fun z h3 hx=>jw hx fun s4 h4 e0=> ?_;clear hx;subst e0;refine wpAny_Assign_Subscript (S.E sc e ρ _ _ _ h1 A env σ s _ E hr F K fun xv kg t1 X1 K1 V1=> ?_) Ii;refine S.E sc a ρ _ _ _ h2 A env kg t1 _ E hr (F.ext X1) K1 fun yv qv t2 X2 K2 V2=>S.E sc i ρ _ _ _ h3 A env qv t2 _ E hr ((F.ext X1).ext X2) K2 fun zv SN t3 X3 K3 V3=>PS K3 h4 (V2.mono X3.mono) V3 ((V1.mono X2.mono).mono X3.mono) fun s4 X4 K4=> ?_;have X:=((X1.trans X2).trans X3).trans X4;exact h _ SN s4 (F.weaken X) K4 (F.ext X) rfl
theorem E0{t e:Expr}{pos:Pos}{q:jf×i8×St}(U:nk C)(S:nJ C n r)(hx:GX r sc t e ρ st=some q):tC C n sc (.Assign [t] e pos) ρ st q.1 q.2.1 q.2.2:=fun A env σ s Q E hr F K h=>by
 refine kO hx fun g hx=>iU hx fun p h1 hx=>jw hx fun lO h2 e0=> ?_;clear hx;subst e0;have g:(isTuple t&&isTuple e)=false/\(!isTuple t&&AI e)=false:=e9.mp (cz _▸g);have go:swapsWith e (some t) pos.line env=pure false->wpAny C.M A (exec (.Assign [t] e pos) env) Q E s:=fun OQ=>BQ U S hr F K h1 h2 OQ g.1 h.next;clear U hx;rcases o9 h2 with⟨es,k,p,rfl⟩|⟨x,p,rfl⟩
 ·exact go C0
 ·refine lP (EM (e:=e) (x:=x) (p:=p) (line:=pos.line) (env:=env)) fun z7 XA=> ?_;obtain⟨b,hb⟩:=z7;rcases XA with OQ|⟨elt,gens,s2,q2,rfl⟩|⟨elt,gens,s2,q2,rfl⟩|⟨k,v2,gens,s2,q2,rfl⟩
  ·exact go OQ
  ·cases b with
   |false=>exact go hb
   |true=>exact S.A' sc elt gens s2 q2 x p pos ρ st _ _ _ h1 (qz h2 id fun h=>ku h) A env σ s Q E hr F K hb h.next
  all_goals cases g.2
theorem PZ{target iter:Expr}{body:List Stmt}{pos:Pos}{q:jf×i8×St}(U:nk C)(S:nJ C n r)(oW:oF iter=false)(hx:HO r sc target iter body ρ st=some q):tC C n sc (.For target iter body [] pos) ρ st q.1 q.2.1 q.2.2:=fun A env σ s Q E hr F K h=>by
 refine iU hx fun p h1 hx=>iU hx fun l h2 hx=>wpAny_For (S.E sc iter ρ _ _ _ h1 A env σ s _ E hr F K fun xv kg t1 X1 K1 V1=> ?_) (LD oW);refine CK hr.hh K1 h2 V1 fun I W kQ mK mD t2 M tH vK hW g P0=> ?_;have F1:=F.ext X1;exact Hj U S hr M hx (fun jQ hf=>vK _ ((oK hf).trans h2)) (vK _ h2) (F1.ext g.ext) (K1.grow g) P0 (F1.weaken g.ext) (fun b o e=>K1.base b o e) hW (.inr tH) (h.after (F.weaken X1))
theorem call_one{f:Str}{T':String}{np pos:Pos}{a:Expr}{st1:St}{Q:aa}(T:nM C)(S:nJ C n r)(hr:ki A n)(F:iZ C sc env σ s.heap ρ)(K:Ok C σ s st)(hk:i9 sc f=some .globalImplicit)
  (rH:C.mg f=none) (zw:bootBuiltins f=some (.type T')) (La:lI a=false) (h1:r.E sc a ρ st=some (v,st1))
  (h:∀val σ' s',jX jP σ s σ' s'->Ok C σ' s' st1->VR C σ' s'.heap v val->wpAny C.M A (call (.type T') [val]) Q E s'):wpAny C.M A (eval (.Call (.Name f np) [a] [] pos) env) Q E s:=by
 refine iR (eO ..) <| iR ((mj La:starEach [a] env=[(false,eval a env)]) ..) <| ai (Cc F hk (uy T F K hk rH zw (?_:wpAny C.M A (callWith pos (.type T') [] [(false,eval a env)] []) Q E s)))
 exact callWith_type1 (S.E sc a ρ _ _ _ h1 A env σ s _ E hr F K fun xv kg t1 X1 K1 V1=>h xv kg t1 X1 K1 V1)
theorem Cs{target a:Expr}{body:List Stmt}{f:Str}{T':String}{np cp pos:Pos}{p:PV×St}{l:List PV}{q:jf×i8×St}(T:nM C)(U:nk C)(S:nJ C n r)(hk:i9 sc f=some .globalImplicit)(rH:C.mg f=none)(zw:bootBuiltins f=some (.type T'))(La:lI a=false)
  (h1:r.E sc a ρ st=some p) (hx:qy (i0 (r.S sc) body) sc target (fun ζ=>true) l ρ p.2=some q)
  (go:∀(A:Around)(σ:List Addr)(s:Shared)(val:Value)(Q E:aa),A.handled=none->Ok C σ s p.2->VR C σ s.heap p.1 val->
   (∀I W kQ mK mD s',MW C l I W kQ mK mD->(isTuple target=true\/∀i v σ s,mD i v σ s->mK i σ s)->(∀ji,kQ ji)->(∀x,W x->s.heap.get? x=none)->je s s'->mK 0 σ s'->Q (.ref I) s')->
   wpAny C.M A (call (.type T') [val]) (fun rv s₁=>wpAny C.M A (pyIter rv) Q E s₁) E s):
  tC C n sc (.For target (.Call (.Name f np) [a] [] cp) body [] pos) ρ st q.1 q.2.1 q.2.2:=fun A env σ s Q E hr F K h=>by
 refine wpAny_For (call_one T S hr F K hk rH zw La h1 fun xv kg t1 X1 K1 V1=> ?_) fun ζ=>rfl;refine go A kg t1 xv _ E hr.hh K1 V1 fun I W kQ mK mD t2 M tH vK hW g P0=> ?_;have F1:=F.ext X1;exact Hj U S hr M hx (fun jQ ζ=>vK _) (vK _) (F1.ext g.ext) (K1.grow g) P0 (F1.weaken g.ext) (fun b o e=>K1.base b o e) hW tH (h.after (F.weaken X1))
theorem EF{iter:Expr}{q:Bool×Expr}(h:qg sc ρ iter=some q):∃f np cp,iter= .Call (.Name f np) [q.2] [] cp/\i9 sc f=some .globalImplicit/\(f="reversed"/\q.1=true\/f="enumerate"/\q.1=false):=
 iU h fun c h1 h=>iU h fun f h2 h=>iU h fun a h3 h=>kO h fun hb hh=>by
  obtain⟨g,as,k⟩:=c;have hw:q.2=a/\(f="reversed"/\q.1=true\/f="enumerate"/\q.1=false):=by
   cases hf:f==("reversed":Str)with
   |true=>
    rw[hf]at hh;refine jC (aj (show some (true,a)=some q from hh)) ?_;exact⟨rfl,.inl ⟨aR.mp hf,rfl⟩⟩
   |false=>
    rw[hf]at hh;exact kO (show gd (f==("enumerate":Str)) (some (false,a))=some q from hh) fun hf e=>by
     refine jC (aj e) ?_;exact⟨rfl,.inr ⟨aR.mp hf,rfl⟩⟩
  exact El h1 fun cp=>tF h2 fun np=>⟨f,np,cp,by rw[hw.1,jU h3,iI.mp (jA hb).1],tP (jA hb).2,hw.2⟩
theorem PX{target a:Expr}{body:List Stmt}{np cp pos:Pos}{q:jf×i8×St}(T:nM C)(U:nk C)(G:Ei C)(S:nJ C n r)(hk:i9 sc "reversed"=some .globalImplicit)(hx:HN r sc target a body ρ st=some q):tC C n sc (.For target (.Call (.Name "reversed" np) [a] [] cp) body [] pos) ρ st q.1 q.2.1 q.2.2:=
 kO hx fun hs hx=>iU hx fun p h1 hx=>iU hx fun w h2 hx=>Cs (T':="reversed") T U S hk (T.free _ (by decide)) (by decide+kernel) (by simpa using hs) h1 hx
  fun A σ s val Q E hh K V h=>G.rev A σ s p.2 w.1 w.2 val Q E hh K (vB h2▸V) fun I W kQ mK mD s' M hp=>h I W kQ mK mD s' M (.inr hp)
theorem ML{target a:Expr}{body:List Stmt}{np cp pos:Pos}{q:jf×i8×St}(T:nM C)(U:nk C)(G:Ei C)(S:nJ C n r)(hk:i9 sc "enumerate"=some .globalImplicit)(hx:zl r sc target a body ρ st=some q):tC C n sc (.For target (.Call (.Name "enumerate" np) [a] [] cp) body [] pos) ρ st q.1 q.2.1 q.2.2:=
 kO hx fun hs hx=>iU hx fun p h1 hx=>iU hx fun w h2 hx=>
  have hs:lI a=false/\(!isTuple target)=false:=e9.mp (cz _▸hs)
  Cs (T':="enumerate") T U S hk (T.free _ (by decide)) (by decide+kernel) hs.1 h1 hx
  fun A σ s val Q E hh K V h=>G.enum A σ s p.2 w val Q E hh K (kD h2▸V) fun I W kQ mK mD s' M=>h I W kQ mK mD s' M (.inl (by simpa using hs.2))
theorem MK{e:Expr}{pos:Pos}{q:jf×i8×St}(S:nJ C n r)(hx:R7 r sc e ρ st=some q):tC C n sc (.Expr e pos) ρ st q.1 q.2.1 q.2.2:=fun A env σ s Q E hr F K h=>by
 cases e with
 |Call f a k p=>
  refine kO hx fun ζ hx=>iU hx fun p h1 hx=>kO hx fun hv e=> ?_
  (injection e with e;subst e)
  refine wpAny_Expr (S.E sc _ ρ _ _ _ h1 A env σ s _ E hr F K fun xv kg t1 X1 K1 V1=> ?_) (by dsimp only[interactive];(refine iR F.kind ?_);rfl) rfl;clear S hr K h1;obtain⟨v,st1⟩:=p;cases v with
  |none=>refine iR V1 ?_;exact h _ kg t1 (F.weaken X1) K1 (F.ext X1) rfl
  |str l=>(refine jy V1 fun y t z1 ζ ζ=> ?_;(clear V1;refine iR z1 ?_));exact h _ kg t1 (F.weaken X1) K1 (F.ext X1) rfl
  |_=>exact Bool.noConfusion hv
 |_=>exact ku hx
theorem EW{e:Expr}{pos:Pos}{st1:St}(S:nJ C n r)(h1:r.E sc e ρ st=some (v,st1)):tC C n sc (.Return (some e) pos) ρ st (.ret v) ρ st1:=fun A env σ s ζ E hr F K h=>
 wpAny_Return_some (S.E sc e ρ _ _ _ h1 A env σ s _ E hr F K fun xv kg t1 X1 K1 V1=>h _ kg t1 (F.weaken X1) K1 (F.ext X1) (jt xv rfl V1))
theorem PU{body:List Stmt}{h0:ExceptHandler}{hs:List ExceptHandler}{pos:Pos}{q:jf×i8×St}(S:nJ C n r)(hx:i0 (r.S sc) body ρ st=some q):tC C n sc (.Try body (h0::hs) [] [] pos) ρ st q.1 q.2.1 q.2.2:=fun A env σ s Q E hr F K h=>by
 refine ai (cj (wpAny_tryStmt_except (pg S.S hr body ρ st q σ s _ hx F K fun f kg t1 X1 K1 F1 fR=> ?_)));cases f with
 |next=>exact wpAny_execs_nil (h _ kg t1 X1 K1 F1 fR)
 |_=>exact h _ kg t1 X1 K1 F1 fR
theorem nO{α:Type}{l:List α}(h:l.isEmpty=true):l=[]:=iI.mp h
theorem EY{target iter:Expr}{body:List Stmt}{pos:Pos}{q:jf×i8×St}(T:nM C)(U:nk C)(G:Ei C)(S:nJ C n r)(hx:(qg sc ρ iter).elim (gd (!oF iter) (HO r sc target iter body ρ st)) (fun q=>cond q.1 (HN r sc target q.2 body ρ st) (zl r sc target q.2 body ρ st))=some q):tC C n sc (.For target iter body [] pos) ρ st q.1 q.2.1 q.2.2:=by
 cases hw:qg sc ρ iter with
 |none=>rw[hw]at hx;exact kO hx fun hs hx=>PZ U S (by simpa using hs) hx
 |some w=>
  rw[hw]at hx;have hy:cond w.1 (HN r sc target w.2 body ρ st) (zl r sc target w.2 body ρ st)=some q:=hx;refine J0 (EF hw) fun f np cp z2 hk z3=> ?_;refine iR z2 ?_;refine cg z3 (fun z=> ?_) fun z=> ?_
  ·rw[z.2]at hy;obtain rfl:=z.1;exact PX T U G S hk hy
  ·rw[z.2]at hy;obtain rfl:=z.1;exact ML T U G S hk hy
theorem PK(T:nM C)(U:nk C)(G:Ei C)(S:nJ C n r){e:Stmt}{q:jf×i8×St}(hx:KP r sc e ρ st=some q):tC C n sc e ρ st q.1 q.2.1 q.2.2:=by
 cases e with
 |Pass=>exact aj hx▸fun A env σ s Q E hr F K h=>wpAny_Pass (h _ σ s (jX.refl F.ownData) K F rfl)
 |Break=>exact aj hx▸fun A env σ s Q E hr F K h=>wpAny_Break (h _ σ s (jX.refl F.ownData) K F rfl)
 |Continue=>exact aj hx▸fun A env σ s Q E hr F K h=>wpAny_Continue (h _ σ s (jX.refl F.ownData) K F rfl)
 |Return o pos=>exact iU hx fun e ho hx=>jw hx fun p h1 e0=>e0▸ho▸EW S h1
 |Expr=>exact MK S hx
 |Assign ts e pos=>
  refine iU hx fun t ht hx=> ?_;refine iR (jU ht) ?_;cases t with
  |Subscript=>exact PW S hx
  |_=>exact E0 U S hx
 |AugAssign t op e pos=>exact iU hx fun x hv hx=>kO hx fun ho hx=>tF hv fun p=>o_ ho▸P_ T S hx
 |If t a b pos=>exact iU hx fun p h1 hx=>Ug S h1 hx
 |While t body oe pos=>exact kO hx fun ho hx=>nO ho▸ID S hx
 |For target iter body oe pos=>
  exact kO hx fun ho hx=>nO ho▸EY T U G S hx
 |Try body hs oe fb pos=>
  refine kO hx fun ho hx=>lP (jA ho) fun ho h3=>lP (jA ho) fun h1 h2=> ?_;clear T U G ho;clear ho;obtain rfl:=nO h2;obtain rfl:=nO h3;cases hs with
  |nil=>exact Bool.noConfusion h1
  |cons=>exact PU S hx
 |_=>exact ku hx
theorem T7(T:nM C)(U:nk C)(G:Ei C)(S:nJ C n r):TQ C n (KP r):=fun ζ ζ ζ ζ ζ ζ ζ hx=>PK T U G S hx
end
structure Eh(C:Cx):Prop where
 isets:GP C
 unset:nk C
 fors:Ei C
 tup:LU C
 disp:∀(n:Nat)(r:nI),nJ C n r->∀(sc:Scope)(a:Expr)(pos:Pos)(ρ:i8)(st ji:St)(v:PV),Pd r sc a ρ st=some (v,ji)->kP C n sc (.Set [a] 0 pos) ρ st v ji
 setcomp:∀(n:Nat)(r:nI),nJ C n r->∀(sc kh:Scope)(elt target iter:Expr)(pos:Pos)(ρ:i8)(st ji:St)(v:PV),AL r sc elt target iter kh ρ st=some (v,ji)->kP C n sc (.SetComp elt [⟨target,iter,[],0⟩] kh pos) ρ st v ji
section
variable{C:Cx}{sc:Scope}{env:Env}{σ σ' jN lX:List Addr}{s s' s₁ j5:Shared}{ρ kC:i8}{st ji:St}{A:Around}{n:Nat}{E:aa}{r:nI}{v:PV}{fl:jf}{W:Addr->Prop}
theorem xP{gens:List Comprehension}{g:Comprehension}(h:one gens=some g)(ha:(g.is_async==0)=true):gens=[⟨g.target,g.iter,g.ifs,0⟩]:=by
 refine iR (jU h) ?_;clear h;obtain⟨t,i,f,a⟩:=g;have ha:a=0:=eq_of_beq ha;refine iR ha ?_;rfl
theorem T_(O:Eh C)(S:nJ C n r):WZ C n (B7 r):=fun sc elt gens kh pos t tp spos ρ st v ji kC hx mq=>
 iU hx fun g hg hx=>kO hx fun ha hx=>xP hg ha▸II O.unset S hx mq
theorem PT{g xs:Expr}{np mp mpos pos:Pos}(T:nM C)(O:Eh C)(S:nJ C n r)(hk:i9 sc "tuple"=some .globalImplicit)(hm:i9 sc "map"=some .globalImplicit)(hx:TM r sc g xs ρ st=some (v,ji)):
  kP C (n+1) sc (.Call (.Name "tuple" np) [.Call (.Name "map" mp) [g,xs] [] mpos] [] pos) ρ st v ji:=fun A env σ s Q E hr0 F K h=>by
 have hr:ki A n:=hr0.mono (dH n);refine kO hx fun q hx=>iU hx fun x h1 hx=>iU hx fun y h2 hx=>iU hx fun nm h3 hx=>iU hx fun k h4 hx=>iU hx fun l h5 hx=>iU hx fun s3 h6 hx=>iU hx fun w h7 hx=>jw hx fun vs h8 e=> ?_;clear hx;cases e;clear hx;refine lP (jA q) fun q4 q5=> ?_;have Vt:starEach [Expr.Call (.Name "map" mp) [g,xs] [] mpos] env=[(false,eval (Expr.Call (.Name "map" mp) [g,xs] [] mpos) env)]:=rfl;have YA:starEach [g,xs] env=[(false,eval g env),(false,eval xs env)]:=by(refine iR (mj (by simpa using q4)) ?_;refine iR (mj (by simpa using q5)) ?_);rfl
 refine ai (Cc F hk (uy (fv:=.type "tuple") T F K hk (T.free _ (by decide)) (by decide+kernel) (?_:wpAny C.M A (callWith pos (.type "tuple") [] [(false,eval (Expr.Call (.Name "map" mp) [g,xs] [] mpos) env)] []) Q E s)));refine callWith_type1 <| iR (eO ..) <| iR (YA ..) <| ai (Cc F hm (uy (fv:=.type "map") T F K hm (T.free _ (by decide)) (by decide+kernel) (?_:wpAny C.M A (callWith mpos (.type "map") [] [(false,eval g env),(false,eval xs env)] []) _ E s)))
 refine PySem.callWith_type rfl (f9 (fO (S.E sc g ρ _ _ _ h1 A env σ s _ E hr F K fun fv kg t1 X1 K1 V1=>fO (S.E sc xs ρ _ _ _ h2 A env kg t1 _ E hr (F.ext X1) K1 fun xv qv t2 X2 K2 V2=>h_ ?_))));rw[Oi h3]at V1;clear T hk hm F K hr q h1 h2 h3 hx q4 q5 Vt YA K1;clear hx;obtain⟨w,s4⟩:=w;clear hx;clear hx;clear hx;obtain rfl:=kD h8;exact O.tup n r S A qv t2 _ _ _ nm k l _ fv xv Q E hr0 K2 V1 (JV h4▸V2) (j_ h5) h6 h7 (h.after (X1.trans X2))
theorem Jo{args:List Expr}{q:Expr×Expr}(h:mapOf sc ρ args=some q):∃mp mpos,args=[.Call (.Name "map" mp) [q.1,q.2] [] mpos]/\i9 sc "map"=some .globalImplicit:=
 iU h fun e h1 h=>iU h fun c h2 h=>iU h fun m h3 h=>iU h fun g h4 h=>kO h fun hb e'=>by
  refine jC (aj e') ?_;obtain⟨f,a,k⟩:=c;refine jC (aR.mp (jA (jA hb).1).2) ?_;rw[jU h1];exact El h2 fun mpos=>tF h3 fun mp=>⟨mp,mpos,by rw[pZ h4,nO (jA (jA hb).1).1],tP (jA hb).2⟩
theorem kP.up{e:Expr}(h:kP C n sc e ρ st v ji):kP C (n+1) sc e ρ st v ji:=fun A env σ s Q E hr=>h A env σ s Q E (hr.mono (dH n))
theorem IG{f:Str}{args:List Expr}{kws:List Keyword}{np pos:Pos}(T:nM C)(O:Eh C)(S:nJ C n r)(hx:GJ r sc f args kws ρ st=some (v,ji)):kP C (n+1) sc (.Call (.Name f np) args kws pos) ρ st v ji:=by
 refine kO hx fun hb hx=> ?_;have hk:=tP hb;cases hf:f==("tuple":Str)with
 |true=>
  clear hb;obtain rfl:=aR.mp hf;refine kO hx fun hw h2=>iU h2 fun q hm h3=> ?_;clear hx h2;refine Vk (Jo hm) fun mp mpos z1 hkm=> ?_;clear hm;refine iR z1 ?_;refine iR (nO hw) ?_;exact PT (g:=q.1) (xs:=q.2) T O S hk hkm h3
 |false=>
  replace hx:=hf▸hx
  exact(IC T S hk hx).up
theorem Io{op:BoolOp}{es:List Expr}{pos:Pos}(S:nJ C n r){q:PV×St}(hx:Sx r sc op pos ρ st es=some q):kP C n sc (.BoolOp op es pos) ρ st q.1 q.2:=by
 cases es with
 |nil=>exact ku hx
 |cons a es=>cases es with
  |nil=>exact IK (S.E _ _ _ _ _ _ hx)
  |cons b es=>
   refine iU hx fun p h1 hx=>iU hx fun t h2 hx=>EZ (S.E _ _ _ _ _ _ h1) h2 (fun g=> ?_) fun g=> ?_
   ·rw[g]at hx;exact S.E _ _ _ _ _ _ hx
   ·rw[g]at hx;refine jC (aj hx) ?_;exact⟨rfl,rfl⟩
theorem Ms{a i:Expr}{pos:Pos}(S:nJ C n r){q:PV×St}(hx:B7 r sc (.Subscript a i pos) ρ st=some q):kP C n sc (.Subscript a i pos) ρ st q.1 q.2:=by
 have item:(∀a b c d,i≠ .Slice a b c d)->Sw r sc a i ρ st=some q->kP C n sc (.Subscript a i pos) ρ st q.1 q.2:=fun hi hx=>
  iU hx fun p h1 hx=>iU hx fun q' h2 hx=>jw hx fun w h3 e=>e▸MJ hi (S.E _ _ _ _ _ _ h1) (S.E _ _ _ _ _ _ h2) h3
 cases i with
 |Slice lo hi step pp=>exact iU hx fun p h1 hx=>iU hx fun l h2 hx=>iU hx fun u h3 hx=>iU hx fun k h4 hx=>jw hx fun w h5 e=>e▸IF S (S.E _ _ _ _ _ _ h1) h2 h3 h4 h5
 |_=>exact item (fun ζ ζ ζ ζ e=>by contradiction) hx
theorem PL(T:nM C)(O:Eh C)(S:nJ C n r){e:Expr}(he:∀f np args kws pos,e≠ .Call (.Name f np) args kws pos){q:PV×St}(hx:B7 r sc e ρ st=some q):kP C n sc e ρ st q.1 q.2:=by
 cases e with
 |Constant=>exact Bm hx
 |Name=>exact kO hx fun hk hx=>jw hx fun w h1 e=>e▸MH T hk h1
 |BinOp=>exact iU hx fun p h1 hx=>iU hx fun q' h2 hx=>jw hx fun w h3 e=>e▸IL O.isets (S.E _ _ _ _ _ _ h1) (S.E _ _ _ _ _ _ h2) h3
 |UnaryOp op a pos=>cases op with
  |USub=>exact iU hx fun p h1 hx=>jw hx fun i h2 e=>e▸MG (jv h2▸S.E _ _ _ _ _ _ h1)
  |Not=>exact iU hx fun p h1 hx=>jw hx fun i h2 e=>e▸PY (S.E _ _ _ _ _ _ h1) h2
  |_=>exact ku hx
 |IfExp=>
  refine iU hx fun p h1 hx=>IJ (S.T _ _ _ _ _ _ h1) ?_;clear h1;obtain⟨b,st1⟩:=p;cases b with
  |true|false=>exact S.E _ _ _ _ _ _ hx
 |BoolOp=>exact Io S hx
 |Compare=>exact jw hx fun p DP e=>e▸CR DP fun p c l hm e1 e2 h1 h2=>C7 S hm e1 e2 (S.E _ _ _ _ _ _ h1) h2
 |List=>exact iU hx fun p h1 hx=>kO hx fun hs e=>aj e▸MI S h1 hs
 |Tuple=>exact iU hx fun p h1 hx=>kO hx fun hs e=>aj e▸IE S h1 hs
 |Set es k pos=>exact iU hx fun a h1 hx=>kO hx fun hk hx=>by(refine iR (jU h1) ?_;refine iR (eq_of_beq hk) ?_);exact O.disp n r S _ _ _ _ _ _ _ hx
 |Dict=>exact kO hx fun hk e=>by refine jC (aj e) ?_;(refine iR (nO (jA hk).1) ?_;refine iR (nO (jA hk).2) ?_);exact MM
 |Subscript=>exact Ms S hx
 |ListComp=>exact iU hx fun g hg hx=>kO hx fun ha hx=>xP hg ha▸Bl O.unset S hx
 |SetComp=>exact iU hx fun g hg hx=>kO hx fun ha hx=>by(refine iR (xP hg (jA ha).1) ?_;refine iR (nO (jA ha).2) ?_);exact O.setcomp n r S _ _ _ _ _ _ _ _ _ _ hx
 |Call f args kws pos=>cases f with
  |Attribute=>exact kO hx fun hk hx=>kO hx fun hp hx=>iU hx fun p h1 hx=>kO hx fun mq hx=>iU hx fun q' h2 hx=>nO hk▸EX S (jA (jA hp).1).1 (jA (jA hp).1).2 (o_ (jA hp).2) (S.E _ _ _ _ _ _ h1) mq h2 hx
  |Name=>exact absurd rfl (he _ _ _ _ _)
  |_=>exact ku hx
 |_=>exact ku hx
theorem T8(T:nM C)(O:Eh C)(S:nJ C n r):yR C (n+1) (B7 r):=fun sc e ρ st v ji hx=>by
 refine bc (p:=∃f np args kws pos,e= .Call (.Name f np) args kws pos) (fun he=> ?_) fun he=> ?_
 ·refine o51 he fun f np args kws pos z2=> ?_;clear he;subst z2;exact IG T O S hx
 ·exact(PL T O S (fun f np args kws pos q=>he (SV f np args kws pos q)) hx).up
end
def SJ(C:Cx):Prop:=∀(n:Nat)(r:nI),nJ C n r->Pg C (n+1) (KQ r)
theorem Ud{C:Cx}(T:nM C)(O:Eh C)(H:SJ C):∀n,nJ C n (ev n):=by
 intro L0
 induction L0 with
 |zero=>
  exact⟨fun ζ ζ ζ ζ ζ ζ ζ ζ ζ ζ ζ ζ ζ hx=>ku hx,fun ζ ζ ζ ζ ζ ζ hx=>ku hx,fun ζ ζ ζ ζ ζ ζ hx=>ku hx,fun ζ ζ ζ ζ ζ ζ ζ hx=>ku hx,fun ζ ζ ζ ζ ζ ζ hx=>ku hx⟩
 |succ n ih=>
  exact
   have S:=ih
   ⟨fun sc elt gens kh pos t tp spos ρ st v ji kC hx mq A env σ s Q E hr=>T_ O S sc elt gens kh pos t tp spos ρ st v ji kC hx mq A env σ s Q E (hr.mono (dH n)),
    T8 T O S,
    fun sc e ρ st v ji hx A env σ s Q E hr=>T6 S sc e ρ st v ji hx A env σ s Q E (hr.mono (dH n)),
    fun sc e ρ st fl kC ji hx A env σ s Q E hr=>T7 T O.unset O.fors S sc e ρ st fl kC ji hx A env σ s Q E (hr.mono (dH n)),
    H n (ev n) S⟩
noncomputable def SQ(a:Arguments):Bool:=a.posonlyargs.isEmpty&&a.kwarg.isNone&&a.defaults.isEmpty&&(a.vararg.isNone||a.kwonlyargs.isEmpty)
noncomputable def mY(g:Nat->Value)(m k:Nat):List Value:=(List.range k).map fun i=>g (m+i)
noncomputable def bl (a:Arguments) (fd:FuncData) (g:Nat->Value):Sem (List (Str×Value)):=
 bindArgs {fd with params:=a,defaults:=.none} ⟨mY g 0 (a.args.length+cond a.vararg.isSome 1 0),(a.kwonlyargs.map (·.arg)).zip (mY g a.args.length a.kwonlyargs.length)⟩
noncomputable def br (a:Arguments) (_:FuncData) (g:Nat->Value):Sem (List (Str×Value)):=a.vararg.elim (pure ((a.args.map (·.arg)++a.kwonlyargs.map (·.arg)).zip (mY g 0 (a.args.length+a.kwonlyargs.length)))) fun v=>
 newTuple [g a.args.length] >>= fun t=>pure ((a.args.map (·.arg)).zip (mY g 0 a.args.length)++[(v.arg,t)])
theorem JR:(ud.filter fun q=>SQ q.2.1).map (fun q=>bl q.2.1)=(ud.filter fun q=>SQ q.2.1).map fun q=>br q.2.1:=by kernel_rfl
theorem vo(L p l s:List Value){m k:Nat}(hm:p.length=m)(hk:l.length=k)(h:L=p++(l++s)):mY (fun i=>L.getD i .none) m k=l:=by
 refine iR h ?_;subst hm;subst hk;refine List.ext_getElem (by simp[mY]) fun i h1 h2=> ?_;simp[mY,cX,bf h2,aO h2]
section
variable{C:Cx}{A:Around}{E:aa}{s:Shared}{fd:FuncData}{vals us:List Value}{Q:List (Str×Value)->Shared->Prop}{nm:Str}{bs:List Stmt×Scope}
theorem Hx(m:(nm,fd.params,bs)∈ud)(ok:SQ fd.params=true)(h5:fd.defaults= .none)(g:Nat->Value):bindArgs fd ⟨mY g 0 (fd.params.args.length+cond fd.params.vararg.isSome 1 0),(fd.params.kwonlyargs.map (·.arg)).zip (mY g fd.params.args.length fd.params.kwonlyargs.length)⟩=br fd.params fd g:=
 have e:({fd with params:=fd.params,defaults:=.none}:FuncData)=fd:=by cases fd;cases h5;rfl
 (aQ (fun f=>bindArgs f _) e).symm.trans (congrFun (congrFun (List.map_inj_left.mp JR _ (dF.mpr ⟨m,ok⟩)) fd) g)
theorem Od{v:Arg}(m:(nm,fd.params,bs)∈ud)(ok:SQ fd.params=true)(h2:fd.params.vararg=some v)(h3:fd.params.kwonlyargs=[])(h5:fd.defaults= .none)(hl:vals.length=fd.params.args.length+1)
  (h:wpAny C.M A (newTuple (vals.drop fd.params.args.length)) (fun t s'=>Q ((fd.params.args.map (·.arg)).zip (vals.take fd.params.args.length)++[(v.arg,t)]) s') E s):wpAny C.M A (bindArgs fd ⟨vals,[]⟩) Q E s:=by
 have k:=Hx m ok h5 fun i=>vals.getD i .none;have e1:=vo vals [] vals [] (m:=0) rfl hl (cK _).symm;have e2:=vo vals [] (vals.take fd.params.args.length) (vals.drop fd.params.args.length) (m:=0) rfl (by rw[bD,hl,cI (dH _)]) (eZ ..).symm;have e3:=vo vals (vals.take fd.params.args.length) (vals.drop fd.params.args.length) [] (by rw[bD,hl,cI (dH _)]) (by rw[bV,hl,gy]) (by rw[cK,eZ]);unfold br at k;rw[h2,h3]at k
 replace k:bindArgs fd ⟨mY (fun i=>vals.getD i .none) 0 (fd.params.args.length+1),[]⟩=newTuple (mY (fun i=>vals.getD i .none) fd.params.args.length 1) >>= fun t=>pure ((fd.params.args.map (·.arg)).zip (mY (fun i=>vals.getD i .none) 0 fd.params.args.length)++[(v.arg,t)]):=k
 rw[e2,e3]at k;rw[e1]at k;exact iR k <| ai (bO h (fun t s' ht=>ak ht) fun ζ ζ z=>z)
theorem Rp(m:(nm,fd.params,bs)∈ud)(ok:SQ fd.params=true)(h2:fd.params.vararg=none)(h5:fd.defaults= .none)(hl:fd.params.args.length=vals.length)(hk:fd.params.kwonlyargs.length=us.length)
  (h:Q ((fd.params.args.map (·.arg)++fd.params.kwonlyargs.map (·.arg)).zip (vals++us)) s):wpAny C.M A (bindArgs fd ⟨vals,(fd.params.kwonlyargs.map (·.arg)).zip us⟩) Q E s:=by
 have k:=Hx m ok h5 fun i=>(vals++us).getD i .none;have e1:=vo (vals++us) [] vals us (m:=0) rfl hl.symm rfl;have e2:=vo (vals++us) vals us [] hl.symm hk.symm (by rw[cK]);have e3:=vo (vals++us) [] (vals++us) [] (m:=0) rfl (by rw[au,<-hl,<-hk]) (cK _).symm;unfold br at k;rw[h2]at k
 replace k:bindArgs fd ⟨mY (fun i=>(vals++us).getD i .none) 0 fd.params.args.length,(fd.params.kwonlyargs.map (·.arg)).zip (mY (fun i=>(vals++us).getD i .none) fd.params.args.length fd.params.kwonlyargs.length)⟩=pure ((fd.params.args.map (·.arg)++fd.params.kwonlyargs.map (·.arg)).zip (mY (fun i=>(vals++us).getD i .none) 0 (fd.params.args.length+fd.params.kwonlyargs.length))):=k
 rw[e1,e2,e3]at k;exact iR k <| ak h
end
theorem CQ{n:Str}{q:Arguments×List Stmt×Scope}(h:fnOf n=some q):(n,q)∈ud:=mem_of_lookup h
section
variable{C:Cx}{sc:Scope}{env:Env}{σ σ':List Addr}{s s':Shared}{ρ kC:i8}{st ji:St}{A:Around}{n:Nat}{E:aa}{r:nI}{v:PV}
theorem DI{a:Arguments}{args:List PV}{kws:List (Str×PV)}{q:List Str×List PV}(h:zA a args kws=some q):a.defaults=[]:=kO h fun c ζ=>nO (jA c).2
theorem Oe{fd:FuncData}{nm:Str}{bs:List Stmt×Scope}{args:List PV}{kws:List (Str×PV)}{q:List Str×List PV}{vs us:List Value}{Q:List (Str×Value)->Shared->Prop}(hb:zA fd.params args kws=some q)(hd:fd.defaults= .none)
  (m:(nm,fd.params,bs)∈ud) (K:Ok C σ s st) (V:jH C σ s.heap args vs) (W:jH C σ s.heap (kws.map (·.2)) us)
  (h:∀vals s',je s s'->jH C σ s'.heap q.2 vals->Q (q.1.zip vals) s'):wpAny C.M A (bindArgs fd ⟨vs,(kws.map (·.1)).zip us⟩) Q E s:=by
 refine kO hb fun c0 hb=> ?_;cases hv:fd.params.vararg with
 |some w=>
  replace hb:=hv▸hb
  refine kO hb fun c e=> ?_;obtain rfl:=aj e;refine lP (jA c) fun c h2=>lP (jA c) fun h3 hk=> ?_;refine iR (nO hk) ?_;have hl:vs.length=fd.params.args.length+1:=V.length.trans (eq_of_beq h2);have e1:(vs.take fd.params.args.length).length=fd.params.args.length:=by rw[bD,hl];exact cI (dH _)
  have hs:(vs.drop fd.params.args.length).length<=sizeLine:=by rw[bV,hl,gy];exact nv (by decide)
  exact Od m (by unfold SQ;rw[c0,h3,Bool.or_true];rfl) hv (nO h3) hd hl (wpAny_newTuple (hsz:=hs) ((List.zip_append (r₁:=[w.arg]) (r₂:=[Value.ref s.heap.objs.size]) ((aJ ..).trans e1.symm))▸h _ _ (je.push s _) (jH.append (jH.cons (ve K (V.drop _) hs) jH.nil) ((V.take _).grow (je.push s _)))))
 |none=>
  replace hb:=hv▸hb
  refine kO hb fun c e=> ?_;obtain rfl:=aj e;have c2:=eq_of_beq (jA c).2;have k:=Rp (C:=C) (A:=A) (E:=E) (s:=s) (fd:=fd) (vals:=vs) (us:=us) (Q:=Q) m (by unfold SQ;rw[c0,hv];rfl) hv hd ((eq_of_beq (jA c).1).trans V.length.symm) (by have:=aQ List.length c2;rw[aJ,aJ]at this;rw[W.length,aJ];exact this.symm);rw[<-c2]at k;exact k (h _ s je.rfl' (jH.append W V))
theorem LL(T:nM C)(S:nJ C n r):Pg C (n+1) (zy r):=by
 intro name args kws st v ji hx A σ s vs us fv Q E hr K V W hm h;refine iU hx fun q h1 hx=>kO hx fun ok hx=>iU hx fun b h2 hx=>iU hx fun ρ h3 hx=>iU hx fun p h4 hf=> ?_;obtain⟨q1,q2⟩:Kl q.2.2=true/\q.2.2.names.all (fun x=>x.2 != .free)=true:=by
  unfold Ky at ok;simpa using ok
 have uL:=Cu q1;obtain⟨a,body,sc⟩:=q;obtain⟨f,o,pm,cd,doc,dV,kV,hmf,ho,WO,OA,hdv⟩:=T.fns name a body sc h1;cases hm.symm.trans hmf;obtain rfl:=hdv (DI h2);refine wpAny_call (codeAny_call_function (body:=body) (by have:=hr.d;exact pD ‹_›) (K.base _ _ ho) WO uL.co uL.gen rfl (OA.keeps K.base) (Oe h2 rfl (CQ h1) K V W fun vals s1 g1 V1=> ?_));have K1:=K.grow g1;refine ye (DW:=[]) uL K1 rfl (by obtain⟨c,o',vs',_,e1,e2,e3,_⟩:=OA;exact(Ze c o' vs' e1 e2 e3)) (fun x DP=> ?_) (fun x v DP=>ku DP) rfl h3 V1 fun env s2 he X1 K2 F wj=> ?_
 ·cases bZ.mp q2 (x,.free) (mem_of_lookup DP)
 refine⟨T.nolimit.keeps K2.base,codeAny_func (pg S.S (hr.deeper env) body ρ st p σ s2 _ h4 F K2 fun fv SN s3 X2 K3 F3 fR=> ?_)⟩;have GF:∀b,Internal.own sc env b->s.heap.get? b=none:=fun b hb=>Aa g1 (wj b hb);have done:∀(val:Value),VR C SN s3.heap (B9 p.1) val->Q val s3:=fun val Vw=>by
  obtain⟨Y,KY,VY⟩:=tS K2 K3 X2 hf Vw;exact h val σ s3 ((((g1.ext.trans X1).weaken (fun b hb=>(K.newAddr (GF b hb)).1) (fun b ob hb e=>by rw[GF b hb]at e;cases e)).trans Y).strip (fun b hb ζ=>GF b hb) (fun ζ q=>q.elim)) KY VY
 clear T S hx hr K V W h hf h1 ok h2 h3 h4 q1 q2 uL hmf ho OA hm WO hdv g1 V1 K1 he X1 K2 F wj X2 K3 F3 GF;obtain⟨fl,kC,st1⟩:=p;cases fl with
 |ret w=>obtain⟨val,rfl,Vw⟩:=fR;exact done val Vw
 |next=>obtain rfl:fv= .next:=fR;exact done .none uf
 |brk=>obtain rfl:fv= .brk:=fR;exact done .none uf
 |cont=>obtain rfl:fv= .cont:=fR;exact done .none uf
theorem Og{h:Heap}{val:Value}(hv:Cj v=true)(V:VR C σ' h v val):VR C σ h v val:=by
 cases v<;>first|(exact V)|cases hv
theorem Ok.empty(K:Ok C σ s st):Ok C [] s []:=⟨K.base,fun ζ q=>(nomatch q),rfl,d8,fun k a c q=>(ku q)⟩
theorem T9(T:nM C)(S:nJ C n r):Pg C (n+1) (KQ r):=by
 intro name args kws st v ji hx;refine mC hx (fun ζ hx=>kO hx fun q hx=>iU hx fun w h1 hx=>kO hx fun hs e=> ?_) fun hx=>LL T S name args kws st v ji hx;clear hx;clear hx;cases e;intro A σ s vs us fv Q E hr K V W hm h;refine LL T S name args kws [] _ _ h1 A [] s vs us fv Q E hr K.empty (m8 (σ:=[]) V (jA q).1) (m8 (σ:=[]) W (jA q).2) hm fun val σ' s' X K' V'=> ?_;have g:je s s':=⟨fun b o e=>X.keep b o e (by simp) id,X.gens,X.os⟩;exact h val σ s' g.ext (K.grow g) (Og hs V')
end
theorem Mt{C:Cx}(T:nM C):SJ C:=fun ζ ζ S=>T9 T S
section
variable{C:Cx}{σ σ':List Addr}{s s':Shared}{st ji:St}{A:Around}{E:aa}
theorem MR(a b:Int):(sI a b).reverse=xj (a+((b-a).toNat-1:Int)) (-1) (b-a).toNat:=by
 dsimp only[sI,xj];generalize hn:(b-a).toNat=n;apply List.ext_getElem
 ·simp
 ·intro i h1 h2;simp only[cT,aJ,dK]at h1;refine iR (List.getElem_reverse ..) <| iR (List.getElem_map ..) <| iR (List.getElem_map ..) <| iR (List.getElem_range ..) <| iR (List.getElem_range ..) ?_
  rw[aJ,dK];congr 1
  (exact U' ‹_›)
theorem sL{r:Addr}{a b:Int}{t u v:Tok}{Q₁:aa}(hr:IsRange s.heap r a b 1 t u v)(h1:0<=a)(h2:a<=100000)(h3: -100000<=b)(h4:b<=100000)
  (h:Q₁ (.ref s.heap.objs.size) {s with heap:=s.heap.push {cls:=.type "range_iterator",data:=.fields #[rawInt (a+((b-a).toNat-1)*1),rawInt ((b-a).toNat:Int),rawInt (-1)]}}):
  codeAny C.M A (.call (.builtin "reversed.__new__") ⟨[.type "reversed",.ref r],[]⟩) (wants Q₁ E) s:=by
 have hT:s.TypeIs (.ref r) "range":=⟨_,hr,rfl⟩;refine gP <| (?_:wpAny _ A.in1 (do checkBuiltinCall "reversed.__new__" ⟨[.type "reversed",.ref r],[]⟩;again (.builtin "reversed.__new__" ⟨[.type "reversed",.ref r],[]⟩)) _ _ s)
 refine ai (bx (F.newCall_reversed_1 _) (ak ⟨bA F.plain_reversed_new _,bu F.entry_reversed_new (iR (bG F.plain_reversed_new _) (ai (bx (newClass_reversed _) ?_)))⟩))
 try skip
 refine ai (bx (a:=()) (by first|rfl|kernel_rfl) (ai (bx (a:=()) (by first|rfl|kernel_rfl) ?_)))
 try dsimp only
 refine ai (fX hT F.slot_range_reversed.lookup ?_)
 try skip
 refine ai (bx (F.slot_range_reversed.bind _) ?_)
 try skip
 first
 |(refine iR (aS (show ¬ ((Value.builtin "range.__reversed__"==Value.none)=true)from Bool.false_ne_true)) ?_)
 |(show wpAny _ _ (if(Value.builtin "range.__reversed__"==Value.none)=true then _ else _) _ _ _;rw[aS (show ¬ ((Value.builtin "range.__reversed__"==Value.none)=true)from Bool.false_ne_true)])
 refine ai (dS (ai (m:=runValue (.call (.builtin "range.__reversed__") ⟨[.ref r],[]⟩)) (show wpAny _ _ (call (.builtin "range.__reversed__") [.ref r]) _ _ _ from(bU F.slot_range_reversed hT F.entry_range_reversed ?_ (F.args_range_reversed_1 _)))));dsimp only[Builtin.«range.__reversed__»];refine ai (bx (a:=Value.ref r) rfl ?_);dsimp only[Builtin.Range.rangeFields];simp only[bind_assoc];refine ai (fF hr rfl (x:=.int a t) rfl (ai (bx (a:=some a) rfl (ai (fF hr rfl (x:=.int b u) rfl (ai (bx (a:=some b) rfl (ai (fF hr rfl (x:=.int 1 v) rfl (ai (bx (a:=some 1) rfl ?_)))))))))));rw[pure_bind];refine iR ((rangeSize_one ..).trans (Tg a b):Builtin.Range.rangeSize a b 1=((b-a).toNat:Int)) ?_;have Zp:(Builtin.Range.rangeFitsLong a&&Builtin.Range.rangeFitsLong b&&Builtin.Range.rangeFitsLong 1&&Builtin.Range.rangeFitsLong (-1)&&Builtin.Range.rangeFitsLong (a-1)&&Builtin.Range.rangeFitsLong ((b-a).toNat:Int))=true:=by
  unfold Builtin.Range.rangeFitsLong;simp only[aG,bq];refine⟨⟨⟨⟨⟨?_,?_⟩,?_⟩,?_⟩,?_⟩,?_⟩<;>lia
 refine iR Zp <| ai (bM (ak ⟨_,rfl,?_⟩))
 first
 |exact ak h
 |exact ai (ak (ak h))
 |exact h
theorem wu:isSubtype (.type "range_iterator") (.type "reversed")=pure false:=by(refine iR (cu ..) ?_);kernel_rfl
theorem Qf{a b:Int}{val:Value}{Q:aa}(hh:A.handled=none)(K:Ok C σ s st)(V:VR C σ s.heap (.rng a b) val)
  (h:∀I W kQ mK mD s',MW C (sI a b).reverse I W kQ mK mD->(∀i v σ s,mD i v σ s->mK i σ s)->(∀ji,kQ ji)->(∀x,W x->s.heap.get? x=none)->je s s'->mK 0 σ s'->Q (.ref I) s'):
  wpAny C.M A (call (.type "reversed") [val]) (fun rv s₁=>wpAny C.M A (pyIter rv) Q E s₁) E s:=by
 refine Y_ (tK V) fun x t u w z1 hn hr h1 h2 h3 h4=> ?_;clear hh K V hn;refine iR z1 ?_;have pS:IsRangeIter (s.heap.push {cls:=.type "range_iterator",data:=.fields #[rawInt (a+((b-a).toNat-1)*1),rawInt ((b-a).toNat:Int),rawInt (-1)]}) s.heap.objs.size (a+((b-a).toNat-1)*1) ((b-a).toNat:Int) (-1):=by
  refine(?_:IsRangeIter _ _ _ _ _);have:=aF s.heap (o:={cls:=.type "range_iterator",data:=.fields #[rawInt (a+((b-a).toNat-1)*1),rawInt ((b-a).toNat:Int),rawInt (-1)]}) rfl;exact this
 refine callType_other (U:="range_iterator") (Q₁:=fun obj s₁=>obj= .ref s.heap.objs.size/\s₁={s with heap:=s.heap.push {cls:=.type "range_iterator",data:=.fields #[rawInt (a+((b-a).toNat-1)*1),rawInt ((b-a).toNat:Int),rawInt (-1)]}})
  (by decide+kernel) F.create_reversed (DO _ _ F.mro_reversed) F.made_reversed wu (F.typeCall_reversed_1 _) (sL hr h1 h2 h3 h4 ⟨rfl,rfl⟩) ?_
 rintro obj s₁ ⟨rfl,rfl⟩;refine⟨(jt _ pS rfl),gG pS ?_⟩;rw[MR]at h;refine h _ _ _ _ _ _ (MW.range _ (-1) (b-a).toNat) (fun ζ ζ ζ ζ z=>z) (fun ζ=>trivial) (fun b hb=>by(refine iR hb ?_);exact fresh_size s) (je.push s {cls:=.type "range_iterator",data:=.fields #[rawInt (a+((b-a).toNat-1)*1),rawInt ((b-a).toNat:Int),rawInt (-1)]}) ?_;have e:a+(((b-a).toNat:Int)-1)*1=a+(((b-a).toNat:Int)-1):=by lia
 replace pS:=e▸pS
 refine(?_:IsRangeIter _ _ _ _ _);refine iR e ?_
 (simpa using pS)
theorem uH{h:Heap}{e it:Addr}{i:Int}{old:Value}(x:IsEnum h e it i old):∃o,h.get? e=some o/\kY o:=(jt _ x (kY.of rfl rfl (by decide)))
theorem nY{h:Heap}{it l:Addr}{i:Nat}(x:h.IsListIter it l i):∃o,h.get? it=some o/\kY o:=uO x fun o ho hc hd=>jt o ho (kY.of hc hd (by decide))
theorem JC{l:List PV}{i:Nat}{q:PV}(h:l[i]? =some q):(D8 l)[i]? =some (.tup [.int (i:Int),q]):=by
 refine iR (List.getElem?_zipWith) ?_;refine iR (gn (ay.mp h).1) ?_;exact iR h rfl
theorem Af(l:List PV):(D8 l).length=l.length:=by simp[D8]
theorem MW.enum{l:List PV}{e it a:Addr}(m_:e≠it):
  MW C (D8 l) e (fun x=>x=e\/x=it) (fun ζ=>True) (fun i σ s=>(∃old,IsEnum s.heap e it i old)/\s.heap.IsListIter it a i/\VR C σ s.heap (.list l) (.ref a))
   (fun i v σ s=>(∃x b,v= .ref b/\IsEnumOut s.heap e it i x b)/\s.heap.IsListIter it a i/\VR C σ s.heap (.list l) (.ref a)) where
 objs:=fun i σ s h b hb=>by
  refine w4 h fun z2 hi ζ=> ?_;obtain⟨old,he⟩:=z2;rcases hb with rfl|rfl
  ·exact uH he
  ·exact nY hi
 objsM:=fun i v σ s h b hb=>by
  refine w4 h fun z3 hi ζ=> ?_;obtain⟨x,b',rfl,he⟩:=z3;rcases hb with rfl|rfl
  ·exact⟨_,he,kY.of rfl rfl (by decide)⟩
  ·exact nY hi
 keep:=fun own i σ s σ' s' x hW h=>by
  refine cps fun G_ qb=>w4 h fun z4 z5 V=> ?_;obtain⟨old,he⟩:=z4;obtain⟨o,ho,hc,hd⟩:=z5;exact qb <| ⟨⟨old,qH x hW (.inl rfl) he⟩,⟨o,qH x hW (.inr rfl) ho,hc,hd⟩,V.mono x.mono⟩
 item:=fun A i σ s st Q E hh hi K hc h hQ=>by
  refine w4 h fun z6 pS V=> ?_;obtain⟨old,he⟩:=z6;rw[Af]at hi;have V':=V;refine wF V' fun a' o vs e' hn ho so r=> ?_;cases e';refine m9 (show∃q,l[i]? =some q from⟨l[i],aO hi⟩) fun q hq=> ?_;refine jm (r.get hq) fun v hv vr=>wpAny_pyNext_enum_item he pS (so.isList ho) (x:=v) (by simpa using hv) m_ fun h' qK Eb hT hsz hk=> ?_;have R:we (fun x=>x=e\/x=it) s {s with heap:=h',toks:=s.toks+1}:=⟨fun b o hb e=>hk b o (fun z=>hb (.inl z)) (fun z=>hb (.inr z)) e,rfl,rfl⟩;have hI:rz (fun x=>x=e\/x=it) s:=fun b hb=>by
   clear hi V' hv hsz hk;rcases hb with rfl|rfl
   ·exact uH he
   ·exact nY pS
  have m:=R.mono (σ:=σ) hI;refine hQ _ _ _ (JC hq) ?_ ⟨⟨v,_,rfl,qK⟩,Eb,V.mono m⟩ R;exact⟨_,_,[.int i s.toks,v],rfl,K.fresh_size,hT,⟨0,rfl,by rw[eS];simp⟩,jH.cons (lQ _ _) (jH.cons (vr.mono m) jH.nil)⟩
 done:=fun A σ s st Q E hh K hc h hQ=>by
  refine cps fun G_ vF=>w4 h fun z7 pS V=> ?_;obtain⟨old,he⟩:=z7;refine vF ?_;rw[Af]at he pS;refine wF V fun a' o vs e' hn ho so r=> ?_;cases e';refine wpAny_pyNext_enum_end hh he pS (so.isList ho) (by simp[r.length]) fun h' hs=>hQ _ ⟨fun b o hb e=>hs b o (fun z=>hb (.inr z)) e,rfl,rfl⟩
 self:=fun A i σ s Q E h hQ=>by
  refine w4 h fun z8 ζ ζ=> ?_;obtain⟨old,he⟩:=z8;exact wpAny_pyIter_enum he hQ
 go:=fun A es k pos i v σ s Q E h hQ=>by
  refine w4 h fun z9 pS V=> ?_;clear h;obtain⟨x,b,rfl,he⟩:=z9;refine wpAny_letOwnedTupleGo_enum he fun h' BW yL=> ?_;have hI:rz (fun x=>x=e) s:=fun b hb=>⟨_,(aQ s.heap.get? (show b=e from hb)).trans he,kY.of rfl rfl (by decide)⟩;have R:we (fun x=>x=e) s {s with heap:=h'}:=⟨fun b o hb e=>(yL.2 b hb).trans e,rfl,rfl⟩;exact hQ _ ⟨⟨_,BW⟩,pS.at fun o y=>(yL.2 it m_.symm).trans y,V.mono (R.mono hI)⟩ ⟨fun b o hb e=>R.keep b o (fun z=>hb (.inl z)) e,rfl,rfl⟩
theorem N3{l:List PV}{val:Value}{Q:aa}(K:Ok C σ s st)(V:VR C σ s.heap (.list l) val)
  (h:∀I W kQ mK mD s',MW C (D8 l) I W kQ mK mD->(∀ji,kQ ji)->(∀x,W x->s.heap.get? x=none)->je s s'->mK 0 σ s'->Q (.ref I) s'):
  wpAny C.M A (call (.type "enumerate") [val]) (fun rv s₁=>wpAny C.M A (pyIter rv) Q E s₁) E s:=by
 have V':=V;refine wF V' fun a o vs kW hn ho so r=> ?_;clear K V' hn r;subst kW;refine call_enumerate_list (so.isList ho) fun h' he pS hsz hk=>wpAny_pyIter_enum he ?_;have g:je s {s with heap:=h'}:=⟨hk,rfl,rfl⟩;refine h _ _ _ _ _ _ (MW.enum (e:=s.heap.objs.size+1) (it:=s.heap.objs.size) (a:=a) (Nat.succ_ne_self _)) (fun ζ=>trivial) (fun x hx=> ?_) g ⟨⟨_,he⟩,pS,V.grow g⟩;rcases hx with rfl|rfl
 ·exact lE (dH _)
 ·exact lE (aK _)
theorem Q3:Ei C where
 rev:=fun A σ s st a b val Q E hh K V h=>Qf hh K V h
 enum:=fun A σ s st l val Q E ζ K V h=>N3 K V h
end
end
section
open PySem
open F
theorem zS:Manifest.owners.lookup (String.ofList ['p','a','m'].reverse)=some Manifest.sig_map:=by kernel_rfl
theorem yT:Slot "map" "__init__" "object.__init__":=
 .of (owner:="object") (n:="__init__") (by(refine iR (cP ..) ?_;refine iR (bW ..) ?_);kernel_rfl) (by decide+kernel) (by decide+kernel) (by decide+kernel)
  (by first|exact .inl (by decide+kernel)|exact .inr (by decide+kernel)) (by(refine iR (cu ..) ?_);kernel_rfl)
theorem sQ:Slot "map" "__iter__" "map.__iter__":=
 .of (owner:="map") (n:="__iter__") (by(refine iR (cP ..) ?_;refine iR (bW ..) ?_);kernel_rfl) (by decide+kernel) (by decide+kernel) (by decide+kernel)
  (by first|exact .inl (by decide+kernel)|exact .inr (by decide+kernel)) (by(refine iR (cu ..) ?_);kernel_rfl)
theorem wD(a:Value):argsOk "map.__iter__" ⟨[a],[]⟩:=by
 (refine iR (iM (id:="map.__iter__") (n:=['_','_','r','e','t','i','_','_']) (o:=['p','a','m']) (by kernel_rfl) zS) ?_);kernel_rfl
theorem mU:Slot "map" "__next__" "map.__next__":=
 .of (owner:="map") (n:="__next__") (by(refine iR (cP ..) ?_;refine iR (bW ..) ?_);kernel_rfl) (by decide+kernel) (by decide+kernel) (by decide+kernel)
  (by first|exact .inl (by decide+kernel)|exact .inr (by decide+kernel)) (by(refine iR (cu ..) ?_);kernel_rfl)
theorem r7:entryFor table "map.__next__"=some Builtin.«map.__next__»:=dR (by kernel_rfl)
theorem rA(a:Value):argsOk "map.__next__" ⟨[a],[]⟩:=by
 (refine iR (iM (id:="map.__next__") (n:=['_','_','t','x','e','n','_','_']) (o:=['p','a','m']) (by kernel_rfl) zS) ?_);kernel_rfl
theorem yG:entryFor table "map.__iter__"=some Builtin.«dict_keyiterator.__iter__»:=
 entryFor_alias (id':="dict_keyiterator.__iter__") (by kernel_rfl) (by first|rfl|decide+kernel|(unfold String.splitOn;simp+decide [String.splitOnAux])) (by decide+kernel) (by kernel_rfl)
theorem G3:mroOf (.type "map")=pure [.type "map",.type "object"]:=by(refine iR (mroOf_type ..) ?_);kernel_rfl
theorem yC:typeLookup (.type "map") "__new__"=pure (some (.builtin "map.__new__")):=by(refine iR (cP ..) ?_;refine iR (bW ..) ?_);kernel_rfl
theorem tT:TypeCalled "map" "map.__new__" "object.__init__":=
 ⟨by decide+kernel,by decide+kernel,(DO _ _ G3),madeBy_type G3 yC (by decide+kernel),by decide+kernel,by(refine iR (cu ..) ?_);kernel_rfl,yT⟩
theorem yx(a b:Value):checkTypeCall "map" ⟨[a,b],[]⟩=pure ():=by kernel_rfl
theorem yY(a b:Value):checkBuiltinCall "map.__new__" ⟨[.type "map",a,b],[]⟩=pure ():=by kernel_rfl
theorem za:entryFor table "map.__new__"=some Builtin.«map.__new__»:=dR (by kernel_rfl)
theorem sR:plainId "map.__new__"=true:=by decide+kernel
theorem Fl:typeLookup (.type "map") "__len__"=pure none:=by(refine iR (cP ..) ?_;refine iR (bW ..) ?_);kernel_rfl
theorem Dg:typeLookup (.type "map") "__length_hint__"=pure none:=by(refine iR (cP ..) ?_;refine iR (bW ..) ?_);kernel_rfl
theorem yX(o a b:Value):argsOk "object.__init__" ⟨[o,a,b],[]⟩:=by kernel_rfl
theorem Bu(a b:Value):Builtin.SmallTypes.newClass "map" ⟨[.type "map",a,b],[]⟩=pure (.type "map",[a,b]):=by
 rfl
section
variable{prog:Program}{w:World}{A:Around}{E:aa}{s:Shared}
theorem E6{M:Addr}{Q:aa}(hT:s.TypeIs (.ref M) "map")(h:Q (.ref M) s):wpAny (model prog w) A (pyIter (.ref M)) Q E s:=by
 refine wpAny_pyIter_slot hT sQ (bU sQ hT yG ?_ (wD _));refine(?_:wpAny _ _ (ret (.ref M)) _ _ s);exact ak ⟨_,rfl,"map",_,hT,mU.lookup,h⟩
noncomputable def oQ(l:Addr):Obj:={cls:=.type "list_iterator",data:=.fields #[.ref l,.int 0 0]}
noncomputable def nN(it:Addr):Obj:={cls:=.type "tuple",data:=.seq #[.ref it]}
noncomputable def qk(t:Addr)(f:Value):Obj:={cls:=.type "map",data:=.fields #[.ref t,f]}
theorem Oa{f:Value}{l:Addr}{items:Array Value}{Q:aa}(hl:s.heap.IsList l items)
  (h:Q (.ref (s.heap.objs.size+1+1)) {s with heap:=((s.heap.push (oQ l)).push (nN s.heap.objs.size)).push (qk (s.heap.objs.size+1) f)}):
  wpAny (model prog w) A (call (.type "map") [f,.ref l]) Q E s:=by
 refine callType_codes (Q₁:=fun obj s₁=>s₁.TypeIs obj "map"/\Q obj s₁) tT (yx _ _) F.entry_object_init ?_ fun obj s₁ j6=>
  ⟨j6.1,yX obj _ _,object_init_meets tT.init.lookup tT.made (by decide) prog w A.in1 _ s₁ ⟨j6.1,rfl,j6.2⟩⟩
 refine gP <| (?_:wpAny _ A.in1.in1 (do checkBuiltinCall "map.__new__" ⟨[.type "map",f,.ref l],[]⟩;again (.builtin "map.__new__" ⟨[.type "map",f,.ref l],[]⟩)) _ _ s)
 refine ai (bx (yY _ _) (ak ⟨bA sR _,bu za (iR (bG sR _) (ai (bx (Bu _ _) (ai (bx (a:=()) (by first|rfl|kernel_rfl) (ai (m:=Builtin.SmallTypes.iterAll [.ref l]) ?_))))))⟩));dsimp only[Builtin.SmallTypes.iterAll];simp only[b_,List.forIn_nil,bind_assoc,pure_bind];refine ai (aP (gb hl (ak ?_)));have z1:(s.heap.push (oQ l)).objs.size=s.heap.objs.size+1:=bK ..;have z2:((s.heap.push (oQ l)).push (nN s.heap.objs.size)).objs.size=s.heap.objs.size+1+1:=by rw[bK,z1]
 refine ai (wpAny_newTuple ?_ (by simp[sizeLine]));refine ai (m:=Builtin.SmallTypes.newRecord _ _) <| (?_:wpAny _ _ (newObj (.type "map") (.fields #[.ref (s.heap.push (oQ l)).objs.size,f])) _ _ _)
 refine bM <| ak ?_
 have e:=aF ((s.heap.push (oQ l)).push (nN s.heap.objs.size)) (o:=qk (s.heap.objs.size+1) f) rfl
 replace e:=z2▸e
 refine(?_:Shared.TypeIs ⟨((s.heap.push (oQ l)).push (nN s.heap.objs.size)).push (qk (s.heap.push (oQ l)).objs.size f),_,_,_,_⟩ (.ref ((s.heap.push (oQ l)).push (nN s.heap.objs.size)).objs.size) "map"/\_);refine iR z1 ?_;refine⟨⟨_,by(refine iR z2 ?_);exact e,rfl⟩,?_⟩;refine(iR z2 ?_:Q (.ref ((s.heap.push (oQ l)).push (nN s.heap.objs.size)).objs.size) {s with heap:=((s.heap.push (oQ l)).push (nN s.heap.objs.size)).push (qk (s.heap.objs.size+1) f)});exact h
end
end
section
open PySem
noncomputable def nx(m i:Nat):Nat:=(i*5+1)%(m+1)
noncomputable def OL(m:Nat):Nat->Nat->Nat
 |0,i=>i
 |t+1,i=>OL m t (nx m i)
theorem A5(m:Nat):∀(a b i:Nat),OL m (a+b) i=OL m b (OL m a i):=by
 intro L0
 induction L0 with
 |zero=>
  intro b i;exact iR (aX ..) rfl
 |succ a ih=>
  intro b i;refine iR (show a+1+b=(a+b)+1 by exact dh a b) <| (?_:OL m (a+b) (nx m i)=_)
  exact iR (ih b ..) rfl
noncomputable def Y9(m:Nat):Nat->Nat->ah
 |0,_=>[]
 |t+1,i=>i::Y9 m t (nx m i)
theorem G0{m:Nat}:∀{t i j:Nat},j∈Y9 m t i->∃a,a<t/\OL m a i=j:=by
 intro L0
 induction L0 with
 |zero=>
  intro i j h;contradiction
 |succ t ih=>
  intro i j h;rcases aV.mp h with e|h
  ·exact jt 0 (d9 _) e.symm
  ·exact jm (ih h) fun a ha e=>jt (a+1) (Nat.succ_lt_succ ha) e
noncomputable def Ss(m:Nat):Bool:=(List.range (m+1)).all (fun j=>(Y9 m (m+1) 0).contains j)&&OL m (m+1) 0==0
def KJ(m:Nat):Prop:=∀i j,i<=m->j<=m->∃t,t<=m/\OL m t i=j
theorem Q2{m:Nat}(h:Ss m=true):KJ m:=by
 unfold Ss at h;rw[aG,aR,bZ]at h;intro i j hi hj;refine jm (G0 (gX.mp (h.1 i (bH.mpr (eH ‹_›))))) fun a ha ea=>jm (G0 (gX.mp (h.1 j (bH.mpr (eH ‹_›))))) fun b hb eb=>bc (p:=a<=b) (fun OV=> ?_) fun OV=> ?_
 ·refine(jt (b-a) (ao (b6 ..) (aM hb)) ?_);have:=A5 m a (b-a) 0;rw[show a+(b-a)=b by(exact fq OV),ea,eb]at this;exact this.symm
 ·refine(jt ((m+1-a)+b) (aM (b9 (Nat.add_lt_add_left (e8 OV) _) (e7 (bC ha)))) ?_);have e1:=A5 m a (m+1-a) 0;rw[show a+(m+1-a)=m+1 by(exact fq (bC ha)),ea,h.2]at e1;exact iR (A5 ..) <| jC (e1 ..) <| iR (eb ..) rfl
noncomputable def zm:ah:=[7,15,31,63,127]
theorem yo:∀m∈zm,KJ m:=by
 intro m hm;simp only[zm,aV,fK,or_false]at hm;rcases hm with rfl|rfl|rfl|rfl|rfl<;>exact Q2 (by decide+kernel)
theorem DM:∀w<128,SetTable.sizeAbove w-1∈zm/\w<=SetTable.sizeAbove w-1:=by decide+kernel
noncomputable abbrev xr:=Array (Option Nat)
noncomputable def lp(m:Nat):Nat->Nat×Nat->Nat×Nat
 |0,p=>p
 |t+1,p=>lp m t (SetTable.leap m p.1 p.2)
theorem UC(m:Nat):∀(a b:Nat)(p:Nat×Nat),lp m (a+b) p=lp m b (lp m a p):=by
 intro L0
 induction L0 with
 |zero=>
  intro b p;exact iR (aX ..) rfl
 |succ a ih=>
  intro b p;refine iR (show a+1+b=(a+b)+1 by exact dh a b) <| (?_:lp m (a+b) _=_)
  exact iR (ih b ..) rfl
theorem UA(m:Nat):∀(t:Nat)(p:Nat×Nat),(lp m t p).2=p.2 / 32^t:=by
 intro L0
 induction L0 with
 |zero=>
  intro p;simp[lp]
 |succ t ih=>
  intro p;refine(iR (ih ..) ?_:(lp m t _).2=_);refine(iR (Nat.div_div_eq_div_mul ..) ?_:p.2 / 32 / 32^t=_);exact iR (Nat.pow_succ ..) <| iR (Nat.mul_comm ..) rfl
theorem UB(m:Nat):∀(t:Nat)(p:Nat×Nat),p.1<=m->(lp m t p).1<=m:=by
 intro L0
 induction L0 with
 |zero=>
  intro p h;exact h
 |succ t ih=>
  intro p _;exact ih _ (aM (fQ _ (d9 m)))
theorem Qz(m:Nat):∀(t i:Nat),(lp m t (i,0)).1=OL m t i:=by
 intro L0
 induction L0 with
 |zero=>
  intro i;exact rfl
 |succ t ih=>
  intro i;refine(?_:(lp m t (SetTable.leap m i 0)).1=_);rw[show SetTable.leap m i 0=(nx m i,0) by rfl,ih];rfl
theorem QA{m:Nat}(hF:KJ m){i p j:Nat}(hi:i<=m)(hp:p<2^64)(hj:j<=m):∃t,t<SetTable.turns m/\(lp m t (i,p)).1=j:=by
 have h2:(lp m 13 (i,p)).2=0:=by
  exact iR (UA ..) <| Nat.div_eq_of_lt (aW hp (by decide))
 exact jm (hF _ j (UB m 13 (i,p) hi) hj) fun t ht e=>(jt (13+t) (by unfold SetTable.turns;lia) (iR (UC ..) (iR ((Prod.ext rfl h2:lp m 13 (i,p)=((lp m 13 (i,p)).1,0)) ..) (iR (Qz ..) e))))
theorem Jz{m:Nat}{o:xr}{j:Nat}(hj:j<=m)(ho:o[j]? =some none):∀(t fuel i p:Nat),t<fuel->i<=m->(lp m t (i,p)).1=j->∃r,SetTable.layClean.free m o fuel i p=some r:=by
 intro t L0
 induction L0 generalizing t with
 |zero=>
  intro i p h _ _;exact absurd h (gM _)
 |succ fuel ih=>
  intro i p h hi e;dsimp only[SetTable.layClean.free];cases hf:(List.range (SetTable.runEnd m i+1-i)).find? fun k=>(o.getD (i+k) (some 0)).isNone with
  |some k=>exact⟨_,rfl⟩
  |none=>
   cases t with
   |zero=>
    have ZE:i=j:=e;subst ZE;have:=List.find?_eq_none.mp hf 0 (bH.mpr (by unfold SetTable.runEnd;(clear hi hf h;split)<;>lia));rw[Nat.add_zero,ic,ho]at this;trivial
   |succ t=>
    exact ih t _ _ (aM ‹_›) (aM (fQ _ (d9 m))) e
theorem JA{m:Nat}{o:xr}:∀(fuel i p r:Nat),SetTable.layClean.free m o fuel i p=some r->o[r]? =some none:=by
 intro L0
 induction L0 with
 |zero=>
  intro i p r h;dsimp only[SetTable.layClean.free]at h;contradiction
 |succ fuel ih=>
  intro i p r h;dsimp only[SetTable.layClean.free]at h;cases hf:(List.range (SetTable.runEnd m i+1-i)).find? fun k=>(o.getD (i+k) (some 0)).isNone with
  |some k=>
   rw[hf]at h;refine jC (aj h) ?_;have:=List.find?_some hf
   replace this:=(ic)▸this
   cases e:o[i+k]? with
   |none=>replace this:=e▸this;trivial
   |some x=>replace this:=e▸this;cases x with
    |none=>rfl
    |some y=>trivial
  |none=>
   replace h:=hf▸h
   exact ih _ _ r h
noncomputable def yQ(o:xr):ah:=o.toList.filterMap id
theorem y9:∀(l:List (Option Nat))(j k:Nat),l[j]? =some none->((l.set j (some k)).filterMap id).Perm (k::l.filterMap id):=by
 intro L0
 induction L0 with
 |nil=>
  intro j k h;trivial
 |cons a l ih=>
  intro L1;cases L1 with
  |zero=>
   intro k h;simp only[gq,dZ]at h;subst h;exact List.Perm.refl _
  |succ j=>
   intro k h;rw[List.getElem?_cons_succ]at h;have ih:=ih j k h;cases a with
   |none=>exact ih
   |some b=>exact(ih.cons b).trans (List.Perm.swap k b _)
theorem NL{o:xr}{j k:Nat}(h:o[j]? =some none):(yQ (o.setIfInBounds j (some k))).Perm (k::yQ o):=by
 unfold yQ;exact iR Array.toList_setIfInBounds <| y9 _ _ _ (by simpa using h)
theorem zM:∀(l:List (Option Nat)),(l.filterMap id).length<l.length->∃j:Nat,l[j]? =some none
 |[],h=>by simp at h
 |none::l,_=>⟨0,rfl⟩
 |some a::l,h=>by
  obtain⟨j,hj⟩:=zM l (by simpa using h);exact⟨j+1,hj⟩
noncomputable def A3(m:Nat)(acc:Option (xr×Nat))(h:Int):Option (xr×Nat):=do
 let(owner,k)<-acc;let j<-SetTable.layClean.free m owner (SetTable.turns m) (SetTable.bits h%(m+1)) (SetTable.bits h)
 pure (owner.setIfInBounds j (some k),k+1)
theorem Di(m:Nat)(hs:Array Int):SetTable.layClean m hs=(hs.toList.foldl (A3 m) (some (Array.replicate (m+1) none,0))).map (·.1):=by
 dsimp only[SetTable.layClean];exact jC (Array.foldl_toList ..) rfl
theorem Ro(h:Int):SetTable.bits h<2^64:=by
 unfold SetTable.bits;have:=Int.emod_lt_of_pos h (show(0:Int)<2^64 by decide);have:=Int.emod_nonneg h (show(2^64:Int)≠0 by decide);exact(iQ (Int.emod_nonneg h (by decide))).mpr (Int.emod_lt_of_pos h (by decide))
theorem Nz{m:Nat}(hF:KJ m):∀(hs:List Int)(o:xr)(k:Nat),o.size=m+1->(yQ o).Perm (List.range k)->k+hs.length<=m+1->
  ∃o',hs.foldl (A3 m) (some (o,k))=some (o',k+hs.length)/\o'.size=m+1/\(yQ o').Perm (List.range (k+hs.length)):=by
 intro L0
 induction L0 with
 |nil=>
  intro o k h1 h2 _;exact sY o rfl h1 h2
 |cons h hs ih=>
  intro o k h1 h2 h3
  replace h3:=aB▸h3
  obtain⟨j,hj⟩:=zM o.toList (by
   have:=h2.length_eq
   replace this:=dK▸this
   refine(?_:(yQ o).length<o.toList.length)
   (refine iR this ?_;refine iR bh ?_;refine iR h1 ?_);exact pD h3)
  have Yv:o[j]? =some none:=by simpa using hj
  have hjm:j<=m:=by
   have:=(Array.getElem?_eq_some_iff.mp Yv).1;exact aM (b9 this h1)
  refine jm (QA hF (i:=SetTable.bits h%(m+1)) (p:=SetTable.bits h) (aM (fQ _ (d9 m))) (Ro h) hjm) fun t ht e=> ?_;obtain⟨r,hr⟩:=Jz hjm Yv t _ _ _ ht (aM (fQ _ (d9 m))) e;refine iR dB ?_;have e1:A3 m (some (o,k)) h=some (o.setIfInBounds r (some k),k+1):=by
   refine(iR hr ?_:(SetTable.layClean.free m o (SetTable.turns m) (SetTable.bits h%(m+1)) (SetTable.bits h)).bind _=_);rfl
  refine iR e1 ?_;have hp:(yQ (o.setIfInBounds r (some k))).Perm (List.range (k+1)):=by
   exact iR fm <| (NL (JA _ _ _ _ hr)).trans ((h2.cons k).trans (List.perm_append_singleton k _).symm)
  refine uO (ih _ (k+1) (iR Array.size_setIfInBounds h1) hp (vM h3)) fun o' a b c=> ?_;refine(sY o' ?_ b ?_)
  ·(refine iR aB ?_);congr 2;lia
  ·exact iR aB <| iR (show k+(hs.length+1)=k+1+hs.length by lia) c
theorem NW{α β:Type}{f g:α->Option β}:∀(l:List α),(∀x∈l,f x=g x)->l.filterMap f=l.filterMap g:=by
 intro L0
 induction L0 with
 |nil=>
  intro _;exact rfl
 |cons a l ih=>
  intro h;exact iR gm <| iR gm <| iR (h a (aT ..)) <| iR (ih fun x hx=>h x (aq _ hx)) rfl
theorem wA(f:Nat->Option Nat->Option (Nat×Nat)):∀(l:List (Option Nat))(b:Nat),((List.range' b l.length).filterMap fun j=>((l[j-b]?).getD none).map (j,·)).map (·.2)=l.filterMap id:=by
 intro L0
 induction L0 with
 |nil=>
  intro b;exact rfl
 |cons a l ih=>
  intro b;have ih:=ih (b+1);refine iR aB <| iR List.range'_succ <| iR gm ?_
  have e:(List.range' (b+1) l.length).filterMap (fun j=>(((a::l)[j-b]?).getD none).map (j,·))=(List.range' (b+1) l.length).filterMap (fun j=>((l[j-(b+1)]?).getD none).map (j,·)):=by
   refine NW _ <| fun j hj=> ?_
   have:=List.mem_range'_1.mp hj;refine iR (show j-b=(j-(b+1))+1 by exact(e7 (Nat.sub_pos_of_lt this.1)).symm) <| iR (List.getElem?_cons_succ) ?_
   rfl
  refine iR (e ..) <| iR (Nat.sub_self ..) ?_
  cases a with
  |none=>exact ih
  |some c=>refine(?_:c::_=c::_);(refine iR ih ?_;exact rfl)
theorem zX{m:Nat}(hF:KJ m){hs:Array Int}(h:hs.size<=m)(finger moves:Nat)(led plain:Bool):
  ∃t order,SetTable.laid m finger moves led plain hs=some (t,order)/\order.toList.Perm (List.range hs.size)/\t.fits hs.size=true/\t.mask=m/\t.dummies= #[]:=by
 refine uO (Nz hF hs.toList (Array.replicate (m+1) none) 0 (by simp) (by unfold yQ;simp) (by simp;exact dM ‹_›)) fun o h1 h2 h3=> ?_;have e:=Di m hs;rw[h1]at e;simp only[aX,bh]at h3;unfold SetTable.laid;refine iR e ?_;have hl:(((List.range (m+1)).filterMap fun j=>(o.getD j none).map (j,·)).map (·.2))=yQ o:=by
  have:=wA (fun ζ ζ=>none) o.toList 0;rw[bh,h2,<-List.range_eq_range']at this;refine jC (this.trans (rfl:_=yQ o)) ?_;simp[ic]
 have jd:((List.range (m+1)).filterMap fun j=>(o.getD j none).map (j,·)).length=hs.size:=by
  exact jC (aJ (f:=(·.2))) <| iR hl <| iR h3.length_eq <| iR dK rfl
 refine(J' _ _ rfl ?_ ?_ rfl rfl)
 ·exact iR hl h3
 ·delta SetTable.fits SetTable.fill
  simp only[eG,aJ,jd,aG,aR,bq];exact⟨trivial,by exact h⟩
def lW{prog:Program}{w:World}{K:Type}[DecidableEq K](knd:KeyKind prog w K):List (Int×Value)->List K->Prop
 |[],ks=>ks=[]
 |e::es,ks=>∃k r,ks=k::r/\knd.is k e.2=true/\e.1=knd.hash k/\e.2.scannable=true/\lW knd es r
noncomputable def jl(T:String)(es:Array (Int×Value))(ep:Nat)(t:SetTable):Obj:={cls:=.type T,dict:=none,data:=.set es ep t,slots:= #[]}
def iV{prog:Program}{w:World}{K:Type}[DecidableEq K](knd:KeyKind prog w K)(T:String)(h:Heap)(a:Addr)(ks:List K):Prop:=
 ∃es ep t,h.get? a=some (jl T es ep t)/\lW knd es.toList ks/\ks.Nodup/\es.size<scanBound/\t.fits es.size=true
section
variable{prog:Program}{w:World}{K:Type}[DecidableEq K]{knd:KeyKind prog w K}{A:Around}{E:aa}{s:Shared}{T:String}{a:Addr}{ks:List K}{k:K}{x:Value}
theorem lW.length:∀{es:List (Int×Value)}{ks:List K},lW knd es ks->ks.length=es.length:=by
 intro L0
 induction L0 with
 |nil=>
  intro _ h;exact iR h rfl
 |cons e es ih=>
  intro _ h;obtain⟨k,r,rfl,_,_,_,h⟩:=h;simp[(ih h)]
theorem lW.elems:∀{es:List (Int×Value)}{ks:List K},lW knd es ks->ElemsOf knd es:=by
 intro L0
 induction L0 with
 |nil=>
  intro _ _;exact fun e he=>by contradiction
 |cons e es ih=>
  intro _ h;obtain⟨k,r,rfl,h1,h2,h3,h⟩:=h;intro f hf;rcases aV.mp hf with rfl|hf
  ·exact⟨(jt k h1 h2),h3⟩
  ·exact(ih h) f hf
theorem lW.of:∀{es:List (Int×Value)},ElemsOf knd es->∃ks,lW knd es ks:=by
 intro L0
 induction L0 with
 |nil=>
  intro _;exact⟨[],by rfl⟩
 |cons e es ih=>
  intro h;exact cps fun G_ VB=>lP h.head fun z50 h3=>jm z50 fun k h1 h2=>m9 (ih h.tail) fun ks hk=>VB <| ⟨k::ks,by exact(J' k ks rfl h1 h2 h3 hk)⟩
theorem lW.mem:∀{es:List (Int×Value)}{ks:List K},lW knd es ks->∀k,k∈ks↔ ∃e∈es,knd.is k e.2=true:=by
 intro L0
 induction L0 with
 |nil=>
  intro _ h k;refine iR h ?_;simp
 |cons e es ih=>
  intro _ h k;obtain⟨j,r,rfl,h1,h2,h3,h⟩:=h;rw[aV,(ih h) k];constructor
  ·rintro(rfl|⟨f,hf,q⟩)
   ·exact jt e (aT ..) h1
   ·exact jt f (aq _ hf) q
  ·rintro⟨f,hf,q⟩;clear h2 h3 h;rcases aV.mp hf with rfl|hf
   ·exact .inl (knd.inj _ _ _ q h1)
   ·exact .inr (jt f hf q)
theorem lW.find:∀{es:List (Int×Value)}{ks:List K},lW knd es ks->∀k,es.findIdx? (fun e=>knd.is k e.2)=ks.findIdx? (fun j=>decide (k=j)):=by
 intro L0
 induction L0 with
 |nil=>
  intro _ h k;exact iR h rfl
 |cons e es ih=>
  intro _ h k;obtain⟨j,r,rfl,h1,h2,h3,h⟩:=h;refine iR (gH) ?_;refine iR (gH) ?_;exact iR (KeyKind.is_eq_decide h1 k) <| iR ((ih h) k) rfl
theorem lW.perm{es nH:List (Int×Value)}(p:es.Perm nH):∀{ks:List K},lW knd es ks->∃jR,lW knd nH jR/\ks.Perm jR:=by
 induction p with
 |nil=>intro ks h;exact(jt ks h (.refl _))
 |cons x p ih=>
  intro ks h;obtain⟨j,r,rfl,h1,h2,h3,h⟩:=h;exact jm (ih h) fun r' hr pr=>jt (j::r') (J' j r' rfl h1 h2 h3 hr) (pr.cons j)
 |swap x y l=>
  intro ks h;refine cps fun G_ YU=> ?_;obtain⟨j,r,rfl,h1,h2,h3,h⟩:=h;obtain⟨i,r',rfl,g1,g2,g3,h⟩:=h;refine YU <| (jt (i::j::r') ?_ (.swap ..))
  exact(J' i _ rfl g1 g2 g3 (J' j _ rfl h1 h2 h3 h))
 |trans _ _ Zd Zc=>
  intro ks h;exact jm (Zd h) fun k1 h1 p1=>jm (Zc h1) fun k2 h2 p2=>jt k2 h2 (p1.trans p2)
theorem lW.snoc(hk:knd.is k x=true)(hx:x.scannable=true):∀{es:List (Int×Value)}{ks:List K},lW knd es ks->lW knd (es++[(knd.hash k,x)]) (ks++[k]):=by
 intro L0
 induction L0 with
 |nil=>
  intro _ h;refine iR h <| (?_:lW knd [(knd.hash k,x)] [k])
  exact J' k [] rfl hk rfl hx (rfl)
 |cons e es ih=>
  intro _ h;obtain⟨j,r,rfl,h1,h2,h3,h⟩:=h;exact(J' j _ rfl h1 h2 h3 (ih h):lW knd (e::(es++[(knd.hash k,x)])) (j::(r++[k])))
theorem lW.eraseIdx:∀{es:List (Int×Value)}{ks:List K}(i:Nat),lW knd es ks->lW knd (es.eraseIdx i) (ks.eraseIdx i)
 |[],_,_,h=>by refine iR h ?_;rfl
 |e::es,_,0,h=>by
  obtain⟨j,r,rfl,h1,h2,h3,h⟩:=h;exact h
 |e::es,_,i+1,h=>by
  obtain⟨j,r,rfl,h1,h2,h3,h⟩:=h;exact(J' j _ rfl h1 h2 h3 (h.eraseIdx i):lW knd (e::es.eraseIdx i) (j::r.eraseIdx i))
theorem iV.out{h:Heap}{G:Prop}(H:iV knd T h a ks)(k:∀es ep t,h.get? a=some (jl T es ep t)->lW knd es.toList ks->ks.Nodup->es.size<scanBound->t.fits es.size=true->G):G:=wF H k
theorem iV.nodup{h:Heap}(H:iV knd T h a ks):ks.Nodup:=let⟨_,_,_,_,_,n,_⟩:=H;n
theorem iV.at{h h':Heap}(H:iV knd T h a ks)(e:h'.get? a=h.get? a):iV knd T h' a ks:=let⟨es,ep,t,ho,r⟩:=H;(Vm es ep t (e.trans ho) r)
theorem iV.keep{h h':Heap}(H:iV knd T h a ks)(e:∀o,h.get? a=some o->h'.get? a=some o):iV knd T h' a ks:=let⟨es,ep,t,ho,r⟩:=H;(Vm es ep t (e _ ho) r)
theorem iV.perm{h:Heap}{nH:Array (Int×Value)}{J6:Nat}{t':SetTable}{es:Array (Int×Value)}(ho:h.get? a=some (jl T nH J6 t'))(he:lW knd es.toList ks)(hn:ks.Nodup)(hb:es.size<scanBound)
  (p:nH.toList.Perm es.toList) (hf:t'.fits nH.size=true):∃jR,jR.Perm ks/\iV knd T h a jR:=by
 refine jm (lW.perm p.symm he) fun jR h1 h2=>⟨jR,h2.symm,nH,J6,t',ho,h1,h2.nodup_iff.mp hn,?_,hf⟩;have:=p.length_eq;simp only[bh]at this;exact this▸hb
theorem qC{es nH:Array (Int×Value)}{ep:Nat}{t t':SetTable}{Q:Unit->Shared->Prop}(ho:s.heap.get? a=some (jl T es ep t))(hz:nH.size<scanBound)
  (h:∀h',Heap.SameBut a s.heap h'->h'.get? a=some (jl T nH (ep+1) t')->Q () {s with heap:=h'}):wpAny (model prog w) A (storeSet a nH t') Q E s:=by
 refine wpAny_storeSet_of ho rfl (h _ (dW ..) ?_) (fits_of_scanBound hz);have:=cM (Obj.putSet nH t') ho (by rfl);exact this
theorem QM{Q:Option Nat->Shared->Prop}(qN:knd.is k x=true)(uL:x.scannable=true)(H:iV knd T s.heap a ks)(h1:k∉ks->Q none s)(h2:∀i,ks[i]? =some k->Q (some i) s):
  wpAny (model prog w) A (setFind a x (knd.hash k)) Q E s:=by
 refine iV.out H fun es ep t ho he hn hb hf=>ai (bY ho rfl hf ?_);dsimp only;refine iR (byScan_of uL hb he.elems) <| ai (dS (ai (wpAny_setScan_of qN ho rfl hf he.elems (iR (he.find k) ?_))))
 cases hr:ks.findIdx? (fun j=>decide (k=j))with
 |none=>
  refine ak (h1 fun hm=> ?_);have:=List.findIdx?_eq_none_iff.mp hr k hm;simp at this
 |some i=>
  refine jm (ez.mp hr) fun hi hp ζ=> ?_;refine ak (h2 _ (iR (aX ..) (iR (aO hi ..) ?_)));exact iR (bL hp ..) rfl
theorem rm{α:Type}(xs:Array α)(i:Nat):(SetTable.eraseAt xs i).toList=xs.toList.eraseIdx i:=by
 refine iR (gk ..) <| iR (Array.toList_extract ..) <| iR (Array.toList_extract ..) <| iR (gj ..) ?_
 simp[(cR (by simp):List.take (xs.size-(i+1)) (List.drop (i+1) xs.toList)=List.drop (i+1) xs.toList)]
theorem sS{α:Type}(xs:Array α)(i:Nat)(x:α):(SetTable.insertAt xs i x).size=xs.size+1:=by
 have:=(SetTable.insertAt_perm xs i x).length_eq;simpa using this
theorem JG{t:SetTable}{n i:Nat}(h:t.fits n=true)(hi:i<n):(t.drop i).fits (n-1)=true:=by
 delta SetTable.fits SetTable.fill at h|-
 simp only[aG,aR,bq]at h|-;unfold SetTable.drop;refine iR (dg (h.1.symm▸hi):t.place[i]? =some t.place[i]) ?_;dsimp only;have e1:(SetTable.eraseAt t.place i).size=t.place.size-1:=by
  refine jC (bh ..) <| iR (rm ..) <| iR (List.length_eraseIdx ..) ?_
  simp;exact fun q=>absurd (b9 hi h.1.symm) (gB.mpr q)
 exact iR (e1 ..) <| iR (sS ..) <| ⟨aQ (· -1) h.1,Oj (cZ (h.1.symm▸hi)) h.2⟩
theorem JF(t:SetTable)(i:Nat):(t.drop i).mask=t.mask:=by
 unfold SetTable.drop;split<;>rfl
theorem BK{t:SetTable}{n i:Nat}(h:t.fits n=true)(hi:i<n):(t.drop i).dummies.size=t.dummies.size+1:=by
 unfold SetTable.fits SetTable.fill at h;simp only[aG,aR,bq]at h;unfold SetTable.drop;refine iR (dg (b9 hi h.1.symm):t.place[i]? =some t.place[i]) ?_;exact sS _ _ _
theorem vW{Q:Bool->Shared->Prop}(qN:knd.is k x=true)(uL:x.scannable=true)(H:iV knd T s.heap a ks)(h1:k∉ks->Q false s)
  (h2:∀h' jR,Heap.SameBut a s.heap h'->(∀j,j∈jR↔j∈ks/\j≠k)->iV knd T h' a jR->k∈ks->(∃es ep t nH J6 t',s.heap.get? a=some (jl T es ep t)/\h'.get? a=some (jl T nH J6 t')/\t'.mask=t.mask/\t'.dummies.size=t.dummies.size+1)->Q true {s with heap:=h'}):wpAny (model prog w) A (setDiscardHashed a x (knd.hash k)) Q E s:=by
 refine ai (QM qN uL H (fun hn=>ak (h1 hn)) fun i hi=>iV.out H fun es ep t ho he hn hb hf=> ?_);have Yw:i<es.size:=by
  have:=(ay.mp hi).1;rw[he.length]at this;exact this
 refine ai (bY ho rfl hf ?_);have hsz:(SetTable.eraseAt es i).size=es.size-1:=by
  refine jC (bh ..) <| iR (rm ..) <| iR (List.length_eraseIdx ..) ?_
  simp;lia
 refine ai (qC ho ((aD (ao (aE hsz) (b6 ..)) hb:(SetTable.eraseAt es i).size<_)) fun h' hs qK=> ?_);refine ai (wpAny_point (ak (m9 (ay.mp hi) fun WK DS=> ?_)));have oz:∀j,j∈ks.eraseIdx i↔j∈ks/\j≠k:=by
  intro j;have e:ks=ks.take i++k::ks.drop (i+1):=by
   exact jC (DS ..) <| jC (bP WK ..) <| iR (eZ ..) rfl
  refine iR (gj ..) ?_;have RO:=hn;rw[e,c8,fk]at RO;clear qN uL H h1 hb WK DS;refine w4 RO fun ζ YZ aaG=> ?_;clear RO;obtain⟨hd,_⟩:=YZ;constructor
  ·intro hj;refine⟨?_,?_⟩
   ·(refine iR e ?_);refine cg (bg.mp hj) (fun hj=> ?_) fun hj=> ?_
    ·exact aY _ hj
    ·exact dJ _ (aq _ hj)
   ·rintro rfl;refine cg (bg.mp hj) (fun hj=> ?_) fun hj=> ?_
    ·exact aaG j hj j (aT ..) rfl
    ·exact hd hj
  ·rintro⟨hj,m_⟩;rw[e]at hj;refine cg (bg.mp hj) (fun hj=> ?_) fun hj=> ?_
   ·exact aY _ hj
   ·refine cg (aV.mp hj) (fun hj=> ?_) fun hj=> ?_
    ·exact absurd hj m_
    ·exact dJ _ hj
 refine h2 h' _ hs oz (Ak _ _ _ qK ?_ (hn.sublist (List.eraseIdx_sublist ..)) (by show(SetTable.eraseAt es i).size<_;exact aD (ao (aE hsz) (b6 ..)) hb) ?_) (bJ hi) (i64 _ _ _ _ _ _ ho qK (JF _ _) (BK hf Yw))
 ·exact iR (rm ..) <| he.eraseIdx i
 ·exact iR hsz <| JG hf Yw
theorem Fv{Q:Bool->Shared->Prop}(qN:knd.is k x=true)(uL:x.scannable=true)(H:iV knd T s.heap a ks)(h1:k∉ks->Q false s)
  (h2:∀h' jR,Heap.SameBut a s.heap h'->(∀j,j∈jR↔j∈ks/\j≠k)->iV knd T h' a jR->k∈ks->Q true {s with heap:=h'}):wpAny (model prog w) A (setDiscardHashed a x (knd.hash k)) Q E s:=
 vW qN uL H h1 fun h' jR a b c d ζ=>h2 h' jR a b c d
theorem yW(t:SetTable)(n:Nat):(t.orStandIn n).led=t.led:=by
 unfold SetTable.orStandIn;split<;>rfl
theorem Fo(t:SetTable)(es:Array (Int×Value))(h:Int)(x:Value):(layNew t es h x).2.1.led=t.led:=by
 unfold layNew;split
 ·exact yW _ _
 ·rfl
theorem Bp(t:SetTable)(es:Array (Int×Value))(wanted:Nat):(relayAll t es wanted).2.1.led=t.led:=by
 unfold relayAll;split
 ·rename_i t' order he;dsimp only;split
  ·refine jm (Option.bind_eq_some_iff.mp he) fun o ζ h2=> ?_;clear he;cases h2;rfl
  ·rfl
 ·rfl
theorem A7{Q:Bool->Shared->Prop}(qN:knd.is k x=true)(uL:x.scannable=true)(H:iV knd T s.heap a ks)(lR:ks.length+1<scanBound)(h1:k∈ks->Q false s)
  (h2:∀h' jR,Heap.SameBut a s.heap h'->jR.Perm (ks++[k])->iV knd T h' a jR->k∉ks->(∃es ep t nH J6 t',s.heap.get? a=some (jl T es ep t)/\h'.get? a=some (jl T nH J6 t')/\t'.led=t.led)->Q true {s with heap:=h'}):wpAny (model prog w) A (setAddHashed a x (knd.hash k)) Q E s:=by
 refine iV.out H fun es ep t ho he hn hb hf=> ?_;have jd:ks.length=es.size:=by(refine iR he.length ?_;refine iR bh ?_;rfl)
 refine aP (ai (bY ho rfl hf ?_));dsimp only;refine iR (byScan_of uL hb he.elems) <| ai <| ai (dS (ai (wpAny_setScan_of qN ho rfl hf he.elems (iR (he.find k) ?_))))
 cases hr:ks.findIdx? (fun j=>decide (k=j))with
 |some i=>
  refine jm (ez.mp hr) fun hi hp ζ=> ?_;exact ak (ak (h1 (iR (bL hp) <| iG hi)))
 |none=>
  have hk:k∉ks:=fun hm=>by
   have:=List.findIdx?_eq_none_iff.mp hr k hm;simp at this
  have hgw:∀(b:Bool){s₁:Shared}{Q':Unit->Shared->Prop},Q' () s₁->wpAny (model prog w) A (match b with|true=>rule "set.scan.the-table-gave-way"|false=>pure ()) Q' E s₁:=
   fun b s₁ Q' hq=>by cases b<;>first|exact ak hq|exact dS hq
  have lD:=layNew_perm t es (knd.hash k) x;have sN:=layNew_fits t es (knd.hash k) x;have oA:=Fo t es (knd.hash k) x;generalize hL:layNew t es (knd.hash k) x=L at lD sN oA|-;obtain⟨uQ,t1,wasDummy,aeV⟩:=L
  replace lD:=ie▸lD
  have Vt:lW knd (es.push (knd.hash k,x)).toList (ks++[k]):=by(refine iR ie ?_);exact he.snoc qN uL
  have Zw:(ks++[k]).Nodup:=by
   rw[c8];refine(tZ hn (by simp) (fun j hj i hi=> ?_));rw[aA]at hi;clear qN lR h1 he hn hb hf jd hr;exact iR hi <| fun q=>hk (q▸hj)
  have aeR:uQ.size=es.size+1:=by have:=lD.length_eq;simpa using this
  have tail:∀(t2:SetTable)(Q':Option Bool->Shared->Prop),t2.fits uQ.size=true->t2.led=t.led->(∀h' jR,Heap.SameBut a s.heap h'->jR.Perm (ks++[k])->iV knd T h' a jR->(∃es ep t nH J6 t',s.heap.get? a=some (jl T es ep t)/\h'.get? a=some (jl T nH J6 t')/\t'.led=t.led)->Q' (some true) {s with heap:=h'})->
    wpAny (model prog w) A (do
     storeSet a uQ t2
     if(!wasDummy&&t2.tooFull)=true then do
       (match(relayAll t2 uQ (SetTable.grown uQ.size)).2.2 with|true=>rule "set.scan.the-table-gave-way"|false=>pure ())
       storeSet a (relayAll t2 uQ (SetTable.grown uQ.size)).1 (relayAll t2 uQ (SetTable.grown uQ.size)).2.1
       pure (some true)
      else pure (some true)) Q' E s:=by
   intro t2 Q' S6 uP hq;refine ai (qC ho (by lia) fun h' sH Gl=>jm (iV.perm Gl Vt Zw (by simp;lia) (iR ie lD) S6) fun RJ tY H1=> ?_);split
   ·have hp:=relayAll_perm t2 uQ (SetTable.grown uQ.size);have Ke:=relayAll_fits t2 uQ (SetTable.grown uQ.size);have Zy:=Bp t2 uQ (SetTable.grown uQ.size);generalize hRl:relayAll t2 uQ (SetTable.grown uQ.size)=Rl at hp Ke Zy|-;obtain⟨Vy,t3,acm⟩:=Rl;dsimp only at hp Ke Zy|-;have aeQ:Vy.size=uQ.size:=by have:=hp.length_eq;simpa using this
    refine ai (hgw _ (ai (qC Gl (by lia) fun Gp sZ wG=>jm (iV.perm wG Vt Zw (by simp;lia) (iR ie <| hp.trans lD) Ke) fun ks2 S2 H2=> ?_)));exact ak (hq Gp ks2 (sH.trans sZ) S2 H2 (i63 _ _ _ _ _ _ ho wG (Zy.trans uP)))
   ·exact ak (hq h' RJ sH tY H1 (i63 _ _ _ _ _ _ ho Gl uP))
  refine ai (hgw _ ?_);split
  ·refine ai <| iR (hashByValue_scannable 8 uL) <| ak <| tail _ _ ?_ ?_ fun h' jR hs hp H hL=> ?_
   ·split
    ·exact sN
    ·exact SetTable.fits_plain_off sN
   ·split
    all_goals exact oA
   ·exact ak (h2 h' jR hs hp H hk hL)
  ·exact ai (ak (tail _ _ sN oA fun h' jR hs hp H hL=>ak (h2 h' jR hs hp H hk hL)))
theorem xB{Q:Bool->Shared->Prop}(qN:knd.is k x=true)(uL:x.scannable=true)(H:iV knd T s.heap a ks)(lR:ks.length+1<scanBound)(h1:k∈ks->Q false s)
  (h2:∀h' jR,Heap.SameBut a s.heap h'->jR.Perm (ks++[k])->iV knd T h' a jR->k∉ks->Q true {s with heap:=h'}):wpAny (model prog w) A (setAddHashed a x (knd.hash k)) Q E s:=
 A7 qN uL H lR h1 fun h' jR a b c d ζ=>h2 h' jR a b c d
theorem Er(T:String){Q:aa}(h:∀led:Bool,Q (.ref s.heap.objs.size) {s with heap:=s.heap.push (jl T #[] 0 (.fresh 0 0 led))}):wpAny (model prog w) A (newSet (.type T)) Q E s:=by
 dsimp only[newSet,setsByText];exact ai (ai (cW (ak (ai (wpAny_alloc (ak (h _)))))))
theorem ym(knd:KeyKind prog w K)(T:String)(h:Heap)(led:Bool):iV knd T (h.push (jl T #[] 0 (.fresh 0 0 led))) h.objs.size []:=
 (Ak (#[]) 0 _ (aF _ rfl) (by rfl) d8 (by decide) (by rfl))
def Quiet(h:Heap)(a:Addr):Prop:=∃T es ep t,h.get? a=some (jl T es ep t)/\(∀e∈es.toList,e.2.scannable=true)/\t.fits es.size=true/\es.size<scanBound
theorem iV.quiet{h:Heap}(H:iV knd T h a ks):Quiet h a:=iV.out H fun es ep t ho he ζ hb hf=>i44 T es ep t ho (fun e h=>(he.elems e h).2) hf hb
theorem NJ{Q:Bool->Shared->Prop}(sets:List Addr)(H:∀b∈sets,Quiet s.heap b)(h:Q true s):wpAny (model prog w) A (setsQuiet sets) Q E s:=by
 have inner:∀(f:Int×Value->Option Bool×Unit->Sem (ForInStep (Option Bool×Unit)))(l:List (Int×Value))(P:Option Bool×Unit->Shared->Prop),(∀e∈l,e.2.scannable=true)->(∀e,e.2.scannable=true->f e (none,())=pure (.yield (none,())))->P (none,()) s->
   wpAny (model prog w) A (forIn l (none,()) f) P E s:=by
  intro f l
  induction l with
  |nil=>intro P _ _ h;exact ak h
  |cons e l ih=>
   intro P hl hf h;exact iR (b_ ..) <| iR (hf e (hl e (aT ..)) ..) <| ih P (fun x hx=>hl x (aq _ hx)) hf h
 refine ai ?_;have outer:∀(l:List Addr)(f:Addr->Option Bool×Unit->Sem (ForInStep (Option Bool×Unit)))(P:Option Bool×Unit->Shared->Prop),(∀b∈l,wpAny (model prog w) A (f b (none,())) (fun r s'=>r= .yield (none,())/\s'=s) E s)->P (none,()) s->
   wpAny (model prog w) A (forIn l (none,()) f) P E s:=by
  intro l
  induction l with
  |nil=>intro f P _ h;exact ak h
  |cons b l ih=>
   intro f P hf h;refine iR (b_ ..) <| ai (bO (hf b (aT ..)) (fun r s' hr=> ?_) fun ζ ζ z=>z)
   refine lP hr fun z1 z2=> ?_;clear hr;exact iR z1 <| iR z2 <| ih f P (fun x hx=>hf x (aq _ hx)) h
 refine outer sets _ _ (fun b hb=> ?_) (ak h);refine o44 (H b hb) fun T es ep t ho hq hf ζ=>ai (dX ho rfl hf (ai (jC fS (inner _ es.toList _ hq (fun e he=> ?_) (ak ⟨rfl,rfl⟩)))));obtain⟨i,v⟩:=e;cases v<;>first|rfl|(trivial)
theorem I4{α:Type}(next:Nat->Nat):∀(fuel k:Nat)(left:List α)(out:Array α),left.length<=fuel->(pickOrder.go next fuel k left out).toList.Perm (out.toList++left):=by
 intro L0
 induction L0 with
 |zero=>
  intro k left out h;have:left=[]:=cy (Nat.le_zero.mp ‹_›);refine iR this ?_;simp[pickOrder.go]
 |succ fuel ih=>
  intro k L1;cases L1 with
  |nil=>
   intro out h;simp[pickOrder.go]
  |cons y left=>
   intro out h;dsimp only[pickOrder.go];have jS:next k%(y::left).length<(y::left).length:=fQ _ (by simp)
   refine iR (aO jS) ?_;refine(ih (k+1) _ _ (by(refine iR List.length_eraseIdx ?_);simp only[jS,iH];exact aM ‹_›)).trans ?_;refine iR (ie ..) <| iR (cL ..) <| List.Perm.append_left _ ?_
   generalize next k%(y::left).length=i at jS
   refine iR (gj ..) <| (?_:((y::left)[i]::((y::left).take i++(y::left).drop (i+1))).Perm (y::left))
   refine List.perm_middle.symm.trans <| jC (bP jS ..) <| iR (eZ ..) ?_
   rfl
theorem CM{es:Array (Int×Value)}{ep:Nat}{t:SetTable}{Q:Array (Int×Value)->Shared->Prop}(ho:s.heap.get? a=some (jl T es ep t))(hf:t.fits es.size=true)(hb:s=s)
  (hp:((model prog w).w.params.followText "set-order"||t.led&&t.plain||decide (es.size<=1))=true) (h:∀nH,nH.toList.Perm es.toList->Q nH s):wpAny (model prog w) A (setWalk a) Q E s:=by
 refine ai (bY ho rfl hf (ai (ai (cW (ak ?_)))));dsimp only;split
 ·exact ai (cW (ak (h _ (I4 _ _ _ _ _ (by simp)))))
 ·rename_i RS;have hd:(!t.plain&&decide (es.size>1))=false:=by
   cases h1:t.plain<;>cases h2:t.led<;>simp_all<;>lia
  have hl:(!t.led&&decide (es.size>1))=false:=by
   cases h1:t.plain<;>cases h2:t.led<;>simp_all<;>lia
  refine(iR hd ?_:wpAny _ _ (if(!t.plain&&decide (es.size>1))=true then _ else _) _ _ _);refine ai (bx (a:=()) ?_ (ak (h es (List.Perm.refl _))));refine(iR hl ?_:(if(!t.led&&decide (es.size>1))=true then _ else _)=_);rfl
theorem A6{others:List Addr}{f:Option Addr}{Q:Array (Int×Value)->Shared->Prop}(H:iV knd T s.heap a ks)(hq:∀b∈others,Quiet s.heap b)(hf:∀b,f=some b->Quiet s.heap b)
  (h:∀nH jR h',lW knd nH.toList jR->jR.Perm ks->(f=none->h'=s.heap)->(∀b,f=some b->Heap.SameBut b s.heap h'/\∀(K':Type)(_:DecidableEq K')(Tn:KeyKind prog w K') T' nj,iV Tn T' s.heap b nj->iV Tn T' h' b nj)->Q nH {s with heap:=h'}):
  wpAny (model prog w) A (setWalkUnseen a others f) Q E s:=by
 have Hq:=H.quiet;refine iV.out H fun es ep t ho he hn hb Yx=> ?_;clear H;have fin:∀nH:Array (Int×Value),nH.toList.Perm es.toList->Q nH s:=by
  intro nH p;exact jm (lW.perm p.symm he) fun jR h1 h2=>h nH jR s.heap h1 h2.symm (fun ζ=>rfl) fun b ζ=>⟨eN b s.heap,fun ζ ζ ζ ζ ζ z=>z⟩
 refine ai (bY ho rfl Yx (ai (ai (cW (ak ?_)))));split
 ·rename_i hp;exact CM ho Yx rfl hp fin
 ·refine ai (NJ _ (fun b hb=> ?_) ?_)
  ·clear ho hn Yx;rcases aV.mp hb with rfl|hb
   ·exact Hq
   ·exact hq b hb
  ·refine ai (dS ?_);cases f with
   |none=>exact ak (fin es (List.Perm.refl _))
   |some b=>
    refine o44 (hf b rfl) fun Tb ef epf tf S3 hsf hff VX=>ai (bY S3 rfl hff ?_);dsimp only;split
    ·refine ai <| wpAny_storeSet_of S3 rfl ?_ ?_
     ·refine ak (h es ks _ he (List.Perm.refl _) (fun q=>by contradiction) fun b' DU=>jC (aj DU) ⟨dW .., fun K' ζ Tn T' nj⟨Vy,YM,t2,wG,YA,hn2,S9,S6⟩=> ?_⟩);have:jl Tb ef epf tf=jl T' Vy YM t2:=by rw[S3]at wG;exact aj wG
      clear hq Hq ho he hn hb Yx hf h hsf wG S6;cases this;refine(Ak ef (epf+1) ({tf with led:=tf.led&&t.led,plain:=tf.plain&&t.plain}) ?_ YA hn2 S9 ?_)
      ·have:=cM (Obj.putSet ef {tf with led:=tf.led&&t.led,plain:=tf.plain&&t.plain}) S3 (by rfl);exact this
      ·exact hff
     ·exact fits_of_scanBound VX
    ·exact ak (fin es (List.Perm.refl _))
theorem CN{es:Array (Int×Value)}{ep:Nat}{t:SetTable}{wanted:Nat}{Q:Unit->Shared->Prop}(ho:s.heap.get? a=some (jl T es ep t))(hf:t.fits es.size=true)(hw:wanted<128)(hsz:es.size<=wanted)
  (h:∀h' nH t',Heap.SameBut a s.heap h'->h'.get? a=some (jl T nH (ep+1) t')->nH.toList.Perm es.toList->t'.fits nH.size=true->t'.mask∈zm->wanted<=t'.mask->t'.dummies= #[]->Q () {s with heap:=h'}):wpAny (model prog w) A (setRelay a wanted) Q E s:=by
 refine lP (DM wanted hw) fun hm hwm=> ?_;dsimp only[setRelay];refine ai (bY ho rfl hf ?_);have Aw:¬ SetTable.sizeAbove wanted>sizeLine:=by
  have:∀w<128,SetTable.sizeAbove w<=1000:=by decide+kernel
  have:=this wanted hw
  (refine iR eS ?_);lia
 refine iR (aS Aw) <| SS (zX (yo _ hm) (hs:=es.map (·.1)) (by simp;exact ao ‹_› ‹_›) t.finger (t.movedTo (SetTable.sizeAbove wanted-1)) t.led t.plain) fun t' order hl hp sN Ce TG=>iR (show t.relaid (es.map (·.1)) wanted=some (t',order)from hl) ?_
 rw[Array.size_map]at hp sN;have lD:(order.filterMap (es[·]?)).toList.Perm es.toList:=by
  exact iR Array.toList_filterMap <| (hp.filterMap _).trans (by(refine iR (filterMap_getElem?_range ..) ?_;rfl))
 have Kq:(order.filterMap (es[·]?)).size=es.size:=by(refine jC bh ?_;refine iR lD.length_eq ?_;refine iR bh ?_;exact rfl)
 refine ai (bx (a:=(order.filterMap (es[·]?),t')) ?_ ?_)
 ·exact aS (by simp[Kq])
 ·dsimp only;have jS:es.size<scanBound:=by have:scanBound=4096:=rfl;exact rE (aD ‹_› ‹_›)
  refine qC ho (aD (aE ‹_›) ‹_›) fun h' hs qK=>h h' _ t' hs qK lD (iR Kq sN) (iR Ce hm) (iR Ce hwm) TG
theorem o7{id:String}{o:Addr}{es:Array (Int×Value)}{ep:Nat}{t:SetTable}{Q:Unit->Shared->Prop}(ho:s.heap.get? o=some (jl T es ep t))(hf:t.fits es.size=true)(h:Q () s):wpAny (model prog w) A (Builtin.Frozenset.unchanged id o ep) Q E s:=by
 refine ai (gf ho rfl hf ?_);simp only[bne_self_eq_false,bz,d7];exact ak h
theorem Hf{o:Addr}{To:String}{led:Bool}{each:Sem Unit}{Q:Unit->Shared->Prop}(hs:s.heap.get? a=some (jl T #[] 0 (.fresh 0 0 led)))(H:iV knd To s.heap o ks)(m_:a≠o)(jd:ks.length<64)
  (h:∀h' jR,Heap.SameBut a s.heap h'->jR.Perm ks->iV knd T h' a jR->(ks≠[]->∃es ep t,h'.get? a=some (jl T es ep t)/\t.dummies= #[]/\(t.mask=7/\ks.length<=4\/2*ks.length<=t.mask))->Q () {s with heap:=h'}):wpAny (model prog w) A (setMerge a o each) Q E s:=by
 refine iV.out H fun eo DV to ho he hn hb hf=> ?_;clear H;have Cg:ks.length=eo.size:=by(refine iR he.length ?_;refine iR bh ?_;rfl)
 unfold setMerge;refine iR (aS (by simp[m_])) <| ai (bY ho rfl hf ?_)
 dsimp only;split
 ·rename_i Vs;have hz:eo.size=0:=by simpa using Vs
  have OT:ks=[]:=cy (Eq.trans ‹_› ‹_›);clear m_ jd ho Cg hz;subst OT;exact ak (h s.heap [] (eN a s.heap) (.refl _) (Ak (#[]) 0 _ hs (by rfl) d8 (by decide) rfl) fun q=>absurd rfl q)
 ·rename_i Vs;have road:∀(h1:Heap)(Wd:Nat)(ts:SetTable),Heap.SameBut a s.heap h1->h1.get? a=some (jl T #[] Wd ts)->ts.fill=0->ts.mask∈zm->eo.size<=ts.mask->(ts.mask=7/\ks.length<=4\/2*ks.length<=ts.mask)->ts.dummies= #[]->
    wpAny (model prog w) A (setState a >>= fun x=>match x with
     |(_,_,ts)=>match ts.road to with
      |SetTable.Road.slotForSlot=>storeSet a eo {mask:=to.mask,place:=to.place,dummies:=to.dummies,finger:=ts.finger,led:=ts.led&&to.led,moves:=ts.moves,plain:=ts.plain&&to.plain}
      |SetTable.Road.clean=>do
       let x<-(do
        let some (t,order):=(SetTable.laid ts.mask ts.finger ts.moves (ts.led&&to.led) (ts.plain&&to.plain) (Array.map (fun x=>x.fst) eo))|unsupported "internal:set-table-without-room"
        let nH:=order.filterMap (eo[·]?)
        if nH.size !=eo.size then unsupported "internal:set-table-lost-an-element"
        pure (nH,t))
       match x with
       |(es,t)=>storeSet a es t
      |SetTable.Road.oneByOne=>do
       let l<-setWalkUnseen o [a] (some a)
       forIn l PUnit.unit fun x ζ=>match x with
        |(h,x)=>do
         let _<-holding [x] (setAddHashed a x h)
         each
         let e<-setState o
         if(e.snd.fst !=DV)=true then do
           unsupported "set.changed-during-merge"
           pure (ForInStep.yield PUnit.unit)
          else pure (ForInStep.yield PUnit.unit)
       pure ()) Q E {s with heap:=h1}:=by
   intro h1 Wd ts sH sZ zq hm yM hmk TG;refine ai (bY sZ rfl (by
    unfold SetTable.fits;unfold SetTable.fill at zq|-;simp only[aG,aR,bq,Array.size_empty];exact⟨Nat.eq_zero_of_add_eq_zero_right zq,ao (aE zq) (c9 _)⟩) ?_)
   dsimp only;refine bc (p:=(ts.mask==to.mask&&to.dummies.isEmpty)=true) (fun q=> ?_) fun q=> ?_
   ·have hr:ts.road to= .slotForSlot:=by unfold SetTable.road;(refine iR zq ?_);exact a_ q
    refine iR hr ?_;rw[aG,aR]at q;refine qC sZ hb fun h2 Vo wG=>h h2 ks (sH.trans Vo) (.refl _) (Ak eo _ _ wG he hn hb hf) fun ζ=>(Ze _ _ _ wG ?_ ?_)
    ·exact Array.isEmpty_iff.mp q.2
    ·exact jC q.1 hmk
   ·have hr:ts.road to= .clean:=by unfold SetTable.road;(refine iR zq ?_);exact aS q
    refine iR hr ?_;clear m_ jd ho hf Cg Vs zq TG hr;refine SS (zX (yo _ hm) (hs:=eo.map (·.1)) (by simpa using yM) ts.finger ts.moves (ts.led&&to.led) (ts.plain&&to.plain)) fun t' order hl hp sN Ce J5=> ?_;refine iR hl ?_;rw[Array.size_map]at hp sN;have lD:(order.filterMap (eo[·]?)).toList.Perm eo.toList:=by
     exact iR Array.toList_filterMap <| (hp.filterMap _).trans (by(refine iR (filterMap_getElem?_range ..) ?_;rfl))
    have Kq:(order.filterMap (eo[·]?)).size=eo.size:=by(refine jC bh ?_;refine iR lD.length_eq ?_;refine iR bh ?_;rfl)
    refine ai (bx (a:=(order.filterMap (eo[·]?),t')) ?_ ?_)
    ·exact aS (by simp[Kq])
    ·dsimp only;refine qC sZ (aD (aE ‹_›) ‹_›) fun h2 Vo wG=>jm (iV.perm wG he hn hb lD (iR Kq sN)) fun jR w6 H'=> ?_;exact h h2 jR (sH.trans Vo) w6 H' fun ζ=>(Ze _ _ _ wG J5 (iR Ce hmk))
  refine ai (ai (bY hs rfl rfl ?_));dsimp only;unfold SetTable.roomFor;split
  ·rename_i wanted hw;split at hw
   ·(injection hw with hw;subst hw)
    refine CN hs rfl (by lia:(0+eo.size)*2<128) (c9 _) fun h1 uQ t1 sH Gl tY J4 VP Zn ZH=> ?_;have hes:uQ= #[]:=by
     have:=tY.length_eq;simpa using this
    subst hes;refine road h1 _ t1 sH Gl ?_ VP (ao (ao (fY ..) (Nat.le_mul_of_pos_right _ (by decide))) Zn) (.inr (ao (aE ((Nat.mul_comm ..).trans (aQ (· *2) (Cg.trans (aX _).symm)))) Zn)) ZH;unfold SetTable.fits at J4;unfold SetTable.fill;simp only[aG,aR,Array.size_empty]at J4;exact iR J4.1 <| iR ZH rfl
   ·contradiction
  ·rename_i hno;have hn4:eo.size<=4:=by
    refine bc (p:=((SetTable.fresh 0 0 led).fill+eo.size)*5≥(SetTable.fresh 0 0 led).mask*3) (fun q=> ?_) fun q=> ?_
    ·exact absurd (a_ q) (hno _)
    ·replace q:=(show(SetTable.fresh 0 0 led).mask=7 from rfl)▸((show(SetTable.fresh 0 0 led).fill=0 from rfl)▸q)
     exact aM (e8 fun z=>q (ao (by decide) (Nat.mul_le_mul_right 5 (ao z (fY _ 0)))))
   refine ak (road s.heap 0 _ (eN a s.heap) hs rfl (by refine(?_:7∈zm);decide) ?_ ?_ rfl)
   ·exact(lit ‹_› :eo.size<=7)
   ·exact .inl ⟨rfl,by exact ao (aE ‹_›) ‹_›⟩
theorem QN{o:Addr}{To:String}{eo:Array (Int×Value)}{DV:Nat}{to:SetTable}{each:Sem Unit}{Q:Unit->Shared->Prop}(ho:s.heap.get? o=some (jl To eo DV to))(hf:to.fits eo.size=true)(m_:a≠o)
  (Le:∀h',h'.get? o=some (jl To eo DV to)->∀Q':Unit->Shared->Prop,Q' () {s with heap:=h'}->wpAny (model prog w) A each Q' E {s with heap:=h'}):
  ∀(es:List (Int×Value))(ko ks:List K)(h0:Heap),lW knd es ko->iV knd T h0 a ks->ks.length+ko.length<4000->Heap.SameBut a s.heap h0->
   (∀h' jR,Heap.SameBut a s.heap h'->(∀j,j∈jR↔j∈ks\/j∈ko)->iV knd T h' a jR->Q () {s with heap:=h'})->
   wpAny (model prog w) A (forIn es PUnit.unit fun x ζ=>match x with
        |(h,x)=>do
         let _<-holding [x] (setAddHashed a x h)
         each
         let e<-setState o
         if(e.snd.fst !=DV)=true then do
           unsupported "set.changed-during-merge"
           pure (ForInStep.yield PUnit.unit)
          else pure (ForInStep.yield PUnit.unit)) Q E {s with heap:=h0}:=by
 intro es
 induction es with
 |nil=>
  intro ko ks h0 he H jd hs h;subst he;exact ak (h h0 ks hs (fun j=>by simp) H)
 |cons e es ih=>
  intro ko ks h0 he H jd hs h;refine cps fun G_ z3=> ?_;obtain⟨k,r,rfl,h1,h2,h3,he⟩:=he;obtain⟨hh,x⟩:=e;refine z3 ?_;dsimp only at h1 h2 h3;refine iR h2 ?_;rw[List.forIn_cons];simp only[bind_assoc];rw[aB]at jd;have hb:scanBound=4096:=rfl;refine ai (bO (Q:=fun ζ s'=>∃h' jR,s'={s with heap:=h'}/\Heap.SameBut a s.heap h'/\iV knd T h' a jR/\jR.length+r.length<4000/\∀j,j∈jR↔j∈ks\/j=k)
   (aP (xB (s:={s with heap:=h0}) h1 h3 H (aD (bE (d9 _) _) (rE jd)) (fun t8=> ?_) fun h' jR yL hp H' WG=> ?_)) (fun bb s' hP=> ?_) fun ζ ζ z=>z)
  ·exact⟨h0,ks,rfl,hs,H,by(exact bC ‹_›),fun j=>⟨.inl,fun q=>q.elim id fun q=>q▸t8⟩⟩
  ·refine⟨h',jR,rfl,hs.trans yL,H',aD (aE (by rw[hp.length_eq,au];exact dh _ _)) jd,fun j=> ?_⟩;rw[hp.mem_iff,bg,aA]
  ·obtain⟨h',jR,rfl,yL,H',DR,hm⟩:=hP;have qK:h'.get? o=some (jl To eo DV to):=(yL.2 o m_.symm).trans ho;refine ai (Le h' qK _ (ai (bY qK rfl hf ?_)));simp only[bne_self_eq_false,bz,d7,pure_bind];refine ih r jR h' he H' DR yL fun Gp Au O7 O9 YS=>h Gp Au O7 (fun j=> ?_) YS;rw[O9 j,hm j,aV,or_assoc]
theorem QL{o:Addr}{To:String}{ko:List K}{each:Sem Unit}{Q:Unit->Shared->Prop}(H:iV knd T s.heap a ks)(OT:ks≠[])(Ho:iV knd To s.heap o ko)(m_:a≠o)(jd:ks.length+ko.length<64)
  (Le:∀h',h'.get? o=s.heap.get? o->∀Q':Unit->Shared->Prop,Q' () {s with heap:=h'}->wpAny (model prog w) A each Q' E {s with heap:=h'})
  (h:∀h' jR,Heap.SameBut a s.heap h'->(∀j,j∈jR↔j∈ks\/j∈ko)->iV knd T h' a jR->Q () {s with heap:=h'}):wpAny (model prog w) A (setMerge a o each) Q E s:=by
 refine iV.out Ho fun eo DV to ho he hn hb hf=> ?_;have Cg:ko.length=eo.size:=by rw[he.length,bh]
 unfold setMerge;rw[aS (by simp[m_])];refine ai (bY ho rfl hf ?_);dsimp only;split
 ·rename_i Vs;have hz:eo.size=0:=by simpa using Vs
  have Zz:ko=[]:=cy (Eq.trans ‹_› ‹_›);clear jd he hn Cg Vs hz;subst Zz;exact ak (h s.heap ks (eN a s.heap) (fun j=>by simp) H)
 ·have road:∀(h1:Heap)(RJ:List K),Heap.SameBut a s.heap h1->RJ.Perm ks->iV knd T h1 a RJ->
    wpAny (model prog w) A (setState a >>= fun x=>match x with
     |(_,_,ts)=>match ts.road to with
      |SetTable.Road.slotForSlot=>storeSet a eo {mask:=to.mask,place:=to.place,dummies:=to.dummies,finger:=ts.finger,led:=ts.led&&to.led,moves:=ts.moves,plain:=ts.plain&&to.plain}
      |SetTable.Road.clean=>do
       let x<-(do
        let some (t,order):=(SetTable.laid ts.mask ts.finger ts.moves (ts.led&&to.led) (ts.plain&&to.plain) (Array.map (fun x=>x.fst) eo))|unsupported "internal:set-table-without-room"
        let nH:=order.filterMap (eo[·]?)
        if nH.size !=eo.size then unsupported "internal:set-table-lost-an-element"
        pure (nH,t))
       match x with
       |(es,t)=>storeSet a es t
      |SetTable.Road.oneByOne=>do
       let l<-setWalkUnseen o [a] (some a)
       forIn l PUnit.unit fun x ζ=>match x with
        |(h,x)=>do
         let _<-holding [x] (setAddHashed a x h)
         each
         let e<-setState o
         if(e.snd.fst !=DV)=true then do
           unsupported "set.changed-during-merge"
           pure (ForInStep.yield PUnit.unit)
          else pure (ForInStep.yield PUnit.unit)
       pure ()) Q E {s with heap:=h1}:=by
   intro h1 RJ sH tY H1;have Ho1:iV knd To h1 o ko:=(Ho).at (sH.2 o m_.symm);have Z1:=H1;refine iV.out H1 fun uQ Wd ts Gl Vt Zw hb1 J4=>ai (bY Gl rfl J4 ?_);dsimp only;have hr:ts.road to= .oneByOne:=by
    refine a_ ?_;unfold SetTable.fits at J4;rw[aG,aR]at J4;have h2:uQ.size≠0:=by
     intro q;have:=Vt.length
     replace this:=q▸((show uQ.toList.length=uQ.size from bh ..)▸this)
     have h3:=tY.length_eq;exact OT (cy (Eq.trans (fy ‹_›) ‹_›))
    refine(?_:(ts.place.size+ts.dummies.size !=0)=true);rw[bne_iff_ne];exact fun z=>h2 (J4.1.symm.trans (Nat.eq_zero_of_add_eq_zero_right z))
   refine iR hr <| ai (A6 (s:={s with heap:=h1}) Ho1 (others:=[a]) (f:=some a) (fun b hb=> ?_) (fun b hb=> ?_) fun nH jR h2 BW w6 ζ S6=> ?_)
   ·exact iR (aA.mp hb) Z1.quiet
   ·cases hb;exact Z1.quiet
   ·exact lP (S6 a rfl) fun sZ w7=>ai <| jC fS <| QN (s:=s) ho hf m_ (fun h' qK=>Le h' (qK.trans ho.symm)) nH.toList jR RJ h2 BW (w7 _ _ _ _ _ Z1) (by have:=w6.length_eq;have:=tY.length_eq;lia) (sH.trans sZ) fun h' Au yL S5 H'=>ak (h h' Au yL (fun j=>by rw[S5 j,tY.mem_iff,w6.mem_iff]) H')
  have H0:=H;refine iV.out H fun es0 ep0 t0 ho0 he0 OR hb0 VT=> ?_;have hl0:ks.length=es0.size:=by rw[he0.length,bh]
  refine ai (ai (bY ho0 rfl VT ?_));dsimp only;unfold SetTable.roomFor;split
  ·rename_i wanted hw;split at hw
   ·refine jC (aj hw) ?_;have w5:t0.place.size=es0.size:=by
     unfold SetTable.fits at VT;rw[aG,aR]at VT;exact VT.1
    exact CN ho0 VT (by lia) (ao (aE w5.symm) (ao (eu ..) (Nat.le_mul_of_pos_right _ (by decide)))) fun h1 uQ t1 sH Gl tY J4 VP Zn ZH=>jm (iV.perm Gl he0 OR hb0 tY J4) fun RJ S1 H1=>road h1 RJ sH S1 H1
   ·cases hw
  ·exact ak (road s.heap ks (eN a s.heap) (.refl _) H0)
end
end
section
open PySem
open Builtin
theorem qE{α:Type}[DecidableEq α]:∀{l m:List α},l.Nodup->(∀x∈l,x∈m)->l.length<=m.length:=by
 intro L0
 induction L0 with
 |nil=>
  intro _ _ _;exact c9 _
 |cons a l ih=>
  intro m hn h;refine lP (fk.mp hn) fun h1 h2=> ?_;have ha:=h a (aT ..);have:=ih (m:=m.erase a) h2 fun x hx=>(List.mem_erase_of_ne fun e=>h1 (by(refine jC e ?_);exact hx)).mpr (h x (aq _ hx));rw[List.length_erase_of_mem ha]at this;have:=List.length_pos_of_mem ha
  (refine iR aB ?_);exact aD ‹l.length<=_› (Nat.sub_lt this (by decide))
theorem xZ:isSubtype (.type "frozenset") (.type "set")=pure false:=by kernel_rfl
theorem Ik:isSubtype (.type "frozenset") (.type "frozenset")=pure true:=by kernel_rfl
theorem zJ:isSubtype (.type "set") (.type "set")=pure true:=by kernel_rfl
section
variable{prog:Program}{w:World}{K:Type}[DecidableEq K]{knd:KeyKind prog w K}{A:Around}{E:aa}{s:Shared}{T:String}{a l:Addr}{ks kl:List K}{k:K}{x:Value}
theorem iV.typeIs(H:iV knd T s.heap a ks):s.TypeIs (.ref a) T:=let⟨_,_,_,ho,_⟩:=H;(jt _ ho rfl)
theorem nA{Q:Bool->Shared->Prop}(hT:T="set"\/T="frozenset")(h:s.TypeIs (.ref a) T)(hq:Q true s):wpAny (model prog w) A (Frozenset.isAnySet (.ref a)) Q E s:=by
 rcases hT with rfl|rfl
 ·exact ai (cG h zJ (ak hq))
 ·exact ai (cG h xZ (cG h Ik hq))
theorem Hy{Q:aa}(hT:T="set"\/T="frozenset")(h:s.TypeIs (.ref a) T)(hq:Q (.type T) s):wpAny (model prog w) A (Frozenset.baseOf a) Q E s:=by
 rcases hT with rfl|rfl
 ·exact ai (cG h zJ (ak hq))
 ·exact ai (cG h xZ (ak hq))
theorem qj{h:Heap}{a:Addr}{o:Obj}(ho:h.get? a=some o):h.objs.size≠a:=fun e=>by
 have:=bF ho;rw[<-e]at this;exact dP _ this
def Kept(h h':Heap):Prop:=∀b o,h.get? b=some o->h'.get? b=some o
theorem A4{h h':Heap}{o:Obj}(hs:Heap.SameBut h.objs.size (h.push o) h'):Kept h h':=fun b ob e=>(hs.2 b (qj e).symm).trans (az _ e)
theorem Hg{Q:aa}(hT:T="set"\/T="frozenset")(H:iV knd T s.heap l kl)(jd:kl.length<64)
  (h:∀h' ks led,Heap.SameBut s.heap.objs.size (s.heap.push (jl T #[] 0 (.fresh 0 0 led))) h'->ks.Perm kl->iV knd T h' s.heap.objs.size ks->
   (kl≠[]->∃es ep t,h'.get? s.heap.objs.size=some (jl T es ep t)/\t.dummies= #[]/\(t.mask=7/\kl.length<=4\/2*kl.length<=t.mask))->Q (.ref s.heap.objs.size) {s with heap:=h'}):
  wpAny (model prog w) A (Frozenset.copyOf l) Q E s:=by
 refine ai (Hy hT H.typeIs (ai (Er T fun led=>Ov (id H) fun ζ ζ ζ ho ζ=>ai (m:=Frozenset.addrOf _) (ak (ai (Hf (s:={s with heap:=s.heap.push (jl T #[] 0 (.fresh 0 0 led))}) (led:=led) (aF _ rfl) (H.keep fun o e=>az _ e) (qj ho) jd fun h' jR hs hp H' ht=> ?_))))));exact ak (h h' jR led hs hp H' ht)
theorem Fi{nm:String}{o:Addr}{To:String}{led:Bool}{Q:Unit->Shared->Prop}(hs:s.heap.get? a=some (jl T #[] 0 (.fresh 0 0 led)))(H:iV knd To s.heap o ks)(ZL:To="set"\/To="frozenset")(m_:a≠o)(jd:ks.length<64)
  (h:∀h' jR,Heap.SameBut a s.heap h'->jR.Perm ks->iV knd T h' a jR->Q () {s with heap:=h'}):wpAny (model prog w) A (Frozenset.updateFrom nm a (.ref o)) Q E s:=ai (nA ZL H.typeIs (ai (m:=Frozenset.addrOf _) (ak (wF (id H) fun eo DV to ho ζ ζ ζ hf=>ai (gf ho rfl hf (Hf hs H m_ jd fun h' jR hs hp H' ζ=>h h' jR hs hp H'))))))
theorem Fg{nm:String}{o:Addr}{To:String}{ko:List K}{Q:Unit->Shared->Prop}(H:iV knd T s.heap a ks)(OT:ks≠[])(Ho:iV knd To s.heap o ko)(ZL:To="set"\/To="frozenset")(m_:a≠o)(jd:ks.length+ko.length<64)
  (h:∀h' jR,Heap.SameBut a s.heap h'->(∀j,j∈jR↔j∈ks\/j∈ko)->iV knd T h' a jR->Q () {s with heap:=h'}):wpAny (model prog w) A (Frozenset.updateFrom nm a (.ref o)) Q E s:=ai (nA ZL Ho.typeIs (ai (m:=Frozenset.addrOf _) (ak (wF (id Ho) fun eo DV to ho ζ ζ ζ hf=>ai (gf ho rfl hf (QL H OT Ho m_ jd (fun h' he Q' q=>o7 (s:={s with heap:=h'}) (he.trans ho) hf q) h))))))
theorem vC{x y:Sem Bool}{Q:Bool->Shared->Prop}(h:wpAny (model prog w) A x (fun b s'=>b=true/\wpAny (model prog w) A y Q E s') E s):wpAny (model prog w) A (andM x y) Q E s:=by
 refine ai (bO h (fun b s' hb=> ?_) fun ζ ζ z=>z);obtain⟨rfl,hb⟩:=hb;exact hb
theorem Ql(nm:String){r:Addr}{Tr:String}{kr:List K}{Q:aa}(hT:T="set"\/T="frozenset")(OC:Tr="set"\/Tr="frozenset")(Hl:iV knd T s.heap l kl)(Hr:iV knd Tr s.heap r kr)(jd:kl.length+kr.length<64)(Gm:kl≠[])
  (h:∀h' ks,h'.objs.size=s.heap.objs.size+1->Kept s.heap h'->(∀j,j∈ks↔j∈kl\/j∈kr)->iV knd T h' s.heap.objs.size ks->Q (.ref s.heap.objs.size) {s with heap:=h'}):
  wpAny (model prog w) A (do
   let result<-Frozenset.copyOf l
   if Value.ref r != .ref l then holding [result] (Frozenset.updateFrom nm (<-Frozenset.addrOf result) (.ref r))
   return result) Q E s:=by
 refine ai (Hg hT Hl (pD ‹_›) fun h1 k1 led sH tY H1 ζ=> ?_);have zp:=A4 sH;have DY:h1.objs.size=s.heap.objs.size+1:=by(refine iR (sH.1 ..) ?_;refine iR (bK ..) ?_;rfl)
 split
 ·refine Ov (id Hr) fun ζ ζ ζ Ox ζ=> ?_;have Ka:k1≠[]:=fun e=>Gm (cy (jC tY.length_eq <| iR e rfl));refine ai (m:=Frozenset.addrOf _) (ak (ai (aP (Fg (s:={s with heap:=h1}) H1 Ka (Hr.keep fun o e=>zp r o e:iV knd Tr h1 r kr) OC (qj Ox) (iR tY.length_eq jd) fun h2 k2 sZ hm H2=> ?_))));refine ak (h h2 k2 (iR sZ.1 DY) (fun b o e=>(sZ.2 b (qj e).symm).trans (zp b o e)) (fun j=> ?_) H2);rw[hm j,tY.mem_iff]
 ·rename_i m_;have Ys:r=l:=by
   have:(Value.ref r != .ref l)=false:=by simpa using m_
   simpa using this
  subst Ys;have hkk:∀j,j∈kl↔j∈kr:=by
   clear hT OC jd Gm sH m_;refine J0 Hl fun es ep t ho he ζ=>J0 Hr fun nH J6 t' qK BW ζ=> ?_;clear Hr
   replace qK:=ho▸qK
   cases aj qK;intro j;rw[he.mem j,BW.mem j]
  refine ak (h h1 k1 DY zp (fun j=> ?_) H1);rw[tY.mem_iff,<-hkk j,or_self]
theorem Sb{r:Addr}{Tr:String}{kr:List K}{Q:aa}(hT:T="set"\/T="frozenset")(OC:Tr="set"\/Tr="frozenset")(Hl:iV knd T s.heap l kl)(Hr:iV knd Tr s.heap r kr)(jd:kl.length+kr.length<64)(Gm:kl≠[])
  (h:∀h' ks,h'.objs.size=s.heap.objs.size+1->Kept s.heap h'->(∀j,j∈ks↔j∈kl\/j∈kr)->iV knd T h' s.heap.objs.size ks->Q (.ref s.heap.objs.size) {s with heap:=h'}):
  wpAny (model prog w) A (Builtin.«frozenset.__or__» ⟨[.ref l,.ref r],[]⟩) (fun fin s'=>∃v,fin= .done (.ret v)/\Q v s') E s:=by
 refine ai (m:=Frozenset.slot1 "__or__" ⟨[.ref l,.ref r],[]⟩) <| bx (a:=(.ref l,.ref r)) rfl <| ai (vC (nA hT Hl.typeIs ⟨rfl,nA OC Hr.typeIs (ai (m:=Frozenset.addrOf _) (ak (ai (bO (Ql _ hT OC Hl Hr jd Gm h) (fun v s' hq=> ?_) fun ζ ζ z=>z))))⟩))
 exact ak (jt v rfl hq)
theorem NK{o:Addr}{To:String}{eo:Array (Int×Value)}{DV:Nat}{to:SetTable}{id:String}{Q:Unit->Shared->Prop}(ho:s.heap.get? o=some (jl To eo DV to))(hf:to.fits eo.size=true)(m_:a≠o):
  ∀(es:List (Int×Value))(ko ks:List K)(h0:Heap),lW knd es ko->ko.Nodup->iV knd T h0 a ks->ks.length+ko.length<4000->Heap.SameBut a s.heap h0->
   (∀h' jR,Heap.SameBut a s.heap h'->(∀j,j∈jR↔(j∈ks/\j∉ko\/j∉ks/\j∈ko))->iV knd T h' a jR->Q () {s with heap:=h'})->
   wpAny (model prog w) A (forIn es PUnit.unit fun x ζ=>match x with
          |(h,x)=>do
           (holding [x] do
            let b<-setDiscardHashed a x h
            if(!b)=true then do
              let _<-setAddHashed a x h
              pure ()
             else pure ())
           Frozenset.unchanged id o DV
           pure (ForInStep.yield PUnit.unit)) (fun ζ s'=>Q () s') E {s with heap:=h0}:=by
 intro es
 induction es with
 |nil=>
  intro ko ks h0 he hn H jd hs h;subst he;exact ak (h h0 ks hs (fun j=>by simp) H)
 |cons e es ih=>
  intro ko ks h0 he hn H jd hs h;obtain⟨k,r,rfl,h1,h2,h3,he⟩:=he;obtain⟨hh,x⟩:=e;dsimp only at h1 h2 h3;subst h2;refine iR (b_ ..) ?_;simp only[bind_assoc]
  replace jd:=aB▸jd
  have hb:scanBound=4096:=rfl;refine lP (fk.mp hn) fun hkr RN=>ai (bO (Q:=fun ζ s'=>∃h' jR,s'={s with heap:=h'}/\Heap.SameBut a s.heap h'/\iV knd T h' a jR/\jR.length+r.length<4000/\∀j,j∈jR↔(j∈ks/\j≠k\/j=k/\k∉ks))
   (aP (ai (Fv (s:={s with heap:=h0}) h1 h3 H (fun t8=> ?_) fun h' jR yL hm H' t8=> ?_))) (fun bb s' hP=> ?_) fun ζ ζ z=>z)
  ·refine ai (xB (s:={s with heap:=h0}) h1 h3 H (aD (bE (d9 _) _) (rE jd)) (fun q=>absurd q t8) fun h' jR yL hp H' ζ=>ak (J' h' jR rfl (hs.trans yL) H' (aD (aE (by rw[hp.length_eq,au];exact dh _ _)) jd) (fun j=> ?_)));rw[hp.mem_iff,bg,aA];constructor
   ·rintro(q|q)
    ·exact .inl ⟨q,fun e=>t8 (e▸q)⟩
    ·exact .inr ⟨q,t8⟩
   ·rintro(⟨q,_⟩|⟨q,_⟩)
    ·exact .inl q
    ·exact .inr q
  ·refine ak (J' h' jR rfl (hs.trans yL) H' ?_ (fun j=> ?_))
   ·have:jR.length<=ks.length:=by
     exact qE H'.nodup fun j hj=>((hm j).mp hj).1
    exact aD (ck this (dH _)) jd
   ·rw[hm j];constructor
    ·exact .inl
    ·rintro(q|⟨_,q⟩)
     ·exact q
     ·exact absurd t8 q
  ·refine SS hP fun h' jR z3 yL H' DR hm=> ?_;clear hP;refine iR z3 ?_;have qK:h'.get? o=some (jl To eo DV to):=(yL.2 o m_.symm).trans ho;refine ai (o7 (s:={s with heap:=h'}) qK hf (ih r jR h' he RN H' DR yL fun Gp Au O7 O9 YS=>h Gp Au O7 (fun j=> ?_) YS));rw[O9 j,hm j];refine bc (p:=j=k) (fun q1=> ?_) fun q1=> ?_
   ·clear ho hf m_ H hs hn jd h he h1 h3 hb RN yL H' DR hm qK O7 O9 YS;refine iR q1 ?_;refine bc (p:=j∈ks) (fun q2=> ?_) fun q2=> ?_<;>first|rfl|simp[q2,hkr]
   ·simp[q1]
end
section
variable{prog:Program}{w:World}{K:Type}[DecidableEq K]{knd:KeyKind prog w K}{A:Around}{E:aa}{s:Shared}{T:String}{a l r:Addr}{ks kl kr:List K}{k:K}{x:Value}
theorem EL(nm:String){Q:Unit->Shared->Prop}(hT:T="set"\/T="frozenset"){Ta:String}(Hl:iV knd T s.heap l kl)(Ha:iV knd Ta s.heap a ks)(m_:a≠l)(jd:ks.length+kl.length<4000)
  (h:∀h' jR,Heap.SameBut a s.heap h'->(∀j,j∈jR↔(j∈ks/\j∉kl\/j∉ks/\j∈kl))->iV knd Ta h' a jR->Q () {s with heap:=h'}):
  wpAny (model prog w) A (Frozenset.symmetricDifferenceUpdate nm a (.ref l)) Q E s:=by
 unfold Frozenset.symmetricDifferenceUpdate;have h1:(Value.ref l==Value.ref a)=false:=by
  simp;exact fun e=>m_ e.symm
 refine iR h1 <| ai (gF Hl.typeIs ?_)
 have h2:(Value.type T==Value.type "dict")=false:=by(refine cg hT (fun z1=> ?_) fun z1=> ?_<;>refine iR z1 ?_)<;>decide
 refine iR h2 <| ai (nA hT Hl.typeIs (ai (m:=Frozenset.addrOf _) (ak (wF (id Hl) fun eo DV to ho ζ ζ ζ hf=>ai (gf ho rfl hf (aP (ai (A6 Hl (others:=[a]) (f:=some a) (fun b hb=> ?_) (fun b hb=> ?_) fun nH jR h2 BW w6 ζ S6=> ?_))))))))
 ·exact iR (aA.mp hb) Ha.quiet
 ·clear hT h1;refine jC (aj hb) ?_;exact Ha.quiet
 ·refine lP (S6 a rfl) fun sZ w7=>ai <| jC fS <| bO (NK (s:=s) (Q:=Q) ho hf m_ nH.toList jR ks h2 BW (w6.nodup_iff.mpr Hl.nodup) (w7 _ _ _ _ _ Ha) (iR w6.length_eq jd) sZ fun h' Au yL S5 H'=> ?_) (fun ζ s' q=>ak q) fun ζ ζ z=>z
  exact h h' Au yL (fun j=>by(rw[S5 j,w6.mem_iff])) H'
theorem L7(nm:String){Tr:String}{Q:aa}(hT:T="set"\/T="frozenset")(OC:Tr="set"\/Tr="frozenset")(Hl:iV knd T s.heap l kl)(Hr:iV knd Tr s.heap r kr)(jd:kl.length+kr.length<64)
  (h:∀h' ks,Kept s.heap h'->(∀j,j∈ks↔(j∈kr/\j∉kl\/j∉kr/\j∈kl))->iV knd T h' s.heap.objs.size ks->Q (.ref s.heap.objs.size) {s with heap:=h'}):
  wpAny (model prog w) A (do
   let result<-Frozenset.newFrom nm (<-Frozenset.baseOf l) (.ref r)
   holding [result] (Frozenset.symmetricDifferenceUpdate nm (<-Frozenset.addrOf result) (.ref l))
   return result) Q E s:=by
 refine ai (Hy hT Hl.typeIs ?_);unfold Frozenset.newFrom;simp only[bind_assoc,pure_bind];refine ai (Er T fun led=>cps fun G_ z2=>Ov (id Hr) fun ζ ζ ζ Ox ζ=>Ov (id Hl) fun ζ ζ ζ RM ζ=>z2 (ai (m:=Frozenset.addrOf _) (ak (ai (aP (Fi (s:={s with heap:=s.heap.push (jl T #[] 0 (.fresh 0 0 led))}) (led:=led) (aF _ rfl) (Hr.keep fun o e=>az _ e) OC (qj Ox) (ao (fY ..) ‹_›) fun h1 k1 sH tY H1=> ?_))))));have Ka:=A4 sH;refine ai (m:=Frozenset.addrOf _) (ak (ai (aP (EL (s:={s with heap:=h1}) nm hT (Hl.keep fun o e=>Ka l o e) H1 (qj RM) (by(refine iR tY.length_eq ?_);lia) fun h2 k2 sZ hm H2=> ?_))));refine ak (h h2 k2 (fun b o e=>(sZ.2 b (qj e).symm).trans (Ka b o e)) (fun j=> ?_) H2);rw[hm j,tY.mem_iff]
theorem TS{Tr:String}{Q:aa}(hT:T="set"\/T="frozenset")(OC:Tr="set"\/Tr="frozenset")(Hl:iV knd T s.heap l kl)(Hr:iV knd Tr s.heap r kr)(jd:kl.length+kr.length<64)
  (h:∀h' ks,Kept s.heap h'->(∀j,j∈ks↔(j∈kr/\j∉kl\/j∉kr/\j∈kl))->iV knd T h' s.heap.objs.size ks->Q (.ref s.heap.objs.size) {s with heap:=h'}):
  wpAny (model prog w) A (Builtin.«frozenset.__xor__» ⟨[.ref l,.ref r],[]⟩) (fun fin s'=>∃v,fin= .done (.ret v)/\Q v s') E s:=by
 refine ai (m:=Frozenset.slot1 "__xor__" ⟨[.ref l,.ref r],[]⟩) <| bx (a:=(.ref l,.ref r)) rfl <| ai (vC (nA hT Hl.typeIs ⟨rfl,nA OC Hr.typeIs (ai (m:=Frozenset.addrOf _) (ak (ai (bO (L7 _ hT OC Hl Hr jd h) (fun v s' hq=> ?_) fun ζ ζ z=>z))))⟩))
 exact ak (jt v rfl hq)
theorem BJ:entryFor table "set.__or__"=some Builtin.«frozenset.__or__»:=
 entryFor_alias (id':="frozenset.__or__") (by kernel_rfl) rfl (by decide+kernel) (by kernel_rfl)
theorem y_:entryFor table "set.__xor__"=some Builtin.«frozenset.__xor__»:=
 entryFor_alias (id':="frozenset.__xor__") (by kernel_rfl) rfl (by decide+kernel) (by kernel_rfl)
theorem Ue{Q:aa}(Hl:iV knd "set" s.heap l kl)(Hr:iV knd "set" s.heap r kr)(jd:kl.length+kr.length<64)(Gm:kl≠[])
  (h:∀h' ks,Kept s.heap h'->(∀j,j∈ks↔j∈kl\/j∈kr)->iV knd "set" h' s.heap.objs.size ks->Q (.ref s.heap.objs.size) {s with heap:=h'}):wpAny (model prog w) A (binaryOp .BitOr (.ref l) (.ref r)) Q E s:=by
 refine iK (T:="set") (id:="set.__or__") Hl.typeIs Hr.typeIs F.fills_set_or F.slot_set_or <| bU F.slot_set_or Hl.typeIs BJ ?_ (F.args_set_or_2 _ _)
 exact Sb (.inl rfl) (.inl rfl) Hl Hr jd Gm fun h' ks ζ a b c=>⟨Value.noConfusion,h h' ks a b c⟩
theorem PR{Q:aa}(Hl:iV knd "set" s.heap l kl)(Hr:iV knd "set" s.heap r kr)(jd:kl.length+kr.length<64)
  (h:∀h' ks,Kept s.heap h'->(∀j,j∈ks↔(j∈kr/\j∉kl\/j∉kr/\j∈kl))->iV knd "set" h' s.heap.objs.size ks->Q (.ref s.heap.objs.size) {s with heap:=h'}):wpAny (model prog w) A (binaryOp .BitXor (.ref l) (.ref r)) Q E s:=by
 refine iK (T:="set") (id:="set.__xor__") Hl.typeIs Hr.typeIs F.fills_set_xor F.slot_set_xor <| bU F.slot_set_xor Hl.typeIs y_ ?_ (F.args_set_xor_2 _ _)
 exact TS (.inl rfl) (.inl rfl) Hl Hr jd fun h' ks a b c=>⟨Value.noConfusion,h h' ks a b c⟩
theorem UL(knd:KeyKind prog w K){led:Bool}{Q:Bool->Shared->Prop}{hp:Heap}(ho:s.heap.get? a=some (jl T #[] 0 (.fresh 0 0 led)))(qN:knd.is k x=true)(uL:x.scannable=true)
  (h:∀h',Heap.SameBut a s.heap h'->iV knd T h' a [k]->Q true {s with heap:=h',toks:=s.toks+1}):wpAny (model prog w) A (setAdd a x) Q E s:=by
 refine aP (ai (knd.pyHash qN (xB (s:={s with toks:=s.toks+1}) (knd:=knd) (ks:=[]) qN uL (Ak (#[]) 0 _ ho (by rfl) d8 (by decide) rfl) (by refine(?_:0+1<4096);decide) (fun q=>by contradiction) fun h' jR hs hp H ζ=> ?_)));have e:jR=[k]:=iL.mp hp;clear ho qN uL hp;subst e;exact h h' hs H
end
theorem vA{α:Type}[DecidableEq α]{x:α}:∀{l:List α},l.Nodup->x∈l->l.count x=1
 |a::l,hn,hx=>by
  obtain⟨h1,h2⟩:=fk.mp hn;refine iR List.count_cons ?_;by_cases e:a=x
  ·refine jC e ?_;refine iR (List.count_eq_zero.mpr h1) ?_;simp
  ·rcases aV.mp hx with q|q
   ·exact absurd q.symm e
   ·refine iR (vA h2 q) ?_;simp[e]
theorem pN{α:Type}[DecidableEq α]{l m:List α}(hl:l.Nodup)(hm:m.Nodup)(h:∀x,x∈l↔x∈m):l.Perm m:=by
 rw[List.perm_iff_count];intro x;refine bc (p:=x∈l) (fun hx=> ?_) fun hx=> ?_
 ·exact iR (vA hl hx) <| iR (vA hm ((h x).mp hx)) rfl
 ·exact iR (List.count_eq_zero.mpr hx) <| iR (List.count_eq_zero.mpr fun q=>hx ((h x).mpr q)) rfl
section
variable{prog:Program}{w:World}{A:Around}{E:aa}{s:Shared}
theorem C9{b:Bool}{Q:Int->Shared->Prop}(h:Q (if b then 1 else 0) {s with toks:=s.toks+1}):wpAny (model prog w) A (pyHash (.bool b)) Q E s:=by
 have hT:s.TypeIs (.bool b) "bool":=rfl;have hv:[Value.bool b].any Value.onHeap=false:=rfl;refine ai <| ak <| ai (fX hT F.slot_bool_hash.lookup (?_:wpAny _ _ (if(some (Value.builtin "int.__hash__")==some Value.none)=true then _ else _) Q E s))
 refine ai (fX hT F.slot_bool_hash.lookup (?_:wpAny _ _ (callSpecialIfBoundUnlessNone? (.bool b) "__hash__" _ >>= _) Q E s));have hr:wpAny (model prog w) A.in1 (Builtin.«int.__hash__» ⟨[.bool b],[]⟩) (fun fin s'=>∃v,fin= .done (.ret v)/\(match v with
   | .int i _=>i=(if b then 1 else 0)/\s'={s with toks:=s.toks+1}
   |_=>False)) E s:=by
  cases b
  ·refine(?_:wpAny _ _ (do ret (<-mkInt 0)) _ _ s);exact wpAny_ret_mkInt ⟨rfl,rfl⟩
  ·refine(?_:wpAny _ _ (do ret (<-mkInt 1)) _ _ s);exact wpAny_ret_mkInt ⟨rfl,rfl⟩
 refine ai (wpAny_callSpecialIfBoundUnlessNone?_slot hT F.slot_bool_hash
  (bU F.slot_bool_hash hT entry_int_hash (bO hr (fun fin s' hf=> ?_) fun ζ ζ z=>z) (args_int_hash _)))
 obtain⟨v,rfl,hv⟩:=hf;refine⟨v,rfl,?_⟩;cases v<;>first|exact hv.elim|skip
 obtain⟨rfl,rfl⟩:=hv;cases b
 all_goals exact ak h
noncomputable def Value.isBool(b:Bool):Value->Bool
 | .bool c=>c==b
 |_=>false
theorem nF{b:Bool}{v:Value}(h:Internal.Value.isBool b v=true):v= .bool b:=by
 cases v<;>(simp_all [Internal.Value.isBool])
noncomputable def sj(prog:Program)(w:World)(b:Bool):KeyKind prog w Unit where
 is:=fun ζ=>Internal.Value.isBool b
 hash:=fun ζ=>if b then 1 else 0
 inj:=fun ζ ζ ζ ζ ζ=>rfl
 byValue:=fun ζ v h=>by rw[nF h];rfl
 pyHash:=fun hv h=>by rw[nF hv];exact C9 h
 eqBool:=fun hu hv h=>by
  rw[nF hu,nF hv];unfold eqBool;refine aP ?_;rw[a_ (by simp)];exact ai (dS (ak (by simpa using h)))
 «strs» :=fun ζ x t v h=>by simp[Internal.Value.isBool]at h
noncomputable def Ax(b:Bool)(ep:Nat)(t:SetTable):Obj:=jl "set" #[((if b then 1 else 0),.bool b)] ep t
theorem QU{h:Heap}{a:Addr}{b:Bool}(H:iV (sj prog w b) "set" h a [()]):∃ep t,h.get? a=some (Ax b ep t)/\t.fits 1=true:=by
 refine wF H fun es ep t ho he ζ ζ hf=> ?_;have hsz:es.size=1:=by have:=he.length;exact this.symm
 have hl:es.toList=[((if b then 1 else 0),.bool b)]:=by
  cases e:es.toList with
  |nil=>rw[e]at he;cases he
  |cons x r=>
   rw[e]at he;refine SS he fun k r' e2 h1 h2 ζ h3=> ?_;cases e2;have:r=[]:=cy h3.length.symm;refine iR this ?_;clear e h3;obtain⟨i,v⟩:=x;have e3:v= .bool b:=nF h1;rw[e3,(show i=(if b then 1 else 0)from h2)]
 have:es= #[((if b then 1 else 0),.bool b)]:=fJ.mp hl;subst this;exact⟨ep,t,ho,by exact hf⟩
theorem JS(p j:Nat):SetTable.below #[p] j=if p<j then 1 else 0:=(rfl:SetTable.below.go #[p] j 1 0 1=_)
theorem tX:Manifest.owners.lookup (String.ofList ['r','o','t','a','r','e','t','i','_','t','e','s'].reverse)=some Manifest.sig_set_iterator:=by kernel_rfl
theorem nE:Slot "set_iterator" "__next__" "set_iterator.__next__":=
 .of (owner:="set_iterator") (n:="__next__") (by(refine iR (cP ..) ?_;refine iR (bW ..) ?_);kernel_rfl) (by decide+kernel) (by decide+kernel) (by decide+kernel)
  (by first|exact .inl (by decide+kernel)|exact .inr (by decide+kernel)) (by(refine iR (cu ..) ?_);kernel_rfl)
theorem sU:entryFor table "set_iterator.__next__"=some Builtin.«set_iterator.__next__»:=dR (by kernel_rfl)
theorem r8(a:Value):argsOk "set_iterator.__next__" ⟨[a],[]⟩:=by
 (refine iR (iM (id:="set_iterator.__next__") (n:=['_','_','t','x','e','n','_','_']) (o:=['r','o','t','a','r','e','t','i','_','t','e','s']) (by kernel_rfl) tX) ?_);kernel_rfl
theorem yF:entryFor table "set.__iter__"=some Builtin.«frozenset.__iter__»:=
 entryFor_alias (id':="frozenset.__iter__") (by kernel_rfl) (by first|rfl|decide+kernel|(unfold String.splitOn;simp+decide [String.splitOnAux])) (by decide+kernel) (by kernel_rfl)
noncomputable def zk(x:Value)(i:Nat)(y:Value)(ep:Nat):Obj:={cls:=.type "set_iterator",data:=.fields #[x,rawInt i,y,rawInt 1,rawInt ep]}
theorem Ag{es:Array (Int×Value)}{t:SetTable}(h:es.size=1):(!t.plain&&decide (es.size>1))=false:=by(refine iR h ?_);simp
theorem NF{a:Addr}{b:Bool}{ep:Nat}{t:SetTable}{Q:aa}(ho:s.heap.get? a=some (Ax b ep t))(hf:t.fits 1=true)
  (h:Q (.ref s.heap.objs.size) {s with heap:=s.heap.push (zk (rawInt 0) 0 (.ref a) ep)}):wpAny (model prog w) A (pyIter (.ref a)) Q E s:=by
 have hT:s.TypeIs (.ref a) "set":=⟨_,ho,rfl⟩;refine wpAny_pyIter_slot hT F.slot_set_iter (bU F.slot_set_iter hT yF ?_ (F.args_set_iter_1 _));refine ai (bx (a:=a) rfl (ai (ai (dX ho rfl hf (ak (ai (ai (bY ho rfl hf (ai (ai (cW (ak (ak ?_)))))))))))));have hd:∀x:Bool,(x&&(!t.plain&&decide ((#[((if b then 1 else 0),Value.bool b)]:Array (Int×Value)).size>1)))=false:=fun x=>by(refine iR (Ag rfl) ?_);simp
 refine iR (hd ..) <| ai (ak (ai (gf ho rfl hf (ai (bM (ak ⟨_,rfl,"set_iterator",_,⟨_,aF _ rfl,rfl⟩,nE.lookup,h⟩))))))
end
section
variable{prog:Program}{w:World}{A:Around}{E:aa}{s:Shared}{a I:Addr}{b:Bool}{ep:Nat}{t:SetTable}
theorem IZ(hf:t.fits 1=true):∃p,t.place= #[p]:=by
 unfold SetTable.fits at hf;rw[aG,aR]at hf;refine m9 (List.length_eq_one_iff.mp (iR bh <| hf.1:t.place.toList.length=1)) fun p hp=> ?_;exact⟨p,fJ.mp hp⟩
theorem vQ{slot given:Nat}{Q:Option (Value×Nat)->Shared->Prop}(ho:s.heap.get? a=some (Ax b ep t))(hf:t.fits 1=true)(oA:(w.params.followText "set-order"||t.led)=true)
  (h1:given=0->slot=0->∀n,(∀KR,KR=n->w.params.followText "set-order"=true\/∃p,t.place= #[p]/\KR=p+1)->Q (some (.bool b,n)) s)
  (h2:given=1->(w.params.followText "set-order"=true\/∃p,t.place= #[p]/\slot=p+1)->Q none s) (hg:given=0/\slot=0\/given=1/\(w.params.followText "set-order"=true\/∃p,t.place= #[p]/\slot=p+1)):
  wpAny (model prog w) A (setNext a slot given ep) Q E s:=by
 refine ai (bY ho rfl hf (ai (ai (cW (ak ?_)))));cases RS:w.params.followText "set-order" with
 |true=>
  refine(iR (a_ RS) ?_:wpAny _ _ (if w.params.followText "set-order"=true then _ else _) _ _ _);simp only[bne_self_eq_false,bz,d7];refine ai (CM ho hf rfl (by refine(?_:(w.params.followText "set-order"||_||_)=true);(refine iR RS ?_);rfl) fun nH hp=> ?_);have he:nH= #[((if b then 1 else 0),.bool b)]:=fJ.mp (iL.mp hp);clear ho;refine iR he ?_;rcases hg with⟨rfl,rfl⟩|⟨rfl,hs⟩
  ·exact ak (h1 rfl rfl 0 fun ζ ζ=>.inl RS)
  ·exact ak (h2 rfl hs)
 |false=>
  refine(?_:wpAny _ _ (if w.params.followText "set-order"=true then _ else _) _ _ _);rw[aS (by(refine iR RS ?_);exact Bool.false_ne_true)];have hl:t.led=true:=by replace oA:=RS▸oA;exact oA
  refine(iR (Ag rfl) ?_:wpAny _ _ (if(!t.plain&&decide ((#[((if b then 1 else 0),Value.bool b)]:Array (Int×Value)).size>1))=true then _ else _) _ _ _);refine ai (bx (a:=()) ?_ ?_)
  ·refine(iR hl ?_:(if(!t.led&& !(#[((if b then 1 else 0),Value.bool b)]:Array (Int×Value)).isEmpty)=true then _ else _)=_);rfl
  ·refine m9 (IZ hf) fun p hp=>iR hp ?_;rcases hg with⟨rfl,rfl⟩|⟨rfl,hs⟩
   ·exact iR (by rfl:SetTable.below #[p] 0=0) <| ak (h1 rfl rfl (p+1) fun KR e=>.inr ⟨p,hp,e⟩)
   ·rcases hs with hs|⟨p',w6,rfl⟩
    ·replace hs:=RS▸hs
     cases hs
    ·replace w6:=hp▸w6
     have:p=p':=by simpa using w6
     clear ho hf oA RS hl w6 h1;subst this;exact iR (by rw[JS,a_ (fG p)]:SetTable.below #[p] (p+1)=1) <| ak (h2 rfl (.inr ⟨p,hp,rfl⟩))
theorem Nf{Q:Option Value->Shared->Prop}(pS:s.heap.get? I=some (zk (rawInt 0) 0 (.ref a) ep))(ho:s.heap.get? a=some (Ax b ep t))(hf:t.fits 1=true)(oA:(w.params.followText "set-order"||t.led)=true)
  (h:∀h' n,h'.get? I=some (zk (rawInt (n:Nat)) 1 (.ref a) ep)->Heap.SameBut I s.heap h'->(w.params.followText "set-order"=true\/∃p,t.place= #[p]/\n=p+1)->Q (some (.bool b)) {s with heap:=h'}):wpAny (model prog w) A (pyNext (.ref I)) Q E s:=by
 have hT:s.TypeIs (.ref I) "set_iterator":=(jt _ pS rfl);refine ai (gT (cY (name:=Str.ofString "__next__") hT nE
  (bU nE hT sU ?_ (r8 _))))
 refine ai (bx (a:=(.ref I,[])) rfl (ai (iz pS rfl ?_)));unfold rawInt;dsimp only;refine ai (dX ho rfl hf (ai (vQ (slot:=0) (given:=0) ho hf oA (fun ζ ζ n hn=> ?_) (fun q=>by cases q) (.inl ⟨rfl,rfl⟩))));exact ai (wpAny_setField_rec pS (by simp) fun j6 Sm pC=>ai (wpAny_setField_rec Sm (by simp) fun oV Xx oh=>ak (jt _ rfl (ak (h oV n Xx (pC.trans oh) (hn n rfl))))))
theorem Bs{n:Nat}{Q:Option Value->Shared->Prop}(hh:A.handled=none)(pS:s.heap.get? I=some (zk (rawInt (n:Nat)) 1 (.ref a) ep))(ho:s.heap.get? a=some (Ax b ep t))(hf:t.fits 1=true)(oA:(w.params.followText "set-order"||t.led)=true)
  (hn:w.params.followText "set-order"=true\/∃p,t.place= #[p]/\n=p+1) (h:∀h',Heap.ExtBut I s.heap h'->Q none {s with heap:=h'}):wpAny (model prog w) A (pyNext (.ref I)) Q E s:=by
 have hT:s.TypeIs (.ref I) "set_iterator":=(jt _ pS rfl);refine ai (gT (cY (name:=Str.ofString "__next__") hT nE
  (bU nE hT sU ?_ (r8 _))))
 refine ai (bx (a:=(.ref I,[])) rfl (ai (iz pS rfl ?_)));unfold rawInt;dsimp only;refine ai (dX ho rfl hf (ai (vQ (slot:=n) (given:=1) ho hf oA (fun q=>by(exact nomatch q)) (fun ζ ζ=> ?_) (.inr ⟨rfl,hn⟩))));refine ai (wpAny_setField_rec pS (by simp) fun j6 Sm pC=>(?_:wpAny _ _ (newExc (.type "StopIteration") [] >>= _) _ _ _));refine ai <| ai (bM ?_ (by size_fits))
 refine ai (m:=firstArgMember _ _) (bx (a:=Value.none) (by first|rfl|(simp only[firstArgMember];rfl)) (bM ?_ (by size_fits)));dsimp only[raiseNew];refine ai (wpAny_handled ?_)
 first|(refine iR (show A.in1.handled=none from hh) ?_)|rw[hh]
 refine ai (ak (wpAny_throw ?_));refine ai (cG (T:="StopIteration") (b:=true) (jt _ (aF _ rfl) rfl) isSubtype_stop ?_);exact ak (h _ ((pC.extBut.push _).push _))
theorem EI{env:Env}{x:Str}{p pos:Pos}{k:Nat}{Q:Unit->Shared->Prop}(hh:A.handled=none)(ho:s.heap.get? a=some (Ax b ep t))(hf:t.fits 1=true)(oA:(w.params.followText "set-order"||t.led)=true)
  (h:∀h',(∀b o,s.heap.get? b=some o->h'.get? b=some o)->wpAny (model prog w) A (assign (.Name x p) env (.bool b)) Q E {s with heap:=h'}):wpAny (model prog w) A (assign (.Tuple [.Name x p] k pos) env (.ref a)) Q E s:=by
 have hT:s.TypeIs (.ref a) "set":=(jt _ ho rfl);have m_:a≠s.heap.objs.size:=cC (bF ho);refine iR (arm_assign_Tuple ..) <| ai (cj (ai (aP (?_:wpAny _ _ (unpackItems (.ref a) 1 none) _ _ _))))
 dsimp only[unpackItems];refine ai ?_;dsimp only[notIterableAtAll];refine ai (fX hT F.slot_set_iter.lookup (ak (ai (aP (NF ho hf ?_)))));have Gl:(s.heap.push (zk (rawInt 0) 0 (.ref a) ep)).get? a=some (Ax b ep t):=az _ ho;refine ai (aP (ai (Nf (s:={s with heap:=s.heap.push (zk (rawInt 0) 0 (.ref a) ep)}) (aF _ rfl) Gl hf oA fun h1 n hi1 sH hn=> ?_)));dsimp only;refine ai (aP (ak (ak (ai (aP (Bs (s:={s with heap:=h1}) hh hi1 ((sH.2 a m_).trans Gl:h1.get? a=some (Ax b ep t)) hf oA hn fun h2 sZ=>ak (?_:wpAny _ _ (do holding [] (assign (.Name x p) env (.bool b));assignInOrder [] []) _ _ _)))))));refine ai (aP (bO (h h2 fun c o e=> ?_) (fun ζ s' q=>ak q) fun ζ ζ z=>z));have hc:c≠s.heap.objs.size:=cC (bF e);exact sZ c o hc ((sH.2 c hc).trans (az _ e))
end
end
section
open PySem PyProof.Rows
open Builtin
structure oj(σ:List Addr)(h:Heap)(M t it a:Addr)(f:Value)(i:Nat):Prop where
 m1:M∉σ
 t1:t∉σ
 i1:it∉σ
 mo:h.get? M=some (qk t f)
 to:h.get? t=some (nN it)
 io:h.IsListIter it a i
theorem Nq{n:Nat}(h:n<=1000000):n+[()].length<=sizeLine:=by(refine iR eS ?_);simp;exact lit ‹_›
section
variable{C:Cx}{σ σ' kK:List Addr}{s s' jM:Shared}{st ji:St}{A:Around}{E:aa}{n:Nat}{r:nI}{M t it a:Addr}{f:Value}{i:Nat}
theorem oj.type(m:oj σ s.heap M t it a f i):s.TypeIs (.ref M) "map":=(jt _ m.mo rfl)
theorem oj.ext(m:oj σ s.heap M t it a f i)(X:jX jP σ s σ' s'):oj σ' s'.heap M t it a f i:=uO m.io fun oi hi hc hd=>⟨fun h=>(by have:=X.fresh _ h m.m1;replace this:=m.mo▸this;cases this),fun h=>(by have:=X.fresh _ h m.t1;replace this:=m.to▸this;contradiction),fun h=>(by have:=X.fresh _ h m.i1;replace this:=hi▸this;cases this),
  X.keep _ _ m.mo m.m1 id,X.keep _ _ m.to m.t1 id,(sY oi (X.keep _ _ hi m.i1 id) hc hd)⟩
theorem oj.iters(m:oj σ s.heap M t it a f i):rz (· =it) s:=fun b hb=>by
 exact uO m.io fun o ho hc hd=>jt o ((aQ s.heap.get? (show b=it from hb)).trans ho) (kY.of hc hd (by decide))
theorem oj.ne(m:oj σ s.heap M t it a f i):M≠it/\t≠it:=by
 refine uO m.io fun o ho hc hd=>⟨fun e=> ?_,fun e=> ?_⟩
 ·have:=m.mo;replace this:=ho▸(e▸this);(injection this with this;(clear hd;subst this));simp[qk]at hc
 ·have:=m.to;replace this:=ho▸(e▸this);(injection this with this;subst this);trivial
theorem Ng{nm:Str}{q v:PV}{x:Value}{items:Array Value}{Q:Option Value->Shared->Prop}(hr:ki A.in1 n)(S:nJ C n r)(wH:C.mg nm=some f)(K:Ok C σ s st)(m:oj σ s.heap M t it a f i)
  (hl:s.heap.IsList a items) (hx:items[i]? =some x) (V:VR C σ s.heap q x) (hC:r.C nm [q] [] st=some (v,ji)) (h0:C.h₀.get? it=none)
  (hQ:∀val σ' s1 s',we (· =it) s s1->jX jP σ s1 σ' s'->Ok C σ' s' ji->VR C σ' s'.heap v val->oj σ' s'.heap M t it a f (i+1)->Q (some val) s'):wpAny C.M A (pyNext (.ref M)) Q E s:=by
 refine ai (gT (cY (name:=Str.ofString "__next__") m.type mU
  (bU mU m.type r7 ?_ (rA _))))
 refine(ai (fF m.mo rfl (x:=.ref t) rfl ?_):wpAny _ _ (field (.ref M) 0 >>= _) _ _ s);show wpAny _ _ (seqItems? (.ref t) >>= _) _ _ s;refine ai (e_ m.to rfl (ai (m:=forIn _ _ _) (jC fS ?_)));simp only[b_,List.forIn_nil,bind_assoc,pure_bind];refine ai (aP (wpAny_nextOf_list_item m.io hl hx fun j6 xC pC=>ak ?_));have R:we (· =it) s {s with heap:=j6}:=⟨fun b o hb e=>(pC.2 b hb).trans e,rfl,rfl⟩;have m1:oj σ j6 M t it a f (i+1):=⟨m.m1,m.t1,m.i1,(pC.2 _ m.ne.1).trans m.mo,(pC.2 _ m.ne.2).trans m.to,xC⟩;have K1:Ok C σ {s with heap:=j6} st:=K.raw R m.iters (fun b hb=>by(refine iR (show b=it from hb) ?_);exact h0) (fun b hb=>by(refine iR (show b=it from hb) ?_);exact m.i1);exact ai (fF (o:=qk t f) m1.mo rfl (x:=f) rfl (ai (aP (S.C' nm [q] [] st v ji hC A.in1 σ _ [x] [] f _ _ hr K1 (jH.cons (V.mono (R.mono m.iters)) jH.nil) jH.nil wH fun val qv s2 X2 K2 V2=>ai (ff (ak (jt val rfl (ak (hQ val qv _ s2 R X2 K2 V2 (m1.ext (s:={s with heap:=j6}) X2))))))))))
theorem Bt{items:Array Value}{Q:Option Value->Shared->Prop}(hh:A.handled=none)(m:oj σ s.heap M t it a f i)
  (hl:s.heap.IsList a items) (hx:items[i]? =none) (hQ:∀s1,we (· =it) s s1->Q none s1):wpAny C.M A (pyNext (.ref M)) Q E s:=by
 refine ai (gT (cY (name:=Str.ofString "__next__") m.type mU
  (bU mU m.type r7 ?_ (rA _))))
 refine(ai (fF m.mo rfl (x:=.ref t) rfl ?_):wpAny _ _ (field (.ref M) 0 >>= _) _ _ s);show wpAny _ _ (seqItems? (.ref t) >>= _) _ _ s;refine ai (e_ m.to rfl (ai (m:=forIn _ _ _) (jC fS ?_)));simp only[b_,List.forIn_nil,bind_assoc,pure_bind];exact ai (aP (wpAny_nextOf_list_end hh m.io hl hx fun h' x BW DP=>jm DP fun o ho hc=>ai (cG (T:="StopIteration") (b:=true) (jt o ho hc) isSubtype_stop (ak (hQ _ ⟨fun b o hb e=>BW b o hb e,rfl,rfl⟩)))))
theorem FJ{nm:Str}{k N:Nat}{D:Addr}{l:List PV}{rC:St}{fit:St->Bool}{R:Result->Shared->Prop}(hr:ki A.in1.in1 n)(S:nJ C n r)(wH:C.mg nm=some f)(h0:C.h₀.get? it=none)(OR:jM.heap.get? it=none)
  (lH:∀jQ,fit jQ=true->j7 jQ k=some l)
  (hR:∀σ' s',jX jP kK jM σ' s'->Ok C σ' s' rC->σ'[N]? =some D->R (.ok (.ret (.ref D))) s'):∀(rest:List PV)(i:Nat)(σ:List Addr)(s:Shared)(st:St),l.drop i=rest->i<=l.length->
  w_ (fun a st=>r.C nm a [] st) (putL N) fit rest st=some rC->j7 st k=some l->Ok C σ s st->σ[N]? =some D->oj σ s.heap M t it a f i->VR C σ s.heap (.lst k) (.ref a)->jX jP kK jM σ s->
  codeAny C.M A (.builtin "list.extend.loop" ⟨[.ref D,.ref M,.ref D],[]⟩) R s:=by
 intro L0
 induction L0 with
 |nil=>
  intro i σ s st hd hi hx hc K hD m V X
  (injection hx with hx;subst hx)
  refine jx K (.inr ⟨k,rfl,j_ hc⟩) V fun a' o vs e ho so rr=> ?_
  (injection e with e;subst e)
  have Yw:vs.toArray[i]? =none:=by
   have h1:=List.drop_eq_nil_iff.mp hd;refine iR (eY) ?_;exact fU (rr.length▸h1)
  exact bu F.entry_extend_loop <| ai (Bt hr.hh m (so.isList ho) Yw fun s1 R1=>ak (hR σ s1 (X.raw R1 fun b hb=>(show b=it from hb)▸OR) (K.raw R1 m.iters (fun b hb=>(show b=it from hb)▸h0) (fun b hb=>(show b=it from hb)▸m.i1)) hD))
 |cons q rest ih=>
  intro i σ s st hd hi hx hc K hD m V X;refine iU hx fun p h1 hx=>iU hx fun uM h2 hx=>kO hx fun hf hx=>iU h2 fun acc B5 h2=>kO h2 fun Zp e0=> ?_;clear hi h2;clear hR h2;obtain rfl:=aj e0;refine jx K (.inr ⟨k,rfl,j_ hc⟩) V fun a' o vs e ho so rr=> ?_
  (injection e with e;subst e)
  have jS:i<l.length:=e8 fun z=>by replace hd:=(List.drop_eq_nil_of_le z)▸hd;cases hd
  replace hd:=(bP jS)▸hd
  have hq:l[i]? =some q:=(aO jS).trans (aQ some (gQ hd).1);have RQ:=(gQ hd).2;clear hd;refine jm (rr.get hq) fun x hxv Vx=>bu F.entry_extend_loop <| ai (Ng hr S wH K m (so.isList ho) (x:=x) (by(refine iR (eY) ?_);exact hxv) Vx h1 h0 fun val qv s1 s2 R1 X2 K2 V2 m2=> ?_)
  have X':jX jP kK jM qv s2:=(X.raw R1 fun b hb=>(show b=it from hb)▸OR).trans X2;have B5:=j_ B5;refine qL (K2.cells N D _ (X2.idx hD) B5) fun oD ws hoD soD rD=> ?_;have jd:ws.length<=1000000:=rD.length▸ly Zp;refine cps fun G_ z6=> ?_;obtain⟨K3,X3⟩:=K2.setList (X2.idx hD) B5 hoD soD (fun y=>y.push val) (vs':=ws++[val]) (by simp) (jH.append (jH.cons V2 jH.nil) rD) (iR au <| Nq jd);refine jm soD fun nn z7 ζ=> ?_;subst z7;exact z6 <| ai <| eU hoD rfl (ak ⟨bA F.plain_extend_loop _,ih (i+1) qv _ _ RQ jS hx (lH _ hf) K3 (X2.idx hD) (m2.ext X3) (((V.mono (R1.mono m.iters)).mono X2.mono:VR C qv s2.heap (.lst k) (.ref a)).mono X3.mono) (X'.trans X3)⟩) (nv jd) (by simp;exact nv jd)
theorem DE{nm:Str}{k:Nat}{l vs:List PV}{kL rC ji:St}{fit:St->Bool}{Q:List Value->Shared->Prop}(hr:ki A.in1.in1 n)(S:nJ C n r)(wH:C.mg nm=some f)(h0:C.h₀.get? it=none)(OR:jM.heap.get? it=none)
  (lH:∀jQ,fit jQ=true->j7 jQ k=some l) (wm:Ok C kK jM kL) (hx:w_ (fun a st=>r.C nm a [] st) (putL kL.length) fit l (kL++[.lst []])=some rC) (k_:finish kL.length rC (.lst kL.length)=some (.list vs,ji))
  (hc:j7 kL k=some l) (K:Ok C kK s kL) (m:oj kK s.heap M t it a f 0) (V:VR C kK s.heap (.lst k) (.ref a)) (X:jX jP kK jM kK s)
  (h:∀ws s',jX jP kK jM kK s'->Ok C kK s' ji->jH C kK s'.heap vs ws->ws.length<=sizeLine->Q ws s'):wpAny C.M A (collect (.ref M)) Q E s:=by
 refine ai (wpAny_runValue (bu F.entry_proto_collect (ai (bM (ak ⟨bA F.plain_list_iadd _,bu F.entry_list_iadd ?_⟩)))));obtain⟨K1,X1⟩:=K.new (c:=.lst []) (o:={cls:=.type "list",data:=.seq ([]:List Value).toArray}) rfl (BR _ [] (aF _ rfl) ⟨0,rfl,by(refine iR eS ?_);simp⟩ jH.nil);have m1:=m.ext X1;have V_:=m1.type (s:={s with heap:=s.heap.push {cls:=.type "list",data:=.seq ([]:List Value).toArray}});have hSM:s.heap.objs.size≠M:=fun e=>by have:=m.mo;replace this:=(fresh_size s)▸((fy e)▸this);exact ku this
 refine(?_:wpAny _ A.in1 (Builtin.List.listExtendWith (.ref s.heap.objs.size) (.ref M) (.ref s.heap.objs.size)) _ _ _);dsimp only[Builtin.List.listExtendWith];refine ai (gF V_ ?_);have h2:(Value.type "map"==Value.type "list")=false:=by decide
 have h3:(Value.type "map"==Value.type "tuple")=false:=by decide
 simp only[(show Builtin.List.listSameRef (.ref s.heap.objs.size) (.ref M)=false from by simp[Builtin.List.listSameRef,hSM]),h2,h3,Bool.or_false,bz,d7];refine ai (E6 V_ (ai (aP (ai (fX V_ Fl (ai (fX V_ Dg (ak (ai (dS ?_))))))))));have Lf:(s.heap.push {cls:=.type "list",data:=.seq ([]:List Value).toArray}).get? s.heap.objs.size=some {cls:=.type "list",data:=.seq ([]:List Value).toArray}:=aF _ rfl;refine ai <| ai (eU Lf rfl ?_)
 have GH:=cM (Obj.mapSeq (·.push Value.none)) Lf rfl;refine eU GH rfl ?_;have hD:(kK++[s.heap.objs.size])[kL.length]? =some s.heap.objs.size:=by(refine jC K.len ?_;refine iR (cX (aK _)) ?_);simp
 have oW:∀c,(kL++[c]).set kL.length (j8.lst [])=kL++[j8.lst []]:=fun c=>by(refine iR (List.set_append_right _ _ (aK _)) ?_);simp
 obtain⟨K2,X2⟩:=K1.set (c':=.lst [.none]) hD (by(refine iR (cX (aK _)) ?_);simp:(kL++[j8.lst []])[kL.length]? =some (.lst [])) (dW _ s.heap.objs.size (Obj.mapSeq (·.push Value.none))) (BR _ [Value.none] GH ⟨_,rfl,by(refine iR eS ?_);simp⟩ (jH.cons (by rfl) jH.nil));have Sn:=cM (Obj.mapSeq (·.pop)) GH rfl;obtain⟨K3,X3⟩:=K2.set (c':=.lst []) hD (by rw[List.getElem?_set_self (by simp)]:((kL++[j8.lst []]).set kL.length (j8.lst [.none]))[kL.length]? =some (.lst [.none])) (dW _ s.heap.objs.size (Obj.mapSeq (·.pop))) (BR _ [] Sn ⟨_,rfl,by(refine iR eS ?_);simp⟩ jH.nil);rw[List.set_set,oW]at K3;refine ak ⟨bA F.plain_extend_loop _,FJ hr S wH h0 OR lH (fun σ' s' X' K' hD'=> ?_) l 0 _ _ _ (by rfl) (c9 _) hx (yg hc) K3 hD ((m1.ext X2).ext X3) (((V.mono X1.mono).mono X2.mono).mono X3.mono) (((X.trans X1).trans X2).trans X3)⟩;refine cps fun G_ kW=>w4 (tS wm K' X' k_ (v:=.lst kL.length) (val:=.ref s.heap.objs.size) ⟨_,rfl,hD'⟩) fun Y KY VY=>wF VY fun b o ws e hb ho z4 rr=>jm z4 fun nn z8 jd=> ?_;subst z8;refine kW ?_
 (injection e with e;(clear hr S wH h0 OR lH wm hx k_ hc K m V X K1 X1 m1 V_ hSM h2 h3 Lf GH hD oW K2 X2 Sn K3 X3 X' K' hD' VY hb;refine iR e ?_))
 refine ai (wpAny_load ho (ak ?_));have:=h ws s' Y KY rr jd;exact this
theorem yI{nm:Str}{k:Nat}{l vs:List PV}{kL rC ji:St}{fit:St->Bool}{Q₁:aa}(hr:ki A.in1.in1.in1 n)(S:nJ C n r)(wH:C.mg nm=some f)(h0:C.h₀.get? it=none)(OR:jM.heap.get? it=none)
  (lH:∀jQ,fit jQ=true->j7 jQ k=some l) (wm:Ok C kK jM kL) (hx:w_ (fun a st=>r.C nm a [] st) (putL kL.length) fit l (kL++[.lst []])=some rC) (k_:finish kL.length rC (.lst kL.length)=some (.list vs,ji))
  (hc:j7 kL k=some l) (K:Ok C kK s kL) (m:oj kK s.heap M t it a f 0) (V:VR C kK s.heap (.lst k) (.ref a)) (X:jX jP kK jM kK s)
  (h:∀val s',jX jP kK jM kK s'->Ok C kK s' ji->VR C kK s'.heap (.tup vs) val->s'.TypeIs val "tuple"->Q₁ val s'):
  codeAny C.M A (.call (.builtin "tuple.__new__") ⟨[.type "tuple",.ref M],[]⟩) (wants Q₁ E) s:=by
 refine gP <| (?_:wpAny _ A.in1 (do checkBuiltinCall "tuple.__new__" ⟨[.type "tuple",.ref M],[]⟩;again (.builtin "tuple.__new__" ⟨[.type "tuple",.ref M],[]⟩)) _ _ s)
 refine ai (bx (F.newCall_tuple_1 _) (ak ⟨bA F.plain_tuple_new _,bu F.entry_tuple_new (iR (bG F.plain_tuple_new _) ?_)⟩));have aat:=sub_tuple_self;have ack:=init_tuple_lookup;have hmh:=madeHere_tuple
 wp_walk using gF m.type,DE hr S wH h0 OR lH wm hx k_ hc K m V X
 intro ws s' Y KY rr jd;refine(ai (bM ?_ ((jd:ws.toArray.size<=sizeLine))):wpAny _ _ (Builtin.Tuple.tupleExact ws.toArray >>= fun v=>ret v) _ _ _);exact ak <| h _ _ (Y.trans (je.push s' _).ext) (KY.grow (je.push s' _)) (ve KY rr jd) (jt _ (aF _ rfl) rfl)
theorem Py{nm:Str}{k:Nat}{l vs:List PV}{kL rC ji:St}{fv xv:Value}{fit:St->Bool}{Q:aa}(hr:ki A (n+1))(S:nJ C n r)(wH:C.mg nm=some fv)
  (lH:∀jQ,fit jQ=true->j7 jQ k=some l) (wm:Ok C kK jM kL) (hx:w_ (fun a st=>r.C nm a [] st) (putL kL.length) fit l (kL++[.lst []])=some rC) (k_:finish kL.length rC (.lst kL.length)=some (.list vs,ji))
  (hc:j7 kL k=some l) (V:VR C kK jM.heap (.lst k) xv)
  (h:KE C kK jM ji (.tup vs) Q):
  wpAny C.M A (call (.type "map") [fv,xv]) (fun mv s₁=>wpAny C.M A (call (.type "tuple") [mv]) Q E s₁) E jM:=by
 refine jx wm (.inr (jt k rfl (j_ hc))) V fun a o vs' z5 ho so rr=> ?_;subst z5;refine Oa (so.isList ho) ?_;have z1:(jM.heap.push (oQ a)).objs.size=jM.heap.objs.size+1:=bK ..;have g:je jM {jM with heap:=((jM.heap.push (oQ a)).push (nN jM.heap.objs.size)).push (qk (jM.heap.objs.size+1) fv)}:=⟨fun b o e=>az _ (az _ (az _ e)),rfl,rfl⟩;have n0:jM.heap.get? jM.heap.objs.size=none:=fresh_size jM;have n1:jM.heap.get? (jM.heap.objs.size+1)=none:=lE (dH _);have m:oj kK (((jM.heap.push (oQ a)).push (nN jM.heap.objs.size)).push (qk (jM.heap.objs.size+1) fv)) (jM.heap.objs.size+1+1) (jM.heap.objs.size+1) jM.heap.objs.size a fv 0:=
  ⟨(wm.newAddr (lE (ao (dH _) (dH _)):jM.heap.get? (jM.heap.objs.size+1+1)=none)).1,(wm.newAddr n1).1,(wm.newAddr n0).1,by have:=aF ((jM.heap.push (oQ a)).push (nN jM.heap.objs.size)) (o:=qk (jM.heap.objs.size+1) fv) rfl;rw[(by(refine iR (bK ..) ?_;refine iR (z1 ..) ?_;rfl):((jM.heap.push (oQ a)).push (nN jM.heap.objs.size)).objs.size=jM.heap.objs.size+1+1)]at this;exact this,
   az _ (by have:=aF (jM.heap.push (oQ a)) (o:=nN jM.heap.objs.size) rfl;rw[z1]at this;exact this),
   (sY _ (az _ (az _ (aF _ rfl))) rfl rfl)⟩
 refine callType_codes (Q₁:=fun obj s₁=>s₁.TypeIs obj "tuple"/\Q obj s₁) F.called_tuple (F.typeCall_tuple_1 _) F.entry_object_init
  (yI (⟨hr.hh,by have:=hr.depth;refine(?_:A.depth+n+60<_);exact ia ‹_›, by have:=hr.units;refine(?_:A.units+1+1+1+1+10*n+900<_);lia⟩:ki A.in1.in1.in1.in1 n) S wH (wm.newAddr n0).2 n0 lH wm hx k_ hc (wm.grow g) m (V.grow g) g.ext fun val s' Y KY VY hT=>⟨hT,h val kK s' Y KY VY⟩) fun obj s₁ j6=> ?_
 exact tZ j6.1 (F.args_object_init_2 obj _) (object_init_meets F.called_tuple.init.lookup F.called_tuple.made (by decide) _ _ A.in1 _ s₁ (tZ j6.1 rfl j6.2))
theorem TV:LU C:=fun ζ ζ S ζ ζ ζ ζ ζ ζ ζ ζ ζ ζ ζ ζ ζ ζ hr K wH V hc hx k_ h=>
 have Kg:contents _ (.lst _)=some _:=pX.contents (.inr (jt _ rfl hc))
 Py hr S wH (fun ζ hf=>(oK (p:=.lst _) hf).trans Kg) K hx k_ Kg V h
end
theorem Br{α:Type}[DecidableEq α]:∀{ks l:List α},ks.length=l.length->l.Nodup->(∀x,x∈ks↔x∈l)->ks.Nodup:=by
 intro L0
 induction L0 with
 |nil=>
  intro _ _ _ _;exact d8
 |cons a ks ih=>
  intro l hl hn h;have ha:a∉ks:=fun hm=>by
   have:=qE (m:=ks) hn fun x hx=>by
    rcases aV.mp ((h x).mpr hx)with rfl|q
    ·exact hm
    ·exact q
   rw[<-hl]at this;exact absurd this (Nat.not_succ_le_self _)
  refine fk.mpr ⟨ha,ih (l:=l.erase a) ?_ (hn.erase a) fun x=> ?_⟩
  ·exact iR (List.length_erase_of_mem ((h a).mp (aT ..):a∈l)) <| jC hl rfl
  ·rw[hn.mem_erase_iff];constructor
   ·intro hx;exact⟨fun e=>ha (e▸hx),(h x).mp (aq _ hx)⟩
   ·rintro⟨h1,h2⟩;refine cg (aV.mp ((h x).mpr h2)) (fun q=> ?_) fun q=> ?_
    ·exact absurd q h1
    ·exact q
section
variable{C:Cx}{σ σ':List Addr}{s s':Shared}{st ji:St}{A:Around}{E:aa}{n:Nat}{a:Addr}
theorem uA{o:Obj}{h:Heap}{l:List Int}(V:Be C.prog C.w o l)(ho:h.get? a=some o):∃ks,iV (intKind C.prog C.w) "set" h a ks/\∀j,j∈ks↔j∈l:=by
 refine cps fun G_ z7=>w4 V fun z8 hl hn=> ?_;obtain⟨es,ep,t,rfl,DT,oz,hsz,hf⟩:=z8;refine m9 (lW.of DT) fun ks hk=>z7 ?_;have hm:∀j,j∈ks↔j∈l:=fun j=>by
  rw[hk.mem j,<-oz j,gX]
 exact⟨ks,(Ak es ep t ho hk (Br (by(refine iR hk.length ?_;refine iR bh ?_;refine iR hsz ?_;rfl):ks.length=l.length) hn hm) (by(refine iR hsz ?_);refine(?_:_<4096);exact aD hl (by decide)) hf),hm⟩
theorem G9{h:Heap}{ks l:List Int}(H:iV (intKind C.prog C.w) "set" h a ks)(hm:∀j,j∈ks↔j∈l)(hn:l.Nodup)(hl:l.length<=100):∃o,h.get? a=some o/\Be C.prog C.w o l:=by
 refine iV.out H fun es ep t ho he hnk hb hf=>(Yp _ ho (Ak es ep t rfl he.elems (fun k=> ?_) ?_ hf) hl hn)
 ·rw[gX,<-hm k,he.mem k]
 ·exact jC (pN H.nodup hn hm).length_eq <| iR he.length <| iR bh rfl
theorem vN{h':Heap}{ks l:List Int}(K:Ok C σ s st)(H:iV (intKind C.prog C.w) "set" h' s.heap.objs.size ks)(hm:∀j,j∈ks↔j∈l)(hn:l.Nodup)(hl:l.length<=100):VR C σ h' (.iset l) (.ref s.heap.objs.size):=jm (G9 H hm hn hl) fun o ho V=>v9 _ o rfl K.fresh_size ho V
theorem CY{a b:List Int}(ha:a.Nodup)(hb:b.Nodup):(nB a b).Nodup:=by
 unfold nB;rw[c8];refine(tZ ha (hb.filter _) (fun x hx y hy e=> ?_));subst e;have:=(dF.mp hy).2;simp at this;exact this hx
theorem Ih{a b:List Int}(ha:a.Nodup)(hb:b.Nodup):(mV a b).Nodup:=by
 unfold mV;rw[c8];refine(tZ (ha.filter _) (hb.filter _) (fun x hx y hy e=> ?_));subst e;have h2:=(dF.mp hy).2;simp at h2;exact h2 (dF.mp hx).1
theorem H9(a b:List Int):(nB a b).length<=a.length+b.length:=by
 refine iR au ?_;have:=gV (fun x=> !a.contains x) b;exact bE ‹_› _
theorem PA(a b:List Int):(mV a b).length<=a.length+b.length:=by
 refine iR au ?_;have:=gV (fun x=> !b.contains x) a;have:=gV (fun x=> !a.contains x) b;exact ck ‹_› ‹_›
theorem NH:GP C where
 bor:=fun A σ s st a b va vb Q E hh K xa xb m_ ha hb h=>by
  refine DN xa fun la oa z2 hna Vp Va=> ?_;clear xa;subst z2;refine DN xb fun lb ob z3 hnb Zs Vb=> ?_;clear xb;subst z3;refine jm (uA Va Vp) fun ka Ha S4=>jm (uA Vb Zs) fun kb Hb DQ=> ?_;have pa:=pN Ha.nodup Va.2.2 S4;have pb:=pN Hb.nodup Vb.2.2 DQ;refine Ue Ha Hb (by(refine iR pa.length_eq ?_;refine iR pb.length_eq ?_);lia) (fun e=>m_ (by replace pa:=e▸pa;exact List.Perm.nil_eq pa |>.symm)) fun h' ks hk hm H=> ?_;have g:je s {s with heap:=h'}:=⟨hk,rfl,rfl⟩;refine i6 K g (vN K H (fun j=> ?_) (CY Va.2.2 Vb.2.2) (by have:=H9 a b;exact lit (ao this (ck ha hb)))) h;rw[hm j,S4 j,DQ j];unfold nB;rw[bg,dF];constructor
  ·rintro(q|q)
   ·exact .inl q
   ·refine bc (p:=j∈a) (fun q2=> ?_) fun q2=> ?_
    ·exact .inl q2
    ·exact .inr ⟨q,by simpa using q2⟩
  ·rintro(q|q)
   ·exact .inl q
   ·exact .inr q.1
 xor:=fun A σ s st a b va vb Q E hh K xa xb ha hb h=>by
  refine DN xa fun la oa z4 hna Vp Va=> ?_;clear xa;subst z4;refine DN xb fun lb ob z5 hnb Zs Vb=> ?_;clear xb;subst z5;refine jm (uA Va Vp) fun ka Ha S4=>jm (uA Vb Zs) fun kb Hb DQ=> ?_;have pa:=pN Ha.nodup Va.2.2 S4;have pb:=pN Hb.nodup Vb.2.2 DQ;refine PR Ha Hb (by(refine iR pa.length_eq ?_;refine iR pb.length_eq ?_);lia) fun h' ks hk hm H=> ?_;have g:je s {s with heap:=h'}:=⟨hk,rfl,rfl⟩;refine i6 K g (vN K H (fun j=> ?_) (Ih Va.2.2 Vb.2.2) (by have:=PA a b;exact lit (ao this (ck ha hb)))) h;rw[hm j,S4 j,DQ j];unfold mV;rw[bg,dF,dF];refine bc (p:=j∈a) (fun q1=> ?_) fun q1=> ?_<;>refine bc (p:=j∈b) (fun q2=> ?_) fun q2=> ?_<;>first|rfl|simp[q1,q2]
theorem Qw{env:Env}{Q:Bool->Shared->Prop}(hc:AR C.h₀ env.code)(K:Ok C σ s st)(h:∀b,Q b s):wpAny C.M A (inMainModule env) Q E s:=by
 refine J0 hc fun c o vs e ho hd=> ?_;dsimp only[inMainModule];refine iR e ?_;split
 ·exact ak (h _)
 ·refine ai (iz (K.base _ _ ho) hd ?_);split
  ·exact ai (cW (ak (h _)))
  ·exact ak (h _)
theorem Ok.drop{τ:List Addr}{D:Addr}{h':Heap}(K:Ok C (σ++D::τ) s st)(hs:Heap.SameBut D s.heap h')(tk:Nat)(hb:(st.take σ.length).all (jK σ.length)=true):Ok C σ {s with heap:=h',toks:=tk} (st.take σ.length) where
 base:=fun b o e=>(hs.2 b fun q=>by
  have:=K.fresh0 D (dJ _ (aT ..))
  replace this:=e▸((fy q)▸this);contradiction).trans (K.base b o e)
 fresh0:=fun a ha=>K.fresh0 a (aY _ ha)
 len:=by
  have:=K.len
  replace this:=aB▸(au▸this)
  (refine iR bD ?_);exact(cI (ao (eu ..) (aE this))).symm
 nodup:=(c8.mp K.nodup).1
 cells:=fun k a c ha hc=>by
  have hk:=(ay.mp ha).1;have V9:(σ++D::τ)[k]? =some a:=by(refine iR (bf hk) ?_);exact ha
  have Kg:st[k]? =some c:=by replace hc:=(List.getElem?_take_of_lt hk)▸hc;exact hc
  have m_:a≠D:=fun e=>(c8.mp K.nodup).2.2 a (bJ ha) D (aT ..) e;have m:tD (σ++D::τ) s.heap (σ++D::τ) h':=⟨⟨[],by simp⟩,fun ζ p q=>absurd p q,fun b o e hb ζ=>(hs.2 b fun q=>hb (iR q <| dJ _ (aT ..))).trans e⟩;have x:=(K.cells k a c V9 Kg).mono m (hs.2 a m_);have b:jK σ.length c=true:=bZ.mp hb c (bJ hc);cases c with
  |lst l=>
   exact qL x fun o vs ho so r=>BR o vs ho so (m8 r b)
  |dct l=>
   exact jm x fun kvs hd hp=>jt kvs hd (sW hp b)
  |bs o=>(clear K hs hb ha hk V9 m_ m hc Kg b;(cases o))<;>exact x
theorem G2{Q:aa}(h:∀led:Bool,(C.w.params.followText "set-order"||led)=true->Q (.ref s.heap.objs.size) {s with heap:=s.heap.push (jl "set" #[] 0 (.fresh 0 0 led))}):wpAny C.M A (newSet (.type "set")) Q E s:=by
 dsimp only[newSet,setsByText];refine ai (ai (cW (ak (ai (wpAny_alloc (ak (h _ (?_:(C.w.params.followText "set-order"|| !C.w.params.followText "set-order")=true))))))));cases C.w.params.followText "set-order"<;>rfl
theorem Q9(n:Nat)(r:nI)(S:nJ C n r)(sc:Scope)(e:Expr)(pos:Pos)(ρ:i8)(st ji:St)(v:PV)(hx:Pd r sc e ρ st=some (v,ji)):kP C n sc (.Set [e] 0 pos) ρ st v ji:=fun A env σ s Q E hr F K h=>by
 refine kO hx fun mq hx=>iU hx fun p h1 hx=>iU hx fun i hi hx=>iU hx fun o S8 hx=>kO hx fun q e0=> ?_;clear hx;cases e0;refine lP (jA q) fun q1 q2=> ?_;obtain rfl:=eV.mp q1;have S8:=xT S8;have he:starEach [e] env=[(false,eval e env)]:=by rw[mj (by(simpa using mq))];rfl
 refine ai (cj (ai (Qw F.code K fun b=>iR he ?_)));dsimp only[setDisplay];have Xs:(displayRoad 0 [e]==DisplayRoad.constants)=false:=rfl;refine ai (G2 fun led oA=>ai (aP (lP (K.new (c:=.bs none) (o:=jl "set" #[] 0 (.fresh 0 0 led)) rfl (jt led (aF _ rfl) oA)) fun K1 X1=> ?_)));refine ai (m:=evalAll _) <| (?_:wpAny _ _ (evalAll [do let v<-eval e env;standAt pos;pure v]) _ _ _)
 refine PySem.wpAny_evalAll_cons <| ai (S.E sc e ρ _ _ _ h1 A env _ _ _ E hr (F.ext X1) K1 fun xv qv s2 X2 K2 V2=>ai (cj (ak (PySem.wpAny_evalAll_nil (j4 (jv hi▸V2) fun t z6=> ?_)))))
 refine iR z6 ?_;have hD:(σ++[s.heap.objs.size])[st.length]? =some s.heap.objs.size:=by(refine jC K.len ?_;refine iR (cX (aK _)) ?_);simp
 clear S hr F mq h1 hi hx q1 oA K1 V2;refine jm (K2.cells _ _ _ (X2.idx hD) S8) fun aeP wG ζ=>ai (aP ?_);simp only[b_,List.forIn_nil,bind_assoc,pure_bind];refine ai (UL (intKind C.prog C.w) (hp:=s.heap) wG (intKind_is _ _ _ _) rfl fun h' hs H=>ak (ai (ak (ak (ak (m9 X2.pre fun τ hτ=> ?_))))));have aap:qv=σ++s.heap.objs.size::τ:=by(refine iR (hτ ..) ?_;refine iR (cL ..) ?_);rfl
 have Y:=X1.trans X2;clear hτ X2 X1 he Xs;clear hx S8 hD wG;subst aap;have Ke:s.heap.get? s.heap.objs.size=none:=lE (aK _);have KD:=K2.drop hs (s2.toks+1) (iR K.len <| (jA q2).2)
 replace KD:=K.len▸KD
 refine jm (G9 (C:=C) (l:=[i]) H (fun j=>Iff.rfl) (by simp) (by simp)) fun o ho V=>h _ σ {s2 with heap:=h',toks:=s2.toks+1} ⟨⟨[],by simp⟩,fun ζ a b=>absurd a b,fun b o e hb ζ=>(hs.2 b fun q=> ?_).trans (Y.keep b o e hb id),fun ζ ζ q=>q.elim,Y.gens,Y.os⟩ KD ?_
 ·replace e:=Ke▸(q▸e)
  exact ku e
 ·skip;exact(v9 _ o rfl (K.newAddr Ke).1 ho V)
theorem Cn:nk C:=fun A σ s st env x p pos k b v Q E hh K V h=>by
 obtain⟨a,o,rfl,hn,ho,ep,t,rfl,hf,oA⟩:=V;exact EI (prog:=C.prog) (w:=C.w) (a:=a) (b:=b) (ep:=ep) (t:=t) hh ho hf oA fun h' hk=>h _ ⟨hk,rfl,rfl⟩
end
section
variable{C:Cx}{sc:Scope}{env:Env}{σ σ' jN lX:List Addr}{s s' s₁ j5:Shared}{ρ kC:i8}{st ji:St}{A:Around}{n:Nat}{E:aa}{r:nI}{v:PV}{fl:jf}
theorem x9{a:Addr}{T:String}{x:Value}{Q:aa}(hT:s.TypeIs (.ref a) "set")(h:wpAny C.M A.in1 (setAdd a x) (fun ζ s'=>Q .none s') E s):wpAny C.M A (call (.builtin "set.add") [.ref a,x]) Q E s:=by
 refine bU F.slot_set_add hT F.entry_set_add ?_ (F.args_set_add_2 _ _);dsimp only[Builtin.«set.add»,Builtin.Frozenset.oneOther];simp only[List.isEmpty_nil,bind_assoc];refine ai (ak ?_)
 try dsimp only
 refine ai (ak ?_)
 try skip
 refine ai (bO h (fun ζ s' q=> ?_) fun ζ ζ z=>z);exact ak (jt _ rfl q)
theorem uw(b:Bool):(sj C.prog C.w b).is () (.bool b)=true:=by refine(?_:Internal.Value.isBool b (.bool b)=true);(simp[Internal.Value.isBool])
theorem IW{N:Nat}{D:Addr}:Puts C A (O2 N) N D "set.add":=by
 intro σ s st ji x xv Q E hx K hD V h;refine iU hx fun b hb hx=>iU hx fun o hc hx=> ?_;obtain rfl:=tV hb;refine iR (rV V) ?_;have hc:=xT hc;cases o with
 |none=>
  obtain rfl:=aj hx;obtain⟨led,ho,oA⟩:=K.cells N D _ hD hc;refine x9 (T:="set") ⟨_,ho,rfl⟩ ?_;unfold setAdd;refine aP (ai ((sj C.prog C.w b).pyHash (k:=()) (uw b) (A7 (knd:=sj C.prog C.w b) (k:=()) (ks:=[]) (T:="set") (s:={s with toks:=s.toks+1}) (uw b) rfl ⟨#[],0,_,ho,by rfl,d8,by decide,rfl⟩ (by decide) (fun q=>by cases q) fun h' jR hs hp H ζ hL=> ?_)));obtain rfl:jR=[()]:=iL.mp hp;refine cps fun G_ z2=> ?_;obtain⟨ep,t,qK,hf⟩:=QU H;obtain⟨uQ,Wd,t1,Vy,YM,t2,g1,g2,hl⟩:=hL;refine z2 ?_;have e1:=aj (g1.symm.trans ho);have e2:=aj (g2.symm.trans qK);unfold Ax jl at e2;unfold jl at e1;clear hb V g1 g2;cases e1;cases e2;obtain⟨K',X'⟩:=K.set (c':=.bs (some b)) hD hc hs ⟨_,qK,_,_,rfl,hf,by(refine iR hl ?_);exact oA⟩;exact h _ σ {s with heap:=h',toks:=s.toks+1} (X'.toks _) (K'.toks _)
 |some c=>
  refine kO hx fun hbc e=> ?_;obtain rfl:=aR.mp hbc;obtain rfl:=aj e;obtain⟨o,ho,ep,t,rfl,hf,oA⟩:=K.cells N D _ hD hc;refine x9 (T:="set") ⟨_,ho,rfl⟩ ?_;unfold setAdd;refine aP (ai ((sj C.prog C.w b).pyHash (k:=()) (uw b) (A7 (knd:=sj C.prog C.w b) (k:=()) (ks:=[()]) (T:="set") (s:={s with toks:=s.toks+1}) (uw b) rfl ⟨_,ep,t,ho,?_,by simp,by refine(?_:1<4096);decide,hf⟩ (by decide) (fun ζ=> ?_) fun h' jR hs hp H hn hL=>absurd (aA.mpr rfl) hn)))
  ·refine(?_:lW _ [((if b then 1 else 0),Value.bool b)] [()]);rw[lW];exact⟨(),[],rfl,uw b,rfl,rfl,by rfl⟩
  ·exact h _ σ {s with toks:=s.toks+1} (jX.rfl'.toks _) (K.toks _)
theorem Nd{σ:List Addr}(h:σ.Nodup){i j:Nat}{a:Addr}(h1:σ[i]? =some a)(h2:σ[j]? =some a):i=j:=
 have e1:=ay.mp h1;have e2:=ay.mp h2
 vj h e1.1 e2.1 (e1.2.trans e2.2.symm)
theorem C6{own:Addr->Prop}{D:Addr}{b:Bool}{rC:St}(K1:Ok C σ s st)(K5:Ok C σ' s' rC)(hD:σ'[st.length]? =some D)(X:jX own σ s σ' s')(hb:rC[st.length]? =some (.bs (some b)))(hs:uR st.length rC=true):
  jX own σ s σ s'/\Ok C σ s' (rC.take st.length)/\VR C σ s'.heap (.bset b) (.ref D):=by
 refine cps fun G_ z3=>m9 X.pre fun τ z1=> ?_;subst z1;refine jm (K5.cells _ _ _ hD hb) fun o ho Vb=>z3 ?_;have hl:=K1.len;refine⟨X.shrink,hl▸K5.shrink (iR hl <| (jA hs).2),?_⟩
 skip
 refine(v9 _ o rfl (fun hm=> ?_) ho Vb);refine m9 (eX.mp hm) fun k hk=> ?_;have Gm:=(ay.mp hk).1;exact dP _ (hl▸(Nd K5.nodup ((bf Gm).trans hk) hD)▸Gm)
theorem EV(U:nk C)(n:Nat)(r:nI)(S:nJ C n r)(sc kh:Scope)(elt target iter:Expr)(pos:Pos)(ρ:i8)(st ji:St)(v:PV)(hx:AL r sc elt target iter kh ρ st=some (v,ji)):kP C n sc (.SetComp elt [⟨target,iter,[],0⟩] kh pos) ρ st v ji:=fun A env σ s Q E hr F K h=>by
 refine kO hx fun ok hx=>iU hx fun p h1 hx=>iU hx fun l h2 hx=>iU hx fun rC h3 hx=>iU hx fun o h4 hx=>iU hx fun b h5 hx=>kO hx fun hs e=> ?_;clear hx;clear hx;cases e;exact(qa (use:=none) (put:=O2) (c:=.bs none) U S hr rfl (fun ζ ζ ζ=>MP) zd (fun ζ ζ ζ g=>G2 fun led oA=>g _ rfl fun ζ ζ ζ e=>(jt led e oA)) (fun ζ ζ=>IW) F K ok h1 h2 h3
  (fun ζ ζ ζ ζ ζ D K1 K5 hD X=>C6 K1 K5 hD X (h5▸xT h4) hs) fun ζ ζ ζ ζ ζ e=>zR h e:wpAny C.M A (comprehension (.SetComp elt [⟨target,iter,[],0⟩] kh pos) kh env (firstIterPos [⟨target,iter,[],0⟩] pos) (newSet (.type "set")) false (eval iter env)) Q E s)
end
end
section
open PySem PyProof.Rows
theorem Qk{C:Cx}:Eh C where
 isets:=NH
 unset:=Cn
 fors:=Q3
 tup:=TV
 disp:=Q9
 setcomp:=EV Cn
theorem PO{C:Cx}(T:nM C):∀n,nJ C n (ev n):=Ud T Qk (Mt T)
end
section
open PySem PySem.W PyProof.Rows
noncomputable def pq:Program:=PySem.Challenge.pw_ik0206_01
noncomputable def qY(a b:Nat):List Stmt:=(pq.main.body.take b).drop a
noncomputable def pA:Env:={scope:=pq.main.scope,locals:=mainNs,globals:=mainNs,cells:=[],code:=.ref 13,frame:=some 14}
noncomputable abbrev q0:Pos:={line:=0,col:=0,endLine:=0,endCol:=0}
noncomputable abbrev oS:Code:=.body pq.main.body pA
noncomputable abbrev b0 (w:World) (os:OsState):Shared:=⟨boot_heap w.params,#[],boot_drawn,boot_toks,os⟩
noncomputable def o4 (w:World) (os:OsState) (i:Nat):Obj:=match topGo treeTable pq w 11 (some (.ref 6)) 12 (b0 w os) (topStub pq)with
 |some (s,_)=>(s.heap.objs[i]?).getD default
 |none=>default
noncomputable def T4 (w:World) (os:OsState):BT:=
 let N:=fun i l r=>BT.node (o4 w os i) l r
 N 0 (N 1 (N 3 (N 7 .nil .nil) (N 11 .nil .nil)) (N 5 (N 9 .nil .nil) (N 13 .nil .nil))) (N 2 (N 4 (N 8 .nil .nil) (N 12 .nil .nil)) (N 6 (N 10 .nil .nil) (N 14 .nil .nil)))
noncomputable abbrev YR (w:World) (os:OsState):SharedT:={tree:=T4 w os,n:=15,life:={},gens:= #[],drawn:={},toks:=187,os:=os}
noncomputable def Th (w:World) (os:OsState):Option (Flow×SharedT×Code×Pos):=segRunT treeTable pq w 11 (some (.ref 6)) 1 1070 (YR w os) (piecesOf (qY 0 25) pA oS q0 [topFrame q0])
noncomputable def T0r (w:World) (os:OsState):BT:=match Th w os with
 |some r=>r.2.1.tree
 |none=>.nil
theorem SI(w:World)(os:OsState):∃T,T=T0r w os:=⟨_,rfl⟩
noncomputable def T0 (w:World) (os:OsState):BT:=Classical.choose (SI w os)
theorem XZ(w:World)(os:OsState):T0 w os=T0r w os:=Classical.choose_spec (SI w os)
noncomputable abbrev Cm (w:World) (os:OsState):SharedT:={tree:=T0 w os,n:=170,life:={},gens:= #[],drawn:={},toks:=413,os:=os}
theorem Rm(w:World)(os:OsState):topGo treeTable pq w 11 (some (.ref 6)) 12 (b0 w os) (topStub pq)=some ((YR w os).abs,⟨denote treeTable oS,oS,q0,[topFrame q0]⟩):=by kernel_rfl
end
section
open PySem
open Builtin
theorem BG:entryFor table "frozenset.__new__"=some Builtin.«frozenset.__new__»:=FZ.entry_new
theorem uI:plainId "frozenset.__new__"=true:=by decide+kernel
theorem Dq(a:Value):checkTypeCall "frozenset" ⟨[a],[]⟩=pure ():=by kernel_rfl
theorem Fw(a:Value):checkBuiltinCall "frozenset.__new__" ⟨[.type "frozenset",a],[]⟩=pure ():=by kernel_rfl
theorem aaY:mroOf (.type "frozenset")=pure [.type "frozenset",.type "object"]:=FZ.mro_frozenset
theorem OE:typeLookup (.type "frozenset") "__new__"=pure (some (.builtin "frozenset.__new__")):=FZ.lookup_new
theorem BC:Slot "frozenset" "__init__" "object.__init__":=FZ.slot_init
theorem vn:TypeCalled "frozenset" "frozenset.__new__" "object.__init__":=FZ.called
theorem BD(o a:Value):argsOk "object.__init__" ⟨[o,a],[]⟩:=F.args_object_init_2 o _
theorem Dr(a:Value):Frozenset.newClass "frozenset" ⟨[.type "frozenset",a],[]⟩=pure (.type "frozenset",[a]):=by
 rfl
theorem nX:plainId "set.update.loop"=true:=by decide+kernel
theorem ri:entryFor table "set.update.loop"=some Builtin.«set.update.loop»:=entryFor_of_fast (by kernel_rfl)
section
variable{prog:Program}{w:World}{A:Around}{E:aa}{s:Shared}{a:Addr}
def OX(h h':Heap):Prop:=h'.objs.size=h.objs.size+2/\Kept h h'
theorem OX.of(h:Heap)(x y:Obj):OX h ((h.push x).push y):=⟨by(refine iR (bK ..) ?_;refine iR (bK ..) ?_;exact rfl),fun ζ ζ e=>az _ (az _ e)⟩
theorem JU{it:Addr}{x:Str}{t:Tok}{i:Nat}{Q:Option Value->Shared->Prop}(hh:A.handled=none)
  (pS:s.heap.IsStrIter it "str_ascii_iterator" x t i) (hx:x.cps[i]? =none)
  (hQ:∀h' Gp,Heap.SameBut it s.heap h'->OX h' Gp->Q none {s with heap:=Gp}):wpAny (model prog w) A (pyNext (.ref it)) Q E s:=by
 refine uO (id pS) fun o ho hc hd=>ai (gT (cY (name:=Str.ofString "__next__") pS.typeIs F.slot_str_ascii_iterator_next
  (bU F.slot_str_ascii_iterator_next pS.typeIs F.entry_str_ascii_iterator_next ?_ (F.args_str_ascii_iterator_next_1 _))))
 refine(ai (fF ho hd (x:=.str x t) rfl ?_):wpAny _ _ (field (.ref it) 0 >>= _) _ _ s);refine(ai (fF ho hd (x:=.int i 0) rfl ?_):wpAny _ _ (field (.ref it) 1 >>= _) _ _ s);simp only[b7,hx];refine ai (dS (ai (wpAny_setField ho hd (by simp) (ai (ff (?_:wpAny _ _ (newExc (.type "StopIteration") [] >>= _) _ _ _))))));refine ai <| ai (bM ?_ (by size_fits))
 refine ai (m:=firstArgMember _ _) (bx (a:=Value.none) (by first|rfl|(simp only[firstArgMember];rfl)) (bM ?_ (by size_fits)));dsimp only[raiseNew];refine ai (wpAny_handled (iR (show A.in1.handled=none from hh) (ai (ak (wpAny_throw ?_)))));refine ai (cG (T:="StopIteration") (b:=true) (jt _ (aF _ rfl) rfl) isSubtype_stop ?_);exact ak (hQ _ _ (dW ..) (OX.of _ _ _))
theorem IU{it:Addr}{x left step:Int}{Q:Option Value->Shared->Prop}(hh:A.handled=none)(pS:IsRangeIter s.heap it x left step)(Xw:left<=0)
  (hQ:∀h',OX s.heap h'->Q none {s with heap:=h'}):wpAny (model prog w) A (pyNext (.ref it)) Q E s:=by
 have hT:s.TypeIs (.ref it) "range_iterator":=(jt _ pS rfl);refine ai (gT (cY (name:=Str.ofString "__next__") hT F.slot_range_iterator_next
  (bU F.slot_range_iterator_next hT F.entry_range_iterator_next ?_ (F.args_range_iterator_next_1 _))))
 refine(ai (fF pS rfl (x:=rawInt x) rfl ?_):wpAny _ _ (field (.ref it) 0 >>= _) _ _ s);refine(ai (fF pS rfl (x:=rawInt left) rfl ?_):wpAny _ _ (field (.ref it) 1 >>= _) _ _ s);refine(ai (fF pS rfl (x:=rawInt step) rfl ?_):wpAny _ _ (field (.ref it) 2 >>= _) _ _ s);refine(iR (a_ Xw) ?_:wpAny _ _ (if left<=0 then _ else _) _ _ s);refine ai (dS (ai (?_:wpAny _ _ (newExc (.type "StopIteration") [] >>= _) _ _ _)));refine ai <| ai (bM ?_ (by size_fits))
 refine ai (m:=firstArgMember _ _) (bx (a:=Value.none) (by first|rfl|(simp only[firstArgMember];rfl)) (bM ?_ (by size_fits)));dsimp only[raiseNew];refine ai (wpAny_handled (iR (show A.in1.handled=none from hh) (ai (ak (wpAny_throw ?_)))));refine ai (cG (T:="StopIteration") (b:=true) (jt _ (aF _ rfl) rfl) isSubtype_stop ?_);exact ak (hQ _ (OX.of _ _ _))
theorem NX{it:Addr}{x:Str}{t:Tok}{R:Result->Shared->Prop}{T:String}(hh:A.handled=none)(m_:it≠a)(jd:x.cps.size<=100):
  ∀(k i:Nat)(s:Shared)(ks:List Str),x.cps.size-i=k->i<=x.cps.size->s.heap.IsStrIter it "str_ascii_iterator" x t i->iV (PySem.strKind prog w) T s.heap a ks->ks.length<=i->(∀j,j∈ks↔ ∃c∈x.cps.toList.take i,j=⟨#[c]⟩)->
   (∀h' jR tk,h'.objs.size=s.heap.objs.size+2->(∀b o,b≠a->b≠it->s.heap.get? b=some o->h'.get? b=some o)->iV (PySem.strKind prog w) T h' a jR->(∀j,j∈jR↔ ∃c∈x.cps.toList,j=⟨#[c]⟩)->jR.length<=x.cps.size->R (.ok (.ret .none)) {s with heap:=h',toks:=tk})->
   codeAny (model prog w) A (.builtin "set.update.loop" ⟨[.ref a,.ref it],[]⟩) R s:=by
 intro k
 induction k with
 |zero=>
  intro i s ks hk hi pS H hl hm h;have t8:i=x.cps.size:=by(exact dz hi (fV hk))
  refine bu ri <| iR (bG nX _) <| (?_:wpAny _ A.in1 (pyNext (.ref it) >>= _) _ _ s)
  refine ai (JU hh pS (by(refine iR t8 ?_);simp) fun h' Gp hs h2=> ?_);refine ak (h Gp ks s.toks (iR h2.1 <| iR hs.1 rfl) (fun b o ζ hb e=>h2.2 b o ((hs.2 b hb).trans e)) ((H.at (hs.2 a m_.symm)).keep fun o e=>h2.2 a o e) (fun j=> ?_) (ao ‹_› ‹_›));rw[hm j,t8,cR (by simp)]
 |succ k ih=>
  intro i s ks hk hi pS H hl hm h;have jS:i<x.cps.size:=by(exact fW hk)
  refine bu ri <| iR (bG nX _) <| (?_:wpAny _ A.in1 (pyNext (.ref it) >>= _) _ _ s)
  refine ai (wpAny_pyNext_ascii_item pS (c:=x.cps[i]) (dg jS) fun j6 xC pC=> ?_);refine(ai (aP ?_):wpAny _ A.in1 (holding [Value.str ⟨#[x.cps[i]]⟩ s.toks] (setAdd a (.str ⟨#[x.cps[i]]⟩ s.toks)) >>= _) _ _ _);refine aP <| ai ((PySem.strKind prog w).pyHash (k:=⟨#[x.cps[i]]⟩) (gA _ _ _ _) ?_)
  have H1:iV (PySem.strKind prog w) T j6 a ks:=H.at (pC.2 a m_.symm);have zo:∀j:Str,(∃c∈x.cps.toList.take (i+1),j=⟨#[c]⟩)↔((∃c∈x.cps.toList.take i,j=⟨#[c]⟩)\/j=⟨#[x.cps[i]]⟩):=by
   intro j;rw[bT (jS)];constructor
   ·rintro⟨c,hc,rfl⟩;refine cg (bg.mp hc) (fun hc=> ?_) fun hc=> ?_
    ·exact .inl (jt c hc rfl)
    ·rw[aA]at hc;exact .inr (iR hc rfl)
   ·rintro(⟨c,hc,rfl⟩|rfl)
    ·exact jt c (aY _ hc) rfl
    ·exact⟨x.cps[i],dJ _ (by simp),rfl⟩
  have cont:∀oV nj,Heap.SameBut a j6 oV->iV (PySem.strKind prog w) T oV a nj->nj.length<=i+1->(∀j,j∈nj↔(j∈ks\/j=⟨#[x.cps[i]]⟩))->codeAny (model prog w) A (.builtin "set.update.loop" ⟨[.ref a,.ref it],[]⟩) R {s with heap:=oV,toks:=s.toks+1+1}:=by
   intro oV nj oh H2 uP yK;refine ih (i+1) _ nj (o5 hk) jS (let⟨o,ho,r⟩:=xC;(jt o ((oh.2 it m_).trans ho) r)) H2 uP (fun j=>by(rw[yK j,hm j,zo j])) fun h' jR tk hsz VQ H' S5 DR=>h h' jR tk (by(refine iR hsz ?_);refine(?_:oV.objs.size+2=_);(refine iR oh.1 ?_;refine iR pC.1 ?_;exact rfl)) (fun b o Vu hbi e=>VQ b o Vu hbi ((oh.2 b Vu).trans ((pC.2 b hbi).trans e))) H' S5 DR
  refine xB (s:={s with heap:=j6,toks:=s.toks+1+1}) (gA _ _ _ _) rfl H1 ((Nat.succ_lt_succ (aD hl (aW jS (lit jd))):ks.length+1<4096)) (fun t8=> ?_) fun oV nj oh hp H2 WG=> ?_
  ·exact ak ⟨bA nX _,cont j6 ks (eN a j6) H1 (dM ‹_›) fun j=>⟨.inl,fun q=>q.elim id fun q=>q▸t8⟩⟩
  ·exact ak ⟨bA nX _,cont oV nj oh H2 (by have:=hp.length_eq;simp at this;(exact ao (aE this) (cQ hl))) fun j=>by(rw[hp.mem_iff,bg,aA])⟩
theorem Gi{v:Value}{T:String}{Q:Bool->Shared->Prop}(hT:s.TypeIs v T)(h1:isSubtype (.type T) (.type "set")=pure false)(h2:isSubtype (.type T) (.type "frozenset")=pure false)(h:Q false s):wpAny (model prog w) A (Frozenset.isAnySet v) Q E s:=ai (cG hT h1 (cG hT h2 h))
theorem CX{nm:String}{v:Value}{T:String}{Q:Unit->Shared->Prop}(hT:s.TypeIs v T)(h1:isSubtype (.type T) (.type "set")=pure false)(h2:isSubtype (.type T) (.type "frozenset")=pure false)(h3:(Value.type T==Value.type "dict")=false)
  (h:wpAny (model prog w) A (pyIter v) (fun it s'=>codeAny (model prog w) A (.builtin "set.update.loop" ⟨[.ref a,it],[]⟩) (fun r uN=>match r with| .ok (.ret _)=>Q () uN| .ok _=>False| .error e=>E e uN) s') E s):wpAny (model prog w) A (Frozenset.updateFrom nm a v) Q E s:=by
 unfold Frozenset.updateFrom;refine ai (Gi hT h1 h2 ?_);dsimp only[Bool.false_eq_true,if_false];refine ai (gF hT (iR h3 (ai (bO h (fun it s' hc=> ?_) fun ζ ζ z=>z))));exact ai (wpAny_runValue (codeAny_mono hc fun r uN hr=>by
  cases r with
  |error e=>exact hr
  |ok f=>cases f with
   |ret v=>exact ak hr
   |_=>exact hr))
theorem yq{v:Value}{T:String}{Q:aa}(hT:s.TypeIs v T)(hT':∀o,({s with heap:=s.heap.push o}:Shared).TypeIs v T)(h0:(Value.type T==Value.type "frozenset")=false)(h1:isSubtype (.type T) (.type "set")=pure false)(h2:isSubtype (.type T) (.type "frozenset")=pure false)(h3:(Value.type T==Value.type "dict")=false)
  (h:∀led,wpAny (model prog w) A.in1.in1 (pyIter v) (fun it s'=>codeAny (model prog w) A.in1.in1 (.builtin "set.update.loop" ⟨[.ref s.heap.objs.size,it],[]⟩) (fun r uN=>match r with| .ok (.ret _)=>uN.TypeIs (.ref s.heap.objs.size) "frozenset"/\Q (.ref s.heap.objs.size) uN| .ok _=>False| .error _=>False) s') (fun ζ ζ=>False) {s with heap:=s.heap.push (jl "frozenset" #[] 0 (.fresh 0 0 led))}):
  wpAny (model prog w) A (call (.type "frozenset") [v]) Q E s:=by
 refine callType_codes (Q₁:=fun obj s₁=>s₁.TypeIs obj "frozenset"/\Q obj s₁) vn (Dq _) F.entry_object_init ?_ fun obj s₁ j6=>
  ⟨j6.1,BD obj _,object_init_meets vn.init.lookup vn.made (by decide) prog w A.in1 _ s₁ (tZ j6.1 rfl j6.2)⟩
 refine gP <| (?_:wpAny _ A.in1.in1 (do checkBuiltinCall "frozenset.__new__" ⟨[.type "frozenset",v],[]⟩;again (.builtin "frozenset.__new__" ⟨[.type "frozenset",v],[]⟩)) _ _ s)
 refine ai (bx (Fw _) (ak ⟨bA uI _,bu BG (iR (bG uI _) (ai (bx (Dr _) ?_)))⟩));dsimp only;refine ai (bx BC.lookup (iR (a_ (by decide)) (ai (bx (a:=()) (by first|rfl|kernel_rfl) (ai (bx (a:="frozenset") (by first|rfl|kernel_rfl) (ai (bx (a:=()) (by first|rfl|kernel_rfl) (ai (gF hT (iR h0 ?_)))))))))));unfold Frozenset.newFrom;simp only[bind_assoc];refine ai (Er "frozenset" fun led=>ai (m:=Frozenset.addrOf _) (ak (ai (aP (CX (hT' _) h1 h2 h3 (bO (h led) (fun it s' hc=>codeAny_mono hc fun r uN hr=> ?_) fun ζ ζ z=>z.elim))))));cases r with
 |error e=>exact hr.elim
 |ok f=>cases f with
  |ret v'=>exact ak ⟨hr.1,hr.2⟩
  |_=>exact hr
theorem sE{x:Str}{t:Tok}{Q:aa}(hh:A.handled=none)(ha:x.cps.all (· <128)=true)(jd:x.cps.size<=100)
  (h:∀h' ks tk,h'.objs.size=s.heap.objs.size+4->Kept s.heap h'->iV (PySem.strKind prog w) "frozenset" h' s.heap.objs.size ks->(∀j,j∈ks↔ ∃c∈x.cps.toList,j=⟨#[c]⟩)->ks.length<=x.cps.size->Q (.ref s.heap.objs.size) {s with heap:=h',toks:=tk}):
  wpAny (model prog w) A (call (.type "frozenset") [.str x t]) Q E s:=by
 refine yq (T:="str") (di s x t) (fun o=>di _ x t) (by decide) (by(refine iR (cu ..) ?_);kernel_rfl) F.sub_str_frozenset (by decide) fun led=> ?_;refine wpAny_pyIter_ascii ha ?_;have hz:(s.heap.push (jl "frozenset" #[] 0 (.fresh 0 0 led))).objs.size=s.heap.objs.size+1:=bK ..;have k1:Kept s.heap ((s.heap.push (jl "frozenset" #[] 0 (.fresh 0 0 led))).push {cls:=.type "str_ascii_iterator",data:=.fields #[.str x t,.int 0 0]}):=fun b o e=>az _ (az _ e);refine NX (A:=A.in1.in1) (a:=s.heap.objs.size) (it:=(s.heap.push (jl "frozenset" #[] 0 (.fresh 0 0 led))).objs.size) (T:="frozenset") hh (iR hz <| Nat.succ_ne_self _) jd (x.cps.size-0) 0 {s with heap:=(s.heap.push (jl "frozenset" #[] 0 (.fresh 0 0 led))).push {cls:=.type "str_ascii_iterator",data:=.fields #[.str x t,.int 0 0]}} [] rfl (c9 _) (sY _ (aF _ rfl) rfl rfl)
  ((ym _ "frozenset" s.heap led).keep fun o e=>az _ e) (c9 _) (fun j=>by simp) fun h' jR tk hsz VQ H hm hl=> ?_
 refine⟨H.typeIs (s:={s with heap:=h',toks:=tk}),h h' jR tk ?_ (fun b o e=>VQ b o (qj e).symm (fun q=> ?_) (k1 b o e)) H hm hl⟩
 ·refine iR hsz <| (?_:((s.heap.push _).push _).objs.size+2=_)
  exact iR (bK ..) <| iR (hz ..) rfl
 ·have:=bF e;have q':b=(s.heap.push (jl "frozenset" #[] 0 (.fresh 0 0 led))).objs.size:=q
  replace q':=hz▸q'
  replace this:=q'▸this
  exact absurd this (gB.mpr (dH _))
end
theorem yp:Slot "frozenset" (dunder "or") "frozenset.__or__":=
 .of (owner:="frozenset") (n:="__or__") (by kernel_rfl) (by decide+kernel) (by decide+kernel) (by decide+kernel)
  (by first|exact .inl (by decide+kernel)|exact .inr (by decide+kernel)) (by kernel_rfl)
theorem Ds:fillsNumberSlot (.type "frozenset") "or"=pure true:=
 fillsNumberSlot_of (id:="frozenset.__or__") (r:=some (.builtin "frozenset.__ror__")) (by kernel_rfl) (by decide+kernel) (by kernel_rfl)
theorem Fx(a b:Value):argsOk "frozenset.__or__" ⟨[a,b],[]⟩:=by
 kernel_rfl
theorem Dt:entryFor table "frozenset.__or__"=some Builtin.«frozenset.__or__»:=dR (by kernel_rfl)
theorem vY:Slot "frozenset" (dunder "sub") "frozenset.__sub__":=
 .of (owner:="frozenset") (n:="__sub__") (by kernel_rfl) (by decide+kernel) (by decide+kernel) (by decide+kernel)
  (by first|exact .inl (by decide+kernel)|exact .inr (by decide+kernel)) (by kernel_rfl)
theorem BE:fillsNumberSlot (.type "frozenset") "sub"=pure true:=
 fillsNumberSlot_of (id:="frozenset.__sub__") (r:=some (.builtin "frozenset.__rsub__")) (by kernel_rfl) (by decide+kernel) (by kernel_rfl)
theorem Du(a b:Value):argsOk "frozenset.__sub__" ⟨[a,b],[]⟩:=by
 kernel_rfl
theorem BF:entryFor table "frozenset.__sub__"=some Builtin.«frozenset.__sub__»:=dR (by kernel_rfl)
section
variable{prog:Program}{w:World}{K:Type}[DecidableEq K]{knd:KeyKind prog w K}{A:Around}{E:aa}{s:Shared}{l r a:Addr}{kl kr ks:List K}{k:K}
theorem XG{Q:aa}(Hl:iV knd "frozenset" s.heap l kl)(Hr:iV knd "frozenset" s.heap r kr)(jd:kl.length+kr.length<64)(Gm:kl≠[])
  (h:∀h' ks,h'.objs.size=s.heap.objs.size+1->Kept s.heap h'->(∀j,j∈ks↔j∈kl\/j∈kr)->iV knd "frozenset" h' s.heap.objs.size ks->Q (.ref s.heap.objs.size) {s with heap:=h'}):wpAny (model prog w) A (binaryOp .BitOr (.ref l) (.ref r)) Q E s:=by
 refine iK (T:="frozenset") (id:="frozenset.__or__") Hl.typeIs Hr.typeIs Ds yp <| bU yp Hl.typeIs Dt ?_ (Fx _ _)
 exact Sb (.inr rfl) (.inr rfl) Hl Hr jd Gm fun h' ks z a b c=>⟨Value.noConfusion,h h' ks z a b c⟩
theorem DA(nm:String){o:Addr}{es:Array (Int×Value)}{ep:Nat}{t:SetTable}{Q:Unit->Shared->Prop}(ht:s.heap.get? a=some (jl "frozenset" es ep t))(hd:t.dummies= #[])(Ce:8<=t.mask)(Ha:iV knd "frozenset" s.heap a ks)(Ho:iV knd "frozenset" s.heap o [k])(m_:a≠o)(jd:0<ks.length)
  (h:∀h' jR,Heap.SameBut a s.heap h'->(∀j,j∈jR↔j∈ks/\j≠k)->iV knd "frozenset" h' a jR->Q () {s with heap:=h'}):wpAny (model prog w) A (Frozenset.differenceUpdate nm a (.ref o)) Q E s:=by
 refine wF (id Ho) fun eo DV to ho heo hno YB Yy=>wF (id Ha) fun ea epa ta Vp hea hna Vu hfa=> ?_;have Ku:=aj (Vp.symm.trans ht);unfold jl at Ku;cases Ku;have hso:eo.size=1:=by have:=heo.length;replace this:=(show eo.toList.length=eo.size from bh ..)▸this;exact this.symm
 dsimp only[Frozenset.differenceUpdate];have h1:(Value.ref o==Value.ref a)=false:=by simp;exact fun e=>m_ e.symm
 refine iR h1 ?_;simp only[bz,d7];refine ai (nA (.inr rfl) Ho.typeIs ?_);simp only[iH];refine ai (m:=Frozenset.addrOf _) (ak ?_);unfold Frozenset.sizeOf;refine ai (ai (dX ho rfl Yy (ak (ai (ai (dX Vp rfl hfa (ak ?_)))))));rw[aS (by(refine iR hso ?_);simp)];have tidy:∀(h':Heap)(jR:List K),Heap.SameBut a s.heap h'->(∀j,j∈jR↔j∈ks/\j≠k)->iV knd "frozenset" h' a jR->(∃es ep t',h'.get? a=some (jl "frozenset" es ep t')/\t'.mask=t.mask/\t'.dummies.size<=1)->
   wpAny (model prog w) A (setTidy a) Q E {s with heap:=h'}:=by
  intro h' jR hs hm H' ⟨Vy,YM,t2,g2,g3,g4⟩;refine wF (id H') fun ea' aeW ta' Ku aeT aeS aeU aaE=> ?_;have e:=aj (Ku.symm.trans g2);unfold jl at e;refine iR e ?_;unfold setTidy;refine ai (bY Ku rfl aaE ?_);dsimp only;rw[if_neg (by
   unfold SetTable.tooManyDummies;simp only[decide_eq_true_eq]
   lia)]
  exact ak (h h' jR hs hm H')
 refine ai (gf ho rfl Yy (ai (bO (Q:=fun ζ s'=>wpAny (model prog w) A (setTidy a) Q E s') (aP ?_) (fun ζ s' q=>q) fun ζ ζ z=>z)));refine ai (A6 Ho (others:=[a]) (f:=none) (fun b hb=> ?_) (fun b hb=>by cases hb) fun nH jR h2 BW w6 J4 ζ=> ?_)
 ·exact iR (aA.mp hb) Ha.quiet
 ·have hk:=iL.mp w6;subst hk;have hh:=J4 rfl;refine iR hh ?_;obtain⟨x,Zm,Zl,Zk⟩:∃x,nH.toList=[(knd.hash k,x)]/\knd.is k x=true/\x.scannable=true:=by
   cases e:nH.toList with
   |nil=>replace BW:=e▸BW;cases BW
   |cons p r=>
    replace BW:=e▸BW
    refine SS BW fun k' r' e2 g1 g2 g3 g4=> ?_;clear BW;cases e2;have:r=[]:=cy g4.length.symm;refine iR this ?_;obtain⟨i,v⟩:=p;have g2':i=knd.hash k:=g2;exact⟨v,by(refine iR g2' ?_;exact rfl),g1,g3⟩
  refine ai <| jC fS <| iR Zm ?_
  simp only[b_,List.forIn_nil,bind_assoc,pure_bind];have e0:({s with heap:=s.heap}:Shared)=s:=by cases s;rfl
  refine iR e0 <| ai (aP (vW Zl Zk Ha (fun hn=> ?_) fun h' jR hs hm H' t8 hT=> ?_))
  ·refine ai (o7 ho Yy (ak (ak ?_)));have:=tidy s.heap ks (eN a s.heap) (fun j=>⟨fun hj=>⟨hj,fun e=>hn (e▸hj)⟩,fun hj=>hj.1⟩) Ha ⟨_,_,_,ht,rfl,by(refine iR hd ?_);decide⟩
   replace this:=e0▸this
   exact this
  ·refine ai (o7 (s:={s with heap:=h'}) ((hs.2 o m_.symm).trans ho) Yy (ak (ak (o64 hT fun uQ Wd t1 Vy YM t2 g1 g2 g3 g4=> ?_))));have e1:=aj (g1.symm.trans ht);unfold jl at e1;cases e1;exact tidy h' jR hs hm H' ⟨_,_,_,g2,g3,by(refine iR g4 ?_;refine iR hd ?_);decide⟩
theorem Ml(nm:String){Q:aa}(Hl:iV knd "frozenset" s.heap l kl)(Hr:iV knd "frozenset" s.heap r [k])(jd:kl.length<64)(Aw:8<=kl.length)
  (h:∀h' ks,h'.objs.size=s.heap.objs.size+1->Kept s.heap h'->(∀j,j∈ks↔j∈kl/\j≠k)->iV knd "frozenset" h' s.heap.objs.size ks->Q (.ref s.heap.objs.size) {s with heap:=h'}):
  wpAny (model prog w) A (Frozenset.difference nm l (.ref r)) Q E s:=by
 refine wF (id Hr) fun er epr tr Ox her ζ ζ Ke=>wF (id Hl) fun el epl tl RM DT ζ ζ Yz=> ?_;have hsr:er.size=1:=by have:=her.length;exact this.symm
 have VN:el.size=kl.length:=by(refine iR DT.length ?_;refine iR bh ?_;rfl)
 refine ai (nA (.inr rfl) Hr.typeIs (ai (m:=Frozenset.addrOf _) (ak (ai (ai (dX Ox rfl Ke (ak (ai (ai (dX RM rfl Yz (ak ?_)))))))))));rw[a_ (by(refine iR VN ?_;refine iR hsr ?_);exact Nat.div_le_div_right (c:=4) Aw)];refine ai (dS (ai (Hg (.inr rfl) Hl ‹_› fun h1 k1 led sH tY H1 ht=> ?_)));have zp:=A4 sH;refine J0 (ht (fun e=>by rw[e]at Aw;simp at Aw)) fun es ep t g1 g2 g3=>ai (m:=Frozenset.addrOf _) (ak (ai (aP (DA (s:={s with heap:=h1}) nm g1 g2 (g3.elim (fun z=>absurd (ao Aw z.2) (by decide)) (ao (ao Aw (Nat.le_mul_of_pos_left _ (by decide))))) H1 (Hr.keep fun o e=>zp r o e) (qj Ox) (iR tY.length_eq <| cZ ‹_›) fun h2 k2 sZ hm H2=> ?_))));refine ak (h h2 k2 (iR sZ.1 <| (by(refine iR (sH.1 ..) ?_;refine iR (bK ..) ?_;rfl):h1.objs.size=s.heap.objs.size+1)) (fun b o e=>(sZ.2 b (qj e).symm).trans (zp b o e)) (fun j=> ?_) H2);rw[hm j,tY.mem_iff]
theorem US{Q:aa}(Hl:iV knd "frozenset" s.heap l kl)(Hr:iV knd "frozenset" s.heap r [k])(jd:kl.length<64)(Aw:8<=kl.length)
  (h:∀h' ks,h'.objs.size=s.heap.objs.size+1->Kept s.heap h'->(∀j,j∈ks↔j∈kl/\j≠k)->iV knd "frozenset" h' s.heap.objs.size ks->Q (.ref s.heap.objs.size) {s with heap:=h'}):wpAny (model prog w) A (binaryOp .Sub (.ref l) (.ref r)) Q E s:=by
 refine iK (T:="frozenset") (id:="frozenset.__sub__") Hl.typeIs Hr.typeIs BE vY <| bU vY Hl.typeIs BF ?_ (Du _ _)
 exact ai (m:=Frozenset.slot1 "__sub__" ⟨[.ref l,.ref r],[]⟩) <| bx (a:=(.ref l,.ref r)) rfl <| ai (vC (nA (.inr rfl) Hl.typeIs ⟨rfl,nA (.inr rfl) Hr.typeIs (ai (m:=Frozenset.addrOf _) (ak (ai (Ml _ Hl Hr jd Aw fun h' ks z a b c=>ak (sY _ rfl Value.noConfusion (h h' ks z a b c))))))⟩))
end
section
variable{prog:Program}{w:World}{A:Around}{E:aa}{s:Shared}
theorem Dp{env:Env}{c P:Addr}{ps:Array Value}{pos:Pos}{qualname:Str}{scope:Scope}{Q:aa}
  (hc:env.code= .ref c) (Am:s.heap.IsCode c P ps) (D_:s.heap.TableAt c P ps) (Oz:codeAmong pos ps.toList=none) (rH:scope.freeNames=[])
  (hQ:∀h' tk,h'.objs.size=s.heap.objs.size+3->h'.get? P=some {cls:=.none,data:=.fields (ps++ #[rawInt pos.line,rawInt pos.col,.ref (s.heap.objs.size+2)])}->
   (∀b o,b≠P->s.heap.get? b=some o->h'.get? b=some o)->Q (.ref (s.heap.objs.size+2)) {s with heap:=h',toks:=tk}):
  wpAny (model prog w) A (genexprCode env pos qualname scope) Q E s:=by
 obtain⟨o,vs,file,tf,flags,tg,inF,text,tt,op,ho,hd,ZT,h2,h7,h9,ZU,Zr,Zq,OP,m_⟩:=id Am;have e1:op={cls:=.none,data:=.fields ps}:=aj (Zr.symm.trans D_.2);dsimp only[genexprCode,codeAt];refine iR hc <| iR (aS (show ¬ ((Value.ref c==Value.none)=true)from Bool.false_ne_true)) <| ai (iz ho hd (iR ZT (ai (iz Zr Zq (iR Oz (iR h2 (iR h7 (iR h9 (iR ZU ?_)))))))))
 dsimp only[newCode];refine iR rH <| ai <| ai (wpAny_mkText (ai (wpAny_mkText (ai (wpAny_mkText (ai (wpAny_mkStrs fun fs=>
  ai (wpAny_newObjAsIs_type (ai (wpAny_alloc ?_))))))))))
 generalize hH:(s.heap.push {cls:=.type "tuple",dict:=none,data:=.seq fs.toArray})=H;have hz:H.objs.size=s.heap.objs.size+1:=by(refine jC (hH ..) ?_;refine iR (bK ..) ?_;exact rfl)
 have hk:∀b o,s.heap.get? b=some o->H.get? b=some o:=fun b o e=>hH▸az _ e;refine ai (ak (ai (ak (ai (ak (ai (wpAny_fresh (ai (wpAny_mkText (bM ?_ (by size_fits)))))))))));have yJ:(H.push {cls:=.none,data:=.fields #[]}).objs.size=s.heap.objs.size+2:=by(refine iR (bK ..) ?_;refine iR (hz ..) ?_;exact rfl)
 generalize hH3:(H.push {cls:=.none,data:=.fields #[]}).push _=H3;have SW:H3.objs.size=s.heap.objs.size+3:=by(refine jC (hH3 ..) ?_;refine iR (bK ..) ?_;refine iR (yJ ..) ?_;exact rfl)
 have OU:∀b o,s.heap.get? b=some o->H3.get? b=some o:=fun b o e=>by(refine jC hH3 ?_);exact az _ (az _ (hk b o e))
 have WE:=OU _ _ Zr;refine ai (wpAny_updateFieldsOfTheText WE Zq ?_);have wj:(Obj.mapFields (fun vs=>if(codeAmong pos vs.toList).isSome=true then vs else vs++ #[rawInt pos.line,rawInt pos.col,.ref (H.push {cls:=.none,data:=.fields #[]}).objs.size]) op).data=
   .fields (ps++ #[rawInt pos.line,rawInt pos.col,.ref (s.heap.objs.size+2)]):=by
  exact iR (Obj.data_mapFields Zq ..) <| iR (Oz ..) <| iR (yJ ..) rfl
 have qO:=cM (h:=H3) (fun o=>Obj.mapFields (fun vs=>if(codeAmong pos vs.toList).isSome=true then vs else
  vs++ #[rawInt pos.line,rawInt pos.col,.ref (H.push {cls:=.none,data:=.fields #[]}).objs.size]) o) WE (Obj.isFreed_of_fields wj)
 refine ai (iz qO wj (iR (by simp:(ps++ #[rawInt pos.line,rawInt pos.col,Value.ref (s.heap.objs.size+2)]).toList=ps.toList++[rawInt pos.line,rawInt pos.col,.ref (s.heap.objs.size+2)]) (iR (codeAmong_snoc _ OP Oz) (ak (hQ _ _ (iR (Heap.size_after_update ..) SW) ?_ fun b o' hb e=>((dW ..).extBut b o' hb (OU b o' e)))))));refine iR qO <| iR e1 ?_
 rw[Obj.mapFields,Oz,yJ];rfl
structure xg(mg mb:Str->Option Value)(C I:Addr)(i:Nat)(h:Heap):Prop where
 it:IsRangeIter h I ((i:Nat):Int) ((32:Int)-(i:Nat)) 1
 ns:∃m,h.Ns C m
 g:h.Ns mainGlobals mg
 b:h.Ns builtinsNs mb
structure GenStep(C I:Addr)(h h':Heap):Prop where
 size:h'.objs.size=h.objs.size
 keep:∀b,b≠C->b≠I->h'.get? b=h.get? b
noncomputable def uU(p1 p2 p3:Pos):Expr:=.Call (.Name "chr" p1) [.Name "i" p2] [] p3
theorem N9{mg mb:Str->Option Value}{C:Addr}{i:Nat}{t:Tok}{m:Str->Option Value}{p1 p2 p3:Pos}{scope:Scope}{code:Value}{env:Env}{Q:aa}(hk:scope.kind= .function)(h1:scope.names.lookup ("chr":Str)=some .globalImplicit)(h2:scope.names.lookup ("i":Str)=some .local)
  (RP:env.globals=mainGlobals) (hg:s.heap.Ns mainGlobals mg) (hb:s.heap.Ns builtinsNs mb) (wH:mg "chr"=none) (DQ:mb "chr"=some (.builtin "chr")) (hn:s.heap.Ns C m) (hv:m "i"=some (.int ((i:Nat):Int) t)) (hi:i<1000)
  (h:Q (.str ⟨#[i]⟩ s.toks) {s with toks:=s.toks+1}):wpAny (model prog w) A (eval (uU p1 p2 p3) (genEnv scope [] C code builtinsNs env)) Q E s:=by
 have he:starEach [Expr.Name "i" p2] (genEnv scope [] C code builtinsNs env)=[(false,eval (.Name "i" p2) (genEnv scope [] C code builtinsNs env))]:=rfl;refine iR (eO ..) <| iR (he ..) <| ai (wpAny_Name (iR (PyProof.Rows.loadName_read (hk) (by exact h1)) (gg (by refine(?_:s.heap.Ns env.globals mg);(refine iR RP ?_);exact hg:s.heap.Ns (genEnv scope [] C code builtinsNs env).globals mg) wH (show s.heap.Ns (genEnv scope [] C code builtinsNs env).builtins mb from hb) DQ ?_)))
 refine(gC rfl (f9 (fO (wpAny_Name (wpAny_loadName_local (hk) (h2) (show s.heap.Ns (genEnv scope [] C code builtinsNs env).locals m from hn) hv (h_ ?_))))):wpAny _ _ (callWith p3 (.builtin "chr") [] [(false,eval (.Name "i" p2) (genEnv scope [] C code builtinsNs env))] []) _ _ _);exact(PyProof.Rows.chr_of_range (Int.ofNat_nonneg _) (d_.mpr (bC (rE hi))) (h):wpAny _ _ (call (.builtin "chr") [.int ((i:Nat):Int) t]) _ _ _)
noncomputable def gR:GenEnd:=fun n jM r s₁=>r= .ok .next/\n=0/\∃h',s₁={jM with heap:=h'}/\OX jM.heap h'
noncomputable def gY(mg mb:Str->Option Value)(C I:Addr):Protocol:=fun m jM v s kap=>
 (∃t,v= .str ⟨#[31-m]⟩ t)/\(∃h' tk,s={jM with heap:=h',toks:=tk}/\GenStep C I jM.heap h'/\xg mg mb C I (32-m) h')/\∀uN:Shared,xg mg mb C I (32-m) uN.heap->kap (.send .none) uN
theorem NP{mg mb:Str->Option Value}{C I:Addr}{px p1 p2 p3 pos:Pos}{iter:Expr}{scope:Scope}{code:Value}{env:Env}(hh:A.handled=none)(hk:scope.kind= .function)(Kf:scope.isCoroutine=false)(h1:scope.names.lookup ("chr":Str)=some .globalImplicit)(h2:scope.names.lookup ("i":Str)=some .local)
  (RP:env.globals=mainGlobals) (wH:mg "chr"=none) (DQ:mb "chr"=some (.builtin "chr")) (Wc:C≠I) (YJ:C≠mainGlobals) (YI:C≠builtinsNs) (YG:I≠mainGlobals) (YF:I≠builtinsNs):∀(k i:Nat)(s:Shared),i+k=32->xg mg mb C I i s.heap->
  Seg (model prog w) A gR (gY mg mb C I) k s (.compLoop (.GeneratorExp (uU p1 p2 p3) [⟨.Name "i" px,iter,[],0⟩] scope pos) 0 (.ref I) .none (genEnv scope [] C code builtinsNs env))
   ((model prog w).den (.compLoop (.GeneratorExp (uU p1 p2 p3) [⟨.Name "i" px,iter,[],0⟩] scope pos) 0 (.ref I) .none (genEnv scope [] C code builtinsNs env))) [] s:=by
 intro k
 induction k with
 |zero=>
  intro i s DS F;refine(iR (compTurn_gen ..) ?_:Seg _ A _ _ _ s _ ((compTurn (.GeneratorExp (uU p1 p2 p3) [⟨.Name "i" px,iter,[],0⟩] scope pos) 0 (.ref I) .none (genEnv scope [] C code builtinsNs env)).onRaise (PySem.leaving (genEnv scope [] C code builtinsNs env))) [] s);exact iR (Sem.onRaise_eq_wrap ..) <| dG (cj (dG (IU (hh:(A.over (.compLoop (.GeneratorExp (uU p1 p2 p3) [⟨.Name "i" px,iter,[],0⟩] scope pos) 0 (.ref I) .none (genEnv scope [] C code builtinsNs env)) []).handled=none) F.it (Int.sub_nonpos_of_le (d_.mpr (aE DS.symm))) fun h' Kh=>seg_end (.ok .next) ⟨rfl,rfl,h',rfl,Kh⟩)))
 |succ k ih=>
  intro i s DS F;refine m9 F.ns fun m hm=>(?_:Seg _ A _ _ _ s _ ((compTurn (.GeneratorExp (uU p1 p2 p3) [⟨.Name "i" px,iter,[],0⟩] scope pos) 0 (.ref I) .none (genEnv scope [] C code builtinsNs env)).onRaise (PySem.leaving (genEnv scope [] C code builtinsNs env))) [] s);refine iR (compTurn_gen ..) <| iR (Sem.onRaise_eq_wrap ..) <| dG (cj (dG (wpAny_pyNext_range_item F.it (Int.sub_pos_of_lt (cE.mpr (b9 (ek (d9 _)) DS))) fun j6 xC pC=>dG (bx (rfl:letOwnedTupleGo (.Name "i" px) (.ref I) (.int ((i:Nat):Int) s.toks)=pure ()) (dG (gc (wpAny_storeName_local (h2) (hm.at fun o e=>(pC.2 C Wc).trans e:j6.Ns (genEnv scope [] C code builtinsNs env).locals m) (fun oV Sk oh=> ?_) (by refine(?_:(scope.kind== .class||(scope.kind== .module&&_))=false);(refine iR hk ?_);rfl))))))))
  refine dG (ak ?_);have hy:∀v,yieldOut (genEnv scope [] C code builtinsNs env) v=yieldValue v:=fun v=>by
   have:(genEnv scope [] C code builtinsNs env).scope.isCoroutine=false:=Kf;simp only[yieldOut,this,bz,d7]
  simp only[hy];refine iR (Sem.bind_eq_wrap' ..) <| iR (Sem.bind_eq_wrap' ..) <| iR (Sem.wrap_wrap ..) <| iR (Sem.wrap_wrap ..) ?_
  have keep:∀b,b≠C->b≠I->oV.get? b=s.heap.get? b:=fun b YD YC=>(oh.2 b YD).trans (pC.2 b YC);have F2:xg mg mb C I (i+1) oV:=⟨by
    have e1:((i:Nat):Int)+1=((i+1:Nat):Int):=by rfl
    have e2:(32:Int)-(i:Nat)-1=(32:Int)-((i+1:Nat):Int):=by lia
    have:=(oh.2 I Wc.symm).trans xC
    replace this:=e2▸(e1▸this)
    exact this,
   ⟨_,Sk⟩,F.g.at fun o e=>(keep _ YJ.symm YG.symm).trans e,F.b.at fun o e=>(keep _ YI.symm YF.symm).trans e⟩
  refine seg_wrap (N9 (i:=i) (t:=s.toks) hk h1 h2 RP F2.g F2.b wH DQ Sk (a_ rfl) (rE (b9 (ek (d9 _)) DS)) ?_);have e32:32-k=i+1:=by(exact Nat.sub_eq_of_eq_add ((dh i k).trans DS).symm)
  refine seg_at (seg_yield rfl rfl rfl ⟨⟨_,aQ (fun n=>Value.str ⟨#[n]⟩ _) (by(exact Nat.sub_eq_of_eq_add (Nat.succ.inj DS).symm):31-k=i).symm⟩,⟨oV,_,rfl,⟨by(refine iR oh.1 ?_;refine iR pC.1 ?_;exact rfl),keep⟩,by(refine iR e32 ?_);exact F2⟩,fun uN VZ=> ?_⟩)
  replace VZ:=e32▸VZ
  exact seg_again rfl (ih (i+1) uN ((dh i k).trans DS) VZ)
theorem CC{a:Addr}{g n:Nat}{gs:GenState}{R:GenEnd}{Y:Protocol}{Q:Option Value->Shared->Prop}(hh:A.handled=none)
  (hl:s.heap.NoLimit) (lR:A.depth<recursionLimit)
  (hg:s.heap.IsGen a g) (Kc:s.gens[g]? =some gs) (hRn:∀n jM r s₁,R n jM r s₁->r= .ok .next)
  (Kd:gs.Goes (model prog w) A.in1 R Y n (.send .none) (s.setGen g .running))
  (hY:∀v s₁ RU,RU.bare=true->Y (n-1) (s.setGen g .running) v s₁ (fun r' uN=>match n with
    |0=>False
    |m+1=>RU.Goes (model prog w) A.in1 R Y m r' uN)->Q (some v) (s₁.setGen g RU))
  (hP:∀r s₁,R n (s.setGen g .running) r s₁->∀h',OX s₁.heap h'->Q none {s₁.setGen g .finished with heap:=h'}):
  wpAny (model prog w) A (pyNext (.ref a)) Q E s:=by
 refine ai (gT (cY (name:=Str.ofString "__next__") hg.typeIs slot_gen_next
  (bU slot_gen_next hg.typeIs entry_gen_next ?_ (args_gen_next _))))
 refine(?_:wpAny _ A.in1 (Builtin.Generator.genWake (.ref a) (.send .none)) _ _ s);dsimp only[Builtin.Generator.genWake];refine ai (aP (wpAny_genNumber hg (ai (wpAny_genState Kc ?_))));cases gs with
 |running|finished=>exact Kd.elim
 |_=>
  refine ai (wpAny_roomToWake hl lR (wpAny_resumeQ Kc Kd (fun x s₁ hx=> ?_) (fun v s₁ RU hb hv=> ?_)))
  ·clear hl lR hg Kc Kd;refine iR (hRn _ _ _ _ hx) <| (?_:wpAny _ A.in1 (newExc (.type "StopIteration") [] >>= _) _ _ _)
   refine ai <| ai (bM ?_ (by size_fits))
   refine ai (m:=firstArgMember _ _) (bx (a:=Value.none) (by first|rfl|(simp only[firstArgMember];rfl)) (bM ?_ (by size_fits)));dsimp only[raiseNew];refine ai (ai (wpAny_handled ?_))
   first|(refine iR (show A.in1.handled=none from hh) ?_)|rw[hh]
   refine wpAny_throw <| ai (cG (T:="StopIteration") (b:=true) (jt _ (aF _ rfl) rfl) isSubtype_stop ?_)
   exact ak (hP _ s₁ hx _ (OX.of _ _ _))
  ·exact ak (jt v rfl (ak (hY v s₁ RU hb hv)))
structure lT(prog:Program)(w:World)(A:Around)(mg mb:Str->Option Value)(a C I:Addr)(i:Nat)(s:Shared):Prop where
 gen:s.heap.IsGen a 0
 lim:s.heap.NoLimit
 F:xg mg mb C I i s.heap
 one:s.gens.size=1
 go:∃gs,s.gens[0]? =some gs/\∀uN:Shared,xg mg mb C I i uN.heap->gs.Goes (model prog w) A.in1 gR (gY mg mb C I) (32-i) (.send .none) uN
structure ED(a C I:Addr):Prop where
 aC:a≠C
 aI:a≠I
 CI:C≠I
 C1:C≠mainGlobals
 C2:C≠builtinsNs
 C3:C≠cStatics
 I1:I≠mainGlobals
 I2:I≠builtinsNs
 I3:I≠cStatics
variable{mg mb:Str->Option Value}{a C I:Addr}
theorem xg.at'{i:Nat}{h h':Heap}(F:xg mg mb C I i h)(e:∀b,b=C\/b=I\/b=mainGlobals\/b=builtinsNs->h'.get? b=h.get? b):xg mg mb C I i h':=
 ⟨(e I (.inr (.inl rfl))).trans F.it,let⟨m,hm⟩:=F.ns;⟨m,hm.at fun o q=>(e C (.inl rfl)).trans q⟩,F.g.at fun o q=>(e _ (.inr (.inr (.inl rfl)))).trans q,F.b.at fun o q=>(e _ (.inr (.inr (.inr rfl)))).trans q⟩
theorem NQ{i:Nat}{Q:Option Value->Shared->Prop}(hh:A.handled=none)(lR:A.depth<recursionLimit)(ap:ED a C I)(L:lT prog w A mg mb a C I i s)(hi:i<32)
  (h:∀t h' tk gens,GenStep C I s.heap h'->lT prog w A mg mb a C I (i+1) {s with heap:=h',toks:=tk,gens:=gens}->Q (some (.str ⟨#[i]⟩ t)) {s with heap:=h',toks:=tk,gens:=gens}):
  wpAny (model prog w) A (pyNext (.ref a)) Q E s:=by
 refine jm L.go fun gs Kc Kd=> ?_;obtain⟨k,hk,e2,e3,e4⟩:=XX hi;rw[hk]at Kd;refine CC hh L.lim lR L.gen Kc (fun ζ ζ ζ ζ x=>x.1) (Kd _ L.F) (fun v s₁ RU hb hv=> ?_) (fun r s₁ hp=> ?_)
 ·obtain⟨⟨t,rfl⟩,⟨j6,W7,rfl,st,Pk⟩,O_⟩:=hv;rw[e3];rw[e2]at Pk O_;refine h t j6 W7 _ st ⟨?_,?_,Pk,?_,RU,setGen_self (gs:=.running) (setGen_self Kc),fun uN Z2=> ?_⟩
  ·exact Ov L.gen fun o nm qn ho r=>Vm o nm qn ((st.keep a ap.aC ap.aI).trans ho) r
  ·exact jm L.lim fun mc J3 Zt=>jt mc (J3.at fun o e=>(st.keep _ ap.C3.symm ap.I3.symm).trans e) Zt
  ·simp[Shared.setGen,L.one]
  ·rw[e4];exact O_ uN Z2
 ·exact absurd hp.2.1 (Nat.succ_ne_zero k)
theorem QZ{Q:Option Value->Shared->Prop}(hh:A.handled=none)(lR:A.depth<recursionLimit)(L:lT prog w A mg mb a C I 32 s)
  (h:∀h',h'.objs.size=s.heap.objs.size+4->Kept s.heap h'->Q none {s with heap:=h',gens:= #[.finished]}):wpAny (model prog w) A (pyNext (.ref a)) Q E s:=by
 refine jm L.go fun gs Kc Kd=>CC hh L.lim lR L.gen Kc (fun ζ ζ ζ ζ x=>x.1) (Kd _ L.F) (fun v s₁ RU hb hv=> ?_) (fun r s₁ hp h' h2=> ?_)
 ·exact w4 hv fun ζ z3 O_=>qL z3 fun j6 ζ ζ ζ Pk=>(O_ {s with heap:=j6} Pk).elim
 ·clear hh lR Kc Kd;obtain⟨_,_,j6,rfl,h1⟩:=hp;have hg:(Shared.setGen {s.setGen 0 .running with heap:=j6} 0 .finished).gens= #[.finished]:=by
   apply Array.ext
   ·simp[Shared.setGen,L.one]
   ·intro j hj1 hj2;have:j=0:=by simp at hj2;assumption
    subst this;simp[Shared.setGen]
  have:=h h' (iR h2.1 <| iR h1.1 rfl) fun b o e=>h2.2 b o (h1.2 b o e);have e:({Shared.setGen {s.setGen 0 .running with heap:=j6} 0 .finished with heap:=h'}:Shared)={s with heap:=h',gens:= #[.finished]}:=by
   exact jC hg rfl
  exact iR e this
theorem lT.but{i:Nat}{sa:Addr}{h':Heap}{tk:Nat}(L:lT prog w A mg mb a C I i s)(hs:Heap.SameBut sa s.heap h')(n:sa≠a/\sa≠C/\sa≠I/\sa≠mainGlobals/\sa≠builtinsNs/\sa≠cStatics):lT prog w A mg mb a C I i {s with heap:=h',toks:=tk}:=by
 refine o06 n fun n1 n2 n3 n4 n5 n6=> ?_;clear n;refine⟨?_,?_,L.F.at' fun b hb=>hs.2 b ?_,L.one,L.go⟩
 ·exact Ov L.gen fun o nm qn ho r=>Vm o nm qn ((hs.2 a n1.symm).trans ho) r
 ·exact jm L.lim fun mc J3 Zt=>jt mc (J3.at fun o e=>(hs.2 _ n6.symm).trans e) Zt
 ·clear L hs n1 n6;rcases hb with rfl|rfl|rfl|rfl
  ·exact n2.symm
  ·exact n3.symm
  ·exact n4.symm
  ·exact n5.symm
theorem NY{sa:Addr}{R:Result->Shared->Prop}{T:String}(hh:A.handled=none)(lR:A.depth<recursionLimit)(ap:ED a C I)(n:sa≠a/\sa≠C/\sa≠I/\sa≠mainGlobals/\sa≠builtinsNs/\sa≠cStatics):
  ∀(k i:Nat)(s:Shared)(ks:List Str),i+k=32->lT prog w A.in1 mg mb a C I i s->iV (PySem.strKind prog w) T s.heap sa ks->ks.length<=i->(∀j,j∈ks↔ ∃c,c<i/\j=⟨#[c]⟩)->
   (∀h' jR tk,h'.objs.size=s.heap.objs.size+4->(∀b o,b≠sa->b≠C->b≠I->s.heap.get? b=some o->h'.get? b=some o)->iV (PySem.strKind prog w) T h' sa jR->(∀j,j∈jR↔ ∃c,c<32/\j=⟨#[c]⟩)->jR.length<=32->R (.ok (.ret .none)) {s with heap:=h',toks:=tk,gens:= #[.finished]})->
   codeAny (model prog w) A (.builtin "set.update.loop" ⟨[.ref sa,.ref a],[]⟩) R s:=by
 intro k
 induction k with
 |zero=>
  intro i s ks DS L H hl hm h;have:i=32:=by assumption
  subst this;exact bu ri <| ai (QZ hh lR L fun h' hz hk=>ak (h h' ks s.toks hz (fun b o ζ ζ ζ e=>hk b o e) (H.keep fun o e=>hk sa o e) hm hl))
 |succ k ih=>
  intro i s ks DS L H hl hm h;refine bu ri <| ai (NQ hh lR ap L (b9 (ek (d9 _)) DS) fun t j6 tk gens st W4=>ai (aP (aP (ai ((PySem.strKind prog w).pyHash (k:=⟨#[i]⟩) (gA _ _ _ _) ?_)))))
  have H1:iV (PySem.strKind prog w) T j6 sa ks:=H.at (st.keep sa n.2.1 n.2.2.1);have cont:∀oV nj,Heap.SameBut sa j6 oV->iV (PySem.strKind prog w) T oV sa nj->nj.length<=i+1->(∀j,j∈nj↔(j∈ks\/j=⟨#[i]⟩))->codeAny (model prog w) A (.builtin "set.update.loop" ⟨[.ref sa,.ref a],[]⟩) R {s with heap:=oV,toks:=tk+1,gens:=gens}:=by
   intro oV nj oh H2 uP yK;refine ih (i+1) _ nj ((dh i k).trans DS) (W4.but (tk:=tk+1) oh n) H2 uP (fun j=> ?_) fun h' jR tk' hsz VQ H' S5 DR=> ?_
   ·rw[yK j,hm j];constructor
    ·rintro(⟨c,hc,rfl⟩|rfl)
     ·exact jt c (dY ‹_›) rfl
     ·exact jt i (aK _) rfl
    ·rintro⟨c,hc,rfl⟩;refine bc (p:=c=i) (fun q=> ?_) fun q=> ?_
     ·clear hh lR ap n ih DS L H hl hm W4 uP yK hc;subst q;exact .inr rfl
     ·exact .inl ⟨c,by(exact gI (aM ‹_›) ‹_›),rfl⟩
   ·exact h h' jR tk' (iR hsz <| iR oh.1 <| iR st.size rfl) (fun b o Vu YD YC e=>VQ b o Vu YD YC ((oh.2 b Vu).trans ((st.keep b YD YC).trans e))) H' S5 DR
  refine xB (s:={s with heap:=j6,toks:=tk+1,gens:=gens}) (gA _ _ _ _) rfl H1 (by refine(?_:ks.length+1<4096);exact rE (Nat.succ_lt_succ (aD hl (b9 (ek (d9 k)) DS)))) (fun t8=> ?_) fun oV nj oh hp H2 WG=> ?_
  ·exact ak ⟨bA nX _,cont j6 ks (eN sa j6) H1 (dM ‹_›) fun j=>⟨.inl,fun q=>q.elim id fun q=>q▸t8⟩⟩
  ·exact ak ⟨bA nX _,cont oV nj oh H2 (by have:=hp.length_eq;simp at this;(exact ao (aE this) (cQ hl))) fun j=>by(rw[hp.mem_iff,bg,aA])⟩
end
noncomputable def KO (d:Data):Option (Array DictEntry):=d.casesOn none (fun z=>none) (fun z z=>none) (fun es z=>some es) (fun z z z=>none) (fun z z=>none) (fun z=>none) (fun z=>none) (fun z=>none) (fun z=>none) none
noncomputable def wL (d:Data):Option (Array Value):=d.casesOn none (fun z=>none) (fun z z=>none) (fun z z=>none) (fun z z z=>none) (fun z z=>none) (fun z=>none) (fun z=>none) (fun z=>none) some none
theorem Ra{d:Data}{es:Array DictEntry}(h:KO d=some es):∃ep,d= .dict es ep:=by cases d with
 |dict nH ep=>exact⟨ep,aQ (Data.dict · ep) (aj h)⟩
 |_=>exact ku h
theorem Ae{d:Data}{vs:Array Value}(h:wL d=some vs):d= .fields vs:=by cases d with
 |fields=>exact aQ _ (aj h)
 |_=>exact ku h
theorem Lu{v:Value}(h:(v.ctorIdx==6)=true):∃s t,v= .str s t:=by cases v with
 |str s t=>exact⟨s,t,rfl⟩
 |_=>exact Bool.noConfusion h
theorem AJ{v:Value}(h:(v.ctorIdx==4)=true):∃i t,v= .int i t:=by cases v with
 |int i t=>exact⟨i,t,rfl⟩
 |_=>exact Bool.noConfusion h
theorem Rn{v:Value}(h:(v.ctorIdx==3)=true):∃b,v= .bool b:=by cases v with
 |bool b=>exact⟨b,rfl⟩
 |_=>exact Bool.noConfusion h
theorem A_{α:Type}{o:Option α}{f:α->Bool}(h:o.elim false f=true):∃a,o=some a/\f a=true:=by cases o with
 |none=>exact Bool.noConfusion h
 |some a=>exact⟨a,rfl,h⟩
noncomputable def rK (o:Obj):Bool:=(KO o.data).elim false fun es=>es.toList.all fun e=>e.key.ctorIdx==6
noncomputable def nsLook (o:Obj) (x:Str):Option Value:=(KO o.data).bind (nsFind · x)
noncomputable def UO(w:World)(s:Str):Int:=if s.cps.isEmpty then 0 else reduceHash (w.params.strHash s.cps)
noncomputable def lU(w:World)(x:Str)(tk:Nat)(v:Value)(o:Obj):Obj:=Obj.putName x (UO w x) (.str x tk) v o
theorem Gz{h:Heap}{a:Addr}{o:Obj}(ho:h.get? a=some o)(g:rK o=true):h.Ns a (nsLook o):=jm (A_ g) fun es hv g=>m9 (Ra hv) fun ep hd=>ON o es ep ho hd (fun e he=>Lu (bZ.mp g e (by simpa using he))) (fun x=>(aQ (·.bind (nsFind · x)) hv).symm)
section
variable{prog:Program}{w:World}{A:Around}{E:aa}{s:Shared}
theorem MU{o:Obj}{es:Array DictEntry}{ep:Nat}(hd:o.data= .dict es ep)(w:World)(x:Str)(tk:Nat)(v:Value):∃nH J6,(lU w x tk v o).data= .dict nH J6:=by
 obtain⟨c,d,dt,sl⟩:=o;subst hd;unfold lU Obj.putName;dsimp only;generalize nsPutIn _ _ _ _=q;obtain⟨nH,b⟩:=q
 (cases b)<;>exact(DO _ _ rfl)
theorem De{a:Addr}{o:Obj}{x:Str}{v:Value}{Q:Unit->Shared->Prop}(ho:s.heap.get? a=some o)(g:rK o=true)
  (h:∀h',h'.objs.size=s.heap.objs.size->h'.get? a=some (lU w x s.toks v o)->(∀b,b≠a->h'.get? b=s.heap.get? b)->Q () {s with heap:=h',toks:=s.toks+1}):wpAny (model prog w) A (nsSet a x v) Q E s:=by
 refine J9 (Gz ho g) fun o' es ep qK hd hk hm=> ?_;cases ho.symm.trans qK;intro Γ p _;simp only[nsSet,strHash,Sem.wp_bind',Sem.wp_cmd_ask,Sem.wp_pure',Sem.wp_cmd_mkText];rw[Sem.wp_loadPart_of _ Γ _ p {s with toks:=s.toks+1} (o:=o) _ ho];have WS:es.any (·.refKey)=false:=by
  rw[Array.any_eq_false'];intro e he;refine J_ (hk e he) fun n t h=> ?_;simp[DictEntry.refKey,h]
 simp only[hd,aRefKeyMayBeTheName_eq,aRefKeyMayBeTheNameByArray,WS,Bool.and_false,bz,d7,Sem.wp_cmd_updatePart];have hs:Heap.SameBut a s.heap (s.heap.update a (lU w x s.toks v)):=dW ..;refine⟨by(refine iR ho ?_);rfl,h _ hs.1 (cM (lU w x s.toks v) ho ?_) hs.2⟩;refine J_ (MU hd w x s.toks v) fun nH J6 e=> ?_;generalize lU w x s.toks v o=q at e|-;clear ho g h hk hm qK hd WS hs;obtain⟨qc,qd,qdt,qs⟩:=q;dsimp only at e;refine iR e ?_;rfl
def HS(env:Env):Prop:=env.scope.kind= .module/\env.locals=env.globals
theorem Il{env:Env}{x:Str}{o:Obj}{v:Value}{Q:Unit->Shared->Prop}(hm:HS env)(hk:env.kindOf x=some .local)(ho:s.heap.get? env.locals=some o)(g:rK o=true)
  (h:∀h',h'.objs.size=s.heap.objs.size->h'.get? env.locals=some (lU w x s.toks v o)->(∀b,b≠env.locals->h'.get? b=s.heap.get? b)->Q () {s with heap:=h',toks:=s.toks+1}):wpAny (model prog w) A (storeName env x v) Q E s:=by
 have e:storeName env x v=nsSet env.locals x v:=by
  dsimp only[storeName];rw[hk,hm.1,hm.2,bne_self_eq_false,Bool.and_false,Bool.or_false];rfl
 exact iR e <| De ho g h
theorem m7{env:Env}{x:Str}{xp pos:Pos}{e:Expr}{Q:Flow->Shared->Prop}(hm:HS env)(hk:env.kindOf x=some .local)(OQ:swapsWith e (some (.Name x xp)) pos.line env=pure false)(hss:swappedStores [.Name x xp] e env=pure none)
  (h:wpAny (model prog w) A (eval e env) (fun v s₁=>∃o,s₁.heap.get? env.locals=some o/\rK o=true/\∀h',h'.objs.size=s₁.heap.objs.size->h'.get? env.locals=some (lU w x s₁.toks v o)->(∀b,b≠env.locals->h'.get? b=s₁.heap.get? b)->Q .next {s₁ with heap:=h',toks:=s₁.toks+1}) E s):wpAny (model prog w) A (exec (.Assign [.Name x xp] e pos) env) Q E s:=by
 show wpAny _ A (do
  standAt pos
  if<-swapsWith e (some (.Name x xp)) pos.line env then do
   evalThenUse e env fun v=>assignAll v ((assignEach [.Name x xp] env).map (·.2))
   pure .next
  else do
   let v<-eval e env
   assignStores env v (<-swappedStores [.Name x xp] e env) ((assignEach [.Name x xp] env).map (·.2))) Q E s
 refine ai (cj (iR OQ (iR hss (ai (ak (ai (bO h (fun v s₁ j6=> ?_) fun ζ ζ z=>z)))))));refine uO j6 fun o ho g hQ=>(?_:wpAny _ A (do assign (.Name x xp) env v;pure .next:Sem Flow) Q E s₁);exact ai (gc (Il hm hk ho g fun h' a b c=>ak (hQ h' a b c)))
end
section
variable{prog:Program}{w:World}{A:Around}{E:aa}{s:Shared}{mg mb:Str->Option Value}{a C I:Addr}
theorem IM{px p1 p2 p3 pos:Pos}{iter:Expr}{scope:Scope}{code:Value}{env:Env}(hh:A.handled=none)(hk:scope.kind= .function)(Kf:scope.isCoroutine=false)(h1:scope.names.lookup ("chr":Str)=some .globalImplicit)(h2:scope.names.lookup ("i":Str)=some .local)
  (RP:env.globals=mainGlobals) (wH:mg "chr"=none) (DQ:mb "chr"=some (.builtin "chr")) (Wc:C≠I) (YJ:C≠mainGlobals) (YI:C≠builtinsNs) (YG:I≠mainGlobals) (YF:I≠builtinsNs) (s:Shared) (F:xg mg mb C I 0 s.heap):
  Seg (model prog w) A gR (gY mg mb C I) 32 s (.compStart (.GeneratorExp (uU p1 p2 p3) [⟨.Name "i" px,iter,[],0⟩] scope pos) 0 (.ref I) .none (genEnv scope [] C code builtinsNs env))
   ((model prog w).den (.compStart (.GeneratorExp (uU p1 p2 p3) [⟨.Name "i" px,iter,[],0⟩] scope pos) 0 (.ref I) .none (genEnv scope [] C code builtinsNs env))) [] s:=by
 have loop:=NP (prog:=prog) (w:=w) (px:=px) (p1:=p1) (p2:=p2) (p3:=p3) (pos:=pos) (iter:=iter) (code:=code) hh hk Kf h1 h2 RP wH DQ Wc YJ YI YG YF 32 0 s rfl F;have it:=F.it;refine(iR (Sem.onRaise_eq_wrap ..) ?_:Seg _ A _ _ _ s _ ((compStart (.GeneratorExp (uU p1 p2 p3) [⟨.Name "i" px,iter,[],0⟩] scope pos) 0 (.ref I) .none (genEnv scope [] C code builtinsNs env)).onRaise («leaving» (genEnv scope [] C code builtinsNs env))) [] s);refine(dG (cW ?_):Seg _ A _ _ _ s _ ((ask >>= _).wrap _ _ _ _) [] s);clear hh hk Kf h1 h2 RP wH DQ Wc YJ YI YG YF F;split
 ·exact seg_again rfl loop
 ·first
   |exact dG (dS (dG (cj (dG (gG it (seg_again rfl loop))))))
   |(refine dG (dS ?_);show Seg _ A _ _ _ s _ ((standAt iter.pos >>= _).wrap _ _ _ _) [] s;exact dG (cj (dG (gG it (seg_again rfl loop)))))
theorem lT.fresh{px p1 p2 p3 pos:Pos}{iter:Expr}{scope:Scope}{code:Value}{env:Env}(hh:A.handled=none)(hk:scope.kind= .function)(Kf:scope.isCoroutine=false)(h1:scope.names.lookup ("chr":Str)=some .globalImplicit)(h2:scope.names.lookup ("i":Str)=some .local)
  (RP:env.globals=mainGlobals) (wH:mg "chr"=none) (DQ:mb "chr"=some (.builtin "chr")) (ap:ED a C I) (hg:s.heap.IsGen a 0) (hl:s.heap.NoLimit) (F:xg mg mb C I 0 s.heap) (one:s.gens.size=1)
  (Kc:s.gens[0]? =some (.fresh (.compStart (.GeneratorExp (uU p1 p2 p3) [⟨.Name "i" px,iter,[],0⟩] scope pos) 0 (.ref I) .none (genEnv scope [] C code builtinsNs env)))):lT prog w A mg mb a C I 0 s:=
 ⟨hg,hl,F,one,_,Kc,fun uN Z2=>⟨rfl,IM (A:=A.in1) hh hk Kf h1 h2 RP wH DQ ap.CI ap.C1 ap.C2 ap.I1 ap.I2 uN Z2⟩⟩
theorem G4{env:Env}{x:Str}{pos:Pos}{v:Value}{Q:aa}(hm:HS env)(hg:s.heap.Ns env.globals mg)(hb:s.heap.Ns env.builtins mb)(h1:mg x=none)(h2:mb x=some v)(h:Q v s)
  (hd:(x==("__debug__":Str))=false:=by decide):wpAny (model prog w) A (eval (.Name x pos) env) Q E s:=
 Calls.Name_module hm.1 hm.2 (gg hg h1 hb h2 h) hd
theorem zz{env:Env}{x:Str}{np pos:Pos}{e:Expr}{T:String}{Q:aa}(mq:starEach [e] env=[(false,eval e env)])(hm:HS env)(hg:s.heap.Ns env.globals mg)(hb:s.heap.Ns env.builtins mb)(h1:mg x=none)(h2:mb x=some (.type T))
  (h:wpAny (model prog w) A (eval e env) (fun v s₁=>wpAny (model prog w) A (call (.type T) [v]) Q E s₁) E s) (hd:(x==("__debug__":Str))=false:=by decide):wpAny (model prog w) A (eval (.Call (.Name x np) [e] [] pos) env) Q E s:=by
 refine iR (eO ..) <| iR (mq ..) <| ai (G4 hm hg hb h1 h2 ?_ hd)
 exact(callWith_type rfl (f9 (fO (bO h (fun v s₁ j6=>h_ (j6)) fun ζ ζ z=>z))):wpAny _ _ (callWith pos (.type T) [] [(false,eval e env)] []) _ _ _)
theorem U0{env:Env}{x:Str}{np pos:Pos}{e:Expr}{id:String}{Q:aa}(mq:starEach [e] env=[(false,eval e env)])(hm:HS env)(hg:s.heap.Ns env.globals mg)(hb:s.heap.Ns env.builtins mb)(h1:mg x=none)(h2:mb x=some (.builtin id))
  (h:wpAny (model prog w) A (eval e env) (fun v s₁=>wpAny (model prog w) A (call (.builtin id) [v]) Q E s₁) E s) (hd:(x==("__debug__":Str))=false:=by decide):wpAny (model prog w) A (eval (.Call (.Name x np) [e] [] pos) env) Q E s:=by
 refine iR (eO ..) <| iR (mq ..) <| ai (G4 hm hg hb h1 h2 ?_ hd)
 exact(gC rfl (f9 (fO (bO h (fun v s₁ j6=>h_ (j6)) fun ζ ζ z=>z))):wpAny _ _ (callWith pos (.builtin id) [] [(false,eval e env)] []) _ _ _)
end
theorem qR{n k j:Nat}(h:k≠j):n+k≠n+j:=fun e=>h (Nat.add_left_cancel e)
theorem oN{n b k:Nat}(h:b<n):n+k≠b:=fun e=>absurd h (gB.mpr (ao (eu ..) (aE e)))
theorem Ep{n b k:Nat}(h:b<n):b≠n+k:=fun e=>absurd h (gB.mpr (ao (eu ..) (aE e.symm)))
section
variable{prog:Program}{w:World}{A:Around}{E:aa}{s:Shared}{mg mb:Str->Option Value}
noncomputable def Gv(r1 r2 r3:Pos):Expr:=.Call (.Name "range" r1) [.Constant (.int 32) 0 r2] [] r3
structure Lay(env:Env)(mg mb:Str->Option Value)(c P bm:Addr)(h:Heap):Prop where
 m:HS env
 gl:env.globals=mainGlobals
 bi:env.builtins=builtinsNs
 g:h.Ns mainGlobals mg
 b:h.Ns builtinsNs mb
 lim:h.NoLimit
 code:env.code= .ref c
 bmv:mg "__builtins__"=some (.ref bm)
 bmo:∃o,h.get? bm=some o/\o.cls= .type "module"/\o.dict=some builtinsNs/\o.data= .plain
 bn:bm≠builtinsNs
 Pn:P≠mainGlobals/\P≠builtinsNs/\P≠cStatics/\P≠bm/\P≠c
 names:mg "frozenset"=none/\mg "range"=none/\mg "chr"=none/\mb "frozenset"=some (.type "frozenset")/\mb "range"=some (.type "range")/\mb "chr"=some (.builtin "chr")
theorem Lay.keeps{env:Env}{c P bm:Addr}{h h':Heap}(L:Lay env mg mb c P bm h)(hk:∀b o,b≠P->h.get? b=some o->h'.get? b=some o):Lay env mg mb c P bm h':=
 {L with
  g:=L.g.at' fun o e=>hk _ o L.Pn.1.symm e
  b:=L.b.at' fun o e=>hk _ o L.Pn.2.1.symm e
  lim:=let⟨mc,a,r⟩:=L.lim;⟨mc,a.at' fun o e=>hk _ o L.Pn.2.2.1.symm e,r⟩
  bmo:=let⟨o,a,r⟩:=L.bmo;⟨o,hk _ o L.Pn.2.2.2.1.symm a,r⟩}
theorem NO{env:Env}{c P bm:Addr}{ps:Array Value}{px p1 p2 p3 pos r1 r2 r3:Pos}{scope:Scope}{Q:aa}(hh:A.handled=none)(lR:A.depth<recursionLimit)
  (L:Lay env mg mb c P bm s.heap) (Am:s.heap.IsCode c P ps) (D_:s.heap.TableAt c P ps) (Oz:codeAmong pos ps.toList=none) (oR:s.gens= #[])
  (hk:scope.kind= .function) (Kf:scope.isCoroutine=false) (rH:scope.freeNames=[]) (wI:closureFor scope env=pure []) (zu:∀y∈scope.names,y.2≠ .cell) (h0:scope.names.lookup (".0":Str)=some NameKind.local) (h1:scope.names.lookup ("chr":Str)=some .globalImplicit) (h2:scope.names.lookup ("i":Str)=some .local)
  (hQ:∀h' tk gens,h'.objs.size=s.heap.objs.size+7->h'.get? P=some {cls:=.none,data:=.fields (ps++ #[rawInt pos.line,rawInt pos.col,.ref (s.heap.objs.size+4)])}->
   (∀b o,b≠P->s.heap.get? b=some o->h'.get? b=some o)->(∀A':Around,A'.handled=none->lT prog w A' mg mb (s.heap.objs.size+6) (s.heap.objs.size+5) (s.heap.objs.size+1) 0 {s with heap:=h',toks:=tk,gens:=gens})->
   Q (.ref (s.heap.objs.size+6)) {s with heap:=h',toks:=tk,gens:=gens}):
  wpAny (model prog w) A (eval (.GeneratorExp (uU p1 p2 p3) [⟨.Name "i" px,Gv r1 r2 r3,[],0⟩] scope pos) env) Q E s:=by
 have hg:s.heap.Ns env.globals mg:=by(refine iR L.gl ?_);exact L.g
 have hb:s.heap.Ns env.builtins mb:=by(refine iR L.bi ?_);exact L.b
 refine wpAny_GeneratorExp_make Kf wI zu h0 hk lR ?_ (fun x=>rfl);refine zz (T:="range") rfl L.m hg hb L.names.2.1 L.names.2.2.2.2.1 <| wpAny_Constant_int <| call_range_1 <| wpAny_pyIter_range (IsRange.new _ _ _ _ _ _ _) (by decide) ?_
 generalize ZR:(s.heap.push _).push _=H2;have yJ:H2.objs.size=s.heap.objs.size+2:=by(refine jC (ZR ..) ?_;refine iR (bK ..) ?_;refine iR (bK ..) ?_;exact rfl)
 have w7:∀b o,s.heap.get? b=some o->H2.get? b=some o:=fun b o e=>ZR▸az _ (az _ e);have aaB:IsRangeIter H2 (s.heap.objs.size+1) ((0:Nat):Int) ((32:Int)-(0:Nat)) 1:=by
  rw[<-ZR,show s.heap.objs.size+1=(s.heap.push _).objs.size from(bK _ _).symm];exact aF _ rfl
 have L2:=L.keeps (h':=H2) fun b o ζ e=>w7 b o e;refine⟨L2.lim,Dp (s:={s with heap:=H2,toks:=_}) L.code (Am.keeps w7) (D_.keeps w7) Oz rH fun h3 HD SW hP3 OU=> ?_⟩;have WB:h3.objs.size=s.heap.objs.size+5:=by(refine iR SW ?_);refine(?_:H2.objs.size+3=_);(refine iR yJ ?_;exact rfl)
 have TA:∀b o,b≠P->H2.get? b=some o->h3.get? b=some o:=OU;have L3:=L2.keeps (h':=h3) TA;refine Zb L3.bmo fun bo YB hb1 S9 hb3=>wpAny_builtinsFor (s:={s with heap:=h3,toks:=HD}) (bm:=bm) (iR L.gl L3.g) L.bmv L.bn YB hb1 S9 hb3 ?_;intro h4 hn4 hs4;refine(?_:Q (.ref h4.objs.size) _);have Zj:h4.objs.size=s.heap.objs.size+6:=by(refine iR (hs4.1 ..) ?_;refine iR (bK ..) ?_);refine(?_:h3.objs.size+1=_);(refine iR WB ?_;exact rfl)
 have ZP:P<s.heap.objs.size:=Am.lt.2;have hC:h3.objs.size=s.heap.objs.size+5:=WB;have ZC:∀b o,h3.get? b=some o->h4.get? b=some o:=fun b o e=>(hs4.2 b (cC (bF e))).trans (az _ e);refine iR Zj ?_;have jS:∀b o,s.heap.get? b=some o->b<s.heap.objs.size:=fun b o e=>bF e;refine Ov (id L.g) fun og ζ ζ Kd ζ=>Ov (id L.b) fun ob ζ ζ aaJ ζ=>hQ _ _ _ (iR (bK ..) <| iR (Zj ..) rfl) ?_ (fun b o ZK e=>az _ (ZC b o (TA b o ZK (w7 b o e)))) fun A' hA'=> ?_
 ·have e1:=ZC P _ hP3;simp only[(by(refine iR yJ ?_;exact rfl):H2.objs.size+2=s.heap.objs.size+4)]at e1;exact az _ e1
 ·have lS:cStatics<s.heap.objs.size:=by(refine jm L.lim fun ζ z1 ζ=> ?_;obtain⟨o,_,_,ho,_⟩:=z1);exact jS _ _ ho
  have lG:mainGlobals<s.heap.objs.size:=jS _ _ Kd;have lB:builtinsNs<s.heap.objs.size:=jS _ _ aaJ;have k5:∀b o,h3.get? b=some o->(h4.push {cls:=.type "generator",data:=.fields #[.int s.gens.size 0,.str "<genexpr>" (HD+1),.str (env.qual++"<genexpr>") (HD+1+1)]}).get? b=some o:=fun b o e=>az _ (ZC b o e);have L5:=L3.keeps fun b o ζ e=>k5 b o e;have VS:s.gens.size=0:=by(refine iR oR ?_);rfl
  have gx:(h4.push {cls:=.type "generator",data:=.fields #[.int s.gens.size 0,.str "<genexpr>" (HD+1),.str (env.qual++"<genexpr>") (HD+1+1)]}).get? (s.heap.objs.size+6)=some {cls:=.type "generator",data:=.fields #[.int s.gens.size 0,.str "<genexpr>" (HD+1),.str (env.qual++"<genexpr>") (HD+1+1)]}:=by(refine jC Zj ?_);exact aF _ rfl
  have Zv:∃m,(h4.push {cls:=.type "generator",data:=.fields #[.int s.gens.size 0,.str "<genexpr>" (HD+1),.str (env.qual++"<genexpr>") (HD+1+1)]}).Ns h3.objs.size m:=⟨_,hn4.at' fun o e=>az _ e⟩
  replace Zv:=hC▸Zv
  refine lT.fresh (env:=env) (px:=px) (p1:=p1) (p2:=p2) (p3:=p3) (pos:=pos) (iter:=Gv r1 r2 r3) (scope:=scope) (code:=.ref (H2.objs.size+2)) hA' hk Kf h1 h2 L.gl L.names.2.2.1 L.names.2.2.2.2.2
   ⟨qR (by decide),qR (by decide),qR (by decide),oN lG,oN lB,oN lS,oN lG,oN lB,oN lS⟩ ?_ L5.lim ⟨(k5 _ _ (TA _ _ (oN ZP) aaB):IsRangeIter _ (s.heap.objs.size+1) ((0:Nat):Int) ((32:Int)-(0:Nat)) 1),Zv,L5.g,L5.b⟩ (by(simp[VS])) ?_
  ·exact⟨_,.str "<genexpr>" (HD+1),.str (env.qual++"<genexpr>") (HD+1+1),gx,rfl,by(refine iR VS ?_;exact rfl),rfl⟩
  ·refine iR oR <| (?_:some (GenState.fresh (.compStart _ 0 (.ref (s.heap.push {cls:=.type "range",data:=.fields #[.int 0 (s.toks+1),.int 32 s.toks,.int 1 (s.toks+1+1)]}).objs.size) .none (genEnv scope [] h3.objs.size _ _ env)))=some _)
   exact iR (bK ..) <| iR (hC ..) rfl
end
section
variable{prog:Program}{w:World}{A:Around}{E:aa}{s:Shared}{mg mb:Str->Option Value}{env:Env}{c P bm:Addr}
theorem KW{h:Heap}{a:Addr}{m:Str->Option Value}(n:h.Ns a m):a<h.objs.size:=let⟨_,_,_,ho,_⟩:=n;bF ho
theorem lT.keeps{a C I:Addr}{i:Nat}{h':Heap}{tk:Nat}(L:lT prog w A mg mb a C I i s)(hk:∀b o,s.heap.get? b=some o->h'.get? b=some o):lT prog w A mg mb a C I i {s with heap:=h',toks:=tk}:=
 ⟨L.gen.keeps hk,let⟨mc,a,r⟩:=L.lim;(jt mc (a.at' fun o e=>hk _ o e) r),⟨hk _ _ L.F.it,let⟨m,hm⟩:=L.F.ns;⟨m,hm.at' fun o e=>hk _ o e⟩,L.F.g.at' fun o e=>hk _ o e,L.F.b.at' fun o e=>hk _ o e⟩,L.one,L.go⟩
theorem Nt{ps:Array Value}{px p1 p2 p3 pos r1 r2 r3 np cp:Pos}{scope:Scope}{Q:aa}(hh:A.handled=none)(lR:A.depth<recursionLimit)
  (L:Lay env mg mb c P bm s.heap) (Am:s.heap.IsCode c P ps) (D_:s.heap.TableAt c P ps) (Oz:codeAmong pos ps.toList=none) (oR:s.gens= #[])
  (hk:scope.kind= .function) (Kf:scope.isCoroutine=false) (rH:scope.freeNames=[]) (wI:closureFor scope env=pure []) (zu:∀y∈scope.names,y.2≠ .cell) (h0:scope.names.lookup (".0":Str)=some NameKind.local) (h1:scope.names.lookup ("chr":Str)=some .globalImplicit) (h2:scope.names.lookup ("i":Str)=some .local)
  (hQ:∀h' tk ks,h'.objs.size=s.heap.objs.size+12->h'.get? P=some {cls:=.none,data:=.fields (ps++ #[rawInt pos.line,rawInt pos.col,.ref (s.heap.objs.size+4)])}->
   (∀b o,b≠P->s.heap.get? b=some o->h'.get? b=some o)->iV (PySem.strKind prog w) "frozenset" h' (s.heap.objs.size+7) ks->(∀j,j∈ks↔ ∃c,c<32/\j=⟨#[c]⟩)->ks.length<=32->
   Q (.ref (s.heap.objs.size+7)) {s with heap:=h',toks:=tk,gens:= #[.finished]}):
  wpAny (model prog w) A (eval (.Call (.Name "frozenset" np) [.GeneratorExp (uU p1 p2 p3) [⟨.Name "i" px,Gv r1 r2 r3,[],0⟩] scope pos] [] cp) env) Q E s:=by
 refine zz (T:="frozenset") rfl L.m (iR L.gl L.g) (iR L.bi L.b) L.names.1 L.names.2.2.2.1 ?_;refine NO (c:=c) (P:=P) (bm:=bm) (ps:=ps) hh lR L Am D_ Oz oR hk Kf rH wI zu h0 h1 h2 fun t9 HE Lh DY YE Ka Sl=> ?_;have live:=Sl A hh;have ZP:P<s.heap.objs.size:=Am.lt.2;have lS:cStatics<s.heap.objs.size:=by refine jm L.lim fun ζ n ζ=> ?_;exact KW n
 have lG:mainGlobals<s.heap.objs.size:=KW L.g;have lB:builtinsNs<s.heap.objs.size:=KW L.b;refine yq (T:="generator") (s:={s with heap:=t9,toks:=HE,gens:=Lh}) live.gen.typeIs (fun o=>(live.keeps (h':=t9.push o) (tk:=HE) fun b o' e=>az _ e).gen.typeIs) (by decide) (by(refine iR (cu ..) ?_);kernel_rfl) (by(refine iR (cu ..) ?_);kernel_rfl) (by decide) fun led=> ?_;have Tu:({s with heap:=t9,toks:=HE,gens:=Lh}:Shared).heap.objs.size=s.heap.objs.size+7:=DY;refine iR Tu ?_;have Sd:=(Sl A.in1.in1.in1 hh).keeps (h':=t9.push (jl "frozenset" #[] 0 (.fresh 0 0 led))) (tk:=HE) fun b o' e=>az _ e;refine wpAny_pyIter_gen Sd.gen ?_;have wj:=ym (PySem.strKind prog w) "frozenset" t9 led
 replace wj:=DY▸wj
 refine NY (A:=A.in1.in1) (T:="frozenset") (sa:=s.heap.objs.size+7) hh lR ⟨qR (by decide),qR (by decide),qR (by decide),oN lG,oN lB,oN lS,oN lG,oN lB,oN lS⟩ (Zf (qR (by decide)) (qR (by decide)) (qR (by decide)) (oN lG) (oN lB) (oN lS))
  32 0 {s with heap:=t9.push (jl "frozenset" #[] 0 (.fresh 0 0 led)),toks:=HE,gens:=Lh} [] rfl Sd wj (c9 _) (fun j=>by simp) fun h2 ks uK yJ w7 H hm hl=> ?_
 have WJ:∀b o,b<s.heap.objs.size->t9.get? b=some o->h2.get? b=some o:=fun b o hb e=>w7 b o (Ep hb) (Ep hb) (Ep hb) (az _ e);refine⟨H.typeIs (s:={s with heap:=h2,toks:=uK,gens:= #[.finished]}),hQ h2 uK ks ?_ (WJ P _ ZP YE) (fun b o ZK e=>WJ b o (bF e) (Ka b o ZK e)) H hm hl⟩;exact iR (yJ ..) <| iR (bK ..) <| iR (DY ..) rfl
theorem UZ{Q:aa}{np p1 cp:Pos}(L:Lay env mg mb c P bm s.heap)(h:Q (.str ⟨#[127]⟩ (s.toks+1)) {s with toks:=s.toks+1+1}):
  wpAny (model prog w) A (eval (.Call (.Name "chr" np) [.Constant (.int 127) 0 p1] [] cp) env) Q E s:=by
 refine U0 rfl L.m (iR L.gl L.g) (iR L.bi L.b) L.names.2.2.1 L.names.2.2.2.2.2 ?_;exact wpAny_Constant_int <| PyProof.Rows.chr_of_range (by decide) (by decide) h
end
end
section
open PySem PySem.W PyProof.Rows
open Builtin
noncomputable def kq (w:World) (os:OsState) (a:Nat):Obj:=((T0 w os).get a).getD default
structure Md(w:World)(os:OsState)(o3 jm:Obj)(n:Nat)(s:Shared):Prop where
 size:s.heap.objs.size=n
 ns:s.heap.get? 3=some o3
 tab:s.heap.get? 12=some jm
 old:∀b,b<170->b≠3->b≠12->s.heap.get? b=(T0 w os).get b
noncomputable def KX(T:String)(o:Option Value):Bool:=decide (o=some (.type T))
noncomputable def Si(T:String)(o:Option Value):Bool:=decide (o=some (.builtin T))
noncomputable def LG(o:Option Value):Bool:=decide (o=some (.ref 4))
noncomputable def kF (o:Obj):Bool:=rK o&&(nsLook o "frozenset").isNone&&(nsLook o "range").isNone&&(nsLook o "chr").isNone&&LG (nsLook o "__builtins__")
noncomputable def GL (o:Obj):Bool:=rK o&&KX "frozenset" (nsLook o "frozenset")&&KX "range" (nsLook o "range")&&Si "chr" (nsLook o "chr")
noncomputable def Pe (o:Obj):Bool:=decide (o.cls= .type "module")&&decide (o.dict=some 0)&&o.data.ctorIdx==0
noncomputable def GA (o:Obj):Bool:=rK o&&(nsLook o "sys.recursionlimit").isNone
noncomputable def Eu (o:Obj):Bool:=decide (o.cls= .type "code")&&(wL o.data).elim false fun vs=>decide (vs[11]? =some (.ref 12))&&decide (vs.getD 11 .none= .ref 12)&&(vs.getD 18 .none).ctorIdx==6&&(vs.getD 7 .none).ctorIdx==4&&(vs.getD 9 .none).ctorIdx==3&&(vs.getD 10 .none).ctorIdx==4
noncomputable def sF (o:Obj):Array Value:=(wL o.data).getD #[]
noncomputable def AB:List Value->Bool
 |[]=>true
 |a::b::_::rest=>a.ctorIdx==4&&b.ctorIdx==4&&AB rest
 |_=>false
theorem zE:∀l,AB l=true->TriplesOk l
 |[],_=>trivial
 |a::b::c::rest,h=>by
  have h:(a.ctorIdx==4&&b.ctorIdx==4&&AB rest)=true:=h;refine lP (aZ.mp h) fun h h3=>lP (aZ.mp h) fun h1 h2=>J_ (AJ h1) fun i t e=>J_ (AJ h2) fun j u f=> ?_;subst e;subst f;exact zE rest h3
noncomputable def Gs (pos:Pos) (o:Obj):Bool:=decide (o.cls= .none)&&o.dict.isNone&&((wL o.data).elim false fun vs=>AB vs.toList&&(codeAmong pos vs.toList).isNone)&&o.slots.isEmpty
noncomputable def qU:Str:=Str.ofString "0123456789"++Str.ofString "abcdef"++Str.ofString "ABCDEF"
noncomputable def n1 (w:World) (os:OsState) (t1:Nat):Obj:=lU w "ASCII_CTRL" t1 (.ref 186) (kq w os 3)
noncomputable def n2 (w:World) (os:OsState) (t1 t2:Nat):Obj:=lU w "ILLEGAL_BASIC_STR_CHARS" t2 (.ref 191) (n1 w os t1)
noncomputable def n3 (w:World) (os:OsState) (t1 t2 t3:Nat):Obj:=lU w "ILLEGAL_LITERAL_STR_CHARS" t3 (.ref 191) (n2 w os t1 t2)
noncomputable def n4 (w:World) (os:OsState) (t1 t2 t3 t4:Nat):Obj:=lU w "TOML_WS" t4 (.ref 192) (n3 w os t1 t2 t3)
noncomputable def n5 (w:World) (os:OsState) (t1 t2 t3 t4 t5:Nat) (d:Tok):Obj:=lU w "digits" t5 (.str "0123456789" d) (n4 w os t1 t2 t3 t4)
noncomputable def n6 (w:World) (os:OsState) (t1 t2 t3 t4 t5 t6:Nat) (d e:Tok):Obj:=lU w "hexdigits" t6 (.str qU e) (n5 w os t1 t2 t3 t4 t5 d)
noncomputable def n7 (w:World) (os:OsState) (t1 t2 t3 t4 t5 t6 t7:Nat) (d e:Tok):Obj:=lU w "HEXDIGIT_CHARS" t7 (.ref 196) (n6 w os t1 t2 t3 t4 t5 t6 d e)
noncomputable def AS (o:Obj):Bool:=o.data.ctorIdx !=10
noncomputable def AH (w:World) (os:OsState) (t1 t2 t3 t4 t5 t6:Nat) (d e:Tok):Bool×Option Value×Option Value×Option Value×Option Value:=
 (GL (kq w os 0)&&(GA (kq w os 2)&&(Pe (kq w os 4)&&(kF (kq w os 3)&&(Eu (kq w os 13)&&(Gs ⟨201,23,201,50⟩ (kq w os 12)&&(((List.range 170).all fun b=>((T0 w os).get b).isSome)&&(((List.range 170).all fun b=>AS (kq w os b))&&
  (kF (n1 w os t1)&&(kF (n2 w os t1 t2)&&(kF (n3 w os t1 t2 t3)&&(kF (n4 w os t1 t2 t3 t4)&&(kF (n5 w os t1 t2 t3 t4 t5 d)&&kF (n6 w os t1 t2 t3 t4 t5 t6 d e))))))))))))),
  nsLook (n1 w os t1) "ASCII_CTRL",nsLook (n2 w os t1 t2) "ILLEGAL_BASIC_STR_CHARS",nsLook (n5 w os t1 t2 t3 t4 t5 d) "digits",nsLook (n6 w os t1 t2 t3 t4 t5 t6 d e) "hexdigits")
noncomputable def WA(f:Nat->Obj):Nat->Nat->BT->BT
 |0,_,t=>t
 |k+1,n,t=>WA f k (n+1) (t.ins n (f n))
noncomputable def T2 (w:World) (os:OsState) (a b:Obj) (f:Nat->Obj):BT:=WA f 30 170 (((T0 w os).set 3 (fun ζ=>a)).set 12 (fun ζ=>b))
noncomputable def HK (w:World) (os:OsState):Obj:={cls:=.none,data:=.fields (sF (kq w os 12)++ #[rawInt 201,rawInt 23,.ref 174])}
noncomputable def freeNames:List Str:=["len","range","list","sum","max","min","all","ord","chr","int","isinstance","issubclass","type","frozenset","tuple","map","reversed","enumerate","str","bytes"]
noncomputable def Wx:List Str:=importedModules pq.main.body
noncomputable def looks (Pj:Heap) (s:Shared):=
 (staticsOk Wx Pj s.heap&&namesBound pq s.heap&&gensDone s&&laidKept Pj s.heap,
  PyProof.Rows.seen ((recsOf pq).map (·.name)) [] [] {s with gens:= #[]},
  s.heap.bltView,
  s.heap.accountedOkI Wx&&s.heap.isNs mainGlobals&&s.heap.isNs builtinsNs&&s.heap.bmainOk&&freeNames.all (fun x=>(s.heap.nsMap mainGlobals x).isNone),
  s.heap.nsMap mainGlobals "TOML_WS",s.heap.nsMap mainGlobals "ILLEGAL_LITERAL_STR_CHARS",s.heap.nsMap mainGlobals "HEXDIGIT_CHARS",
  s.heap.objs[191]?, s.heap.objs[192]?, s.heap.objs[196]?,
  [0,1,4,5,7,8,9,10].map (fun b=>s.heap.objs[b]?))
noncomputable def nT (Pj:Heap) (f:Nat->Obj):=
 (true,expectedOf pq,bltViewBooted,true,some (Value.ref 192),some (Value.ref 191),some (Value.ref 196),some (f 191),some (f 192),some (f 196),[0,1,4,5,7,8,9,10].map (fun b=>Pj.objs[b]?))
theorem wX(w:World)(os:OsState)(t1 t2 t3 t4 t5 t6 t7:Nat)(d e:Tok)(a b:Obj)(f:Nat->Obj)(toks:Nat)(life:Life)(os2:OsState)(p':Pos):
 (Th w os,AH w os t1 t2 t3 t4 t5 t6 d e,((List.range 200).map fun i=>(T2 w os a b f).get i),
  (segRunT treeTable pq w 11 (some (.ref 6)) 1 3000 {tree:=T2 w os (n7 w os t1 t2 t3 t4 t5 t6 t7 d e) (HK w os) f,n:=200,life:=life,gens:= #[.finished],drawn:={},toks:=toks,os:=os2} (piecesOf (qY 32 55) pA oS p' [topFrame q0])).map
   (fun r=>(r.1,r.2.2.1,r.2.1.n,r.2.1.life,r.2.1.gens,r.2.1.drawn,r.2.1.os,looks (boot_heap w.params) r.2.1.abs)))=
 (some (Flow.next,Cm w os,oS,{line:=200,col:=0,endLine:=200,endCol:=8}),(true,some (.ref 186),some (.ref 191),some (.str "0123456789" d),some (.str qU e)),((List.range 200).map fun i=>cond (Nat.beq i 3) (some a) (cond (Nat.beq i 12) (some b) (cond (Nat.blt i 170) ((T0 w os).get i) (some (f i))))),some (Flow.next,oS,346,life,#[.finished],{},os2,nT (boot_heap w.params) f)):=by
 delta Cm AH T2 n7 n6 n5 n4 n3 n2 n1 HK kq;(refine iR (XZ ..) ?_);kernel_rfl
theorem Qj(w:World)(os:OsState):Th w os=some (Flow.next,Cm w os,oS,{line:=200,col:=0,endLine:=200,endCol:=8}):=aQ Prod.fst (wX w os 0 0 0 0 0 0 0 default default default default (fun ζ=>default) 0 {} os q0)
theorem qG(w os t1 t2 t3 t4 t5 t6 d e):AH w os t1 t2 t3 t4 t5 t6 d e=(true,some (.ref 186),some (.ref 191),some (.str "0123456789" d),some (.str qU e)):=aQ (fun x=>x.2.1) (wX w os t1 t2 t3 t4 t5 t6 0 d e default default (fun ζ=>default) 0 {} os q0)
theorem RG(w:World)(os:OsState)(a b:Obj)(f:Nat->Obj):((List.range 200).map fun i=>(T2 w os a b f).get i)=(List.range 200).map fun i=>cond (Nat.beq i 3) (some a) (cond (Nat.beq i 12) (some b) (cond (Nat.blt i 170) ((T0 w os).get i) (some (f i)))):=aQ (fun x=>x.2.2.1) (wX w os 0 0 0 0 0 0 0 default default a b f 0 {} os q0)
theorem aaV{a b:Bool}{P:Prop}(h:(a&&b)=true)(k:b=true->P):a=true/\P:=⟨(aZ.mp h).1,k (aZ.mp h).2⟩
section
variable(w:World)(os:OsState)(t1 t2 t3 t4 t5 t6:Nat)(d e:Tok)
theorem xq:GL (kq w os 0)=true/\GA (kq w os 2)=true/\Pe (kq w os 4)=true/\kF (kq w os 3)=true/\Eu (kq w os 13)=true/\Gs ⟨201,23,201,50⟩ (kq w os 12)=true/\((List.range 170).all fun b=>((T0 w os).get b).isSome)=true/\((List.range 170).all fun b=>AS (kq w os b))=true/\
  kF (n1 w os t1)=true/\kF (n2 w os t1 t2)=true/\kF (n3 w os t1 t2 t3)=true/\kF (n4 w os t1 t2 t3 t4)=true/\kF (n5 w os t1 t2 t3 t4 t5 d)=true/\kF (n6 w os t1 t2 t3 t4 t5 t6 d e)=true:=by
 have h:=aQ Prod.fst (qG w os t1 t2 t3 t4 t5 t6 d e);unfold AH at h;dsimp only at h
 iterate 12 refine aaV h fun h=> ?_
 exact aZ.mp h
noncomputable abbrev rL(w:World)(os:OsState):=xq w os 0 0 0 0 0 0 default default
theorem Nx:GL (kq w os 0)=true:=(rL w os).1
theorem Nv:GA (kq w os 2)=true:=(rL w os).2.1
theorem QD:Pe (kq w os 4)=true:=(rL w os).2.2.1
theorem CE:kF (kq w os 3)=true:=(rL w os).2.2.2.1
theorem Jp:Eu (kq w os 13)=true:=(rL w os).2.2.2.2.1
theorem Nu:Gs ⟨201,23,201,50⟩ (kq w os 12)=true:=(rL w os).2.2.2.2.2.1
theorem mT(b:Nat)(h:b<170):((T0 w os).get b).isSome=true:=bZ.mp (rL w os).2.2.2.2.2.2.1 b (bH.mpr h)
theorem Nc(b:Nat)(h:b<170):AS (kq w os b)=true:=bZ.mp (rL w os).2.2.2.2.2.2.2.1 b (bH.mpr h)
theorem m1:kF (n1 w os t1)=true:=(xq w os t1 0 0 0 0 0 default default).2.2.2.2.2.2.2.2.1
theorem m2:kF (n2 w os t1 t2)=true:=(xq w os t1 t2 0 0 0 0 default default).2.2.2.2.2.2.2.2.2.1
theorem m3:kF (n3 w os t1 t2 t3)=true:=(xq w os t1 t2 t3 0 0 0 default default).2.2.2.2.2.2.2.2.2.2.1
theorem m4:kF (n4 w os t1 t2 t3 t4)=true:=(xq w os t1 t2 t3 t4 0 0 default default).2.2.2.2.2.2.2.2.2.2.2.1
theorem m5:kF (n5 w os t1 t2 t3 t4 t5 d)=true:=(xq w os t1 t2 t3 t4 t5 0 d default).2.2.2.2.2.2.2.2.2.2.2.2.1
theorem m6:kF (n6 w os t1 t2 t3 t4 t5 t6 d e)=true:=(xq w os t1 t2 t3 t4 t5 t6 d e).2.2.2.2.2.2.2.2.2.2.2.2.2
theorem v1:nsLook (n1 w os t1) "ASCII_CTRL"=some (.ref 186):=aQ (fun x=>x.2.1) (qG w os t1 0 0 0 0 0 default default)
theorem v2:nsLook (n2 w os t1 t2) "ILLEGAL_BASIC_STR_CHARS"=some (.ref 191):=aQ (fun x=>x.2.2.1) (qG w os t1 t2 0 0 0 0 default default)
theorem v5:nsLook (n5 w os t1 t2 t3 t4 t5 d) "digits"=some (.str "0123456789" d):=aQ (fun x=>x.2.2.2.1) (qG w os t1 t2 t3 t4 t5 0 d default)
theorem v6:nsLook (n6 w os t1 t2 t3 t4 t5 t6 d e) "hexdigits"=some (.str qU e):=aQ (fun x=>x.2.2.2.2) (qG w os t1 t2 t3 t4 t5 t6 d e)
end
theorem l_{w:World}{os:OsState}{a:Nat}(h:((T0 w os).get a).isSome=true):(T0 w os).get a=some (kq w os a):=by
 unfold kq;cases e:(T0 w os).get a with
 |none=>replace h:=e▸h;exact Bool.noConfusion h
 |some o=>rfl
theorem rJ{w:World}{os:OsState}{o3 jm:Obj}{n:Nat}{s:Shared}(M:Md w os o3 jm n s)(hm:kF o3=true):Lay pA (nsLook o3) (nsLook (kq w os 0)) 13 12 4 s.heap:=by
 have b0:=Nx w os;have b2:=Nv w os;have b4:=QD w os;simp only[kF,GL,GA,Pe,LG,KX,Si,aG,eV]at hm b0 b2 b4;refine⟨⟨rfl,rfl⟩,rfl,rfl,Gz M.ns hm.1.1.1.1,Gz ((M.old 0 (by decide) (by decide) (by decide)).trans (l_ (mT w os 0 (by decide))):s.heap.get? builtinsNs=some (kq w os 0)) b0.1.1.1,(jt _ (Gz ((M.old 2 (by decide) (by decide) (by decide)).trans (l_ (mT w os 2 (by decide))):s.heap.get? cStatics=some (kq w os 2)) b2.1) b2.2),rfl,o_ hm.2,(Yp _ ((M.old 4 (by decide) (by decide) (by decide)).trans (l_ (mT w os 4 (by decide))):s.heap.get? 4=some (kq w os 4)) ?_ ?_ ?_),by decide,(Zg (by decide) (by decide) (by decide) (by decide) (by decide)),
  hm.1.1.1.2,hm.1.1.2,hm.1.2,o_ b0.1.1.2,o_ b0.1.2,o_ b0.2⟩
 ·exact o_ b4.1.1
 ·exact o_ b4.1.2
 ·have h:=b4.2;generalize (kq w os 4).data=d at h|-;cases d with
  |plain=>rfl
  |_=>exact Bool.noConfusion h
theorem Rg{w:World}{os:OsState}{o3:Obj}{n:Nat}{s:Shared}(M:Md w os o3 (kq w os 12) n s):s.heap.IsCode 13 12 (sF (kq w os 12))/\s.heap.TableAt 13 12 (sF (kq w os 12))/\codeAmong ⟨201,23,201,50⟩ (sF (kq w os 12)).toList=none:=by
 have ZY:s.heap.get? 13=some (kq w os 13):=(M.old 13 (by decide) (by decide) (by decide)).trans (l_ (mT w os 13 (by decide)));have c:=Jp w os;have t:=Nu w os;have ZZ:=M.tab;generalize kq w os 13=uO at c ZY;generalize kq w os 12=jm at t ZZ;obtain⟨cls,dict,data,slots⟩:=jm;dsimp only[Gs]at t;simp only[aG]at t;obtain⟨⟨⟨t1,t2⟩,t3⟩,t4⟩:=t;obtain rfl:=o_ t1;have XD:dict=none:=by simpa using t2
 clear M t2 t1;subst XD;have UK:slots= #[]:=by simpa using t4
 clear t4;subst UK;refine jm (A_ t3) fun vs e t3=> ?_;obtain rfl:=Ae e;refine lP (aZ.mp t3) fun t31 Y7=> ?_;have Y7:=eV.mp Y7;refine lP (aZ.mp c) fun c0 c=>jm (A_ c) fun ws Vn c=> ?_;have hc:=o_ c0;have Vn:=Ae Vn;refine lP (aZ.mp c) fun c c6=>lP (aZ.mp c) fun c c5=>lP (aZ.mp c) fun c c4=>lP (aZ.mp c) fun c c3=>lP (aZ.mp c) fun c1 c2=>cps fun G_ z4=> ?_;obtain⟨f,ft,d3⟩:=Lu c3;obtain⟨g,gt,d4⟩:=AJ c4;obtain⟨b,d5⟩:=Rn c5;obtain⟨i,it,d6⟩:=AJ c6;exact z4 <| ⟨⟨uO,ws,f,ft,g,gt,b,i,it,_,ZY,Vn,o_ c2,d3,d4,d5,d6,ZZ,rfl,zE _ t31,by decide⟩,⟨(v9 uO ws ZY hc Vn (o_ c1)),ZZ⟩,Y7⟩
noncomputable def UR:Scope:={kind:=.function,names:=[(Str.ofString ".0",.local),(Str.ofString "i",.local),(Str.ofString "chr",.globalImplicit)],isGenerator:=true,isCoroutine:=false,more:=[]}
noncomputable def aaN:Expr:=.GeneratorExp (uU ⟨201,24,201,27⟩ ⟨201,28,201,29⟩ ⟨201,24,201,30⟩) [⟨.Name "i" ⟨201,35,201,36⟩,Gv ⟨201,40,201,45⟩ ⟨201,46,201,48⟩ ⟨201,40,201,49⟩,[],0⟩] UR ⟨201,23,201,50⟩
noncomputable def e25:Expr:=.BinOp (.Call (.Name "frozenset" ⟨201,13,201,22⟩) [aaN] [] ⟨201,13,201,51⟩) .BitOr (.Call (.Name "frozenset" ⟨201,54,201,63⟩) [.Call (.Name "chr" ⟨201,64,201,67⟩) [.Constant (.int 127) 0 ⟨201,68,201,71⟩] [] ⟨201,64,201,72⟩] [] ⟨201,54,201,73⟩) ⟨201,13,201,73⟩
noncomputable def e26:Expr:=.BinOp (.Name "ASCII_CTRL" ⟨202,26,202,36⟩) .Sub (.Call (.Name "frozenset" ⟨202,39,202,48⟩) [.Constant (.str "\t") 0 ⟨202,49,202,53⟩] [] ⟨202,39,202,54⟩) ⟨202,26,202,54⟩
noncomputable def e27:Expr:=.Name "ILLEGAL_BASIC_STR_CHARS" ⟨203,28,203,51⟩
noncomputable def e28:Expr:=.Call (.Name "frozenset" ⟨204,10,204,19⟩) [.Constant (.str " \t") 0 ⟨204,20,204,25⟩] [] ⟨204,10,204,26⟩
noncomputable def e29:Expr:=.Constant (.str "0123456789") 0 ⟨205,9,205,21⟩
noncomputable def e30:Expr:=.BinOp (.BinOp (.Name "digits" ⟨206,12,206,18⟩) .Add (.Constant (.str "abcdef") 0 ⟨206,21,206,29⟩) ⟨206,12,206,29⟩) .Add (.Constant (.str "ABCDEF") 0 ⟨206,32,206,40⟩) ⟨206,12,206,40⟩
noncomputable def e31:Expr:=.Call (.Name "frozenset" ⟨207,17,207,26⟩) [.Name "hexdigits" ⟨207,27,207,36⟩] [] ⟨207,17,207,37⟩
noncomputable def VJ:List Stmt:=[.Assign [.Name "ASCII_CTRL" ⟨201,0,201,10⟩] e25 ⟨201,0,201,73⟩,.Assign [.Name "ILLEGAL_BASIC_STR_CHARS" ⟨202,0,202,23⟩] e26 ⟨202,0,202,54⟩,.Assign [.Name "ILLEGAL_LITERAL_STR_CHARS" ⟨203,0,203,25⟩] e27 ⟨203,0,203,51⟩,
 .Assign [.Name "TOML_WS" ⟨204,0,204,7⟩] e28 ⟨204,0,204,26⟩,.Assign [.Name "digits" ⟨205,0,205,6⟩] e29 ⟨205,0,205,21⟩,.Assign [.Name "hexdigits" ⟨206,0,206,9⟩] e30 ⟨206,0,206,40⟩,.Assign [.Name "HEXDIGIT_CHARS" ⟨207,0,207,14⟩] e31 ⟨207,0,207,37⟩]
section
variable{w:World}{os:OsState}{A:Around}{E:aa}{s:Shared}
noncomputable abbrev Mq(w:World):Model:=model pq w
noncomputable abbrev J7(w:World):KeyKind pq w Str:=PySem.strKind pq w
theorem Md.keep{o3 jm:Obj}{n n':Nat}{h':Heap}{tk:Nat}{gens:Array GenState}(M:Md w os o3 jm n s)(hz:h'.objs.size=n')(hk:Kept s.heap h')(pT:∀b,b<170->((T0 w os).get b).isSome=true):Md w os o3 jm n' {s with heap:=h',toks:=tk,gens:=gens}:=
 ⟨hz,hk _ _ M.ns,hk _ _ M.tab,fun b hb h3 Gn=>(hk b _ ((M.old b hb h3 Gn).trans (l_ (pT b hb)))).trans (l_ (pT b hb)).symm⟩
theorem Md.put{o3 jm o':Obj}{n:Nat}{h':Heap}{tk:Nat}(M:Md w os o3 jm n s)(hz:h'.objs.size=s.heap.objs.size)(h3:h'.get? 3=some o')(hk:∀b,b≠3->h'.get? b=s.heap.get? b):Md w os o' jm n {s with heap:=h',toks:=tk}:=
 ⟨hz.trans M.size,h3,(hk 12 (by decide)).trans M.tab,fun b hb n3 Yl=>(hk b n3).trans (M.old b hb n3 Yl)⟩
end
noncomputable def ch(c:Nat):Str:=⟨#[c]⟩
noncomputable def J2:List Str:=(List.range 32).map ch++[ch 127]
theorem Jr:J2.Nodup:=by decide+kernel
theorem G7(j:Str):j∈J2↔(∃c,c<32/\j=ch c)\/j=ch 127:=by
 unfold J2;rw[bg,iE,aA];constructor
 ·rintro(⟨c,hc,rfl⟩|h)
  ·exact .inl (jt c (bH.mp hc) rfl)
  ·exact .inr h
 ·rintro(⟨c,hc,rfl⟩|h)
  ·exact .inl (jt c (bH.mpr hc) rfl)
  ·exact .inr h
section
variable{w:World}{os:OsState}{A:Around}{E:aa}{s:Shared}
theorem Md.kept{o3 jm:Obj}{n n':Nat}{h':Heap}{tk:Nat}{gens:Array GenState}(M:Md w os o3 jm n s)(hz:h'.objs.size=n')(hk:Kept s.heap h'):Md w os o3 jm n' {s with heap:=h',toks:=tk,gens:=gens}:=M.keep hz hk (mT w os)
theorem aad{Q:Flow->Shared->Prop}(hh:A.handled=none)(lR:A.depth<recursionLimit)(M:Md w os (kq w os 3) (kq w os 12) 170 s)(oR:s.gens= #[])
  (hQ:∀h' tk HF ks,Md w os (lU w "ASCII_CTRL" HF (.ref 186) (kq w os 3)) (HK w os) 187 {s with heap:=h',toks:=tk,gens:= #[.finished]}->iV (J7 w) "frozenset" h' 186 ks->(∀j,j∈ks↔j∈J2)->Q .next {s with heap:=h',toks:=tk,gens:= #[.finished]}):
  wpAny (Mq w) A (exec (.Assign [.Name "ASCII_CTRL" ⟨201,0,201,10⟩] e25 ⟨201,0,201,73⟩) pA) Q E s:=by
 have L:=rJ M (CE w os);refine w4 (Rg M) fun Am D_ Oz=> ?_;have hz:=M.size;refine m7 L.m (by kernel_rfl) (by first|rfl|kernel_rfl) (by first|rfl|kernel_rfl) <| wpAny_BinOp <| Nt (c:=13) (P:=12) (bm:=4) hh lR L Am D_ Oz oR rfl rfl (by decide+kernel) (by rfl) (by decide+kernel) (by decide+kernel) (by decide+kernel) (by decide+kernel) fun h1 HE k1 DY YE Ka H1 VP OS=> ?_
 rw[hz]at DY YE H1|-;have L1:=L.keeps Ka;refine zz (T:="frozenset") (s:={s with heap:=h1,toks:=HE,gens:= #[.finished]}) rfl L1.m L1.g L1.b L1.names.1 L1.names.2.2.2.1 <| UZ (s:={s with heap:=h1,toks:=HE,gens:= #[.finished]}) L1 <| sE (s:={s with heap:=h1,toks:=HE+1+1,gens:= #[.finished]}) hh (by decide+kernel) (by decide) fun h2 k2 uK yJ w7 H2 yK uP=> ?_
 have Tu:({s with heap:=h1,toks:=HE+1+1,gens:= #[.finished]}:Shared).heap.objs.size=182:=DY;rw[Tu]at yJ H2|-;have c2:∀j,j∈k2↔j=ch 127:=fun j=>by
  rw[yK j];exact⟨fun⟨c,hc,e⟩=>by replace e:=(aA.mp hc)▸e;exact e,fun e=>⟨127,by(trivial),e⟩⟩
 refine XG (s:={s with heap:=h2,toks:=uK,gens:= #[.finished]}) (H1.keep fun o e=>w7 _ o e) H2 (by have:k2.length<=1:=uP;(lia)) (fun e=>by
   have:=(VP ⟨#[0]⟩).mpr (jt (0) (by decide) rfl)
   replace this:=(e)▸this;(exact nomatch this)) fun h3 k3 SW OU Zx H3=> ?_
 have Tt:({s with heap:=h2,toks:=uK,gens:= #[.finished]}:Shared).heap.objs.size=186:=yJ;rw[Tt]at H3|-;have old:∀b o,b≠12->s.heap.get? b=some o->h3.get? b=some o:=fun b o hb e=>OU _ _ (w7 _ _ (Ka b o hb e));refine(sY (kq w os 3) (old 3 _ (by decide) M.ns) (by have:=CE w os;simp only[kF,aG]at this;exact this.1.1.1.1) (fun h4 z4 e4 k4=>hQ h4 (uK+1) uK k3 ⟨z4.trans (by(refine iR (SW) ?_);refine(?_:h2.objs.size+1=_);(refine iR (yJ) ?_;exact rfl):h3.objs.size=187),e4,?_,fun b hb n3 Yl=> ?_⟩ (H3.at (k4 186 (by decide))) fun j=> ?_))
 ·exact(k4 12 (by decide)).trans (OU _ _ (w7 _ _ YE))
 ·have DU:=l_ (mT w os b hb);exact(k4 b n3).trans ((old b _ Yl ((M.old b hb n3 Yl).trans DU)).trans DU.symm)
 ·rw[Zx j,c2 j,G7,VP j];rfl
theorem sq{o:Obj}(h:kF o=true):rK o=true:=by simp only[kF,aG]at h;exact h.1.1.1.1
theorem Pb{n:Nat}{o3 jm:Obj}{x:Str}{pos:Pos}{v:Value}{Q:aa}(M:Md w os o3 jm n s)(hm:kF o3=true)(hv:nsLook o3 x=some v)(h:Q v s)(hd:(x==("__debug__":Str))=false:=by decide):wpAny (Mq w) A (eval (.Name x pos) pA) Q E s:=
 Calls.Name_module rfl rfl (gr (rJ M hm).g hv h) hd
theorem aac{o3 jm:Obj}{ks:List Str}{Q:Flow->Shared->Prop}(hh:A.handled=none)(M:Md w os o3 jm 187 s)(hm:kF o3=true)(hv:nsLook o3 "ASCII_CTRL"=some (.ref 186))(H:iV (J7 w) "frozenset" s.heap 186 ks)(OT:∀j,j∈ks↔j∈J2)
  (hQ:∀h' tk HF ks,Md w os (lU w "ILLEGAL_BASIC_STR_CHARS" HF (.ref 191) o3) jm 192 {s with heap:=h',toks:=tk}->iV (J7 w) "frozenset" h' 191 ks->(∀j,j∈ks↔j∈J2/\j≠ch 9)->Q .next {s with heap:=h',toks:=tk}):
  wpAny (Mq w) A (exec (.Assign [.Name "ILLEGAL_BASIC_STR_CHARS" ⟨202,0,202,23⟩] e26 ⟨202,0,202,54⟩) pA) Q E s:=by
 have L:=rJ M hm;refine m7 L.m (by kernel_rfl) (by first|rfl|kernel_rfl) (by first|rfl|kernel_rfl) <| wpAny_BinOp (Pb M hm hv (zz (T:="frozenset") rfl L.m L.g L.b L.names.1 L.names.2.2.2.1 (gJ (sE (s:={s with toks:=s.toks+1}) hh (by decide+kernel) (by decide) fun h2 k2 uK yJ w7 H2 yK uP=> ?_))))
 have DY:({s with toks:=s.toks+1}:Shared).heap.objs.size=187:=M.size;rw[DY]at yJ H2|-;have c2:∀j,j∈k2↔j=ch 9:=fun j=>by
  rw[yK j];exact⟨fun⟨c,hc,e⟩=>by rw[show(Str.ofString "\t").cps.toList=[9]from by decide+kernel,aA]at hc;rw[hc]at e;exact e,fun e=>⟨9,by rw[show(Str.ofString "\t").cps.toList=[9]from by decide+kernel];simp,e⟩⟩
 have OS:k2.length<=1:=uP;have Ka:k2=[ch 9]:=by
  cases hk:k2 with
  |nil=>have:=(c2 (ch 9)).mpr rfl;rw[hk]at this;cases this
  |cons a r=>
   rw[hk]at OS;have:r=[]:=cy (by simp at OS;simpa using OS);clear hh hv L yK uP DY OS;refine iR this ?_;rw[(c2 a).mp (by rw[hk];simp)]
 clear hh hv L yK uP DY c2 OS;subst Ka;have n1:ks.length<=J2.length:=qE H.nodup fun x hx=>(OT x).mp hx;have n2:J2.length<=ks.length:=qE Jr fun x hx=>(OT x).mpr hx;have n3:J2.length=33:=by decide+kernel
 refine US (s:={s with heap:=h2,toks:=uK}) (H.keep fun o e=>w7 _ o e) H2 (by lia) (by lia) fun h3 k3 SW OU Zx H3=> ?_;have Tt:({s with heap:=h2,toks:=uK}:Shared).heap.objs.size=191:=yJ;rw[Tt]at H3|-;have M3:Md w os o3 jm 192 {s with heap:=h3,toks:=uK}:=M.kept (by rw[SW];refine(?_:h2.objs.size+1=_);rw[yJ]:h3.objs.size=192) fun b o e=>OU _ _ (w7 _ _ e);refine⟨o3,M3.ns,sq hm,fun h4 z4 e4 k4=>hQ h4 (uK+1) uK k3 (M3.put (h':=h4) (tk:=uK+1) z4 e4 k4) (H3.at (k4 191 (by decide))) fun j=> ?_⟩;rw[Zx j,OT j]
theorem aab{o3 jm:Obj}{Q:Flow->Shared->Prop}(M:Md w os o3 jm 192 s)(hm:kF o3=true)(hv:nsLook o3 "ILLEGAL_BASIC_STR_CHARS"=some (.ref 191))
  (hQ:∀h' tk HF,Md w os (lU w "ILLEGAL_LITERAL_STR_CHARS" HF (.ref 191) o3) jm 192 {s with heap:=h',toks:=tk}->(∀b,b≠3->h'.get? b=s.heap.get? b)->Q .next {s with heap:=h',toks:=tk}):
  wpAny (Mq w) A (exec (.Assign [.Name "ILLEGAL_LITERAL_STR_CHARS" ⟨203,0,203,25⟩] e27 ⟨203,0,203,51⟩) pA) Q E s:=m7 (rJ M hm).m (by kernel_rfl) (by first|rfl|kernel_rfl) (by first|rfl|kernel_rfl) <| Pb M hm hv (sY o3 M.ns (sq hm) (fun h4 z4 e4 k4=>hQ h4 _ _ (M.put (tk:=s.toks+1) z4 e4 k4) k4))
theorem aaa{o3 jm:Obj}{Q:Flow->Shared->Prop}(hh:A.handled=none)(M:Md w os o3 jm 192 s)(hm:kF o3=true)
  (hQ:∀h' tk HF ks,Md w os (lU w "TOML_WS" HF (.ref 192) o3) jm 196 {s with heap:=h',toks:=tk}->(∀b o,b≠3->s.heap.get? b=some o->h'.get? b=some o)->iV (J7 w) "frozenset" h' 192 ks->(∀j,j∈ks↔j=ch 32\/j=ch 9)->Q .next {s with heap:=h',toks:=tk}):
  wpAny (Mq w) A (exec (.Assign [.Name "TOML_WS" ⟨204,0,204,7⟩] e28 ⟨204,0,204,26⟩) pA) Q E s:=by
 have L:=rJ M hm;refine m7 L.m (by kernel_rfl) (by first|rfl|kernel_rfl) (by first|rfl|kernel_rfl) <| zz (T:="frozenset") rfl L.m L.g L.b L.names.1 L.names.2.2.2.1 <| gJ <| sE (s:={s with toks:=s.toks+1}) hh (by decide+kernel) (by decide) fun h2 k2 uK yJ w7 H2 yK uP=> ?_
 have DY:({s with toks:=s.toks+1}:Shared).heap.objs.size=192:=M.size;rw[DY]at yJ H2|-;have M2:Md w os o3 jm 196 {s with heap:=h2,toks:=uK}:=M.kept yJ w7;refine⟨o3,M2.ns,sq hm,fun h4 z4 e4 k4=>hQ h4 (uK+1) uK k2 (M2.put (h':=h4) (tk:=uK+1) z4 e4 k4) (fun b o hb e=>(k4 b hb).trans (w7 b o e)) (H2.at (k4 192 (by decide))) fun j=> ?_⟩;rw[yK j];have e0:(Str.ofString " \t").cps.toList=[32,9]:=by decide+kernel
 constructor
 ·rintro⟨c,hc,rfl⟩;rw[e0]at hc;rcases aV.mp hc with rfl|hc
  ·exact .inl rfl
  ·rw[aA]at hc;subst hc;exact .inr rfl
 ·rintro(rfl|rfl)
  ·exact⟨32,by(trivial),rfl⟩
  ·exact⟨9,by(trivial),rfl⟩
theorem Z_{o3 jm:Obj}{Q:Flow->Shared->Prop}(M:Md w os o3 jm 196 s)(hm:kF o3=true)
  (hQ:∀h' tk HF t,Md w os (lU w "digits" HF (.str "0123456789" t) o3) jm 196 {s with heap:=h',toks:=tk}->(∀b,b≠3->h'.get? b=s.heap.get? b)->Q .next {s with heap:=h',toks:=tk}):
  wpAny (Mq w) A (exec (.Assign [.Name "digits" ⟨205,0,205,6⟩] e29 ⟨205,0,205,21⟩) pA) Q E s:=m7 (rJ M hm).m (by kernel_rfl) (by first|rfl|kernel_rfl) (by first|rfl|kernel_rfl) <| gJ (sY o3 M.ns (sq hm) (fun h4 z4 e4 k4=>hQ h4 _ _ _ (M.put (tk:=s.toks+1+1) z4 e4 k4) k4))
theorem Z9{o3 jm:Obj}{t0:Tok}{Q:Flow->Shared->Prop}(M:Md w os o3 jm 196 s)(hm:kF o3=true)(hv:nsLook o3 "digits"=some (.str "0123456789" t0))
  (hQ:∀h' tk HF t,Md w os (lU w "hexdigits" HF (.str qU t) o3) jm 196 {s with heap:=h',toks:=tk}->(∀b,b≠3->h'.get? b=s.heap.get? b)->Q .next {s with heap:=h',toks:=tk}):
  wpAny (Mq w) A (exec (.Assign [.Name "hexdigits" ⟨206,0,206,9⟩] e30 ⟨206,0,206,40⟩) pA) Q E s:=by
 refine m7 (rJ M hm).m (by kernel_rfl) (by first|rfl|kernel_rfl) (by first|rfl|kernel_rfl) <| wpAny_BinOp (wpAny_BinOp (Pb M hm hv (gJ (PyProof.Rows.add_str (fun t1 HE=>gJ (PyProof.Rows.add_str (fun t2 uK=> ?_) (by decide+kernel))) (by decide+kernel)))))
 exact sY o3 M.ns (sq hm) (fun h4 z4 e4 k4=>hQ h4 _ _ _ (M.put (tk:=uK+1) z4 e4 k4) k4)
theorem Z8{o3 jm:Obj}{t0:Tok}{Q:Flow->Shared->Prop}(hh:A.handled=none)(M:Md w os o3 jm 196 s)(hm:kF o3=true)(hv:nsLook o3 "hexdigits"=some (.str qU t0))
  (hQ:∀h' tk HF ks,Md w os (lU w "HEXDIGIT_CHARS" HF (.ref 196) o3) jm 200 {s with heap:=h',toks:=tk}->(∀b o,b≠3->s.heap.get? b=some o->h'.get? b=some o)->iV (J7 w) "frozenset" h' 196 ks->(∀j,j∈ks↔ ∃c∈qU.cps.toList,j=ch c)->Q .next {s with heap:=h',toks:=tk}):
  wpAny (Mq w) A (exec (.Assign [.Name "HEXDIGIT_CHARS" ⟨207,0,207,14⟩] e31 ⟨207,0,207,37⟩) pA) Q E s:=by
 have L:=rJ M hm;refine m7 L.m (by kernel_rfl) (by first|rfl|kernel_rfl) (by first|rfl|kernel_rfl) <| zz (T:="frozenset") rfl L.m L.g L.b L.names.1 L.names.2.2.2.1 <| Pb M hm hv <| sE hh (by decide+kernel) (by decide+kernel) fun h2 k2 uK yJ w7 H2 yK uP=> ?_
 rw[(M.size)]at yJ H2|-;have M2:Md w os o3 jm 200 {s with heap:=h2,toks:=uK}:=M.kept yJ w7;exact(sY o3 M2.ns (sq hm) (fun h4 z4 e4 k4=>hQ h4 (uK+1) uK k2 (M2.put (h':=h4) (tk:=uK+1) z4 e4 k4) (fun b o hb e=>(k4 b hb).trans (w7 b o e)) (H2.at (k4 196 (by decide))) yK))
theorem mZ{st:Stmt}{rest:List Stmt}{env:Env}{M:Model}{Q:Flow->Shared->Prop}(h:wpAny M A (exec st env) (fun f s'=>f= .next/\wpAny M A (execs rest env) Q E s') E s):wpAny M A (execs (st::rest) env) Q E s:=by
 refine(?_:wpAny M A (exec st env >>= _) Q E s);exact ai (bO h (fun f s' hf=>by obtain⟨rfl,hf⟩:=hf;exact hf) fun ζ ζ z=>z)
structure xG(w:World)(os:OsState)(s:Shared):Prop where
 md:∃t1 t2 t3 t4 t5 t6 t7 d e,Md w os (n7 w os t1 t2 t3 t4 t5 t6 t7 d e) (HK w os) 200 s
 gens:s.gens= #[.finished]
 lit:∃ks,iV (J7 w) "frozenset" s.heap 191 ks/\∀j,j∈ks↔j∈J2/\j≠ch 9
 ws:∃ks,iV (J7 w) "frozenset" s.heap 192 ks/\∀j,j∈ks↔j=ch 32\/j=ch 9
 hex:∃ks,iV (J7 w) "frozenset" s.heap 196 ks/\∀j,j∈ks↔ ∃c∈qU.cps.toList,j=ch c
theorem Qs{Q:Flow->Shared->Prop}(hh:A.handled=none)(lR:A.depth<recursionLimit)(M:Md w os (kq w os 3) (kq w os 12) 170 s)(oR:s.gens= #[])
  (hQ:∀h' tk,xG w os {s with heap:=h',toks:=tk,gens:= #[.finished]}->Q .next {s with heap:=h',toks:=tk,gens:= #[.finished]}):wpAny (Mq w) A (execs VJ pA) Q E s:=by
 refine mZ (aad hh lR M oR fun h1 HE t1 k1 M1 H1 c1=>⟨rfl,mZ (aac (s:={s with heap:=h1,toks:=HE,gens:= #[.finished]}) hh M1 (m1 w os t1) (v1 w os t1) H1 c1 fun h2 uK t2 k2 M2 H2 c2=>⟨rfl,mZ (aab (s:={s with heap:=h2,toks:=uK,gens:= #[.finished]}) M2 (m2 w os t1 t2) (v2 w os t1 t2) fun h3 HD t3 M3 K3=>⟨rfl,mZ (aaa (s:={s with heap:=h3,toks:=HD,gens:= #[.finished]}) hh M3 (m3 w os t1 t2 t3) fun h4 tk4 t4 k4 M4 K4 H4 c4=>⟨rfl,mZ (Z_ (s:={s with heap:=h4,toks:=tk4,gens:= #[.finished]}) M4 (m4 w os t1 t2 t3 t4) fun h5 tk5 t5 d M5 K5=>⟨rfl,mZ (Z9 (s:={s with heap:=h5,toks:=tk5,gens:= #[.finished]}) M5 (m5 w os t1 t2 t3 t4 t5 d) (t0:=d) (v5 w os t1 t2 t3 t4 t5 d) fun h6 tk6 t6 e M6 K6=>⟨rfl,mZ (Z8 (s:={s with heap:=h6,toks:=tk6,gens:= #[.finished]}) hh M6 (m6 w os t1 t2 t3 t4 t5 t6 d e) (t0:=e) (v6 w os t1 t2 t3 t4 t5 t6 d e) fun h7 tk7 t7 k7 M7 K7 H7 c7=>⟨rfl,(?_:wpAny _ _ (pure Flow.next:Sem Flow) _ _ _)⟩)⟩)⟩)⟩)⟩)⟩)⟩);refine ak (hQ h7 tk7 ⟨⟨t1,t2,t3,t4,t5,t6,t7,d,e,M7⟩,rfl,(jt k2 ?_ c2),(jt k4 ?_ c4),(jt k7 H7 c7)⟩)
 ·exact((((H2.at (K3 191 (by decide))).keep fun o x=>K4 191 o (by decide) x).at (K5 191 (by decide))).at (K6 191 (by decide))).keep fun o x=>K7 191 o (by decide) x
 ·exact((H4.at (K5 192 (by decide))).at (K6 192 (by decide))).keep fun o x=>K7 192 o (by decide) x
end
end
section
open PySem PySem.W PyProof.Rows
def w9(p:Program)(w:World)(s:Shared)(t:Thread)(o:Outcome)(r:Shared):Prop:=
 (∃N,runN (denote table) p w N s t= .halted o r)/\∀k s₁ tn,runN (denote table) p w k s t= .running s₁ tn->tn.calm=true
section
variable{p:Program}{w:World}{yN:Nat}{ann:Option Value}
theorem vP{t:Thread}(h:stepOk yN ann t=true):t.calm=true:=by
 unfold stepOk at h;exact(aZ.mp h).1
theorem w9.step{s s' r:Shared}{t t':Thread}{o:Outcome}(hc:t.calm=true)(hs:step (denote table) p w s t= .go s' t')(h:w9 p w s' t' o r):w9 p w s t o r:=by
 refine lP h fun z7 hk=>m9 z7 fun N hN=>⟨⟨N+1,by simp only[runN,hs];exact hN⟩,fun k s₁ tn e=> ?_⟩;cases k with
 |zero=>(clear h hN;cases e);exact hc
 |succ k=>simp only[runN,hs]at e;exact hk k s₁ tn e
theorem QW:∀{m:Nat}{s s' r:Shared}{t t':Thread}{o:Outcome},topGo table p w yN ann m s t=some (s',t')->w9 p w s' t' o r->w9 p w s t o r:=by
 intro L0
 induction L0 with
 |zero=>
  intro s s' r t t' o h k;obtain⟨rfl,rfl⟩:s=s'/\t=t':=by(simpa[topGo]using h)
  exact k
 |succ m ih=>
  intro s s' r t t' o h k;dsimp only[topGo]at h;cases ht:through t with
  |true=>replace h:=ht▸h;exact ku h
  |false=>
   replace h:=ht▸h
   cases hk:stepOk yN ann t with
   |false=>replace h:=hk▸h;exact ku h
   |true=>
    replace h:=hk▸h
    cases hs:step (denote table) p w s t with
    |halt o j5=>replace h:=hs▸h;exact ku h
    |go j5 D3=>replace h:=hs▸h;exact w9.step (vP hk) hs (ih h k)
end
section
variable{α:Type}{p:Program}{w:World}{yN:Nat}{ann:Option Value}{B:List Frame}{K':α->Sem Fin}{H':Value->Sem Fin}{gd:Bool->Bool}{lv:List Value->List Value}{res:α->Flow}
theorem JE{b:Nat}{cur:Sem Fin}{c:Code}{q:Pos}{st:List Frame}{g:Flow}(h:endAt b ⟨cur,c,q,st⟩=some g):(st.length==b)=true/\cur= .pure (.done g):=by
 unfold endAt at h;dsimp only at h;cases hb:st.length==b with
 |false=>replace h:=hb▸h;exact ku h
 |true=>
  replace h:=hb▸h
  refine⟨rfl,?_⟩;clear hb;cases cur with
  |pure fin=>cases fin with
   |done f=>(injection h with h;subst h);rfl
   |again=>exact ku h
  |_=>exact ku h
theorem FL(f:Flow)(c:Code)(q:Pos)(st:List Frame):endAt st.length ⟨.pure (.done f),c,q,st⟩=some f:=by
 dsimp only[endAt];exact iR (cO ..) rfl
noncomputable def UH {β:Type}:Sem β->Bool
 | .pure _=>true
 |_=>false
theorem noB{G:Prop}(h:false=true):G:=nomatch h
theorem HW{x:Sem α}{g:Flow}(h:x.wrap (fun a=>.pure (.done (res a))) deadEnd gd lv= .pure (.done g)):∃a,x= .pure a/\res a=g:=by
 have h1:UH (x.wrap (fun a=>.pure (.done (res a))) deadEnd gd lv)=true:=by(refine iR h ?_);rfl
 cases x with
 |pure a=>cases h;exact(jt a rfl rfl)
 |_=>exact noB h1
theorem Ct(hB:splitAtGen B=none):∀(n:Nat)(s:Shared)(t t':Thread)(f:Flow)(s':Shared)(c':Code)(p':Pos),Rel2 (fun a=>.pure (.done (res a))) K' deadEnd H' gd lv B t t'->
  segRun table p w yN ann B.length n s t=some (f,s',c',p')->∃a,res a=f/\∀o r,w9 p w s' ⟨K' a,c',p',B⟩ o r->w9 p w s t' o r
:=by
 intro n
 induction n with
 |zero=>intro _ _ _ _ _ _ _ _ h;exact ku h
 |succ n ih=>
  intro s t t' f s' c' p' R h;obtain⟨cur,code,pos,st⟩:=t;obtain⟨WW,acn,aeN,ji⟩:=t';obtain⟨e1,e2,R⟩:=R;dsimp only at e1 e2 R;subst e1 e2;dsimp only[segRun]at h;cases he:endAt B.length ⟨cur,code,pos,st⟩with
  |some g=>
   replace h:=he▸h
   refine lP (JE he) fun hb WQ=> ?_;rcases R with⟨rfl,rfl,x,rfl,rfl⟩|⟨rfl,F⟩
   ·refine jm (HW WQ) fun a oU qb=> ?_;clear WQ;refine iR oU ?_;subst qb;cases h;exact jt a rfl (fun o r k=>k)
   ·exact absurd (eq_of_beq hb) (cN F.longer.1)
  |none=>
   replace h:=he▸h
   cases hk:stepOk yN ann ⟨cur,code,pos,st⟩with
   |false=>replace h:=hk▸h;exact ku h
   |true=>
    replace h:=hk▸h
    cases hs:step (denote table) p w s ⟨cur,code,pos,st⟩with
    |halt o j5=>replace h:=hs▸h;exact ku h
    |go j5 D3=>
     replace h:=hs▸h
     obtain⟨k1,Gr,k3,R'⟩:stepOk yN ann ⟨WW,code,pos,ji⟩=true/\∃Gr,step (denote table) p w s ⟨WW,code,pos,ji⟩= .go j5 Gr/\Rel2 (fun a=>.pure (.done (res a))) K' deadEnd H' gd lv B D3 Gr:=by
      rcases R with⟨rfl,rfl,x,rfl,rfl⟩|⟨rfl,F⟩
      ·have hp:∀a,x≠ .pure a:=by
        rintro a rfl;exact ku (he.symm.trans (FL ..))
       have hr:∀e,x≠ .raise e:=by
        rintro e rfl;contradiction
       exact⟨(okOuter (K':=K') (H':=H') hp hr hk).1,step_outer hB hp hs⟩
      ·exact⟨(okInner hB F hk).1,step_inner hB F hs⟩
     exact jm (ih j5 D3 Gr f s' c' p' R' h) fun a ha q=>jt a ha (fun o r k=>w9.step (vP k1) k3 (q o r k))
end
section
variable{p:Program}{w:World}{yN:Nat}{ann:Option Value}{env:Env}{q:Pos}
theorem vU{n:Nat}{s s' r:Shared}{l rest:List Stmt}{c:Code}{pos p':Pos}{o:Outcome}(h:segRun table p w yN ann 1 n s (piecesOf l env c pos [topFrame q])=some (.next,s',c,p'))
  (k:w9 p w s' (restOf rest env c p' [topFrame q]) o r):w9 p w s (restOf (l++rest) env c pos [topFrame q]) o r:=by
 refine jm (Ct (res:=id) (K':=fun f=>match f with| .next=>(execs rest env).wrap doneF (leaveH env) id id|f=>doneF f) (H':=leaveH env) (B:=[topFrame q]) rfl n s (piecesOf l env c pos [topFrame q])
  ⟨(execs l env).wrap (fun f=>match f with| .next=>(execs rest env).wrap doneF (leaveH env) id id|f=>doneF f) (leaveH env) id id,c,pos,[topFrame q]⟩ _ _ _ _ (tZ rfl rfl (.inl ⟨rfl,rfl,_,rfl,rfl⟩)) h) fun a ha hN=> ?_
 clear h;obtain rfl:a= .next:=ha
 have:=hN o r k;unfold restOf;exact iR (execs_app_wrap ..) this
theorem Ga{n:Nat}{s s' r:Shared}{b:List Stmt}{c:Code}{pos p':Pos}{o:Outcome}(h:segRun table p w yN ann 1 n s (blockOf b env c pos [topFrame q])=some (.next,s',c,p'))
  (k:w9 p w s' (restOf b env c p' [topFrame q]) o r):w9 p w s ⟨denote table (.body b env),c,pos,[topFrame q]⟩ o r:=by
 refine jm (Ct (res:=fun ζ:Unit=>Flow.next) (K':=fun ζ=>(execs b env).wrap doneF (leaveH env) id id) (H':=Sem.raise) (B:=[topFrame q]) rfl n s (blockOf b env c pos [topFrame q])
  ⟨(blockStart b env).wrap (fun ζ=>(execs b env).wrap doneF (leaveH env) id id) .raise id id,c,pos,[topFrame q]⟩ _ _ _ _ (tZ rfl rfl (.inl ⟨rfl,rfl,_,rfl,rfl⟩)) h) fun a ha hN=> ?_
 exact iR (body_wrap ..) <| hN o r k
theorem N4{s:Shared}{c:Code}{pos:Pos}(hg:leftWithCleanup s.gens=false):w9 p w s (restOf [] env c pos [topFrame q]) (.done (.ret .none)) s:=by
 refine w9.step (s':=s) (t':=⟨.pure (.done (.ret .none)),.builtin "claim.caller" {},q,[]⟩) rfl rfl <| ⟨⟨1,?_⟩,fun k s₁ tn e=> ?_⟩
 ·refine(?_:(match step (denote table) p w s _ with| .go s' t'=>_| .halt o s'=>Run.halted o s')=_);simp only[PySem.step,PySem.finish,hg,bz,d7]
 ·cases k with
  |zero=>cases e;rfl
  |succ k=>
   simp only[runN,PySem.step,PySem.finish,hg,bz,d7]at e;contradiction
end
theorem Vd(w:World)(os:OsState)(a b:Obj)(f:Nat->Obj)(i:Nat)(h:i<200):(T2 w os a b f).get i=if i=3 then some a else if i=12 then some b else if i<170 then(T0 w os).get i else some (f i):=by
 have e:=aQ (fun l=>l[i]?) (RG w os a b f);simp only[bk,gn h,ee,dZ]at e;simpa only[Bool.cond_eq_ite,Nat.beq_eq,Nat.blt_eq]using e
theorem rY{h:Heap}{a:Addr}{o:Obj}(e:h.get? a=some o):h.objs[a]? =some o:=(Heap.get?_some_iff.mp e).1
theorem QT{w:World}{os:OsState}{a b:Obj}{s:Shared}(M:Md w os a b 200 s):s.heap=absHeap (T2 w os a b fun i=>(s.heap.objs[i]?).getD default) 200 s.heap.life:=by
 cases hs:s.heap with
 |mk objs life=>
  have e:objs=(absHeap (T2 w os a b fun i=>(s.heap.objs[i]?).getD default) 200 life).objs:=by
   apply Array.ext_getElem?;intro i;refine iR (absHeap_at ..) ?_;have hz:objs.size=200:=by have:=M.size;replace this:=hs▸this;exact this
   refine bc (p:=i<200) (fun hi=> ?_) fun hi=> ?_
   ·refine iR (a_ hi) <| iR (Vd _ _ _ _ _ _ hi) <| bc (p:=i=3) (fun h3=> ?_) fun h3=> ?_
    ·clear hz;refine iR h3 ?_;have:=rY M.ns
     replace this:=hs▸this
     exact this
    ·refine bc (p:=i=12) (fun Gn=> ?_) fun Gn=> ?_
     ·clear hz;refine iR Gn ?_;have:=rY M.tab
      replace this:=hs▸this
      exact this
     ·refine bc (p:=i<170) (fun hl=> ?_) fun hl=> ?_
      ·have:=rY ((M.old i hl h3 Gn).trans (l_ (mT w os i hl)))
       replace this:=hs▸this
       exact iR (aS h3) <| iR (aS Gn) <| iR (a_ hl) <| iR (l_ (mT w os i hl)) this
      ·refine iR (aS h3) <| iR (aS Gn) <| iR (aS hl) <| iR hs <| (?_:objs[i]? =some ((objs[i]?).getD default))
       rw[dg (b9 ‹_› (fy ‹_›))];rfl
   ·exact iR (aS hi) <| Array.getElem?_eq_none (ao (aE hz) (bw hi))
  replace e:=hs▸e
  exact(aQ (Heap.mk · life) e:Heap.mk objs life=Heap.mk _ _)
section
variable{w:World}{os:OsState}{q pos:Pos}{c:Code}
theorem Bo{p:Program}{s r:Shared}{t:Sem Fin}{st:List Frame}(h:w9 p w s ⟨t,c,pos,st⟩ (.done (.ret .none)) r):
  ∃s',Runs (model p w) ⟨c,none,none,[],none⟩ pos t st s (.ret (.ok (.ret .none))) s'/\leftWithCleanup s'.gens=false/\s'.forget=r.forget:=by
 refine cps fun G_ z2=>lP h fun z1 hc=> ?_;obtain⟨N,hN⟩:=z1;exact Vk ((halts_real_iff (M:=model p w) (r:=.ok (.ret .none)) (s:=s) (t:=t) (c:=c) (p:=pos) (st:=st) r.forget).mp ⟨N,r,hN,rfl,hc⟩) fun n s' h1 h2=>lP (halts_iff.mp ⟨n,h1⟩) fun h3 h4=>z2 <| sY s' h3 h4 h2
theorem BB{p:Program}{s s':Shared}{t:Sem Fin}{st:List Frame}(h:Runs (model p w) ⟨c,none,none,[],none⟩ pos t st s (.ret (.ok (.ret .none))) s')(hg:leftWithCleanup s'.gens=false):
  ∃r,w9 p w s ⟨t,c,pos,st⟩ (.done (.ret .none)) r/\r.forget=s'.forget:=m9 (halts_iff.mpr ⟨h,hg⟩) fun n hn=>qL ((halts_real_iff (M:=model p w) (r:=.ok (.ret .none)) (s:=s) (t:=t) (c:=c) (p:=pos) (st:=st) s'.forget).mpr ⟨n,s',hn,rfl⟩) fun N r h1 h2 h3=>jt r ⟨⟨N,h1⟩,h3⟩ h2
noncomputable def Wi(c:Code)(q:Pos):Around:={handled:=none,depth:=frameCount [(Code.builtin "claim.caller" {},q)]+c.weight,frames:=none,guards:=none,units:=((⟨c,none,none,[],none⟩:Ctx).over [topFrame q]).units}
theorem Ni{s:Shared}{Yh:List Stmt}{Ψ:af}(hc:frameCount [(Code.builtin "claim.caller" {},q)]+c.weight<recursionLimit)(Zi:∀a b:Shared,a.forget=b.forget->Ψ a->Ψ b)(M0:Md w os (kq w os 3) (kq w os 12) 170 s)(oR:s.gens= #[])
  (k:∀s' p',xG w os s'->s'.os=s.os->s'.drawn=s.drawn->∃r,Ψ r/\w9 pq w s' (restOf Yh pA c p' [topFrame q]) (.done (.ret .none)) r):
  ∃r,Ψ r/\w9 pq w s (restOf (VJ++Yh) pA c pos [topFrame q]) (.done (.ret .none)) r:=by
 have t8:((⟨c,none,none,[],none⟩:Ctx).over [topFrame q]).In (Wi c q):=by
  refine(Zg rfl (aK _) ?_ ?_ (aK _))
  all_goals intro l hl;exact absurd hl (by trivial)
 have hwp:=Qs (A:=Wi c q) (E:=fun ζ ζ=>False) (w:=w) (s:=s) (Q:=fun f s'=>f= .next/\xG w os s'/\s'.os=s.os/\s'.drawn=s.drawn) rfl hc M0 oR (fun h' tk m=>(Zh rfl m rfl rfl)) ((⟨c,none,none,[],none⟩:Ctx).over [topFrame q]) pos t8;refine cps fun G_ z4=> ?_;obtain⟨e,uN,hr,rfl,hg,r,aar,hf⟩:=runs_wrap_of_wp (M:=model pq w) (Γ:=⟨c,none,none,[],none⟩) (fs:=[topFrame q]) (Φ:=fun e uN=>e= .ret (.ok (.ret .none))/\leftWithCleanup uN.gens=false/\∃r,Ψ r/\uN.forget=r.forget)
  (fun f=>match f with| .next=>(execs Yh pA).wrap doneF (leaveH pA) id id|f=>doneF f) (leaveH pA) id id (execs VJ pA) hwp
  (fun f p' s'⟨hf,m,ho,hd⟩=>by
   clear hc M0 oR t8 hwp;refine iR hf ?_;exact jm (k s' p' m ho hd) fun r h1 h2=>uO (Bo h2) fun uN a b d=>⟨_,uN,a,rfl,b,r,h1,d⟩) (fun ζ ζ ζ h=>h.elim)
 refine jm (BB hr hg) fun r' h1 h2=>z4 <| (jt r' (Zi r r' (hf.symm.trans h2.symm) aar) ?_)
 unfold restOf;exact iR (execs_app_wrap ..) h1
end
theorem JN(w:World)(os:OsState):segRun treeTable pq w 11 (some (.ref 6)) 1 1 (YR w os).abs (blockOf pq.main.body pA oS q0 [topFrame q0])=some (.next,(YR w os).abs,oS,q0):=by kernel_rfl
theorem F_:pq.main.body=qY 0 25++(VJ++qY 32 55):=by kernel_rfl
theorem Ja(w:World):(fencedOpening treeTable pq w 1000).map (fun s=>(s.heap,s.gens,s.drawn,s.toks))=some (boot_heap w.params,Array.mk [],boot_drawn,boot_toks):=
 boot_open (p:=pq) (N:=1000) (by kernel_rfl) (by rfl) (fun s=>by rfl) w
theorem md0(w:World)(os:OsState):Md w os (kq w os 3) (kq w os 12) 170 (Cm w os).abs:=by
 have nf:∀b,b<170->alive (kq w os b)=some (kq w os b):=by
  intro b hb;have:=Nc w os b hb;generalize kq w os b=o at this;obtain⟨c,d,dt,sl⟩:=o;cases dt<;>first|rfl|cases this
 have get:∀b,b<170->(absHeap (T0 w os) 170 {}).get? b=some (kq w os b):=fun b hb=>(abs_get hb (l_ (mT w os b hb))).trans (nf b hb);exact⟨(absHeap_size .. :(absHeap (T0 w os) 170 {}).objs.size=170),get 3 (by decide),get 12 (by decide),fun b hb ζ ζ=>(get b hb).trans (l_ (mT w os b hb)).symm⟩
theorem wgt:frameCount [(Code.builtin "claim.caller" {},q0)]+oS.weight<recursionLimit:=Nat.le_of_ble_eq_true (by kernel_rfl:(Nat.ble (frameCount [(Code.builtin "claim.caller" {},q0)]+oS.weight+1) recursionLimit)=true)
theorem Mf(w:World)(os:OsState){Ψ:af}(Zi:∀a b:Shared,a.forget=b.forget->Ψ a->Ψ b)
  (k:∀s' p',xG w os s'->s'.os=os->s'.drawn={}->∃r,Ψ r/\w9 pq w s' (restOf (qY 32 55) pA oS p' [topFrame q0]) (.done (.ret .none)) r):
  ∃r,Ψ r/\w9 pq w (b0 w os) (topStub pq) (.done (.ret .none)) r:=by
 refine jm (Ni (w:=w) (q:=q0) (pos:={line:=200,col:=0,endLine:=200,endCol:=8}) (c:=oS) (s:=(Cm w os).abs) (Yh:=qY 32 55) (Ψ:=Ψ) wgt Zi (md0 w os) rfl k) fun r h1 h2=>(jt r h1 ?_);have e:=Rm w os;have e2:=JN w os;have e3:=segRun_of (Qj w os);rw[<-table_eq_tree]at e e2 e3;refine QW e (Ga e2 ?_);have:=vU (rest:=VJ++qY 32 55) e3 h2
 replace this:=(fy F_)▸this
 exact this
theorem Mi(w:World)(os:OsState)(f:Nat->Obj)(t1 t2 t3 t4 t5 t6 t7:Nat)(d e:Tok)(toks:Nat)(life:Life)(os:OsState)(p':Pos):
  (segRunT treeTable pq w 11 (some (.ref 6)) 1 3000 {tree:=T2 w os (n7 w os t1 t2 t3 t4 t5 t6 t7 d e) (HK w os) f,n:=200,life:=life,gens:= #[.finished],drawn:={},toks:=toks,os:=os} (piecesOf (qY 32 55) pA oS p' [topFrame q0])).map
   (fun r=>(r.1,r.2.2.1,r.2.1.n,r.2.1.life,r.2.1.gens,r.2.1.drawn,r.2.1.os,looks (boot_heap w.params) r.2.1.abs))=some (Flow.next,oS,346,life,#[.finished],{},os,nT (boot_heap w.params) f):=
 (Prod.mk.inj (Prod.mk.inj (Prod.mk.inj (wX w os t1 t2 t3 t4 t5 t6 t7 d e default default f toks life os p')).2).2).2
theorem Bj{den:Code->Sem Fin}{p:Program}{w:World}{s s':Shared}{t:Thread}{f:Flow}(hc:t.calm=true)(h:step den p w s t= .halt (.done f) s'):through t=true:=by
 rw[Thread.calm_eq]at hc;have hl:t.loud=false:=cz _▸(aZ.mp hc).1;clear hc;have e:=stepK_forget den p w s t
 replace e:=h▸e
 clear h;obtain⟨cur,code,pos,stack⟩:=t;cases hk:stepK den p w s ⟨cur,code,pos,stack⟩with
 |go=>replace e:=hk▸e;cases e
 |halt o s2=>
  replace e:=hk▸e
  have ho:o= .done f:=(Step.halt.inj e).1;exact w4 (step_halt_result ((Model.step_quiet _ hl).trans (hk.trans (aQ (Step.halt · s2) ho)):Model.step ⟨den,p,w⟩ s ⟨cur,code,pos,stack⟩= .halt (outcomeOf (.ok f)) s2)) fun h1 h2 ζ=>iR h1 <| iR h2 rfl
theorem BA{p:Program}{w:World}{f:Flow}:∀(N:Nat)(s r:Shared)(t:Thread),s.asleep->runN (denote table) p w N s t= .halted (.done f) r->(∀k s₁ tn,runN (denote table) p w k s t= .running s₁ tn->tn.calm=true)->
  ∃n tn,schedN (denote table) p w n (.single s t)= .running (.single r tn)/\through tn=true:=by
 intro L0
 induction L0 with
 |zero=>
  intro _ _ _ _ h _;cases h
 |succ N ih=>
  intro s r t hz h hc;have e:=sstep_single (denote table) p w s t (hc 0 s t rfl) hz;simp only[runN]at h;cases hs:step (denote table) p w s t with
  |go j5 D3=>
   rw[hs]at h e;have e:sstep (denote table) p w (.single s t)= .go (.single j5 D3):=by
    refine cg e (fun e=> ?_) fun e=> ?_
    ·exact iR e rfl
    ·cases e
   exact Vk (ih j5 r D3 (Shared.asleep_of_life (step_life (denote table) p w s j5 t D3 hs) hz) h fun k s₁ tn q=>hc (k+1) s₁ tn (by simp only[runN,hs];exact q)) fun n tn a b=>⟨n+1,tn,by simp only[schedN,e];exact a,b⟩
  |halt o j5=>
   replace h:=hs▸h
   cases h;refine⟨0,t,?_,Bj (hc 0 s t rfl) hs⟩;exact iR (step_halt_same (denote table) p w s r t _ hs) rfl
structure rM(w:World)(os:OsState)(r:Shared):Prop where
 looks:∃f qf,r.forget=qf.forget/\Internal.looks (boot_heap w.params) qf=nT (boot_heap w.params) f/\qf.gens= #[.finished]/\qf.os=os
 lit:∃ks,iV (J7 w) "frozenset" r.heap 191 ks/\∀j,j∈ks↔j∈J2/\j≠ch 9
 ws:∃ks,iV (J7 w) "frozenset" r.heap 192 ks/\∀j,j∈ks↔j=ch 32\/j=ch 9
 hex:∃ks,iV (J7 w) "frozenset" r.heap 196 ks/\∀j,j∈ks↔ ∃c∈qU.cps.toList,j=ch c
theorem rM.forget{w:World}{os:OsState}{a b:Shared}(e:a.forget=b.forget)(h:rM w os a):rM w os b:=by
 have eh:=(aQ Shared.heap e).symm;obtain⟨⟨f,qf,h1,h2⟩,h3,h4,h5⟩:=h;exact⟨(Ow f qf (e.symm.trans h1) h2),by(refine iR eh ?_);exact h3,by(refine iR eh ?_);exact h4,by(refine iR eh ?_);exact h5⟩
theorem vX{h h':Heap}{a:Addr}(e:h'.objs[a]? =h.objs[a]?):h'.get? a=h.get? a:=by
 unfold Heap.get?;exact iR e rfl
theorem Mj{w:World}{os:OsState}{s':Shared}{p':Pos}(M:xG w os s')(ho:s'.os=os)(hd:s'.drawn={}):
  ∃r,rM w os r/\w9 pq w s' (restOf (qY 32 55) pA oS p' [topFrame q0]) (.done (.ret .none)) r:=by
 obtain⟨⟨t1,t2,t3,t4,t5,t6,t7,d,e,md⟩,hg,aaz,Vn,aaC⟩:=M;have hz:=md.size;have Xz:=QT md;refine cps fun G_ z4=> ?_;obtain⟨⟨fl,j5,aeX,aeM⟩,hr,hl⟩:=fD.mp (Mi w os (fun i=>(s'.heap.objs[i]?).getD default) t1 t2 t3 t4 t5 t6 t7 d e s'.toks s'.heap.life os p');simp only[gU]at hl;obtain⟨rfl,rfl,hn,Lc,oR,hdr,hos,hlk⟩:=hl;refine z4 ?_;have run:=segRun_of hr;have es:(SharedT.abs {tree:=T2 w os (n7 w os t1 t2 t3 t4 t5 t6 t7 d e) (HK w os) fun i=>(s'.heap.objs[i]?).getD default,n:=200,life:=s'.heap.life,gens:= #[.finished],drawn:={},toks:=s'.toks,os:=os})=s':=by
  unfold SharedT.abs;dsimp only;rw[<-Xz,<-hg,<-hd,<-ho]
 rw[es,<-table_eq_tree]at run;have h3:=vU (rest:=[]) (o:=.done (.ret .none)) (r:=j5.abs) run (N4 (by show leftWithCleanup j5.gens=false;rw[oR];decide+kernel));refine(jt j5.abs ?_ h3);have WI:=hlk;simp only[looks,nT,gU]at WI;obtain⟨_,_,_,_,_,_,_,o1,o2,o3,_⟩:=WI;have back:∀i:Nat,i<200->j5.abs.heap.objs[i]? =some ((s'.heap.objs[i]?).getD default)->j5.abs.heap.get? i=s'.heap.get? i:=fun i hi e=>vX (e.trans (by rw[dg (b9 hi hz.symm)];rfl));refine⟨(v9 _ j5.abs rfl hlk oR hos),?_,?_,?_⟩
 ·obtain⟨ks,H,m⟩:=aaz;exact jt ks (H.at (back 191 (by decide) o1)) m
 ·obtain⟨ks,H,m⟩:=Vn;exact jt ks (H.at (back 192 (by decide) o2)) m
 ·obtain⟨ks,H,m⟩:=aaC;exact jt ks (H.at (back 196 (by decide) o3)) m
theorem Mg(w:World)(os:OsState):∃r,rM w os r/\w9 pq w (b0 w os) (topStub pq) (.done (.ret .none)) r:=
 Mf w os (fun ζ ζ e h=>h.forget e) fun ζ ζ m ho hd=>Mj m ho hd
theorem FE{g:GenState}(h:g.forget= .finished):g= .finished:=by
 (cases g)<;>trivial
theorem NN{r qf:Shared}(e:r.forget=qf.forget)(h:qf.gens= #[.finished]):r.gens= #[.finished]:=by
 have e2:r.gens.map GenState.forget=qf.gens.map GenState.forget:=aQ Shared.gens e
 replace e2:=h▸e2
 apply Array.ext
 ·exact(by have:=aQ Array.size e2;simpa using this:r.gens.size=1)
 ·intro i h1 h2;have hi:i=0:=by simp at h2;assumption
  subst hi;have:=aQ (fun a:Array GenState=>a[0]?) e2;simp only[Array.getElem?_map,dg h1,ee]at this;have:=aj this;exact FE this
theorem LP(w:World):(∃s,AfterRun (opening pq) w s)/\∀s,AfterRun (opening pq) w s->∃jM,fenceModules? pq s=some jM/\jM.gens= #[]/\∃s₁,TopRan pq w jM s₁/\s₁.asleep/\s₁.gens= #[.finished]/\rM w jM.os s₁:=by
 have h:=Ja w;rw[<-table_eq_tree]at h;refine cps fun G_ z8=> ?_;obtain⟨jM,h1,h2⟩:=fD.mp h;obtain⟨s,h4,h5⟩:=Option.bind_eq_some_iff.mp h1;refine z8 ?_;have A:=AfterImport.of_importEnds h4;refine⟨⟨s,A⟩,fun s' yL=> ?_⟩;obtain rfl:s'=s:=AfterImport.unique yL A;have z:jM.asleep:=Shared.asleep_of_life (fence_lifeW h5) A.life;refine cps fun G_ z9=> ?_;obtain⟨heap,gens,drawn,toks,os⟩:=jM;simp only[gU]at h2;obtain⟨rfl,rfl,rfl,rfl⟩:=h2;obtain⟨r,E,⟨N,hN⟩,hc⟩:=Mg w os;obtain⟨f,qf,e,hl,hg,ho⟩:=id E.looks;refine z9 ?_;have eh:r.heap=qf.heap:=show r.forget.heap=qf.forget.heap from aQ (fun s:Shared=>s.heap) e;have eo:=show r.forget.os=qf.forget.os from aQ (fun s:Shared=>s.os) e;have hgr:=NN e hg;have Lc:r.heap.life=(boot_heap w.params).life:=runN_life (s:=b0 w os) _ _ _ hN;simp only[looks,nT,gU]at hl;obtain⟨l1,l2,l3,l4,l5,l6,l7,o1,o2,o3,l8⟩:=hl;rw[<-eh]at l1 l3 l4 l8;simp only[aG]at l1 l4;refine cps fun G_ kW=> ?_;obtain⟨⟨⟨a1,a2⟩,_⟩,a4⟩:=l1;obtain⟨⟨⟨⟨b1,b2⟩,b3⟩,b4⟩,_⟩:=l4;refine kW ?_;have keep:∀b,b∈([0,1,4,5,7,8,9,10]:ah)->r.heap.get? b=(boot_heap w.params).get? b:=fun b hb=>by
  apply vX;have key:∀(l:ah)(g g':Nat->Option Obj),l.map g=l.map g'->∀b∈l,g b=g' b:=by
   intro l g g' e b hb;exact List.map_inj_left.mp e b hb
  exact key _ _ _ l8 b hb
 have hbz:(boot_heap w.params).objs.size=11:=by kernel_rfl
 have aaL:(boot_heap w.params).nsMap mainGlobals "__annotations__"=some (.ref 6):=by kernel_rfl
 have Xy:(boot_heap w.params).isNs mainGlobals=true:=by kernel_rfl
 refine⟨⟨boot_heap w.params,Array.mk [],boot_drawn,boot_toks,os⟩,h5,rfl,r,⟨BA N _ _ _ z hN hc,Lc,Shared.rest_eq (eo.trans ho),fun b o hb hn=> ?_,Heap.accountedI_of_ok b1,statics_of_ok a1,Pin.keysAreStrs_of b2,
  fun x hx=>(Pin.builtinOf_eq b3 x).trans (Heap.of_bltView b3 l3 x hx),?_,?_,names_of_bound a2,laid_of_kept a4⟩,Shared.asleep_of_life Lc z,hgr,E⟩
 ·have jS:b<11:=by have:=bF hb;exact this
  have n2:b≠2:=fun q=>hn (.inr (.inl q));have n3:b≠6:=fun q=>hn (.inr (.inr ((Pin.globalOf_eq Xy _).trans (q▸aaL))));refine(keep b ?_).trans hb;have:∀b:Nat,b<11->(b=3\/b=2\/b=6)\/b∈([0,1,4,5,7,8,9,10]:ah):=by decide
  exact(this b jS).resolve_left fun q=>q.elim (fun q=>hn (.inl q)) fun q=>q.elim n2 n3
 ·obtain⟨bm,ob,a,_,c,d,f,_⟩:=Heap.bmainOk_spec b4;exact v9 bm ob ((Pin.globalOf_eq b2 _).trans a) c d f
 ·intro g hg';rw[hgr]at hg';have:g= .finished:=by simpa using hg'
  rw[this];trivial
noncomputable abbrev cx (w:World) (h:Heap):Cx:=⟨pq,w,h,h.nsMap mainGlobals⟩
theorem N_{l:ah}{x:Str}:Ed l x=true↔ ∃c∈l,x=ch c:=by
 unfold Ed;constructor
 ·intro h;split at h
  ·rename_i c hc;refine(jt c (by simpa using h) ?_);obtain⟨a⟩:=x;congr 1;apply Array.ext';exact hc
  ·exact Bool.noConfusion h
 ·rintro⟨c,hc,rfl⟩;refine(?_:(match[c]with|[c]=>l.contains c|_=>false)=true);simpa using hc
theorem Ba{w:World}{h:Heap}{a:Addr}{ks:List Str}{l:ah}(H:iV (J7 w) "frozenset" h a ks)(hm:∀j,j∈ks↔ ∃c∈l,j=ch c)(hl:l.length<=200):∃o,h.get? a=some o/\Bg pq w o l:=by
 have n:ks.length<=(l.map ch).length:=qE H.nodup fun x hx=>by
  refine jm ((hm x).mp hx) fun c hc z1=> ?_;clear hl hx;refine iR z1 ?_;exact iE.mpr (jt c hc rfl)
 refine iV.out H fun es ep t ho he hnk hb hf=>⟨_,ho,es.size,?_,es,ep,t,rfl,he.elems,fun k=> ?_,rfl,hf⟩
 ·have h1:ks.length=es.toList.length:=he.length;have h2:es.toList.length=es.size:=bh ..;rw[aJ]at n;refine(?_:es.size<=200);exact ao (aE (h1.trans h2).symm) (ao n hl)
 ·rw[<-he.mem k,hm k,N_]
theorem FP:ud=(recsOf pq).map fun d=>(d.name,d.params,d.body,d.scope):=by kernel_rfl
theorem NV{n:Str}{a:Arguments}{b:List Stmt}{sc:Scope}(h:fnOf n=some (a,b,sc)):∃(i:Nat)(d:DefRec),(recsOf pq)[i]? =some d/\d.name=n/\d.params=a/\d.body=b/\d.scope=sc:=by
 have hm:=CQ h;rw[FP]at hm;refine kU hm fun d hd e=> ?_;cases e;exact m9 (eX.mp hd) fun i hi=>J' i d hi rfl rfl rfl rfl
theorem Qu(j:Str):(j∈J2/\j≠ch 9)↔ ∃c∈zx,j=ch c:=by
 have inj:∀a b,ch a=ch b->a=b:=fun a b e=>by
  have:(#[a]:Array Nat)= #[b]:=aQ Str.cps e
  (simpa using this)
 rw[G7];constructor
 ·rintro⟨⟨c,hc,rfl⟩|rfl,hn⟩
  ·refine(jt c (aY _ (dF.mpr ⟨bH.mpr hc,?_⟩)) rfl);simp only[bne_iff_ne,ne_eq];exact fun e=>hn (iR e rfl)
  ·exact jt 127 (dJ _ (by decide)) rfl
 ·rintro⟨c,hc,rfl⟩;refine cg (bg.mp hc) (fun hc=> ?_) fun hc=> ?_
  ·refine lP (dF.mp hc) fun h1 h2=> ?_;simp only[bne_iff_ne,ne_eq]at h2;exact⟨.inl (jt c (bH.mp h1) rfl),fun e=>h2 (inj _ _ e)⟩
  ·rw[aA]at hc;refine iR hc ?_;exact⟨.inr rfl,fun e=>by have:=inj _ _ e;lia⟩
theorem Z6(w:World)(os:OsState)(r:Shared)(E:rM w os r):nM (cx w r.heap):=by
 obtain⟨⟨f,qf,e,hl,hg,ho⟩,⟨k1,H1,m1⟩,⟨k2,H2,m2⟩,⟨k3,H3,m3⟩⟩:=E;have eh:r.heap=qf.heap:=show r.forget.heap=qf.forget.heap from aQ (fun s:Shared=>s.heap) e;simp only[looks,nT,gU]at hl;obtain⟨l1,l2,l3,l4,l5,l6,l7,o1,o2,o3,l8⟩:=hl;rw[<-eh]at l3 l4 l5 l6 l7;simp only[aG,bZ,eV]at l4;refine lP l4 fun z3 b5=>lP z3 fun z8 b4=> ?_;obtain⟨⟨b1,b2⟩,b3⟩:=z8;have fn:∀(i:Nat)(d:DefRec),(recsOf pq)[i]? =some d->∃a o pm code doc,r.heap.nsMap mainGlobals d.name=some (.ref a)/\r.heap.get? a=some o/\o.data= .func (Calls.docDef d.name d.params d.body d.scope pm code doc)/\r.heap.CodeRec code d.name:=by
  intro i d hd;refine iR eh ?_;have q:=seen_fn (d:=d) l2 i (by(refine iR (bk) ?_;refine iR hd ?_);rfl) (by refine(?_:((recsOf pq).map fun d=>some d.shape)[i]? =_);(refine iR (bk) ?_;refine iR hd ?_);rfl);exact q
 refine⟨?_,(jt _ ?_ (fun x hx=>Heap.of_bltView b3 l3 x hx)),?_,?_,?_,?_,?_,?_⟩
 ·refine(?_:r.heap.Ns mainGlobals _);refine iR eh ?_;have q:=seen_globals l2 (by rfl);exact q
 ·refine(?_:r.heap.Ns builtinsNs _);refine iR eh ?_;have q:=seen_builtins l2 (by rfl);exact q
 ·refine(iR eh ?_:r.heap.NoLimit);have q:=seen_noLimit l2 (by rfl);exact q
 ·refine(iR eh ?_:∃mc,r.heap.Ns cStatics mc/\_);have q:=seen_noDigits l2 (by rfl);exact q
 ·intro x hx;exact b5 x hx
 ·intro n a body sc h;refine SS (NV h) fun i d hd z4 z5 z6 z7=> ?_;refine jC z4 ?_;refine jC z5 ?_;refine jC z6 ?_;refine jC z7 ?_;exact o54 (fn i d hd) fun fa o pm code doc h1 h2 h3 h4=>i75 fa o pm code doc (.none) (.none) h1 h2 h3 h4 (fun ζ=>rfl)
 ·intro x l h;have key:∀{k:Addr}{o:Obj},(cx w r.heap).mg x=some (.ref k)->r.heap.get? k=some o->Bg (cx w r.heap).prog (cx w r.heap).w o l->∃v,(cx w r.heap).mg x=some v/\∀σ,(∀a,a∈σ->(cx w r.heap).h₀.get? a=none)->VR (cx w r.heap) σ (cx w r.heap).h₀ (.cset l) v:=fun{k o} hm g c=>
   ⟨.ref k,hm,fun σ VL=>by exact(v9 k o rfl (fun q=>(by have hq:r.heap.get? k=none:=VL k q;rw[g]at hq;contradiction)) g c)⟩
  refine mC h (fun hx e=> ?_) fun h=>mC h (fun hx e=> ?_) fun h=>mC h (fun hx e=> ?_) fun h=>mC h (fun ζ e=>by cases e) fun h=>mC h (fun ζ e=>by cases e) fun h=>kO h fun ζ e=>by cases e
  ·clear l4;obtain rfl:=aR.mp hx;cases e;exact jm (Ba (l:=[32,9]) H2 (fun j=>by rw[m2 j];simp) (by decide)) fun o g c=>key l5 g c
  ·clear hg ho H2 m2 eh l1 l2 l3 l5 o1 o2 o3 l8 b5 b4 b3 b1 b2 h;clear l4;obtain rfl:=aR.mp hx;cases e;exact jm (Ba (l:=zx) H1 (fun j=>by rw[m1 j,Qu]) (by decide+kernel)) fun o g c=>key l6 g c
  ·clear hg ho H1 m1 H2 m2 eh l1 l2 l3 l5 l6 o1 o2 o3 l8 b5 b4 b3 b1 b2 h;clear h;clear l4;obtain rfl:=aR.mp hx;clear h hx;cases e;exact jm (Ba (l:=oq) H3 (fun j=>by rw[m3 j];exact Iff.of_eq (by congr 1)) (by decide+kernel)) fun o g c=>key l7 g c
 ·refine jw (by kernel_rfl:((recsOf pq)[7]?).map (fun d:DefRec=>d.name)=some (Str.ofString "fspath")) fun d h1 h2=>o52 (fn 7 d h1) fun fa o pm code doc g1 ζ=> ?_;rw[h2]at g1;refine(iR g1 ?_:r.heap.nsMap mainGlobals "fspath"≠none);intro q;contradiction
def HB:Prop:=∀ns:List Int,ns.length<=63->(ev 27).C "law" [.list (ns.map .int)] [] []=some (.bool true,[])
noncomputable abbrev tG:OpenRow:=PySem.Challenge.rw_ik0206_01.row
noncomputable abbrev mS:ClaimW:=tG.toRowW.claim
theorem MY{args:List WData}(h:mS.pre args=true):∃ns:List Int,args=[.list (ns.map .int)]/\ns.length<=63:=by
 refine lP (pre_splitW (r:=tG.toRowW) h) fun h1 h2=>qL (hasAllW_cons h1) fun d r z1 hd hr=> ?_;subst z1;refine iR (hasAllW_nil hr) ?_;clear h1 hr;refine jm (hasW_list hd) fun xs z2 hx=> ?_;clear hd;subst z2;have items:∀xs:List WData,WShape.hasItems ([]:WRecords) xs .int=true->∃ns:List Int,xs=ns.map .int:=by
  intro xs
  induction xs with
  |nil=>intro _;exact⟨[],rfl⟩
  |cons x xs ih=>
   intro h
   (first|replace h:=aG▸(WShape.hasItems▸h)|rw[WShape.hasItems,aG]at h)
   refine m9 (hasW_int h.1) fun i z7=> ?_;subst z7;refine m9 (ih h.2) fun ns z8=> ?_;refine iR z8 ?_;exact⟨i::ns,rfl⟩
 refine m9 (items xs hx) fun ns z9=> ?_;subst z9;refine(jt ns rfl ?_);have Kh:WTm.holds ([]:WRecords) (.and (.not (.lt (.lit (.int 63)) (.len (.arg 0)))) (.lit (.bool true))) {args:=[.list (ns.map .int)]}=true:=h2;simp[WTm.holds,WTm.value]at Kh;refine bc (p:=ns.length<=63) (fun yM=> ?_) fun yM=> ?_
 ·exact yM
 ·exfalso;have e:less? (.int 63) (.int (ns.length:Int))=some true:=by
   refine(?_:some (decide ((63:Int)<(ns.length:Int)))=some true);exact aQ some (aH (p:=(63:Int)<(ns.length:Int)) (cE.mpr (e8 yM)))
  replace Kh:=e▸Kh
  (first|rfl|exact rfl|assumption|trivial)
theorem HY{P:Params}{h:Heap}:∀(ns:List Int)(vs:List Value),WellAll P h vs (ns.map .int)->vs.length=ns.length/\∀C:Cx,∀σ h',jH C σ h' (ns.map .int) vs:=by
 intro ns
 induction ns with
 |nil=>
  intro vs r;cases r;exact⟨rfl,fun C σ h'=>jH.nil⟩
 |cons n ns ih=>
  intro vs r;cases r with
  |cons r1 r2=>
   cases r1;exact lP (ih _ r2) fun h1 h=>⟨by simp[h1],fun C σ h'=>jH.cons (lQ _ _) (h C σ h')⟩
theorem QH:∃d:DefRec,(recsOf pq)[35]? =some d/\d.name="law"/\d.params.defaults=[]/\kwWritten? d.params.kwonlyargs d.params.kw_defaults=some []:=by
 have h:((recsOf pq)[35]?).map (fun d:DefRec=>(d.name,d.params.defaults,kwWritten? d.params.kwonlyargs d.params.kw_defaults))=some (Str.ofString "law",[],some []):=by kernel_rfl
 refine jw h fun d h1 h2=> ?_;simp only[gU]at h2;exact Yp d h1 h2.1 h2.2.1 h2.2.2
theorem Fp{w:World}{os:OsState}{r:Shared}(E:rM w os r):isTheDefsW pq r.heap "law":=by
 refine Zb QH fun d hd hn hdf hkw=>DN E.looks fun f qf e hl ζ ζ=> ?_;have eh:r.heap=qf.heap:=show r.forget.heap=qf.forget.heap from aQ (fun s:Shared=>s.heap) e;simp only[looks,nT,gU]at hl;refine o05 hl fun ζ l2 ζ l4 ζ=> ?_;simp only[aG]at l4;have hg:qf.heap.isNs mainGlobals=true:=l4.1.1.1.2;have q:=seen_fn (d:=d) l2 35 (by(refine iR (bk) ?_;refine iR hd ?_);rfl) (by refine(?_:((recsOf pq).map fun d=>some d.shape)[35]? =_);(refine iR (bk) ?_;refine iR hd ?_);rfl);refine o54 q fun a o pm code doc h1 h2 h3 ζ=>lP (recsOf_ok d (bJ hd)) fun t1 ζ=>iR eh <| ⟨a,o,_,d.params,d.body,d.scope,(Pin.globalOf_eq hg _).trans (hn▸h1),h2,h3,hn▸t1,hn,hn,rfl,rfl,rfl,rfl,rfl,rfl,.inl ⟨hdf,rfl⟩,[],hkw,.inl ⟨rfl,rfl⟩⟩
theorem IX(args:List WData):mS.post args (.bool true) args=true:=by
 refine(iR (aG ..) ?_:(WShape.has ([]:WRecords) (.bool true) .bool&&WTm.holds ([]:WRecords) (.eq .res (.lit (.bool true))) ⟨args,some (.bool true),args,[]⟩)=true);exact⟨by decide+kernel,by simp[WTm.holds,WTm.value,PySem.W.same]⟩
theorem Ob(P:HB)(w:World)(r:Shared)(T:nM (cx w r.heap)){s₁:Shared}{fv:Value}(hg:s₁.gens= #[])(hf:r.heap.nsMap mainGlobals "law"=some fv)(keeps:∀b o,r.heap.get? b=some o->s₁.heap.get? b=some o){cl:Str->Option Addr}{mean:ExcName->Option Value}{args:List WData}{vs:List Value}
  (Av:mS.pre args=true) (SX:WellAll w.params s₁.heap vs args):
  wpAny (model pq w) callerA (call fv vs) (fun v s'=>GoodW mS cl mean args s₁ (.ok (.ret v)) s') (fun e s'=>GoodW mS cl mean args s₁ (.error e) s') s₁:=by
 refine jm (MY Av) fun ns z6 jd=> ?_;subst z6;have S:=PO T 27;cases SX with
 |cons r1 r2=>
  cases r2;cases r1 with
  |list ho pT=>
   rename_i a vs;obtain⟨hl,hv⟩:=HY ns vs pT;have K:Ok (cx w r.heap) [] s₁ []:=⟨keeps,fun a h=>(fK h).elim,rfl,d8,fun k a c h=>absurd h (by trivial)⟩;refine S.C' "law" [.list (ns.map .int)] [] [] (.bool true) [] (P ns jd) callerA [] s₁ [.ref a] [] fv _ _ ⟨rfl,by decide+kernel,by decide+kernel⟩ K (jH.cons ?_ jH.nil) jH.nil hf fun val σ' s' X K' V=> ?_
   ·exact Ak a _ vs rfl (by simp) ho ⟨0,rfl,by(refine iR hl ?_);exact ao jd (by decide+kernel)⟩ (hv _ _ _)
   ·refine iR V ?_;refine⟨.inl (Ak _ (.bool true) [] rfl (fun cls=>rfl) (.bool true) (IX _) (fun ζ=>⟨d8,fun a h=>(fK h).elim⟩)),fun b o e=>X.keep b o e (by simp) (fun h=>h.elim),X.os,X.gens.trans hg⟩
theorem Rr:pq.bare:=Zf rfl rfl rfl rfl (by kernel_rfl) (by kernel_rfl)
theorem Xd:PySem.Challenge.rw_ik0206_01.wellSaid=true:=by
 unfold OpenLaw.wellSaid
 repeat' with_reducible refine look_both ?_ ?_
 ·delta OpenRow.wellSaid OpenRow.partSaid
  with_reducible refine look_both (look_both ?_ ?_) ?_
  ·repeat' with_reducible refine look_both ?_ ?_
   ·change looksOpen PySem.Challenge.rw_ik0206_01.row.prog=true
    repeat' with_reducible refine look_both ?_ ?_
    all_goals kernel_rfl
   all_goals kernel_rfl
  all_goals kernel_rfl
 all_goals kernel_rfl
theorem Yd(P:HB):PySem.Challenge.rw_ik0206_01.Holds:=by
 refine holds_law Xd fun said=> ?_;have hi:∀a b,mS.ident a b=true:=by
  intro a b;exact ident_freeW (r:=tG.toRowW) rfl rfl rfl a b
 refine(Zg said (jt [.list []] (by decide+kernel) (by decide+kernel)) (tZ Rr (by kernel_rfl) rfl) (jt [.list []] (by decide+kernel) (by decide+kernel)) (fun w=>⟨(LP w).1,fun s hs=> ?_⟩));obtain⟨jM,hf,VS,r,hT,hz,oR,E⟩:=(LP w).2 s hs;refine⟨jM,hf,VS,r,hT,fun n hn=> ?_,fun x hx=>(nomatch hx),fun x hx=>(nomatch hx),?_⟩
 ·have:n="law":=by
   have h:(if tG.pinned then[tG.name]else[])=[Str.ofString "law"]:=rfl
   replace hn:=h▸hn
   (first|exact hn|simpa using hn)
  clear said hs hf VS hT hn;refine iR this ?_;exact Fp E
 ·have T:=Z6 w _ r E;refine ClaimW.callFrom_of_specN (c:=mS) hz (by(refine iR oR ?_);decide+kernel) fun args Av aaA ord WD=> ?_;refine m9 (Option.isSome_iff_exists.mp (layAllW_isSome (R:=mS.records) (cl:=classAt r.heap) (P:=w.params) (ord:=ord) (fun c hc=>(nomatch hc)) args tG.args r (pre_splitW (r:=tG.toRowW) Av).1)) fun kW Ci=> ?_;obtain⟨vs,s₁⟩:=kW;have keeps:=layAllW_keeps _ _ _ Ci;have VZ:=layAllW_rest _ _ _ Ci;refine uO (reads_layAllW WD _ _ _ Ci aaA s₁.heap (fun ζ ζ e=>e)) fun as hrd t8 aaw=>o72 (T.fns "law" _ _ _ (by rfl)) fun f o pm cd doc dV kV hfn ζ=> ?_;have aaD:(cx w r.heap).mg PySem.Challenge.rw_ik0206_01.row.name=some (.ref f):=hfn;have fin:∀(res:Result) s',GoodW mS (classAt r.heap) (ExcName.means r.heap) args {s₁ with gens:= #[]} res s'->_:=fun res s' g=>g.endsN (c:=mS) (r:=res) rfl rfl hi hrd aaw VZ.2.2.1;refine(Ow vs s₁ Ci (ai (wpAny_nsGet (T.g.keeps keeps) (iR aaD (ai (bO (Ob P w r T (s₁:={s₁ with gens:= #[]}) (cl:=classAt r.heap) (mean:=ExcName.means r.heap) rfl hfn keeps Av (well_layAllW WD args r _ Ci _ fun ζ ζ e=>e)) (fun v s' g=>ak (jt _ rfl ?_)) fun e s' g=> ?_))))))
  all_goals have z:=fin _ _ g;exact⟨z.1,z.2.1,z.2.2,fun q=>by(first|exact ku q|exact nomatch q)⟩
end
section
open PySem
section
variable{α β:Type}
theorem iX{x:Option α}{f:α->Option β}{a:α}{y:Option β}(h:x=some a)(k:f a=y):x.bind f=y:=h▸k
theorem ow{x:Option α}{f:α->β}{a:α}(h:x=some a):x.map f=some (f a):=h▸rfl
theorem nG{c:Bool}{x y:Option α}(h:c=true)(k:x=y):gd c x=y:=h▸k
theorem RV{c:Bool}{x:Option α}(h:c=true):gd c x=x:=h▸rfl
theorem Eg{x y:Option α}{a:α}(h:x=some a):zj x y=some a:=by(refine iR h ?_);rfl
theorem HR{c:Bool}{x y z:Option α}(h:c=true)(k:x=z):(if c then x else y)=z:=(a_ h).trans k
theorem D9{c:Bool}{x y z:Option α}(h:c=false)(k:y=z):(if c then x else y)=z:=(aS (by(refine iR h ?_);decide)).trans k
theorem XI{b c:Bool}{x y z:Option α}(h:b=c)(k:cond c x y=z):cond b x y=z:=h▸k
end
theorem sC{st ji:St}{k:Nat}(h:j7 ji k=j7 st k):kI (.lst k) st ji=true:= @aH _ (Classical.propDecidable _) h
section
variable{n:Nat}{sc:Scope}{ρ lO zh:i8}{st st1 jQ uM:St}{p q:Pos}{x y z v:PV}
theorem U1(h:fnOf f=some (a,body,sc))(hs:Ky sc=true)(hb:zA a args kws=some (xs,vs))(ha:storeAll sc xs vs []=some ρ)
  (hr:i0 ((ev n).S sc) body ρ st=some (fl,lO,st1)) (hf:finish st.length st1 (B9 fl)=some (u,jQ)):zy (ev n) f args kws st=some (u,jQ):=
 iX h (nG hs (iX hb (iX ha (iX hr hf))))
theorem FH(h:finish 0 st1 v=some (u,jQ)):jQ=[]:=kO h fun ζ h=>jw h fun ζ ζ e=>(aQ Prod.snd e).symm
theorem aae(h:fnOf f=some (a,body,sc))(hs:Ky sc=true)(hb:zA a args kws=some (xs,vs))(ha:storeAll sc xs vs []=some ρ)
  (hr:i0 ((ev n).S sc) body ρ st=some (fl,lO,st1)) (hf:finish st.length st1 (B9 fl)=some (u,jQ)) (hi:(!u9.contains f||(st.isEmpty&&(i_ 0 args&&i_ 0 (kws.map (·.2)))&&Cj u))=true:=by rfl):(ev (n+1)).C f args kws st=some (u,jQ):=by
 have hc:=U1 h hs hb ha hr hf;cases q:u9.contains f with
 |false=>exact D9 q hc
 |true=>
  rw[q]at hi;refine lP (aZ.mp hi) fun z1 h3=>lP (aZ.mp z1) fun h1 h2=> ?_;clear hi;cases st with
  |nil=>exact HR q (nG h2 (iX hc (nG h3 (by rw[FH hf]))))
  |cons=>exact Bool.noConfusion h1
theorem frame(hi:u9.contains f=true)(h:(ev n).C f args kws []=some (v,[])):(ev n).C f args kws st=some (v,st):=by
 cases n with
 |zero=>cases h
 |succ n=>
  have h:(if u9.contains f then gd (i_ 0 args&&i_ 0 (kws.map (·.2))) ((zy (ev n) f args kws []).bind fun q=>gd (Cj q.1) (some (q.1,[])))else zy (ev n) f args kws [])=some (v,[]):=h;rw[a_ hi]at h;exact HR hi (kO h fun h1 h=>iU h fun w h2 h=>kO h fun h3 h=>nG h1 (iX h2 (nG h3 (by cases h;rfl))))
def Good (st:St):Prop:=st.all (jK st.length)=true
theorem jq:i0 f [] ρ st=some (.next,ρ,st):=rfl
theorem iT(h:f s ρ st=some (.next,lO,st1))(k:i0 f r lO st1=some R):i0 f (s::r) ρ st=some R:=iX h k
theorem lA(h:(ev n).E sc e ρ st=some (v,st1)):i0 ((ev (n+1)).S sc) (.Return (some e) p::r) ρ st=some (.ret v,ρ,st1):=iX (ow h) rfl
theorem Su{α β:Type}{o:Option α}{a:β}{f:α->β}{y:β}(h:o.isNone=true)(k:a=y):o.elim a f=y:=by cases o with
 |none=>exact k
 |some=>exact Bool.noConfusion h
theorem kT(hc:(vG e).isSome=true)(h:(ev n).E sc e ρ st=some (.none,st1)):(ev (n+1)).S sc (.Expr e p) ρ st=some (.next,ρ,st1):=nG hc (iX h rfl)
theorem Qh(hc:(vG e).isSome=true)(h:(ev n).E sc e ρ st=some (.str s,st1)):(ev (n+1)).S sc (.Expr e p) ρ st=some (.next,ρ,st1):=nG hc (iX h rfl)
theorem MT(ht:(Te t).isNone=true)(hc:((isTuple t&&isTuple e)||(!isTuple t&&AI e))=false)(h:(ev n).E sc e ρ st=some (v,st1))(ha:kX sc st1 t v ρ=some lO):(ev (n+1)).S sc (.Assign [t] e p) ρ st=some (.next,lO,st1):=
 Su ht (nG (aQ (! ·) hc) (iX h (ow ha)))
theorem pG(h:(ev n).E sc e ρ st=some (v,st1))(h2:(ev n).E sc a ρ st1=some (x,jQ))(h3:(ev n).E sc i ρ jQ=some (y,uM))(hs:pL uM x y v=some DX):
  (ev (n+1)).S sc (.Assign [.Subscript a i q] e p) ρ st=some (.next,ρ,DX):=iX h (iX h2 (iX h3 (ow hs)))
theorem Gx{x:Str}{e:Expr}{a b w:PV}(h1:jW x ρ=some a)(h:(ev n).E sc e ρ st=some (b,st1))(h2:Pf a b=some w)(h3:qQ sc x w ρ=some lO):(ev (n+1)).S sc (.AugAssign (.Name x q) .Add e p) ρ st=some (.next,lO,st1):=iX h1 (iX h (iX h2 (ow h3)))
theorem pV(h:(ev n).T sc t ρ st=some (true,st1))(k:i0 ((ev n).S sc) a ρ st1=some R):(ev (n+1)).S sc (.If t a b p) ρ st=some R:=iX h k
theorem mQ(h:(ev n).T sc t ρ st=some (false,st1))(k:i0 ((ev n).S sc) b ρ st1=some R):(ev (n+1)).S sc (.If t a b p) ρ st=some R:=iX h k
theorem sf(k:mX ((ev n).T sc t) (i0 ((ev n).S sc) body) 40 ρ st=some R):(ev (n+1)).S sc (.While t body [] p) ρ st=some R:=k
theorem xx(h:T ρ st=some (false,st1)):mX T B (k+1) ρ st=some (.next,ρ,st1):=iX h rfl
theorem B_(h:T ρ st=some (true,st1))(hb:B ρ st1=some (fl,zh,jQ))(hf:fl= .next\/fl= .cont)(h2:mX T B k zh jQ=some R):mX T B (k+1) ρ st=some R:=iX h (iX hb (hf.elim (fun e=>by(clear h hb hf;subst e);exact h2) fun e=>by(clear h hb hf;subst e);exact h2))
theorem Uj(h:T ρ st=some (true,st1))(hb:B ρ st1=some (.brk,zh,jQ)):mX T B (k+1) ρ st=some (.next,zh,jQ):=iX h (iX hb rfl)
theorem CP{w:Bool×Expr}(hw:qg sc ρ iter=some w)(h:cond w.1 (HN (ev n) sc target w.2 body ρ st) (zl (ev n) sc target w.2 body ρ st)=some R):(ev (n+1)).S sc (.For target iter body [] p) ρ st=some R:=
 (aQ (fun o=>Option.elim o _ _) hw).trans h
noncomputable def vh (e:Expr):Bool:=((vG e).bind fun q=>rF q.1).elim (!oF e) fun f=>f !=("reversed":Str)&&f !=("enumerate":Str)
theorem G1{iter:Expr}(hi:vh iter=true):qg sc ρ iter=none/\oF iter=false:=by
 delta vh at hi
 delta qg
 cases h:vG iter with
 |none=>rw[h]at hi;exact⟨rfl,cz _▸hi⟩
 |some q=>
  refine⟨?_,El h fun ζ=>rfl⟩;rw[h]at hi;refine(?_:(rF q.1).bind _=_)
  replace hi:((rF q.1).elim (!oF iter) fun f=>f !=("reversed":Str)&&f !=("enumerate":Str))=true:=hi
  cases h2:rF q.1 with
  |none=>rfl
  |some f=>
   rw[h2]at hi;have e1:(f==("reversed":Str))=false:=cz _▸(aZ.mp hi).1;have e2:(f==("enumerate":Str))=false:=cz _▸(aZ.mp hi).2;refine(?_:(one q.2.1).bind _=_);cases one q.2.1 with
   |none=>rfl
   |some a=>
    refine(?_:gd (q.2.2.isEmpty&&ql sc ρ f) (if(f==("reversed":Str))=true then some (true,a)else gd (f==("enumerate":Str)) (some (false,a)))=_);rw[e1,e2];cases(q.2.2.isEmpty&&ql sc ρ f)<;>rfl
theorem Hs(hw:qg sc ρ iter=none)(h:gd (!oF iter) (HO (ev n) sc target iter body ρ st)=some R):(ev (n+1)).S sc (.For target iter body [] p) ρ st=some R:=
 (aQ (fun o=>Option.elim o _ _) hw).trans h
theorem rG(hi:vh iter=true)(h:(ev n).E sc iter ρ st=some (x,st1))(hc:contents st1 x=some l)(k:qy (i0 ((ev n).S sc) body) sc target (kI x st1) l ρ st1=some R):
  (ev (n+1)).S sc (.For target iter body [] p) ρ st=some R:=lP (G1 (sc:=sc) (ρ:=ρ) hi) fun h1 h2=>Hs h1 (nG (iR h2 rfl) (iX h (iX hc k)):gd (!oF iter) (HO (ev n) sc target iter body ρ st)=some R)
theorem AF:qy B sc target fit [] ρ st=some (.next,ρ,st):=rfl
theorem oM(ha:kX sc st target v ρ=some lO)(hb:B lO st=some (fl,SO,jQ))(hf:fl= .next\/fl= .cont)(lH:fit jQ=true)(k:qy B sc target fit l SO jQ=some R):qy B sc target fit (v::l) ρ st=some R:=iX ha (iX hb (hf.elim (fun e=>by(clear ha hb hf;subst e);exact nG lH k) fun e=>by(clear ha hb hf;subst e);exact nG lH k))
theorem Us(ha:kX sc st target v ρ=some lO)(hb:B lO st=some (.brk,SO,jQ)):qy B sc target fit (v::l) ρ st=some (.next,SO,jQ):=iX ha (iX hb rfl)
theorem Ca(h:i0 ((ev n).S sc) body ρ st=some R):(ev (n+1)).S sc (.Try body (h1::hs) [] [] p) ρ st=some R:=h
theorem uZ(h1:(sc.names.lookup nm).isSome=true)(h2:Cb sc nm ρ=some v):(ev (n+1)).E sc (.Name nm p) ρ st=some (v,st):=nG h1 (ow h2)
theorem jb(h1:(ev n).E sc a ρ st=some (x,st1))(h2:(ev n).E sc b ρ st1=some (y,jQ))(h3:kZ jQ op x y=some v):(ev (n+1)).E sc (.BinOp a op b p) ρ st=some (v,jQ):=iX h1 (iX h2 (ow h3))
theorem Lx(h:(ev n).T sc t ρ st=some (true,st1))(k:(ev n).E sc a ρ st1=some R):(ev (n+1)).E sc (.IfExp t a b p) ρ st=some R:=iX h k
theorem Ly(h:(ev n).T sc t ρ st=some (false,st1))(k:(ev n).E sc b ρ st1=some R):(ev (n+1)).E sc (.IfExp t a b p) ρ st=some R:=iX h k
theorem Qi(h:(ev n).E sc a ρ st=some R):(ev (n+1)).E sc (.BoolOp op [a] p) ρ st=some R:=h
theorem AW(h:(ev n).E sc a ρ st=some (x,st1))(h2:lK st1 x=some true)(k:(ev n).E sc (.BoolOp .And (b::es) p) ρ st1=some R):(ev (n+1)).E sc (.BoolOp .And (a::b::es) p) ρ st=some R:=iX h (iX h2 k)
theorem Qg(h:(ev n).E sc a ρ st=some (x,st1))(h2:lK st1 x=some true):(ev (n+1)).E sc (.BoolOp .Or (a::b::es) p) ρ st=some (x,st1):=iX h (iX h2 rfl)
theorem xm(hl:(!(lastMarks ops es||ops.length !=es.length||ops.isEmpty))=true)(h:(ev n).E sc a ρ st=some (x,st1))(h2:nR ((ev n).E sc) ρ x (ops.zip es) st1=some (b,jQ)):(ev (n+1)).E sc (.Compare a ops es p) ρ st=some (.bool b,jQ):=
 have e:KA (ev n) sc a ops es ρ st=some (b,jQ):=nG hl (iX h h2)
 (ow e:((KA (ev n) sc a ops es ρ st).map fun p=>(PV.bool p.1,p.2))=_)
theorem jI(h:f e ρ st=some (y,st1))(h2:jF st1 op x y=some b):nR f ρ x (List.zip [op] [e]) st=some (b,st1):=iX h (iX h2 (by(clear h h2;cases b)<;>rfl))
theorem Ut(h:f e ρ st=some (y,st1))(h2:jF st1 op x y=some true)(k:nR f ρ y (List.zip (op'::ops) es) st1=some R):nR f ρ x (List.zip (op::op'::ops) (e::es)) st=some R:=iX h (iX h2 k)
theorem Uo(h:j9 ((ev n).E sc) ρ es st=some (vs,st1))(hs:kM vs=true):(ev (n+1)).E sc (.List es p) ρ st=some (.lst st1.length,st1++[.lst vs]):=iX h (nG hs rfl)
theorem p6(h:j9 ((ev n).E sc) ρ es st=some (vs,st1))(hs:kM vs=true):(ev (n+1)).E sc (.Tuple es k p) ρ st=some (.tup vs,st1):=iX h (nG hs rfl)
theorem jr:j9 f ρ [] st=some ([],st):=rfl
theorem iY(hi:lI e=false)(h:f e ρ st=some (v,st1))(h2:j9 f ρ es st1=some (vs,jQ)):j9 f ρ (e::es) st=some (v::vs,jQ):=nG (aQ (! ·) hi) (iX h (ow h2))
theorem Xh(hi:(Ek i).isNone=true)(h1:(ev n).E sc a ρ st=some (x,st1))(h2:(ev n).E sc i ρ st1=some (y,jQ))(h3:jk jQ x y=some v):(ev (n+1)).E sc (.Subscript a i p) ρ st=some (v,jQ):=
 Su hi (iX h1 (iX h2 (ow h3)))
theorem kB{a:Expr}{lo hi step:Option Expr}{l h s:Option Int}{DX:St}(h1:(ev n).E sc a ρ st=some (x,st1))(h2:uT ((ev n).E sc) ρ lo st1=some (l,jQ))(h3:uT ((ev n).E sc) ρ hi jQ=some (h,uM))(h4:uT ((ev n).E sc) ρ step uM=some (s,DX))(h5:kR DX x l h s=some v):(ev (n+1)).E sc (.Subscript a (.Slice lo hi step q) p) ρ st=some (v,DX):=iX h1 (iX h2 (iX h3 (iX h4 (ow h5))))
theorem mz:uT f ρ none st=some (none,st):=rfl
theorem n9(h:f e ρ st=some (.int i,st1)):uT f ρ (some e) st=some (some i,st1):=iX h rfl
theorem Lz(hc:qX sc kh iter=true)(h:(ev n).E sc iter ρ st=some (x,st1))(hl:contents st1 x=some l)
  (k:lZ (ev n) kh (putL st1.length) elt target ifs (kI x st1) l (freeOf kh ρ) (st1++[.lst []])=some jQ) (hf:finish st1.length jQ (.lst st1.length)=some (v,uM)):(ev (n+1)).E sc (.ListComp elt [⟨target,iter,ifs,0⟩] kh p) ρ st=some (v,uM):=
 have e:vc (ev n) sc elt target iter ifs kh ρ st=some (v,uM):=nG hc (iX h (iX hl (iX k hf)))
 e
theorem Un(hc:(ur o&&q.endLine==p.line&&decide (args.length<20))=true)(h:(ev n).E sc o ρ st=some (x,st1))(hs:pK st1 x=true)(h2:j9 ((ev n).E sc) ρ args st1=some (vs,jQ))(h3:methP jQ x name vs=some R):(ev (n+1)).E sc (.Call (.Attribute o name q) args [] p) ρ st=some R:=
 have e:Sv (ev n) sc o name q p args ρ st=some R:=nG hc (iX h (nG hs (iX h2 h3)))
 e
theorem ug{f:Str}(hn:jW f ρ=none)(hk:i9 sc f=some .globalImplicit):ql sc ρ f=true:=by
 delta ql xA
 exact iR hn <| iR hk rfl
theorem GR{f:Str}(hn:jW f ρ=none)(hk:i9 sc f=some .globalImplicit)(ht:(f==("tuple":Str))=false)(h:Li (ev n) sc f args kws ρ st=some R):(ev (n+1)).E sc (.Call (.Name f q) args kws p) ρ st=some R:=(nG (ug hn hk) (iR ht h):GJ (ev n) sc f args kws ρ st=some R)
theorem Xi(hn:jW f ρ=none)(hk:i9 sc f=some .globalImplicit)(ht:(f==("tuple":Str))=false)(hb:kJ.contains f=true)(h2:j9 ((ev n).E sc) ρ args st=some (vs,st1))(h3:lz st1 f vs=some v):(ev (n+1)).E sc (.Call (.Name f q) args [] p) ρ st=some (v,st1):=
 GR hn hk ht (iX h2 (iX rfl (HR hb (nG rfl (ow h3)))))
theorem wM(hn:jW f ρ=none)(hk:i9 sc f=some .globalImplicit)(ht:(f==("tuple":Str))=false)(hb:kJ.contains f=false)(hf:(fnOf f).isNone=false)(h2:j9 ((ev n).E sc) ρ args st=some (vs,st1))(Kh:B0 ((ev n).E sc) ρ kws st1=some (ks,jQ))(h3:(ev n).C f vs ks jQ=some R):(ev (n+1)).E sc (.Call (.Name f q) args kws p) ρ st=some R:=
 GR hn hk ht (iX h2 (iX Kh (D9 hb (nG (aQ (! ·) hf) h3))))
theorem Uu(hn:jW f ρ=none)(hk:i9 sc f=some .globalImplicit)(ht:(f==("tuple":Str))=false)(hb:kJ.contains f=false)(hf:(fnOf f).isNone=false)(h2:j9 ((ev n).E sc) ρ args st=some (vs,st1))(h3:(ev n).C f vs [] st1=some R):(ev (n+1)).E sc (.Call (.Name f q) args [] p) ρ st=some R:=wM hn hk ht hb hf h2 rfl h3
theorem R2(h:(ev n).T sc a ρ st=some (b,st1)):(ev (n+1)).T sc (.UnaryOp .Not a p) ρ st=some (!b,st1):=ow h
theorem nu(h:(ev n).T sc a ρ st=some (true,st1))(k:(ev n).T sc (.BoolOp .And es p) ρ st1=some R):(ev (n+1)).T sc (.BoolOp .And (a::es) p) ρ st=some R:=iX h k
theorem rO(h:(ev n).T sc a ρ st=some (false,st1)):(ev (n+1)).T sc (.BoolOp .And (a::es) p) ρ st=some (false,st1):=iX h rfl
theorem oB(h:(ev n).T sc a ρ st=some (false,st1))(k:(ev n).T sc (.BoolOp .Or es p) ρ st1=some R):(ev (n+1)).T sc (.BoolOp .Or (a::es) p) ρ st=some R:=iX h k
theorem um(h:(ev n).T sc a ρ st=some (true,st1)):(ev (n+1)).T sc (.BoolOp .Or (a::es) p) ρ st=some (true,st1):=iX h rfl
theorem R3:(ev (n+1)).T sc (.BoolOp op [] p) ρ st=some (op== .And,st):=rfl
theorem W9(hl:(!(lastMarks ops es||ops.length !=es.length||ops.isEmpty))=true)(h:(ev n).E sc a ρ st=some (x,st1))(h2:nR ((ev n).E sc) ρ x (ops.zip es) st1=some R):(ev (n+1)).T sc (.Compare a ops es p) ρ st=some R:=nG hl (iX h h2)
theorem nK(hc:Sh e=true)(h:(ev n).E sc e ρ st=some (x,st1))(h2:lK st1 x=some b):(ev (n+1)).T sc e ρ st=some (b,st1):=XI hc (iX h (ow h2))
theorem GK:lZ (ev n) sc put elt target ifs fit [] ρ st=some st:=rfl
theorem rB(ha:kX sc st target v ρ=some lO)(ht:rI ((ev n).T sc) lO ifs st=some (true,st1))(he:(ev n).E sc elt lO st1=some (x,jQ))(hp:put x jQ=some uM)(hf:fit uM=true)(k:lZ (ev n) sc put elt target ifs fit l lO uM=some DX):lZ (ev n) sc put elt target ifs fit (v::l) ρ st=some DX:=iX ha (iX ht (iX (iX he hp) (nG hf k)))
theorem AN(ha:kX sc st target v ρ=some lO)(ht:rI ((ev n).T sc) lO ifs st=some (false,st1))(hf:fit st1=true)(k:lZ (ev n) sc put elt target ifs fit l lO st1=some DX):lZ (ev n) sc put elt target ifs fit (v::l) ρ st=some DX:=iX ha (iX ht (iX rfl (nG hf k)))
theorem pB:rI t ρ [] st=some (true,st):=rfl
theorem vJ(h:t e ρ st=some (b,st1)):rI t ρ [e] st=some (b,st1):=iX h (by(clear h;cases b)<;>rfl)
theorem kN(b:fnOf f=some (a,body,sc):=by rfl)(c:Ky sc=true:=by decide +kernel)(d:zA a args kws=some (xs,vs):=by rfl)(e:storeAll sc xs vs []=some ρ:=by rfl)(k:i0 ((ev n).S sc) body ρ st=some (fl,lO,st1))(h:finish st.length st1 (B9 fl)=some (u,jQ):=by rfl)(hi:(!u9.contains f||(st.isEmpty&&(i_ 0 args&&i_ 0 (kws.map (·.2)))&&Cj u))=true:=by rfl):(ev (n+1)).C f args kws st=some (u,jQ):=aae b c d e k h hi
theorem iS(b:(Te t).isNone=true:=by rfl)(c:((isTuple t&&isTuple e)||(!isTuple t&&AI e))=false:=by rfl)(h:(ev n).E sc e ρ st=some (v,st1))(d:kX sc st1 t v ρ=some lO:=by rfl):(ev (n+1)).S sc (.Assign [t] e p) ρ st=some (.next,lO,st1):=MT b c h d
theorem jg(b:jW f ρ=none:=by rfl)(c:i9 sc f=some .globalImplicit:=by rfl)(d:(f==("tuple":Str))=false:=by rfl)(e:kJ.contains f=false:=by rfl)(i:(fnOf f).isNone=false:=by rfl)(g:j9 ((ev n).E sc) ρ args st=some (vs,st1):=by rfl)(h:(ev n).C f vs [] st1=some R):(ev (n+1)).E sc (.Call (.Name f q) args [] p) ρ st=some R:=Uu b c d e i g h
theorem ja(b:(Ek i).isNone=true:=by rfl)(c:(ev n).E sc a ρ st=some (x,st1):=by rfl)(d:(ev n).E sc i ρ st1=some (y,jQ):=by rfl)(h:jk jQ x y=some v):(ev (n+1)).E sc (.Subscript a i p) ρ st=some (v,jQ):=Xh b c d h
theorem jV(b:jW f ρ=none:=by rfl)(c:i9 sc f=some .globalImplicit:=by rfl)(d:(f==("tuple":Str))=false:=by rfl)(e:kJ.contains f=true:=by rfl)(g:j9 ((ev n).E sc) ρ args st=some (vs,st1):=by rfl)(h:lz st1 f vs=some v):(ev (n+1)).E sc (.Call (.Name f q) args [] p) ρ st=some (v,st1):=Xi b c d e g h
theorem jo(b:(ur o&&q.endLine==p.line&&decide (args.length<20))=true:=by rfl)(c:(ev n).E sc o ρ st=some (x,st1):=by rfl)(d:pK st1 x=true:=by rfl)(g:j9 ((ev n).E sc) ρ args st1=some (vs,jQ):=by rfl)(h:methP jQ x name vs=some R):(ev (n+1)).E sc (.Call (.Attribute o name q) args [] p) ρ st=some R:=Un b c d g h
theorem jT(b:qX sc kh iter=true:=by rfl)(c:(ev n).E sc iter ρ st=some (x,st1):=by rfl)(d:contents st1 x=some l:=by rfl)(a:lZ (ev n) kh (putL st1.length) elt target ifs (kI x st1) l (freeOf kh ρ) (st1++[.lst []])=some jQ)(h:finish st1.length jQ (.lst st1.length)=some (v,uM)):(ev (n+1)).E sc (.ListComp elt [⟨target,iter,ifs,0⟩] kh p) ρ st=some (v,uM):=Lz b c d a h
theorem ju(b:(!(lastMarks ops es||ops.length !=es.length||ops.isEmpty))=true:=by rfl)(c:(ev n).E sc a ρ st=some (x,st1):=by rfl)(h:nR ((ev n).E sc) ρ x (ops.zip es) st1=some R):(ev (n+1)).T sc (.Compare a ops es p) ρ st=some R:=W9 b c h
end
theorem rR{α β γ:Type}{f:α->Option β}{g:γ->α}{k:γ->β}(h:∀a,f (g a)=some (k a)):∀l:List γ,mW f (l.map g)=some (l.map k):=by
 intro l
 induction l with
 |nil=>rfl
 |cons a l ih=>exact iX (h a) (ow ih)
theorem AZ{α β:Type}{f:α->Option β}{g:β->α}(h:∀a,f (g a)=some a)(l:List β):mW f (l.map g)=some l:=(rR (k:=id) h l).trans (aQ some (List.map_id l))
theorem xW(l:List Int):xu (l.map .int)=some l:=AZ (f:=jJ) (g:=.int) (fun ζ=>rfl) l
theorem BI{α β:Type}(f:α->β)(n:Int)(l:List α)(a:Int):nD n (l.map f) a=(nD n l a).map f:=by
 unfold nD;refine iR (aJ ..) <| iR (List.map_filterMap ..) ?_
 congr 1;funext i;simp
theorem pJ(st:St)(k:Int)(ns:List Int):lz st "sum" [.list (nD 7 (ns.map PV.int) k)]=some (.int (nD 7 ns k).sum):=by
 refine iR (BI ..) <| (?_:(xu ((nD 7 ns k).map PV.int)).map (fun ns=>PV.int ns.sum)=_)
 exact iR (xW ..) rfl
noncomputable def Ua:List Int:=[1356,1104,1843,691,2454,1279,1956]
noncomputable def ru (ns:List Int) (k:Nat):Int:=(Ua.getD k 0)+(nD 7 ns (k:Int)).sum
theorem Qn(n:Nat)(ns:List Int):(ev (n+7)).C "_law_numbers" [.list (ns.map .int)] [] []=some (.list [.int (ru ns 0),.int (ru ns 1),.int (ru ns 2),.int (ru ns 3),.int (ru ns 4),.int (ru ns 5),.int (ru ns 6)],[]):=by
 refine kN (k:=iT (iS (h:=by rfl)) (lA (jT (a:=rB (by rfl) pB (jb (by rfl) (jV (g:=iY (by rfl) (by rfl) jr) (h:=pJ _ _ _)) (by rfl)) (by rfl) (by rfl) (rB (by rfl) pB (jb (by rfl) (jV (g:=iY (by rfl) (by rfl) jr) (h:=pJ _ _ _)) (by rfl)) (by rfl) (by rfl) (rB (by rfl) pB (jb (by rfl) (jV (g:=iY (by rfl) (by rfl) jr) (h:=pJ _ _ _)) (by rfl)) (by rfl) (by rfl) (rB (by rfl) pB (jb (by rfl) (jV (g:=iY (by rfl) (by rfl) jr) (h:=pJ _ _ _)) (by rfl)) (by rfl) (by rfl) (rB (by rfl) pB (jb (by rfl) (jV (g:=iY (by rfl) (by rfl) jr) (h:=pJ _ _ _)) (by rfl)) (by rfl) (by rfl) (rB (by rfl) pB (jb (by rfl) (jV (g:=iY (by rfl) (by rfl) jr) (h:=pJ _ _ _)) (by rfl)) (by rfl) (by rfl) (rB (by rfl) pB (jb (by rfl) (jV (g:=iY (by rfl) (by rfl) jr) (h:=pJ _ _ _)) (by rfl)) (by rfl) (by rfl) GK))))))) (h:=by rfl))))
noncomputable abbrev Yk (a b c d e f g:Int):PV:=.list [.int a,.int b,.int c,.int d,.int e,.int f,.int g]
theorem XY(n:Nat)(a b c d e f g:Int):(ev (n+7)).C "_law_above" [Yk a b c d e f g] [] []=some (Yk 0 (Int.fmod b 1) (Int.fmod c 2) (Int.fmod d 3) (Int.fmod e 4) (Int.fmod f 5) (Int.fmod g 6),[]):=by rfl
noncomputable def tB (d:Nat):Nat:=if d<10 then 48+d else 87+d
noncomputable def mw (d:Nat):ah:=[tB (d / 4096%16),tB (d / 256%16),tB (d / 16%16),tB (d%16)]
noncomputable def TL:ah:=(Str.ofString "0123456789abcdef").cps.toList
theorem fdm(d m k:Nat):Int.fmod (Int.fdiv (d:Int) (m:Int)) (k:Int)=((d / m%k:Nat):Int):=iR (Int.fdiv_eq_ediv_of_nonneg _ (bI m)) <| iR (Int.fmod_eq_emod_of_nonneg _ (bI k)) rfl
theorem UT(j:Nat)(h:j<16):idx TL (j:Int)=some (tB j):=by
 have:∀j:Nat,j<16->idx TL (j:Int)=some (tB j):=by decide+kernel
 exact this j h
theorem uC(d m:Nat):(idx TL (Int.fmod (Int.fdiv (d:Int) (m:Int)) (16:Nat))).map (fun c=>PV.str [c])=some (.str [tB (d / m%16)]):=iR (fdm ..) <| iR (UT _ (fQ _ (by decide)) ..) rfl
theorem Ht(n:Nat)(d:Nat):(ev (n+9)).C "_law_figures" [.int d] [] []=some (.str (mw d),[]):=by
 refine iR (by(refine iR (Nat.div_one ..) ?_);rfl:mw d=[tB (d / 4096%16),tB (d / 256%16),tB (d / 16%16),tB (d / 1%16)]) ?_;refine kN (k:=iT (iS (h:=by rfl)) (iT (rG (by rfl) (by rfl) (by rfl) (oM (by rfl) (iT (iS (h:=jb (ja (h:=by exact uC d 1)) (by rfl) (by rfl))) jq) (.inl rfl) (by rfl) (oM (by rfl) (iT (iS (h:=jb (ja (h:=by exact uC d 16)) (by rfl) (by rfl))) jq) (.inl rfl) (by rfl) (oM (by rfl) (iT (iS (h:=jb (ja (h:=by exact uC d 256)) (by rfl) (by rfl))) jq) (.inl rfl) (by rfl) (oM (by rfl) (iT (iS (h:=jb (ja (h:=by exact uC d 4096)) (by rfl) (by rfl))) jq) (.inl rfl) (by rfl) AF))))) (lA (by rfl))))
noncomputable def qS:ah:=[97,98,99,100,101,102]
noncomputable def OI (a:Nat->Nat):Nat->Nat->ah
 |0,_=>[]
 |f+1,k=>if k=0 then[]else OI a f (a k)++[k]
noncomputable def wd (a:Nat->Nat) (k:Nat):ah:=OI a k k
noncomputable def S (w:ah):ah:=w.flatMap fun c=>47::qS.take c
def Tree (a:Nat->Nat):Prop:=∀k,0<k->a k<k
theorem tE{a:Nat->Nat}(T:Tree a){P:Nat->Prop}(h0:P 0)(hs:∀k,0<k->a k<k->P (a k)->P k)(k:Nat):P k:=
 Nat.strongRecOn k fun k ih=>(Nat.eq_zero_or_pos k).elim (fun e=>e▸h0) fun h=>hs k h (T k h) (ih _ (T k h))
theorem Ma{a:Nat->Nat}(T:Tree a)(f k:Nat)(hf:k<=f):OI a f k=OI a k k:=
 tE T (P:=fun k=>∀f,k<=f->OI a f k=OI a k k) (fun f ζ=>by cases f<;>rfl) (fun k h h1 ih f hf=>by
  obtain⟨k,rfl⟩:=c_ (cN h);obtain⟨f,rfl⟩:=c_ (cN (aW h hf));rw[OI,OI,aS (Nat.succ_ne_zero k),aS (Nat.succ_ne_zero k),ih f (ao (aM h1) (Nat.le_of_succ_le_succ hf)),ih k (aM h1)]) k f hf
theorem pY(a:Nat->Nat):wd a 0=[]:=rfl
theorem lJ{a:Nat->Nat}(T:Tree a)(k:Nat)(h:0<k):wd a k=wd a (a k)++[k]:=by
 cases k with
 |zero=>(exact absurd ‹_› (dP _))
 |succ k=>
  have h1:=T (k+1) h;unfold wd;rw[OI,aS (Nat.succ_ne_zero k),Ma T k (a (k+1)) (aM ‹_›)]
theorem SK:S []=[]:=rfl
theorem Vf(u:ah)(k:Nat):S (u++[k])=S u++47::qS.take k:=by
 unfold S;refine iR List.flatMap_append ?_;simp
theorem LW(u:ah)(k:Nat):S (k::u)=47::(qS.take k++S u):=by
 unfold S;exact iR List.flatMap_cons rfl
theorem W3{a:Nat->Nat}(T:Tree a)(k:Nat)(h:0<k):S (wd a k)=S (wd a (a k))++47::qS.take k:=by(refine iR (lJ T k h ..) ?_;refine iR (Vf ..) ?_;exact rfl)
theorem X_{a:Nat->Nat}(T:Tree a)(f k:Nat)(_:k<=f):(S (wd a k)).length<=7*k:=
 tE T (P:=fun k=>(S (wd a k)).length<=7*k) (by simp[pY,SK]) (fun k h h1 ih=>by
  have hn:qS.length=6:=rfl;refine iR (W3 T k h) ?_;simp only[au,aB,bD];exact ao (ck ih (cQ (ao (cH ..) (aE hn)))) (bS 7 h1)) k
theorem LV{a:Nat->Nat}(T:Tree a)(k:Nat):(S (wd a k)).length<=7*k:=X_ T k k (aK k)
theorem qI{α:Type}(g:Nat->α)(k j:Nat)(h:j<k):idx ((List.range k).map g) ((j:Nat):Int)=some (g j):=by
 unfold idx;refine iR (a_ (bI j) ..) <| iR (b7 ..) <| iR (bk ..) ?_
 refine iR (gn h ..) ?_;rfl
theorem add_str(st:St){x y:ah}(h:(x++y).length<=BX):kZ st .Add (.str x) (.str y)=some (.str (x++y)):=by
 have e:Gu .Add x (.str y)=some (x++y):=by
  exact(nG (aH h) rfl:gd (kM (x++y)) (some (x++y))=_)
 refine(iR e ?_:(Gu .Add x (.str y)).map PV.str=_);rfl
noncomputable def tx (a:Nat->Nat) (k:Nat):ah:=S (wd a k)
theorem uX{a:Nat->Nat}(T:Tree a)(st:St)(k:Nat)(h:0<k)(h6:k<=6):kZ st .Add (.str (tx a (a k)++[47])) (.str (qS.take k))=some (.str (tx a k)):=by
 have e:tx a k=(tx a (a k)++[47])++qS.take k:=by unfold tx;(refine iR (W3 T k h) ?_);simp
 have l:=LV T k;unfold tx at e;have l2:((tx a (a k)++[47])++qS.take k).length<=BX:=by
  (refine jC e ?_);unfold BX;exact lit (ao l (bS 7 h6))
 refine iR (add_str st l2) ?_;unfold tx;exact iR e rfl
theorem sd{a:Nat->Nat}(T:Tree a)(st:St)(k:Nat)(h:0<k)(h6:k<=6):kZ st .Add (.str (tx a (a k))) (.str [47])=some (.str (tx a (a k)++[47])):=by
 have l:=LV T (a k);have l1:=T k h;refine add_str st ?_;dsimp only[tx,BX];simp only[au,aB,b8];exact lit (cQ (ao l (bS 7 (ao (bC l1) h6))))
theorem nV{a:Nat->Nat}(T:Tree a)(k:Nat)(h:0<k):(idx ((List.range k).map fun j=>PV.str (tx a j)) ((a k:Nat):Int))=some (.str (tx a (a k))):=qI (fun j=>PV.str (tx a j)) k (a k) (T k h)
theorem W8{a:Nat->Nat}(T:Tree a)(n:Nat):(ev (n+9)).C "_law_texts" [Yk 0 (a 1) (a 2) (a 3) (a 4) (a 5) (a 6)] [] []=some (.list [.str [47],.str (tx a 1),.str (tx a 2),.str (tx a 3),.str (tx a 4),.str (tx a 5),.str (tx a 6)],[]):=by
 refine kN (k:=iT (iS (h:=by rfl)) (iT (rG (by rfl) (by rfl) (by rfl) (oM (by rfl) (iT (kT (by rfl) (jo (g:=iY (by rfl) (jb (jb (ja (h:=by exact nV T 1 (by decide))) (by rfl) (sd T _ 1 (by decide) (by decide))) (by rfl) (uX T _ 1 (by decide) (by decide))) jr) (h:=by rfl))) jq) (.inl rfl) (by rfl) (oM (by rfl) (iT (kT (by rfl) (jo (g:=iY (by rfl) (jb (jb (ja (h:=by exact nV T 2 (by decide))) (by rfl) (sd T _ 2 (by decide) (by decide))) (by rfl) (uX T _ 2 (by decide) (by decide))) jr) (h:=by rfl))) jq) (.inl rfl) (by rfl) (oM (by rfl) (iT (kT (by rfl) (jo (g:=iY (by rfl) (jb (jb (ja (h:=by exact nV T 3 (by decide))) (by rfl) (sd T _ 3 (by decide) (by decide))) (by rfl) (uX T _ 3 (by decide) (by decide))) jr) (h:=by rfl))) jq) (.inl rfl) (by rfl) (oM (by rfl) (iT (kT (by rfl) (jo (g:=iY (by rfl) (jb (jb (ja (h:=by exact nV T 4 (by decide))) (by rfl) (sd T _ 4 (by decide) (by decide))) (by rfl) (uX T _ 4 (by decide) (by decide))) jr) (h:=by rfl))) jq) (.inl rfl) (by rfl) (oM (by rfl) (iT (kT (by rfl) (jo (g:=iY (by rfl) (jb (jb (ja (h:=by exact nV T 5 (by decide))) (by rfl) (sd T _ 5 (by decide) (by decide))) (by rfl) (uX T _ 5 (by decide) (by decide))) jr) (h:=by rfl))) jq) (.inl rfl) (by rfl) (oM (by rfl) (iT (kT (by rfl) (jo (g:=iY (by rfl) (jb (jb (ja (h:=by exact nV T 6 (by decide))) (by rfl) (sd T _ 6 (by decide) (by decide))) (by rfl) (uX T _ 6 (by decide) (by decide))) jr) (h:=by rfl))) jq) (.inl rfl) (by rfl) AF))))))) (lA (by rfl))))
noncomputable def rN (i:Int):Nat:=(Int.fmod (Int.fdiv i 6) 3).toNat
noncomputable def hN (i:Int):Nat:=(Int.fmod (Int.fdiv i 18) 6).toNat
noncomputable def bN (i:Int):Nat:=(Int.fmod (Int.fdiv i 108) 3).toNat
noncomputable def dN (i:Int):Nat:=(Int.fmod (Int.fdiv i 324) 55296).toNat
theorem mh(x:Int)(m:Nat)(h:0<m):((Int.fmod x m).toNat:Int)=Int.fmod x m/\(Int.fmod x m).toNat<m:=by
 have h2:Int.fmod x m<m:=Int.fmod_lt_of_pos x (cE.mpr ‹_›);exact⟨Int.toNat_of_nonneg (Int.fmod_nonneg_of_pos x (cE.mpr ‹_›):0<=Int.fmod x m),by(exact(iQ (Int.fmod_nonneg_of_pos x (cE.mpr h))).mpr (Int.fmod_lt_of_pos x (cE.mpr h)))⟩
theorem Xj(i:Int):rN i<3:=(mh (Int.fdiv i 6) 3 (by decide)).2
theorem So(i:Int):hN i<6:=(mh (Int.fdiv i 18) 6 (by decide)).2
theorem XT(i:Int):bN i<3:=(mh (Int.fdiv i 108) 3 (by decide)).2
theorem XH(i:Int):dN i<55296:=(mh (Int.fdiv i 324) 55296 (by decide)).2
noncomputable def wc (j:Nat):ah:=([[47],[],[47,46,47],[47,122,47,46,46,47],[47,47,47],[46,46,47]]:List (ah)).getD j []
noncomputable def wJ (j:Nat):ah:=([[],[32,35,32,39,1],[9,39]]:List (ah)).getD j []
theorem CV(i:Int):idx ((List.range 6).map fun j=>PV.str (wc j)) (Int.fmod (Int.fdiv i 18) 6)=some (.str (wc (hN i))):=by
 have e:Int.fmod (Int.fdiv i 18) 6=((hN i:Nat):Int):=(mh (Int.fdiv i 18) 6 (by decide)).1.symm;exact iR e <| qI (fun j=>PV.str (wc j)) 6 (hN i) (So i)
theorem CT(i:Int):idx ((List.range 3).map fun j=>PV.str (wJ j)) (Int.fmod (Int.fdiv i 108) 3)=some (.str (wJ (bN i))):=by
 have e:Int.fmod (Int.fdiv i 108) 3=((bN i:Nat):Int):=(mh (Int.fdiv i 108) 3 (by decide)).1.symm;exact iR e <| qI (fun j=>PV.str (wJ j)) 3 (bN i) (XT i)
theorem rQ(st:St)(s:ah)(j:Nat):kR st (.str s) none (some ((j:Nat):Int)) none=some (.str (s.take j)):=by
 refine(?_:(nt s none (some (j:Int))).map PV.str=_);unfold nt;have:nQ s.length ((j:Nat):Int)=some (min j s.length):=by unfold nQ;(refine iR (a_ (bI j)) ?_);rfl
 simp only[Option.map_none,ee,Option.getD_none,fH,this,fM,List.drop_zero,Nat.sub_zero];congr 2;rw[List.take_eq_take_iff]
 (exact cI (cH ..))
theorem q9(st:St)(s:ah)(j:Nat):kR st (.str s) (some ((j:Nat):Int)) none none=some (.str (s.drop j)):=by
 refine(?_:(nt s (some (j:Int)) none).map PV.str=_);unfold nt;have:nQ s.length ((j:Nat):Int)=some (min j s.length):=by unfold nQ;(refine iR (a_ (bI j)) ?_);rfl
 simp only[Option.map_none,ee,Option.getD_none,fH,this,fM];congr 2;refine bc (p:=j<=s.length) (fun h=> ?_) fun h=> ?_
 ·exact iR (cI h) <| cR (by simp)
 ·rw[Nat.min_eq_right (gp h),Nat.sub_self,List.take_zero,dm (gp h)]
theorem GQ(st:St)(i:Int):kR st (.str [9,32]) none (some (Int.fmod (Int.fdiv i 6) 3)) none=some (.str (([9,32]:ah).take (rN i))):=by
 have e:Int.fmod (Int.fdiv i 6) 3=((rN i:Nat):Int):=(mh (Int.fdiv i 6) 3 (by decide)).1.symm;exact iR e <| rQ st [9,32] (rN i)
noncomputable def VI (r h:Nat) (t:ah) (b:Nat):ah:=(((((([9,32]:ah).take r++[39])++wc h)++t)++[39])++wJ b)++[10]
theorem HA(j:Nat):(wc j).length<=6:=by
 unfold wc
 match j with
 |0|1|2|3|4|5=>decide
 |j+6=>simp
theorem Bc(j:Nat):(wJ j).length<=5:=by
 unfold wJ
 match j with
 |0|1|2=>decide
 |j+3=>simp
theorem oJ(st:St){x y:ah}(hx:x.length<=1000)(hy:y.length<=1000):kZ st .Add (.str x) (.str y)=some (.str (x++y)):=by
 refine add_str st <| iR au ?_
 unfold BX
 (exact lit (ck hx hy))
theorem le_app{x y:ah}{a b:Nat}(hx:x.length<=a)(hy:y.length<=b):(x++y).length<=a+b:=iR au (ck hx hy)
theorem lN(st:St)(r h:Nat)(t:ah)(b:Nat)(ht:t.length<=500):
  kZ st .Add (.str (([9,32]:ah).take r)) (.str [39])=some (.str (([9,32]:ah).take r++[39]))/\
  kZ st .Add (.str (([9,32]:ah).take r++[39])) (.str (wc h))=some (.str ((([9,32]:ah).take r++[39])++wc h))/\
  kZ st .Add (.str ((([9,32]:ah).take r++[39])++wc h)) (.str t)=some (.str (((([9,32]:ah).take r++[39])++wc h)++t))/\
  kZ st .Add (.str (((([9,32]:ah).take r++[39])++wc h)++t)) (.str [39])=some (.str ((((([9,32]:ah).take r++[39])++wc h)++t)++[39]))/\
  kZ st .Add (.str ((((([9,32]:ah).take r++[39])++wc h)++t)++[39])) (.str (wJ b))=some (.str (((((([9,32]:ah).take r++[39])++wc h)++t)++[39])++wJ b))/\
  kZ st .Add (.str (((((([9,32]:ah).take r++[39])++wc h)++t)++[39])++wJ b)) (.str [10])=some (.str (VI r h t b)):=by
 have l0:(([9,32]:ah).take r).length<=2:=by(refine iR bD ?_);exact cH ..
 have l1:=HA h;have l2:=Bc b;have l3:=le_app l0 (aK [39].length);have l4:=le_app l3 l1;have l5:=le_app l4 ht;have l6:=le_app l5 (aK [39].length);exact Zf (oJ st (lit l0) (by decide)) (oJ st (lit l3) (lit l1)) (oJ st (lit l4) (lit ht)) (oJ st (lit l5) (by decide)) (oJ st (lit l6) (lit l2)) (oJ st (lit (le_app l6 l2)) (by decide))
noncomputable def kE (e:Expr):List Expr:=e.casesOn (fun z l z=>l) (fun z z z=>[]) (fun a z b z=>[a,b]) (fun z z z=>[]) (fun z z z z=>[]) (fun z z z z=>[]) (fun z z z=>[]) (fun z z z=>[]) (fun e z z z=>[e]) (fun z z z z=>[]) (fun z z z z z=>[]) (fun z z z z=>[]) (fun z z=>[]) (fun z z=>[]) (fun z z=>[]) (fun a z l z=>a::l) (fun f l z z=>f::l) (fun z z z z=>[]) (fun z z=>[]) (fun z z z=>[]) (fun z z z=>[]) (fun z z z=>[]) (fun z z=>[]) (fun z z=>[]) (fun l z=>l) (fun z z z=>[]) (fun z z z z=>[])
noncomputable def gE (e:Expr):List Comprehension×Scope:=e.casesOn (fun z z z=>default) (fun z z z=>default) (fun z z z z=>default) (fun z z z=>default) (fun z z z z=>default) (fun z z z z=>default) (fun z z z=>default) (fun z z z=>default) (fun z g c z=>(g,c)) (fun z z z z=>default) (fun z z z z z=>default) (fun z z z z=>default) (fun z z=>default) (fun z z=>default) (fun z z=>default) (fun z z z z=>default) (fun z z z z=>default) (fun z z z z=>default) (fun z z=>default) (fun z z z=>default) (fun z z z=>default) (fun z z z=>default) (fun z z=>default) (fun z z=>default) (fun z z=>default) (fun z z z=>default) (fun z z z z=>default)
noncomputable def kS (s:Stmt):List Expr×List Stmt:=s.casesOn (fun z z z z z z z z z z=>default) (fun z z z z z z z z z z=>default) (fun z z z z z z z z z z z=>default) (fun o z=>(o.toList,[])) (fun z z=>default) (fun z e z=>([e],[])) (fun z z z z z z z=>default) (fun z z z z=>default) (fun z z z z z=>default) (fun t i b z z=>([t,i],b)) (fun z z z z z=>default) (fun t b z z=>([t],b)) (fun t b z z=>([t],b)) (fun z z z=>default) (fun z z z=>default) (fun z z z=>default) (fun z z z=>default) (fun b z z z z=>([],b)) (fun z z z z z=>default) (fun z z z=>default) (fun z z=>default) (fun z z z z=>default) (fun z z=>default) (fun z z=>default) (fun z z=>default) (fun z=>default) (fun z=>default) (fun z=>default)
noncomputable def Gk (e:Expr) (i:Nat):Expr:=(kE e).getD i default
noncomputable abbrev k6 (e:Expr):Expr:=Gk e 1
noncomputable abbrev lg (e:Expr):Expr:=Gk e 0
noncomputable def qw (e:Expr):Expr:=(gE e).1.head?.elim default (·.target)
noncomputable def qx (e:Expr):List Expr:=(gE e).1.head?.elim [] (·.ifs)
noncomputable def n_ (e:Expr):Scope:=(gE e).2
noncomputable def jL (f:Str):List Stmt:=(fnOf f).elim [] (·.2.1)
noncomputable def i7 (f:Str):Scope:=(fnOf f).elim default (·.2.2)
noncomputable def OJ (l:List Stmt) (i:Nat):List Stmt:=(kS (l.getD i default)).2
noncomputable def rt (l:List Stmt) (i:Nat):Expr:=(kS (l.getD i default)).1.headD default
noncomputable abbrev jj (f:Str) (i:Nat):List Stmt:=OJ (jL f) i
inductive aaW(B:i8->St->Option (jf×i8×St))(sc:Scope)(target:Expr)(fit:St->Bool)(P:i8->St->Prop)(v:PV)(ρ:i8)(st:St):Prop
 |mk (lO:i8) (fl:jf) (zh:i8) (jQ:St) (h1:kX sc st target v ρ=some lO) (h2:B lO st=some (fl,zh,jQ)) (h3:fl= .next\/fl= .cont) (h4:fit jQ=true) (h5:P zh jQ)
theorem oZ{B:i8->St->Option (jf×i8×St)}{sc:Scope}{target:Expr}{fit:St->Bool}(I:Nat->i8->St->Prop):∀(l:List PV)(j:Nat)(ρ:i8)(st:St),I j ρ st->
  (∀i v ρ st,l[i]? =some v->I (j+i) ρ st->aaW B sc target fit (I (j+(i+1))) v ρ st)->
  ∃kC ji,qy B sc target fit l ρ st=some (.next,kC,ji)/\I (j+l.length) kC ji:=by
 intro L0
 induction L0 with
 |nil=>
  intro j ρ st h _;exact Ow ρ st rfl h
 |cons v l ih=>
  intro j ρ st h step;refine cps fun G_ z1=> ?_;obtain⟨lO,fl,zh,jQ,h1,h2,h3,h4,h5⟩:=step 0 v ρ st rfl h;obtain⟨kC,ji,h6,h7⟩:=ih (j+1) zh jQ (h5) (fun i v ρ st hv hI=>by
   have e:j+(i+1)=j+1+i:=by(exact(Nat.add_right_comm j 1 i).symm)
   have:=step (i+1) v ρ st hv (iR e hI);rw[show j+(i+1+1)=j+1+(i+1) by(exact(Nat.add_right_comm j 1 (i+1)).symm)]at this;exact this)
  refine z1 <| (Ow kC ji (oM h1 h2 h3 h4 h6) ?_)
  rw[aB,show j+(l.length+1)=j+1+l.length by(exact(Nat.add_right_comm j 1 l.length).symm)];exact h7
theorem u7{st:St}{k:Nat}{L:List PV}(h:st[k]? =some (.lst L)):j7 st k=some L:=by unfold j7;(refine iR h ?_;exact rfl)
theorem zU(st:St)(vs:List PV):j7 (st++[.lst vs]) st.length=some vs:=u7 (by simp)
theorem p_(st:St)(vs:List PV)(i:Int)(v:PV)(h:idx vs i=some v):jk (st++[.lst vs]) (.lst st.length) (.int i)=some v:=by
 refine(iR (zU ..) ?_:(j7 (st++[.lst vs]) st.length).bind (fun l=>idx l i)=_);exact h
theorem append_at(st:St)(k:Nat)(L:List PV)(v:PV)(h:st[k]? =some (.lst L))(hl:L.length<=1000):methP st (.lst k) "append" [v]=some (.none,st.set k (.lst (L++[v]))):=by
 have e2:(("append":Str)==("append":Str))=true:=by decide+kernel
 have e3:kM L=true:=aH (by unfold BX;(exact lit hl));refine(?_:wN st k "append" [v]=_);unfold wN;refine iR (by decide+kernel:(("append":Str)==("pop":Str))=false) <| iR e2 <| iR (u7 h) <| (?_:gd (kM L) _=_)
 exact iR e3 rfl
theorem rj{st:St}{k:Nat}{L:List PV}(h:st[k]? =some (.lst L)):pK st (.lst k)=true:=by
 refine(iR (u7 h) ?_:(j7 st k).isSome=true);rfl
theorem qF(f:PV->Option PV)(hf:∀s,f (.str s)=some (.str s)):∀L:List (ah),mW f (L.map .str)=some (L.map .str):=rR hf
theorem Dw{st:St}{k:Nat}{L:List (ah)}(h:st[k]? =some (.lst (L.map .str))):finish 0 st (.lst k)=some (.list (L.map .str),[]):=by
 unfold finish;have h1:jh st 0 6 (.lst k)=some (.list (L.map .str)):=by
  refine(iR (aS (gM k)) ?_:(if k<0 then some (PV.lst k)else(j7 st k).bind fun l=>(mW (jh st 0 5) l).map PV.list)=_);refine iR (u7 h) <| (?_:(mW (jh st 0 5) (L.map PV.str)).map PV.list=_)
  exact iR (qF (jh st 0 5) (fun s=>rfl) ..) rfl
 exact iR h1 rfl
theorem n8{st:St}{k:Nat}{c:j8}(x:j8)(h:st[k]? =some c):(st++[x])[k]? =some c:=by
 have hk:k<st.length:=by
  refine cg (Nat.lt_or_ge k st.length) (fun h'=> ?_) fun h'=> ?_
  ·exact h'
  ·replace h:=(fU h')▸h
   cases h
 refine iR (bf hk) ?_;exact h
theorem QY{st:St}{k:Nat}{c:j8}(x:j8)(h:st[k]? =some c):(st.set k x)[k]? =some x:=by
 have hk:k<st.length:=by
  rcases Nat.lt_or_ge k st.length with h'|h'
  ·exact h'
  ·replace h:=(fU h')▸h
   cases h
 refine iR (List.getElem?_set_self hk) ?_;exact rfl
theorem E5(n:Nat){nums SP:List PV}{k i:Int}{t:ah}{st:St}{L:List PV}{a0 b0:PV}(hi:∀st,jk st (.list nums) (.int k)=some (.int i))(ht:∀st,jk st (.list SP) (.int k)=some (.str t))(l1:t.length<=100)(mq:st[0]? =some (.lst L))(hl:L.length<=1000):
  i0 ((ev (n+13)).S (i7 "_law_rests")) (jj "_law_rests" 1) [("numbers",.list nums),("texts",.list SP),("rests",.lst 0),("k",.int k)] st=some (jf.next,([("numbers",.list nums),("texts",.list SP),("rests",.lst 0),("k",.int k),("ahead",.str (wc (hN i))),("behind",.str (wJ (bN i)))]:i8),
   ((st++[j8.lst ((List.range 6).map fun j=>PV.str (wc j))])++[j8.lst ((List.range 3).map fun j=>PV.str (wJ j))]).set 0 (j8.lst (L++[PV.str (VI (rN i) (hN i) (t.drop 1) (bN i))]))):=iT (iS (h:=ja (d:=jb (jb (ja (h:=hi _)) (by rfl) (by rfl)) (by rfl) (by rfl)) (h:=p_ _ _ _ _ (CV i)))) (iT (iS (h:=ja (d:=jb (jb (ja (h:=hi _)) (by rfl) (by rfl)) (by rfl) (by rfl)) (h:=by exact p_ _ _ _ _ (CT i)))) (iT (kT (by rfl) (jo (d:=by exact rj (n8 _ (n8 _ mq))) (g:=iY (by rfl) (jb (jb (jb (jb (jb (jb (kB (by rfl) mz (n9 (jb (jb (ja (h:=hi _)) (by rfl) (by rfl)) (by rfl) (by rfl))) mz (GQ _ i)) (by rfl) ((lN _ (rN i) (hN i) (t.drop 1) (bN i) (by rw[bV];exact lit (ao (b6 ..) ‹_›))).1)) (by rfl) ((lN _ (rN i) (hN i) (t.drop 1) (bN i) (by rw[bV];exact lit (ao (b6 ..) ‹_›))).2.1)) (kB (ja (h:=ht _)) (n9 (by rfl)) mz mz (by exact q9 _ _ 1)) ((lN _ (rN i) (hN i) (t.drop 1) (bN i) (by rw[bV];exact lit (ao (b6 ..) ‹_›))).2.2.1)) (by rfl) ((lN _ (rN i) (hN i) (t.drop 1) (bN i) (by rw[bV];exact lit (ao (b6 ..) ‹_›))).2.2.2.1)) (by rfl) ((lN _ (rN i) (hN i) (t.drop 1) (bN i) (by rw[bV];exact lit (ao (b6 ..) ‹_›))).2.2.2.2.1)) (by rfl) ((lN _ (rN i) (hN i) (t.drop 1) (bN i) (by rw[bV];exact lit (ao (b6 ..) ‹_›))).2.2.2.2.2)) jr) (h:=by exact append_at _ 0 L _ (n8 _ (n8 _ mq)) hl))) jq))
theorem E4(n:Nat){nums SP:List PV}{k i:Int}{t:ah}{st:St}{L:List PV}{a0 b0:PV}(hi:∀st,jk st (.list nums) (.int k)=some (.int i))(ht:∀st,jk st (.list SP) (.int k)=some (.str t))(l1:t.length<=100)(mq:st[0]? =some (.lst L))(hl:L.length<=1000):
  i0 ((ev (n+13)).S (i7 "_law_rests")) (jj "_law_rests" 1) [("numbers",.list nums),("texts",.list SP),("rests",.lst 0),("k",.int k),("ahead",a0),("behind",b0)] st=some (jf.next,([("numbers",.list nums),("texts",.list SP),("rests",.lst 0),("k",.int k),("ahead",.str (wc (hN i))),("behind",.str (wJ (bN i)))]:i8),
   ((st++[j8.lst ((List.range 6).map fun j=>PV.str (wc j))])++[j8.lst ((List.range 3).map fun j=>PV.str (wJ j))]).set 0 (j8.lst (L++[PV.str (VI (rN i) (hN i) (t.drop 1) (bN i))]))):=iT (iS (h:=ja (d:=jb (jb (ja (h:=hi _)) (by rfl) (by rfl)) (by rfl) (by rfl)) (h:=p_ _ _ _ _ (CV i)))) (iT (iS (h:=ja (d:=jb (jb (ja (h:=hi _)) (by rfl) (by rfl)) (by rfl) (by rfl)) (h:=by exact p_ _ _ _ _ (CT i)))) (iT (kT (by rfl) (jo (d:=by exact rj (n8 _ (n8 _ mq))) (g:=iY (by rfl) (jb (jb (jb (jb (jb (jb (kB (by rfl) mz (n9 (jb (jb (ja (h:=hi _)) (by rfl) (by rfl)) (by rfl) (by rfl))) mz (GQ _ i)) (by rfl) ((lN _ (rN i) (hN i) (t.drop 1) (bN i) (by rw[bV];exact lit (ao (b6 ..) ‹_›))).1)) (by rfl) ((lN _ (rN i) (hN i) (t.drop 1) (bN i) (by rw[bV];exact lit (ao (b6 ..) ‹_›))).2.1)) (kB (ja (h:=ht _)) (n9 (by rfl)) mz mz (by exact q9 _ _ 1)) ((lN _ (rN i) (hN i) (t.drop 1) (bN i) (by rw[bV];exact lit (ao (b6 ..) ‹_›))).2.2.1)) (by rfl) ((lN _ (rN i) (hN i) (t.drop 1) (bN i) (by rw[bV];exact lit (ao (b6 ..) ‹_›))).2.2.2.1)) (by rfl) ((lN _ (rN i) (hN i) (t.drop 1) (bN i) (by rw[bV];exact lit (ao (b6 ..) ‹_›))).2.2.2.2.1)) (by rfl) ((lN _ (rN i) (hN i) (t.drop 1) (bN i) (by rw[bV];exact lit (ao (b6 ..) ‹_›))).2.2.2.2.2)) jr) (h:=by exact append_at _ 0 L _ (n8 _ (n8 _ mq)) hl))) jq))
noncomputable abbrev iW {α:Type} (f:Nat->α):List α:=(List.range 7).map f
theorem j3(st:St)(f:Nat->PV)(k:Nat)(h:k<7):jk st (.list (iW f)) (.int ((k:Nat):Int))=some (f k):=(qI f 7 k h:idx (iW f) (k:Int)=_)
theorem Lw{a b:Nat}{i:Nat}{v:PV}(h:(sI (a:Int) (b:Int))[i]? =some v):v= .int ((a+i:Nat):Int)/\a+i<b:=by
 unfold sI at h;rw[bk]at h;refine jw h fun j hj z1=> ?_;clear h;subst z1;refine m9 (ay.mp hj) fun jS z2=> ?_;subst z2;simp only[dK]at jS;rw[List.getElem_range];exact⟨by simp,by exact eE i a▸iu (Int.toNat_sub b a▸ ‹_›)⟩
theorem Qe(a b:Nat):(sI (a:Int) (b:Int)).length=b-a:=by
 refine iR (aJ ..) <| iR (dK ..) ?_
 (exact Int.toNat_sub ..)
noncomputable def row (i:Nat->Int) (t:Nat->ah) (k:Nat):ah:=VI (rN (i k)) (hN (i k)) ((t k).drop 1) (bN (i k))
def Xg (i:Nat->Int) (t:Nat->ah) (j:Nat) (ρ:i8) (st:St):Prop:=
 st[0]? =some (.lst (((List.range j).map (row i t)).map .str))/\((ρ=([("numbers",.list (iW fun k=>.int (i k))),("texts",.list (iW fun k=>.str (t k))),("rests",.lst 0)]:i8))\/
  ∃k a b,ρ=([("numbers",.list (iW fun k=>.int (i k))),("texts",.list (iW fun k=>.str (t k))),("rests",.lst 0),("k",k),("ahead",a),("behind",b)]:i8))
theorem Xf(n:Nat)(i:Nat->Int)(t:Nat->ah)(ht:∀k,k<7->(t k).length<=100):
  (ev (n+15)).C "_law_rests" [.list (iW fun k=>.int (i k)),.list (iW fun k=>.str (t k))] [] []=some (.list ((iW (row i t)).map .str),[]):=by
 have loop:=oZ (B:=i0 ((ev (n+13)).S (i7 "_law_rests")) (jj "_law_rests" 1)) (sc:=i7 "_law_rests") (target:=.Name "k" ⟨275,8,275,9⟩) (fit:=kI (.rng 0 7) [.lst []]) (Xg i t) (sI ((0:Nat):Int) ((7:Nat):Int)) 0
  ([("numbers",.list (iW fun k=>.int (i k))),("texts",.list (iW fun k=>.str (t k))),("rests",.lst 0)]:i8) [.lst []] ⟨rfl,.inl rfl⟩ (by
   intro j v ρ st hv hI;refine lP (Lw hv) fun z3 hj=> ?_;subst z3;rw[aX]at hI hj|-;refine iR (aX ..) <| lP hI fun mq k9=> ?_
   have hl:(((List.range j).map (row i t)).map PV.str).length<=1000:=by simp;(exact bC (rE ‹_›))
   have fin:∀(x y:j8),(((st++[x])++[y]).set 0 (.lst (((List.range j).map (row i t)).map PV.str++[.str (row i t j)])))[0]? =some (.lst (((List.range (j+1)).map (row i t)).map .str)):=by
    intro x y;exact iR (QY _ (n8 _ (n8 _ mq))) <| iR fm <| iR bR <| iR bR rfl
   clear hv;(clear hI;rcases k9 with rfl|⟨k,a,b,rfl⟩)
   ·exact⟨_,_,_,_,rfl,E5 n (k:=(j:Int)) (fun st=>j3 st _ j hj) (fun st=>j3 st _ j hj) (ht j hj) mq hl (a0:=.none) (b0:=.none),.inl rfl,rfl,fin _ _,.inr (RK _ _ _ rfl)⟩
   ·exact⟨_,_,_,_,rfl,E4 n (k:=(j:Int)) (fun st=>j3 st _ j hj) (fun st=>j3 st _ j hj) (ht j hj) mq hl,.inl rfl,rfl,fin _ _,.inr (RK _ _ _ rfl)⟩)
 refine qL loop fun kC ji h1 h2 h3=> ?_
 skip
 have Kr:jW "rests" kC=some (.lst 0):=by
  (clear ht;rcases h3 with rfl|⟨k,a,b,rfl⟩)<;>rfl
 refine kN (k:=iT (iS (h:=by rfl)) (iT (rG (by rfl) (by rfl) (by rfl) (h1)) (lA (uZ (by rfl) (Eg Kr))))) (h:=Dw h2)
theorem xw{n:Nat}{sc:Scope}{ρ:i8}{st st1:St}{p:Pos}{a:Expr}(h:(ev n).T sc a ρ st=some (true,st1)):(ev (n+1)).T sc (.UnaryOp .Not a p) ρ st=some (false,st1):=R2 h
theorem TZ{n:Nat}{sc:Scope}{ρ:i8}{st st1:St}{p:Pos}{a:Expr}(h:(ev n).T sc a ρ st=some (false,st1)):(ev (n+1)).T sc (.UnaryOp .Not a p) ρ st=some (true,st1):=R2 h
theorem FU(n a:Nat):nQ n (a:Int)=some (min a n):=by
 unfold nQ;exact iR (a_ (bI a)) rfl
theorem Iw(st:St)(s:ah)(a b:Nat)(h:b<=s.length):kR st (.str s) (some (a:Int)) (some (b:Int)) none=some (.str ((s.drop a).take (b-a))):=by
 refine(?_:(nt s (some (a:Int)) (some (b:Int))).map PV.str=_);unfold nt;simp only[ee,fH,FU,fM];congr 2;refine iR (cI h) <| bc (p:=a<=s.length) (fun ha=> ?_) fun ha=> ?_
 ·exact iR (cI ha) rfl
 ·rw[show b-min a s.length=0 by(exact eW (ao ‹b<=_› (aE (Nat.min_eq_right (gp ‹_›)).symm))),List.take_zero,show b-a=0 by(exact eW (ao ‹b<=_› (gp ‹_›))),List.take_zero]
theorem Qt(pre u post:ah)(a b:Nat)(ha:a=pre.length)(hb:b=pre.length+u.length):((pre++(u++post)).drop a).take (b-a)=u:=by
 subst ha hb;exact iR (List.drop_left ..) <| iR (gy ..) <| iR (iC ..) rfl
theorem AU(st:St)(pre u post:ah)(a b:Nat)(ha:a=pre.length)(hb:b=pre.length+u.length):kR st (.str (pre++(u++post))) (some (a:Int)) (some (b:Int)) none=some (.str u):=by
 rw[Iw st _ a b (by(refine iR hb ?_);simp),Qt pre u post a b ha hb]
theorem Sq(st:St)(pre post:ah)(c:Nat)(a:Nat)(ha:a=pre.length):jk st (.str (pre++c::post)) (.int (a:Int))=some (.str [c]):=by
 refine(?_:(idx (pre++c::post) (a:Int)).map (fun c=>PV.str [c])=_);unfold idx;refine iR (a_ (bI a) ..) <| iR (b7 ..) <| iR (ha ..) ?_
 simp
theorem uJ(c:Nat):∀(u post:ah),c∉u->(u++c::post).findIdx? (· ==c)=some u.length:=by
 intro L0
 induction L0 with
 |nil=>
  intro post _;simp[gH]
 |cons x u ih=>
  intro post h;refine iR gz <| iR (gH) ?_
  simp only[(aL.mpr fun e=>h (e▸aT ..):(x==c)=false),bz,d7];exact iR (ih post fun m=>h (aq _ m)) rfl
theorem NI(pre u post:ah)(c a:Nat)(ha:a=pre.length)(hc:c∉u):u_ (pre++(u++c::post)) c a=some (a+u.length):=by
 unfold u_;subst ha;exact iR List.drop_left <| iR (uJ c u post hc) rfl
theorem Dc(st:St)(pre u post:ah)(c a:Nat)(ha:a=pre.length)(hc:c∉u):methP st (.str (pre++(u++c::post))) "index" [.str [c],.int (a:Int)]=some (.int ((a+u.length:Nat):Int),st):=by
 have e:(("index":Str)==("join":Str))=false:=by decide+kernel
 have e2:(("index":Str)==("index":Str))=true:=by decide+kernel
 have k:xJ (pre++(u++c::post)) [.str [c],.int (a:Int)]=some (.int ((a+u.length:Nat):Int)):=by
  refine(nG (aH (bI a)) ?_:gd (decide (0<=(a:Int))) ((u_ (pre++(u++c::post)) c (a:Int).toNat).map fun(i:Nat)=>PV.int (i:Int))=_);exact iR (b7 ..) <| iR (NI pre u post c a ha hc ..) rfl
 refine(iR e ?_:(se st _ "index" _).map _=_);exact iR e2 <| ow k
theorem Jl(st:St)(l s:ah)(h:s.all (fun c=> !l.contains c)=true):methP st (.cset l) "isdisjoint" [.str s]=some (.bool true,st):=by
 have e:(("isdisjoint":Str)==("isdisjoint":Str))=true:=by decide+kernel
 refine(iR (show qD l "isdisjoint" [.str s]=some (.bool true)from iX (a:=.str s) rfl (iX (a:=s) rfl ((a_ e).trans (by(refine iR h ?_;exact rfl))))) ?_:(qD l "isdisjoint" [.str s]).map (fun v=>(v,st))=_);rfl
theorem AV(st:St)(pre u post:ah)(p q:Int)(hp:p=(pre.length:Int))(hq:q=p+(u.length:Int)):kR st (.str (pre++(u++post))) (some p) (some q) none=some (.str u):=by
 have e:q=((pre.length+u.length:Nat):Int):=by exact hq.trans (aQ (· +(u.length:Int)) hp)
 clear hq;subst hp;exact iR e <| AU st pre u post _ _ rfl rfl
theorem QI(st:St)(pre u post:ah)(c:Nat)(p:Int)(hp:p=(pre.length:Int))(hc:c∉u):methP st (.str (pre++(u++c::post))) "index" [.str [c],.int p]=some (.int (p+(u.length:Int)),st):=by
 subst hp;exact Dc st pre u post c _ rfl hc
theorem x8(n:Nat)(pre u post:ah)(c:Nat)(p:Int)(l:ah)(hp:p=(pre.length:Int))(hc:c∉u)(hd:u.all (fun c=> !l.contains c)=true):
  (ev (n+7)).C "skip_until" [.str (pre++(u++c::post)),.int p,.str [c]] [("error_on",.cset l),("error_on_eof",.bool true)] []=some (.int (p+(u.length:Int)),[]):=by
 refine kN (k:=iT (Ca (iT (iS (h:=jo (h:=QI _ pre u post c p hp hc))) jq))
  (iT (mQ (xw (nK (by rfl) (jo (g:=iY (by rfl) (kB (by rfl) (n9 (by rfl)) (n9 (by rfl)) mz (AV _ pre u (c::post) p _ hp rfl)) jr) (h:=Jl _ l u hd)) (by rfl))) jq) (lA (by rfl))))
theorem LM(st:St)(a b:Int)(h:a<=b):jF st .LtE (.int a) (.int b)=some true:=by
 refine(iR (aH h) ?_:some (decide (a<=b))=_);exact rfl
theorem Ri(st:St)(a b:Int)(h:a<b):jF st .Lt (.int a) (.int b)=some true:=by
 refine(iR (aH h) ?_:some (decide (a<b))=_);exact rfl
theorem Rj(st:St)(a b:Int)(h:b<=a):jF st .Lt (.int a) (.int b)=some false:=by
 refine(?_:some (decide (a<b))=_);rw[cD (Int.not_lt.mpr ‹_›)]
theorem Uh(n:Nat)(d:Nat)(h:d<55296):(ev (n+5)).C "is_unicode_scalar_value" [.int (d:Int)] [] []=some (.bool true,[]):=kN (k:=lA (Qg (xm (by rfl) (by rfl) (Ut (by rfl) (LM _ _ _ (bI d)) (jI (by rfl) (LM _ _ _ (d_.mpr (aM h)))))) (by rfl)))
theorem rT(d:Nat)(h:d<16):oq.contains (tB d)=true/\qm (tB d)=some d:=by
 have:∀d,d<16->oq.contains (tB d)=true/\qm (tB d)=some d:=by decide+kernel
 exact this d h
theorem Q5(st:St)(d:Nat):methP st (.cset oq) "issuperset" [.str (mw d)]=some (.bool true,st):=by
 have e1:(("issuperset":Str)==("isdisjoint":Str))=false:=by decide+kernel
 have e2:(("issuperset":Str)==("issuperset":Str))=true:=by decide+kernel
 have h:((mw d).all fun c=>oq.contains c)=true:=by
  unfold mw;dsimp only[List.all_cons,List.all_nil,Bool.and_true];exact iR (rT _ (fQ _ (by decide))).1 <| iR (rT _ (fQ _ (by decide))).1 <| iR (rT _ (fQ _ (by decide))).1 <| iR (rT _ (fQ _ (by decide))).1 rfl
 refine(iR (show qD oq "issuperset" [.str (mw d)]=some (.bool true)from iX (a:=.str (mw d)) rfl (iX (a:=mw d) rfl (D9 e1 (nG e2 (by(refine iR h ?_;exact rfl)))))) ?_:(qD oq "issuperset" [.str (mw d)]).map (fun v=>(v,st))=_);rfl
theorem Q6(d:Nat)(h:d<65536):oG 0 (mw d)=some d:=by
 unfold mw;simp only[oG,(rT _ (fQ _ (show 0<16 by decide))).2];congr 1;exact aaF h
theorem Q7(st:St)(d:Nat)(h:d<65536):lz st "int" [.str (mw d),.int 16]=some (.int (d:Int)):=by
 have k:O3 [.str (mw d),.int 16]=some (.int (d:Int)):=by
  dsimp only[O3,Ot,mJ,jJ,Option.bind_some];exact nG (by rfl) (ow (Q6 d h))
 iterate 9 refine D9 (by decide+kernel) ?_
 exact iR (a_ (by decide+kernel)) k
theorem UY(st:St)(d:Nat)(h:d<55296):lz st "chr" [.int (d:Int)]=some (.str [d]):=by
 have e:(decide (0<=(d:Int))&&decide ((d:Int)<55296))=true:=by
  rw[aG,bq,bq];exact⟨bI _,cE.mpr h⟩
 have k:O4 [.int (d:Int)]=some (.str [d]):=by
  dsimp only[O4,one,jJ,Option.bind_some];exact nG e (by rw[b7])
 iterate 8 refine D9 (by decide+kernel) ?_
 exact HR (by decide+kernel) k
theorem v7{st:St}{v:PV}(hg:Good st)(h:∀n,jh st n 6 v=some v):finish st.length st v=some (v,st):=by
 unfold finish;have e:uR st.length st=true:=by unfold uR;(refine iR dQ ?_);exact aZ.mpr ⟨aH (aK _),hg⟩
 exact iR (e ..) <| iR (dQ ..) <| iR (h ..) rfl
theorem wR(d:Nat):(mw d).length=4:=rfl
theorem I7(n:Nat)(pre post:ah)(d:Nat)(p:Int)(hp:p=(pre.length:Int))(hd:d<55296){st:St}(hg:Good st):(ev (n+10)).C "parse_hex_char" [.str (pre++(mw d++post)),.int p,.int 4] [] st=some (.tup [.int (p+4),.str [d]],st):=kN (k:=iT (iS (h:=kB (by rfl) (n9 (by rfl)) (n9 (by rfl)) mz (AV _ pre (mw d) post p _ hp rfl)))
  (iT (mQ (oB (by rfl) (oB (xw (nK (by rfl) (jo (h:=Q5 _ d)) (by rfl))) R3)) jq)
  (iT (Gx (by rfl) (by rfl) (by rfl) (by rfl))
  (iT (iS (h:=jV (h:=Q7 _ d (lit ‹_›))))
  (iT (mQ (xw (nK (by rfl) (jg (h:=frame rfl (Uh n d hd))) (by rfl))) jq)
  (lA (p6 (iY (by rfl) (by rfl) (iY (by rfl) (jV (h:=UY _ d hd)) jr)) (by rfl)))))))) (h:=v7 hg fun ζ=>rfl)
def clean (s:ah):Prop:=39∉s/\s.all (fun c=> !zx.contains c)=true
theorem I6(n:Nat)(pre s post:ah)(p:Int)(hp:p=(pre.length:Int))(hs:clean s){st:St}(hg:Good st):(ev (n+10)).C "parse_literal_str" [.str (pre++39::(s++39::post)),.int p] [] st=some (.tup [.int (p+1+(s.length:Int)+1),.str s],st):=by
 refine iR (by simp:pre++39::(s++39::post)=(pre++[39])++(s++39::post)) ?_;have hq:p+1=((pre++[39]).length:Int):=by(refine iR hp ?_;refine iR au ?_);rfl
 exact kN (k:=iT (Gx (by rfl) (by rfl) (by rfl) (by rfl)) (iT (iS (h:=by rfl))
  (iT (iS (h:=wM (by rfl) (by rfl) (by rfl) (by rfl) (by rfl) (by rfl) (by rfl) (frame (by rfl) (x8 n (pre++[39]) s post 39 (p+1) zx hq hs.1 hs.2))))
  (lA (p6 (iY (by rfl) (by rfl) (iY (by rfl) (kB (by rfl) (n9 (by rfl)) (n9 (by rfl)) mz (AV _ (pre++[39]) s (39::post) (p+1) _ hq rfl)) jr)) (by rfl)))))) (h:=v7 hg fun ζ=>rfl)
noncomputable def Wh (b:List Stmt):Stmt:=((b++OJ b 0).find? fun s=>s.ctorIdx==11).getD default
noncomputable def Oq (f:Str):Expr×List Stmt:=((kS (Wh (jL f))).1.headD default,(kS (Wh (jL f))).2)
theorem FW(n:Nat)(l:ah)(c:Nat)(post:ah)(hc:l.contains c=false):∀(ws pre:ah)(k:Nat)(p:Int),ws.length<k->p=(pre.length:Int)->(∀x∈ws,l.contains x=true)->
  mX ((ev (n+3)).T (i7 "skip_chars") (Oq "skip_chars").1) (i0 ((ev (n+3)).S (i7 "skip_chars")) (Oq "skip_chars").2) k ([("src",.str (pre++(ws++c::post))),("pos",.int p),("chars",.cset l)]:i8) []=
   some (.next,([("src",.str (pre++(ws++c::post))),("pos",.int (p+(ws.length:Int))),("chars",.cset l)]:i8),[])
:=by
 intro ws
 induction ws with
 |nil=>
  intro pre k p hk hp _;obtain⟨k,rfl⟩:=c_ (cN hk);have hg:jk [] (.str (pre++([]++c::post))) (.int p)=some (.str [c]):=by subst hp;exact Sq [] pre post c _ rfl
  have DZ:jF [] .In (.str [c]) (.cset l)=some false:=by refine(?_:some (l.contains c)=_);(refine iR hc ?_;exact rfl)
  have:=xx (k:=k) (B:=i0 ((ev (n+3)).S (i7 "skip_chars")) (Oq "skip_chars").2) (T:=(ev (n+3)).T (i7 "skip_chars") (Oq "skip_chars").1) (ρ:=([("src",.str (pre++([]++c::post))),("pos",.int p),("chars",.cset l)]:i8)) (st:=[]) (st1:=[]) (by
   exact ju (c:=ja (h:=hg)) (h:=jI (by rfl) (DZ)))
  refine iR this ?_;simp
 |cons x ws ih=>
  intro pre k p hk hp hw;obtain⟨k,rfl⟩:=c_ (cN (cZ hk));have hg:jk [] (.str (pre++(x::ws++c::post))) (.int p)=some (.str [x]):=by subst hp;exact Sq [] pre (ws++c::post) x _ rfl
  have DZ:jF [] .In (.str [x]) (.cset l)=some true:=by refine(?_:some (l.contains x)=_);(refine iR (hw x (aT ..)) ?_;exact rfl)
  have ih:=ih (pre++[x]) k (p+1) (Nat.lt_of_succ_lt_succ hk) (by(refine iR hp ?_);simp) fun y hy=>hw y (aq _ hy)
  replace ih:=(fy (by simp:pre++(x::ws++c::post)=(pre++[x])++(ws++c::post)))▸ih
  have:=B_ (k:=k) (B:=i0 ((ev (n+3)).S (i7 "skip_chars")) (Oq "skip_chars").2) (T:=(ev (n+3)).T (i7 "skip_chars") (Oq "skip_chars").1) (ρ:=([("src",.str (pre++(x::ws++c::post))),("pos",.int p),("chars",.cset l)]:i8)) (st:=[]) (st1:=[]) (by
   exact ju (c:=ja (h:=hg)) (h:=jI (by rfl) (DZ))) (iT (Gx (by rfl) (by rfl) (by rfl) (by rfl)) jq) (.inl rfl) ih
  refine iR this ?_
  (first|rfl|exact rfl|(refine iR (by(refine iR aB ?_);lia:p+1+(ws.length:Int)=p+((x::ws).length:Int)) ?_;exact rfl))
theorem ET(n:Nat)(l pre ws post:ah)(c:Nat)(p:Int)(hc:l.contains c=false)(hw:∀x∈ws,l.contains x=true)(hl:ws.length<40)(hp:p=(pre.length:Int)):
  (ev (n+6)).C "skip_chars" [.str (pre++(ws++c::post)),.int p,.cset l] [] []=some (.int (p+(ws.length:Int)),[]):=kN (k:=iT (Ca (iT (sf (FW n l c post hc ws pre 40 p hl hp hw)) jq)) (lA (by rfl)))
structure Rw where
 d:Nat
 r:Nat
 s:ah
 b:Nat
noncomputable def qA (r:Nat) (s:ah) (b:Nat):ah:=([9,32]:ah).take r++39::(s++39::(wJ b++[10]))
noncomputable def wg (x:Rw):ah:=mw x.d++qA x.r x.s x.b
noncomputable def textOf (L:List Rw):ah:=L.flatMap wg
structure Rw.ok(x:Rw):Prop where
 d:x.d<55296
 r:x.r<3
 s:clean x.s
noncomputable def B8 (p:Nat) (x:Rw):PV:=.tup [.int (p:Int),.int (x.d:Int),.int (x.r:Int),.str x.s]
noncomputable def jE:Nat->List Rw->List PV
 |_,[]=>[]
 |p,x::L=>B8 p x::jE (p+(wg x).length) L
theorem JB:∀(L:List Rw)(p m:Nat),i_ m (jE p L)=true:=by
 intro L0
 induction L0 with
 |nil=>
  intro _ _;exact rfl
 |cons x L ih=>
  intro p m;refine(iR (ih ..) ?_:(below m (B8 p x)&&i_ m (jE (p+(wg x).length) L))=true);rfl
theorem E2:∀(L:List Rw)(p:Nat)(x:Rw),jE p (L++[x])=jE p L++[B8 (p+(textOf L).length) x]:=by
 intro L0
 induction L0 with
 |nil=>
  intro p x;rfl
 |cons y L ih=>
  intro p x;simp only[gz,jE,ih];unfold textOf;simp only[List.flatMap_cons,au,fE]
theorem Lp(r:Nat)(h:r<3):(([9,32]:ah).take r).length=r:=by
 refine iR bD ?_;simp only[aB,b8]
 lia
theorem W5(r:Nat):∀x∈([9,32]:ah).take r,([32,9]:ah).contains x=true:=by
 intro x hx;have:=dc hx;simp only[aV,fK,or_false]at this
 (clear hx;rcases this with rfl|rfl)<;>rfl
theorem U3(b:Nat):10∉wJ b:=by
 unfold wJ
 match b with
 |0|1|2=>decide
 |b+3=>simp
mutual
theorem Of(n:Nat):∀a:PV,below m a=true->below (n+m) a=true
 | .tup a=>nU n a
 | .list a=>nU n a
 | .lst _| .dct _=>by dsimp only[below,decide_eq_true_eq];exact fun q=>aH (aW (bL q) (fY ..))
 | .none| .bool _| .int _| .str _| .iset _| .cset _| .bset _| .fn _| .typ _| .rng _ _=>fun ζ=>rfl
theorem nU(n:Nat):∀a:List PV,i_ m a=true->i_ (n+m) a=true
 |[]=>fun ζ=>rfl
 |a::l=>by simp only[i_,aG];exact fun⟨h1,h2⟩=>⟨Of n a h1,nU n l h2⟩
end
noncomputable abbrev Vi (S:St) (text:ah) (p:Int) (tl:i8):i8:=("text",.str text)::("rows",.lst S.length)::("start",.int p)::tl
def Fz (v:PV):Prop:=∀st n,jh st n 5 v=some v
theorem Qv(st:St)(n:Nat):∀L:List PV,(∀v∈L,Fz v)->mW (jh st n 5) L=some L:=by
 intro L0
 induction L0 with
 |nil=>
  intro _;exact rfl
 |cons v L ih=>
  intro h;simp only[mW,h v (by simp) st n,fM,ih fun w hw=>h w (aq _ hw),ee]
theorem FD{st:St}{n k:Nat}{L:List PV}(hk:¬ k<n)(e:st[k]? =some (.lst L))(h:∀v∈L,Fz v):jh st n 6 (.lst k)=some (.list L):=iR (show jh st n 6 (.lst k)=(if k<n then some (PV.lst k)else(j7 st k).bind fun l=>(mW (jh st n 5) l).map PV.list)from rfl) <| iR (aS hk) <| iR (u7 e) <| ow (Qv st n L h)
theorem jB{A:St}(hg:Good A)(L:List PV)(h:∀v∈L,Fz v):finish A.length (A++[.lst L]) (.lst A.length)=some (.list L,A):=by
 unfold finish;have e2:(A++[j8.lst L]).take A.length=A:=by simp
 have e3:uR A.length (A++[j8.lst L])=true:=by
  unfold uR;refine iR e2 <| iR (show A.all (jK A.length)=true from hg) ?_
  simp
 exact iR e2 <| iR e3 <| iR (FD (dP _) (by simp:(A++[j8.lst L])[A.length]? =some (.lst L)) h) rfl
theorem qV(i:Int):Fz (.int i):=fun ζ ζ=>rfl
theorem Good.snoc{S:St}{L:List PV}(hg:Good S)(hL:i_ 0 L=true):Good (S++[.lst L]):=by
 have up:∀c,jK S.length c=true->jK (1+S.length) c=true:=fun c h=>by
  cases c with
  |lst l=>exact nU 1 l h
  |dct l=>exact nU 1 _ h
  |bs=>rfl
 unfold Good at*;exact iR (au ..) <| iR (cS ..) <| iR (eE ..) <| iR (List.all_append ..) <| iR (aG ..) <| ⟨bZ.mpr fun c hc=>up c (bZ.mp hg c hc),iR (gi ..) (iR (List.all_nil ..) (iR (Bool.and_true ..) (nU (m:=0) _ L hL)))⟩
theorem Gg(S:St)(L:List PV)(v:PV)(hl:L.length<=1000):methP (S++[.lst L]) (.lst S.length) "append" [v]=some (.none,S++[.lst (L++[v])]):=by
 have:=append_at (S++[.lst L]) S.length L v (by simp) hl;exact iR (this ..) <| iR (List.set_append_right _ _ (aK _) ..) <| iR (Nat.sub_self ..) rfl
theorem x_(S:St)(L:List PV):pK (S++[.lst L]) (.lst S.length)=true:=rj (show(S++[j8.lst L])[S.length]? =some (.lst L) by simp)
theorem Gb(m:Nat):∀a b:List PV,i_ m (a++b)=(i_ m a&&i_ m b):=by
 intro L0
 induction L0 with
 |nil=>
  intro b;exact rfl
 |cons x a ih=>
  intro b;refine(iR (ih b ..) ?_:(below m x&&i_ m (a++b))=(below m x&&i_ m a&&i_ m b));exact iR (Bool.and_assoc ..) rfl
section
variable(n:Nat)(pre post:ah)(x:Rw)(L:List PV)
theorem IS{S:St}(hg:Good S)(tl:i8)(BS:tl=[]\/∃a b c d e,tl=([("place",a),("sign",b),("mark",c),("end",d),("string",e)]:i8))(hx:x.ok)(hL:i_ 0 L=true)(hl:L.length<=1000)(p:Int)(hp:p=(pre.length:Int)):
  ∃Ou,(∃a b c d e,Ou=([("place",a),("sign",b),("mark",c),("end",d),("string",e)]:i8))/\
  i0 ((ev (n+12)).S (i7 "_law_read")) (Oq "_law_read").2 (Vi S (pre++(wg x++post)) p tl) (S++[.lst L])=some (.next,Vi S (pre++(wg x++post)) (p+4+(([9,32]:ah).take x.r).length+1+x.s.length+1+(wJ x.b).length+1) Ou,
   (S++[.lst (L++[.tup [.int p,.int (x.d:Int),.int (p+4+((([9,32]:ah).take x.r).length:Int)-(p+4)),.str x.s]])])):=by
 generalize hT:pre++(wg x++post)=T;have e1:T=pre++(mw x.d++(qA x.r x.s x.b++post)):=by(refine jC hT ?_);rfl
 have e2:T=(pre++mw x.d)++(([9,32]:ah).take x.r++39::(x.s++39::(wJ x.b++10::post))):=by(refine iR e1 ?_);unfold qA;simp
 have e3:T=((pre++mw x.d)++([9,32]:ah).take x.r)++39::(x.s++39::(wJ x.b++10::post)):=by(refine iR e2 ?_);simp
 have e4:T=(((pre++mw x.d)++([9,32]:ah).take x.r)++39::(x.s++[39]))++(wJ x.b++10::post):=by(refine iR e3 ?_);simp
 have c1:(ev (n+10)).C "parse_hex_char" [.str T,.int p,.int 4] [] (S++[.lst L])=some (.tup [.int (p+4),.str [x.d]],(S++[.lst L])):=
  (iR e1 <| I7 n pre _ x.d p hp hx.d (hg.snoc hL))
 have c2:(ev (n+10)).C "skip_chars" [.str T,.int (p+4),.cset [32,9]] [] (S++[.lst L])=some (.int (p+4+((([9,32]:ah).take x.r).length:Int)),(S++[.lst L])):=
  frame rfl (iR e2 <| ET (n+4) [32,9] (pre++mw x.d) _ _ 39 (p+4) (by decide) (W5 x.r) (by(refine iR (Lp _ hx.r) ?_);have:=hx.r;(exact lit ‹_›)) (by(refine iR (hp ..) ?_;refine iR (au ..) ?_;refine iR (wR ..) ?_);rfl))
 have c3:(ev (n+10)).C "parse_literal_str" [.str T,.int (p+4+((([9,32]:ah).take x.r).length:Int))] [] (S++[.lst L])=some (.tup [.int (p+4+((([9,32]:ah).take x.r).length:Int)+1+(x.s.length:Int)+1),.str x.s],(S++[.lst L])):=
  (iR e3 <| I6 n ((pre++mw x.d)++([9,32]:ah).take x.r) x.s _ _ (by(refine iR hp ?_);simp only[au,wR];rfl) hx.s (hg.snoc hL))
 have c4:(ev (n+9)).C "skip_until" [.str T,.int (p+4+((([9,32]:ah).take x.r).length:Int)+1+(x.s.length:Int)+1),.str [10]] [("error_on",.cset []),("error_on_eof",.bool true)] (S++[.lst (L++[.tup [.int p,.int (x.d:Int),.int (p+4+((([9,32]:ah).take x.r).length:Int)-(p+4)),.str x.s]])])=some (.int (p+4+((([9,32]:ah).take x.r).length:Int)+1+(x.s.length:Int)+1+((wJ x.b).length:Int)),(S++[.lst (L++[.tup [.int p,.int (x.d:Int),.int (p+4+((([9,32]:ah).take x.r).length:Int)-(p+4)),.str x.s]])])):=
  frame rfl (iR e4 <| x8 (n+2) (((pre++mw x.d)++([9,32]:ah).take x.r)++39::(x.s++[39])) (wJ x.b) post 10 _ [] (by(refine iR hp ?_);simp only[au,aB,b8,wR];lia) (U3 x.b) (by simp))
 clear e1 e2 e3 e4 hT;generalize hm:p+4+((([9,32]:ah).take x.r).length:Int)=m at c2 c3 c4|-;generalize he:m+1+(x.s.length:Int)+1=en at c3 c4|-;have ap:=fun v=>Gg S L v hl;clear hg hx hL hl hp hm he;rcases BS with rfl|⟨a,b,c,d,e,rfl⟩
 ·exact⟨_,(SV _ _ _ _ _ rfl),iT (iS (h:=jg (h:=c1)))
   (iT (iS (h:=jg (h:=c2)))
   (iT (iS (h:=jg (h:=c3)))
   (iT (kT (by rfl) (jo (d:=x_ S L) (h:=ap _)))
   (iT (iS (h:=jb (wM (by rfl) (by rfl) (by rfl) (by rfl) (by rfl) (by rfl) (by rfl) (c4)) (by rfl) (by rfl))) jq))))⟩
 ·exact⟨_,(SV _ _ _ _ _ rfl),iT (iS (h:=jg (h:=c1)))
   (iT (iS (h:=jg (h:=c2)))
   (iT (iS (h:=jg (h:=c3)))
   (iT (kT (by rfl) (jo (d:=x_ S L) (h:=ap _)))
   (iT (iS (h:=jb (wM (by rfl) (by rfl) (by rfl) (by rfl) (by rfl) (by rfl) (by rfl) (c4)) (by rfl) (by rfl))) jq))))⟩
end
theorem xX(a b:List Rw):textOf (a++b)=textOf a++textOf b:=by unfold textOf;(refine iR List.flatMap_append ?_;exact rfl)
theorem p7(x:Rw)(b:List Rw):textOf (x::b)=wg x++textOf b:=by rfl
theorem Cw(x:Rw):(wg x).length=4+(([9,32]:ah).take x.r).length+1+x.s.length+1+(wJ x.b).length+1:=by
 delta wg qA
 simp only[au,aB,b8,wR]
 lia
theorem q_:∀(L:List Rw)(p:Nat),(jE p L).length=L.length:=by
 intro L0
 induction L0 with
 |nil=>
  intro _;exact rfl
 |cons x L ih=>
  intro p;simp[jE,ih]
theorem IT(n:Nat){S:St}(hg:Good S):∀(Rs done:List Rw)(k:Nat)(tl:i8)(p:Int),(∀x∈Rs,x.ok)->(tl=[]\/∃a b c d e,tl=([("place",a),("sign",b),("mark",c),("end",d),("string",e)]:i8))->Rs.length<k->done.length+Rs.length<=1000->p=((textOf done).length:Int)->
  ∃p' Ou,(Ou=[]\/∃a b c d e,Ou=([("place",a),("sign",b),("mark",c),("end",d),("string",e)]:i8))/\mX ((ev (n+12)).T (i7 "_law_read") (Oq "_law_read").1) (i0 ((ev (n+12)).S (i7 "_law_read")) (Oq "_law_read").2) k (Vi S (textOf done++textOf Rs) p tl) (S++[.lst (jE 0 done)])=
   some (.next,Vi S (textOf done++textOf Rs) p' Ou,(S++[.lst (jE 0 (done++Rs))]))
:=by
 intro Rs
 induction Rs with
 |nil=>
  intro done k tl p _ BS hk _ hp;obtain⟨k,rfl⟩:=c_ (cN hk);have hc:jF (S++[.lst (jE 0 done)]) .Lt (.int p) (.int ((textOf done++textOf []).length:Int))=some false:=Rj _ _ _ (by rw[hp];simp[textOf]);refine(Ow p tl BS ?_);rw[cK];rcases BS with rfl|⟨a,b,c,d,e,rfl⟩
  all_goals exact xx (ju (h:=jI (by rfl) (by exact hc)))
 |cons x Rs ih=>
  intro done k tl p Am BS hk yM hp;obtain⟨k,rfl⟩:=c_ (cN (cZ hk));have hx:=Am x (aT ..);have hc:jF (S++[.lst (jE 0 done)]) .Lt (.int p) (.int ((textOf done++textOf (x::Rs)).length:Int))=some true:=Ri _ _ _ (by
   rw[hp,p7,au,au,Cw];exact cE.mpr (ek (Nat.lt_add_right _ (d9 _))))
  obtain⟨tl1,Yr,turn⟩:=IS n (textOf done) (textOf Rs) x (jE 0 done) hg tl BS hx (JB _ _ _) (by rw[q_];exact bC (pD ‹_›)) p hp;have eT:textOf done++textOf (x::Rs)=textOf done++(wg x++textOf Rs):=by rfl
  have eT2:textOf done++textOf (x::Rs)=textOf (done++[x])++textOf Rs:=by simp[textOf]
  have aau:jE 0 done++[.tup [.int p,.int (x.d:Int),.int (p+4+((([9,32]:ah).take x.r).length:Int)-(p+4)),.str x.s]]=jE 0 (done++[x]):=by
   rw[E2,aX];congr 1;unfold B8;rw[Lp _ hx.r,<-hp];have:p+4+(x.r:Int)-(p+4)=(x.r:Int):=by lia
   rw[this]
  replace turn:=aau▸turn
  have S2:p+4+((([9,32]:ah).take x.r).length:Int)+1+(x.s.length:Int)+1+((wJ x.b).length:Int)+1=((textOf (done++[x])).length:Int):=by
   rw[xX,p7,au,au,Cw,hp];simp[textOf]
   lia
  obtain⟨p',Ou,ht',ih⟩:=ih (done++[x]) k tl1 _ (fun y hy=>Am y (aq _ hy)) (.inr Yr) (by simpa using hk) (by simp at yM |-; exact vM ‹_›) S2;refine(Ow p' Ou ht' ?_);rw[<-eT2,cL]at ih;have test:(ev (n+12)).T (i7 "_law_read") (Oq "_law_read").1 (Vi S (textOf done++textOf (x::Rs)) p tl) (S++[.lst (jE 0 done)])=some (true,(S++[.lst (jE 0 done)])):=by
   generalize textOf done++textOf (x::Rs)=T at hc|-;rcases BS with rfl|⟨a,b,c,d,e,rfl⟩
   all_goals exact ju (h:=jI (by rfl) (by exact hc))
  exact B_ test turn (.inl rfl) ih
theorem Q0:∀(L:List Rw)(p:Nat),∀v∈jE p L,Fz v:=by
 intro L0
 induction L0 with
 |nil=>
  intro _ v h;exact nomatch h
 |cons x L ih=>
  intro p v h;rcases aV.mp h with rfl|h
  ·exact fun ζ ζ=>rfl
  ·exact ih _ v h
theorem CH(n:Nat){S:St}(hg:Good S)(Rs:List Rw)(Am:∀x∈Rs,x.ok)(hl:Rs.length<40):(ev (n+14)).C "_law_read" [.str (textOf Rs)] [] S=some (.list (jE 0 Rs),S):=by
 obtain⟨p',Ou,ht',loop⟩:=IT n hg Rs [] 40 [] 0 Am (.inl rfl) hl (by simp;exact bC (rE ‹_›)) (by rfl);generalize textOf Rs=T at loop|-;exact kN (k:=iT (iS (h:=by rfl)) (iT (iS (h:=by rfl)) (iT (sf (loop)) (lA (uZ (by rfl) (by exact(rfl:jW "rows" (Vi S T p' Ou)=some (.lst S.length)))))))) (h:=jB hg _ (Q0 Rs 0))
noncomputable abbrev nm (c:Nat):ah:=qS.take c
def wK (w:ah):Prop:=w.length<=6/\∀c∈w,1<=c/\c<=6
noncomputable def kc (w:ah):ah:=jO [47] (w.map nm)
noncomputable def P (w:ah):ah:=47::kc w
theorem k8(c:Nat)(h:1<=c/\c<=6):47∉nm c/\nm c≠[]/\nm c≠[46]/\nm c≠[46,46]/\(nm c).length<=6/\(nm c).getLast?≠some 47/\39∉nm c/\(nm c).all (fun c=> !zx.contains c)=true:=by
 have e:c=1\/c=2\/c=3\/c=4\/c=5\/c=6:=by(exact(xE (eH h.2)).resolve_left (cN h.1))
 (clear h;rcases e with rfl|rfl|rfl|rfl|rfl|rfl)<;>exact(i08 (by decide) (by decide) (by decide) (by decide) (by decide) (by decide) (by decide) (by decide+kernel))
theorem LF(c d:Nat)(hc:1<=c/\c<=6)(hd:1<=d/\d<=6)(h:nm c=nm d):c=d:=by
 have:∀c,c<7->∀d,d<7->nm c=nm d->1<=c->1<=d->c=d:=by decide+kernel
 exact this c (by lia) d (by lia) h hc.1 hd.1
theorem yj(sep:ah):∀(l:List (ah))(x:ah),l≠[]->jO sep (l++[x])=jO sep l++sep++x
 |[],_,h=>absurd rfl h
 |[a],x,_=>by rfl
 |a::b::l,x,_=>by
  refine(iR (yj sep (b::l) x (by simp)) ?_:a++sep++jO sep (b::l++[x])=a++sep++jO sep (b::l)++sep++x);simp only[cL]
theorem LY(u:ah)(c:Nat)(h:u≠[]):P (u++[c])=P u++47::nm c:=by
 dsimp only[P,kc];rw[bR,fT,yj _ _ _ (by simpa using h)];simp
theorem Ll(c:Nat):P [c]=47::nm c:=rfl
theorem AQ(c:Nat)(w:ah)(h:w≠[]):P (c::w)=47::(nm c++P w):=by
 dsimp only[P,kc];cases w with
 |nil=>exact absurd rfl h
 |cons d w=>simp[jO]
theorem L4:∀w:ah,w≠[]->P w=S w
 |[],h=>absurd rfl h
 |[c],_=>by(refine iR (Ll ..) ?_;refine iR (LW ..) ?_;refine iR (SK ..) ?_);simp
 |c::d::w,_=>by rw[AQ c (d::w) (by simp),LW,L4 (d::w) (by simp)]
theorem zC:∀w:ah,(∀c∈w,1<=c/\c<=6)->(P w).length<=1+7*w.length
 |[],_=>by trivial
 |[c],h=>by have:=(k8 c (h c (aT ..))).2.2.2.2.1;(refine iR (Ll ..) ?_);simp only[aB,b8];exact lit (cQ this)
 |c::d::w,h=>by
  have h1:=(k8 c (h c (aT ..))).2.2.2.2.1;have ih:=zC (d::w) fun x hx=>h x (aq _ hx);rw[AQ c (d::w) (by simp)];simp only[aB,au]at ih|-
  lia
theorem HC:∀w:ah,w≠[]->(∀c∈w,1<=c/\c<=6)->(P w).count 47=w.length
 |[],h,_=>absurd rfl h
 |[c],_,h=>by
  have h1:=(k8 c (h c (aT ..))).1;exact iR (Ll ..) <| iR (List.count_cons_self ..) <| iR (List.count_eq_zero_of_not_mem h1 ..) rfl
 |c::d::w,_,h=>by
  rw[AQ c (d::w) (by simp),List.count_cons_self,List.count_append,List.count_eq_zero_of_not_mem (k8 c (h c (aT ..))).1,HC (d::w) (by simp) fun x hx=>h x (aq _ hx)];simp
theorem Vg(w:ah)(h:∀c∈w,1<=c/\c<=6):(P w==[47])=w.isEmpty:=by
 cases w with
 |nil=>rfl
 |cons c w=>
  have h1:=(k8 c (h c (aT ..))).2.1;rw[aL.mpr]
  ·rfl
  ·intro e;cases w with
   |nil=>exact h1 (gQ e).2
   |cons d w=>rw[AQ c (d::w) (by simp)]at e;exact h1 (List.append_eq_nil_iff.mp (gQ e).2).1
theorem AM(n:Nat)(w:ah)(h:∀c∈w,1<=c/\c<=6):(ev (n+5)).C "_law_depth" [.str (P w)] [] []=some (.int (w.length:Int),[]):=by
 have hc:jF [] .Eq (.str (P w)) (.str [47])=some w.isEmpty:=by
  refine(iR (Vg w h) ?_:some (P w==[47])=_);exact rfl
 cases w with
 |nil=>rfl
 |cons c w=>
  have hm:methP [] (.str (P (c::w))) "count" [.str [47]]=some (.int ((P (c::w)).count 47:Int),[]):=rfl;rw[HC (c::w) (by simp) h]at hm;generalize P (c::w)=p at hc hm|-;exact kN (k:=lA (Ly (ju (h:=jI (by rfl) (hc))) (jo (h:=hm))))
theorem Cy(X Y:ah)(c:Nat)(h:c∉Y):qi (X++c::Y) c=(X.length:Int):=by
 unfold qi;refine iR (by simp:(X++c::Y).reverse=Y.reverse++c::X.reverse) <| iR (uJ c Y.reverse X.reverse (by simpa using h)) ?_
 simp only[cT,au,aB]
 lia
theorem E1(X:ah)(c:Nat)(h:X.getLast?≠some c):p5 c (X++[c])=X:=by
 unfold p5;refine iR List.reverse_append <| iR (List.dropWhile_cons_of_pos (by simp)) ?_
 cases hr:X.reverse with
 |nil=>simp at hr;refine iR hr ?_;rfl
 |cons a r=>
  have hn:(a==c)=false:=aL.mpr fun e=>h (by(refine iR (by(refine iR (List.getLast?_eq_head?_reverse) ?_;refine iR hr ?_);rfl:X.getLast?=some a) ?_;refine iR e ?_;rfl));exact iR (List.dropWhile_cons_of_neg (by simp[hn]) ..) <| jC (hr ..) <| iR (iw ..) rfl
theorem LZ(u:ah)(hu:u≠[])(h:∀c∈u,1<=c/\c<=6):(P u).getLast?≠some 47:=by
 refine J_ (show∃v c,u=v++[c]from(DO u.dropLast (u.getLast hu) (eg hu).symm)) fun v c z3=> ?_;subst z3;have hc:=k8 c (h c (by simp));have e:∃X,P (v++[c])=X++nm c:=by
  refine bc (p:=v=[]) (fun hv=> ?_) fun hv=> ?_
  ·clear hu h;exact iR hv <| ⟨[47],rfl⟩
  ·exact⟨P v++[47],by(refine iR (LY v c hv) ?_);simp⟩
 obtain⟨X,e⟩:=e;refine iR e <| iR (List.getLast?_append) ?_
 cases hl:(nm c).getLast? with
 |none=>rw[List.getLast?_eq_none_iff]at hl;exact absurd hl hc.2.1
 |some a=>
  intro q;exact hc.2.2.2.2.2.1 (iR hl q)
theorem Qp(st:St)(k:Nat)(h:k<=1000):kZ st .Mult (.str [47]) (.int (k:Int))=some (.str (List.replicate k 47)):=by
 have e:(List.replicate k [47]).flatten=List.replicate k 47:=by
  induction k with
  |zero=>rfl
  |succ k ih=>(refine iR iJ ?_;refine iR gZ ?_;refine iR (ih (bC ‹_›)) ?_;refine iR iJ ?_);rfl
 refine(iR (b7 ..) ?_:(gd (decide (0<=(k:Int))&&decide ((k:Int)<=1000)&&decide (([47]:ah).length<=1000)) (some (List.replicate (k:Int).toNat [47]).flatten)).map PV.str=_);refine iR (e ..) <| ow (nG ?_ rfl)
 simp only[aG,bq];exact⟨⟨by exact Int.ofNat_nonneg _,by exact d_.mpr ‹_›⟩,by decide⟩
theorem Q_(n:Nat)(w:ah)(h:wK w):(ev (n+9)).C "dirname" [.str (P w)] [] []=some (.str (P w.dropLast),[]):=by
 refine bc (p:=w=[]) (fun hw=> ?_) fun hw=> ?_
 ·exact iR hw rfl
 ·refine J_ (show∃u c,w=u++[c]from⟨w.dropLast,w.getLast hw,(eg hw).symm⟩) fun u c z6=> ?_;clear hw;subst z6;have hc:=k8 c (h.2 c (by simp));refine iR f_ <| bc (p:=u=[]) (fun hu=> ?_) fun hu=> ?_
  ·refine iR hu ?_;have hp:P ([]++[c])=[]++47::nm c:=rfl;have hr:qi (P ([]++[c])) 47=0:=by(refine iR hp ?_;refine iR (Cy [] (nm c) 47 hc.1) ?_);rfl
   have hm:methP [] (.str (P ([]++[c]))) "rfind" [.str [47]]=some (.int 0,[]):=by
    refine(iR hr ?_:some (PV.int (qi (P ([]++[c])) 47),([]:St))=_);rfl
   have hs:kR [] (.str (P ([]++[c]))) none (some 1) none=some (.str [47]):=by
    have:=rQ [] (P ([]++[c])) 1;exact this
   generalize P ([]++[c])=p at hm hs|-;exact kN (k:=iT (iS (h:=by rfl)) (iT (iS (h:=by rfl))
    (iT (iS (h:=jb (jo (h:=hm)) (by rfl) (by rfl)))
    (iT (iS (h:=kB (by rfl) mz (n9 (by rfl)) mz (hs))) (by rfl)))))
  ·have hp:P (u++[c])=P u++47::nm c:=LY u c hu;have hm:methP [] (.str (P (u++[c]))) "rfind" [.str [47]]=some (.int ((P u).length:Int),[]):=by
    refine(iR (by(refine iR hp ?_;refine iR (Cy (P u) (nm c) 47 hc.1) ?_;rfl):qi (P (u++[c])) 47=((P u).length:Int)) ?_:some (PV.int (qi (P (u++[c])) 47),([]:St))=_);rfl
   have hs:kR [] (.str (P (u++[c]))) none (some (((P u).length:Int)+1)) none=some (.str (P u++[47])):=by
    have:=rQ [] (P (u++[c])) ((P u).length+1);rw[hp]at this|-;refine iR this ?_;congr 2;refine iR (show P u++47::nm c=(P u++[47])++nm c by simp) ?_;have:(P u).length+1=(P u++[47]).length:=by simp
    exact iR this <| iR iC rfl
   have Tv:∀x∈u,1<=x/\x<=6:=fun x hx=>h.2 x (aY _ hx);have jd:=zC u Tv;have S0:u.length<=6:=by have:=h.1;simp at this;exact dM ‹_›
   have Tz:=Qp [] (P u++[47]).length (by simp;exact lit (ao jd (bE (bS 7 S0) 1)));have m_:(P u++[47]==List.replicate (P u++[47]).length 47)=false:=by
    rw[aL];intro e;obtain⟨x,hx,Zl⟩:∃x∈P u,x≠47:=by
     cases hq:(P u).getLast? with
     |none=>contradiction
     |some a=>exact⟨a,List.mem_of_getLast? hq,fun q=>(LZ u hu Tv) (iR hq <| iR q rfl)⟩
    have:x∈List.replicate (P u++[47]).length 47:=by(refine jC e ?_);exact aY _ hx
    exact Zl (List.eq_of_mem_replicate this)
   have DZ:jF [] .NotEq (.str (P u++[47])) (.str (List.replicate (P u++[47]).length 47))=some true:=by
    refine(?_:(some (P u++[47]==List.replicate (P u++[47]).length 47)).map (!·)=_);refine iR m_ ?_;rfl
   have OP:lK [] (.str (P u++[47]))=some true:=by
    exact(rfl:some (!(P u++[47]).isEmpty)=_)
   have mq:methP [] (.str (P u++[47])) "rstrip" [.str [47]]=some (.str (P u),[]):=by
    refine(iR (E1 _ _ (LZ u hu Tv)) ?_:some (PV.str (p5 47 (P u++[47])),([]:St))=_);rfl
   generalize P (u++[c])=p at hm hs|-;have Cf:lz [] "len" [.str (P u++[47])]=some (.int ((P u++[47]).length:Int)):=rfl;generalize (P u++[47]).length=k at Tz DZ Cf;generalize List.replicate k 47=rr at Tz DZ;generalize P u++[47]=hd at hs DZ OP mq Cf;generalize P u=pu at mq hm hs|-;exact kN (k:=iT (iS (h:=by rfl)) (iT (iS (h:=by rfl))
    (iT (iS (h:=jb (jo (h:=hm)) (by rfl) (by rfl)))
    (iT (iS (h:=kB (by rfl) mz (n9 (by rfl)) mz (hs)))
    (iT (pV (nu (nK (by rfl) (by rfl) (OP)) (nu (ju (h:=jI (jb (by rfl) (jV (h:=Cf)) (Tz)) (DZ))) R3))
     (iT (iS (h:=jo (h:=mq))) jq)) (lA (by rfl)))))))
noncomputable def up (w:ah) (r:Nat):ah:=w.take (w.length-r)
theorem Pw(w:ah):up w 0=w:=by unfold up;(refine iR (Nat.sub_zero ..) ?_;refine iR (dQ ..) ?_;exact rfl)
theorem Px(w:ah)(r:Nat):(up w r).dropLast=up w (r+1):=by
 refine iR gW <| iR bD <| iR List.take_take ?_
 congr 1
 (exact(aQ (fun m=>min (m-1) (w.length-r)) (cI (b6 ..))).trans (cI (b6 ..)))
theorem wK.up{w:ah}(h:wK w)(r:Nat):wK (up w r):=by
 refine⟨?_,fun c hc=>h.2 c (dc hc)⟩;have:=h.1;refine iR bD ?_
 (exact ao (cH ..) this)
theorem Z5(n:Nat)(w:ah)(h:wK w)(r:Nat)(hr:r<=1000):(ev (n+13)).C "_law_top" [.str (P w),.int (r:Int)] [] []=some (.str (P (up w r)),[]):=by
 have loop:=oZ (B:=i0 ((ev (n+11)).S (i7 "_law_top")) (jj "_law_top" 1)) (sc:=i7 "_law_top") (target:=rt (jL "_law_top") 1) (fit:=kI (.rng 0 r) [])
  (fun j ρ st=>st=[]/\((ρ=([("path",.str (P w)),("reach",.int (r:Int)),("above",.str (P (up w j)))]:i8))\/∃k,ρ=([("path",.str (P w)),("reach",.int (r:Int)),("above",.str (P (up w j))),("step",k)]:i8)))
  (sI ((0:Nat):Int) (r:Int)) 0 ([("path",.str (P w)),("reach",.int (r:Int)),("above",.str (P (up w 0)))]:i8) [] ⟨rfl,.inl rfl⟩ (by
   intro i v ρ st hv hI;obtain⟨rfl,k9⟩:=hI;rw[aX]at k9|-;have hd:=Q_ n (up w i) (h.up i);rw[Px]at hd;generalize P (up w i)=p at hd k9;rcases k9 with rfl|⟨k,rfl⟩
   ·exact .mk _ _ _ _ rfl (iT (iS (h:=jg (h:=hd))) jq) (.inl rfl) rfl ⟨rfl,(.inr ⟨_,rfl⟩)⟩
   ·exact(.mk _ _ _ _ rfl (iT (iS (h:=jg (h:=hd))) jq) (.inl rfl) rfl ⟨rfl,(.inr ⟨_,rfl⟩)⟩))
 obtain⟨kC,ji,h1,rfl,h3⟩:=loop;rw[Qe,aX]at h3;rw[Pw]at h1;have Kr:jW "above" kC=some (.str (P (up w r))):=by
  rcases h3 with rfl|⟨k,rfl⟩<;>rfl
 have hrg:lz [] "range" [.int (r:Int)]=some (.rng 0 r):=by
  have k:En [.int (r:Int)]=some (.rng 0 r):=by
   refine Eg <| nG ?_ rfl
   simp only[aG,bq];exact⟨f7 (by decide) (bI _),d_.mpr (lit hr)⟩
  exact D9 (by decide+kernel) (HR (by decide+kernel) k)
 generalize P w=p at h1|-;exact kN (k:=iT (iS (h:=by rfl)) (iT (rG (by rfl) (jV (h:=hrg)) (by rfl) (h1)) (lA (uZ (by rfl) (Eg Kr)))))
theorem ua{f:Stmt->i8->St->Option (jf×i8×St)}{s:Stmt}{r:List Stmt}{ρ lO:i8}{st st1:St}{fl:jf}(h:f s ρ st=some (fl,lO,st1))(hf:fl≠ .next):i0 f (s::r) ρ st=some (fl,lO,st1):=by
 refine iX h ?_;cases fl<;>first|rfl|exact absurd rfl hf
theorem uz(n:Nat)(s:ah):(ev (n+11)).C "join" [.str [47],.str (47::s)] [] []=some (.str (47::s),[]):=by rfl
theorem CJ(n:Nat)(s:ah)(h:s.head?≠some 47)(hl:s.length<=1000):(ev (n+11)).C "join" [.str [47],.str s] [] []=some (.str (47::s),[]):=by
 have hm:∀st,methP st (.str s) "startswith" [.str [47]]=some (.bool false,st):=fun st=>by
  refine(iR (aL.mpr h) ?_:some (PV.bool (s.head?==some 47),st)=_);exact rfl
 have Ec:Pf (.str [47]) (.str s)=some (.str ([47]++s)):=by
  exact(nG (aH (by unfold BX;simp;(exact lit ‹_›))) rfl:gd (kM ([47]++s)) (some (PV.str ([47]++s)))=_)
 exact kN (k:=iT (iS (h:=by rfl)) (iT (iS (h:=by rfl)) (iT (iS (h:=by rfl))
  (iT (Ca (iT (rG (by rfl) (by rfl) (by rfl) (oM (by rfl) (iT (iS (h:=by rfl))
   (iT (mQ (oB (nK (by rfl) (jo (h:=hm _)) (by rfl)) (by rfl)) (iT (pV (by rfl) (iT (Gx (by rfl) (by rfl) (Ec) (by rfl)) jq)) jq)) jq)) (.inl rfl) (by rfl) AF)) jq)) (lA (by rfl))))))
theorem Iq(n:Nat)(rest:ah)(h:rest.take 1≠[47]\/(rest.drop 1).take 1=[47]):(ev (n+9)).C "splitroot" [.str (47::rest)] [] []=some (.tup [.str [],.str [47],.str rest],[]):=by
 have h01:kR [] (.str (47::rest)) none (some 1) none=some (.str [47]):=rQ [] (47::rest) 1;have Gn:kR [] (.str (47::rest)) (some 1) (some 2) none=some (.str (rest.take 1)):=by
  cases rest with
  |nil=>rfl
  |cons a r=>exact AU [] [47] [a] r 1 2 rfl rfl
 have h23:kR [] (.str (47::rest)) (some 2) (some 3) none=some (.str ((rest.drop 1).take 1)):=by
  cases rest with
  |nil=>rfl
  |cons a r=>
   cases r with
   |nil=>rfl
   |cons b r=>exact AU [] [47,a] [b] r 2 3 rfl rfl
 have h1:kR [] (.str (47::rest)) (some 1) none none=some (.str rest):=q9 [] (47::rest) 1;have tail:∀(c:Bool),jF [] .NotEq (.str (rest.take 1)) (.str [47])=some c->(c=true\/(rest.drop 1).take 1=[47])->(ev (n+9)).C "splitroot" [.str (47::rest)] [] []=some (.tup [.str [],.str [47],.str rest],[]):=by
  intro c hc Ox;cases c with
  |true=>
   generalize rest.take 1=u at Gn hc;exact kN (k:=iT (iS (h:=by rfl)) (iT (mQ (by rfl) (by rfl))
    (ua (mQ (ju (c:=kB (by rfl) mz (n9 (by rfl)) mz (h01)) (h:=by rfl)) (ua (pV (um (ju (c:=kB (by rfl) (n9 (by rfl)) (n9 (by rfl)) mz (Gn)) (h:=jI (by rfl) (hc))))
     (lA (p6 (iY (by rfl) (by rfl) (iY (by rfl) (by rfl) (iY (by rfl) (kB (by rfl) (n9 (by rfl)) mz mz (h1)) jr))) (by rfl)))) (by intro q;cases q))) (by intro q;cases q))))
  |false=>
   rw[(by refine cg Ox (fun q=> ?_) fun q=> ?_;cases q;exact q:(rest.drop 1).take 1=[47])]at h23;generalize rest.take 1=u at Gn hc;exact kN (k:=iT (iS (h:=by rfl)) (iT (mQ (by rfl) (by rfl))
    (ua (mQ (ju (c:=kB (by rfl) mz (n9 (by rfl)) mz (h01)) (h:=by rfl)) (ua (pV (oB (ju (c:=kB (by rfl) (n9 (by rfl)) (n9 (by rfl)) mz (Gn)) (h:=jI (by rfl) (hc))) (um (ju (c:=kB (by rfl) (n9 (by rfl)) (n9 (by rfl)) mz (h23)) (h:=by rfl))))
     (lA (p6 (iY (by rfl) (by rfl) (iY (by rfl) (by rfl) (iY (by rfl) (kB (by rfl) (n9 (by rfl)) mz mz (h1)) jr))) (by rfl)))) (by intro q;cases q))) (by intro q;cases q))))
 refine bc (p:=rest.take 1=[47]) (fun hc=> ?_) fun hc=> ?_
 ·refine tail false ?_ (.inr (h.resolve_left fun q=>q hc));refine(?_:(some (rest.take 1==[47])).map (!·)=_);rw[hc];rfl
 ·refine tail true ?_ (.inl rfl);refine(?_:(some (rest.take 1==[47])).map (!·)=_);rw[aL.mpr hc];rfl
noncomputable def pW (acc:List (ah)) (c:ah):List (ah):=if c=[]\/c=[46]then acc else if c=[46,46]then acc.dropLast else acc++[c]
noncomputable def lY (l:List (ah)):List (ah):=l.foldl pW []
noncomputable def Wo (p:ah) (cs:List (ah)):i8:=[("path",.str p),("sep",.str [47]),("dot",.str [46]),("dotdot",.str [46,46]),("_",.str []),("initial_slashes",.str [47]),("comps",.list (cs.map .str)),("new_comps",.lst 0)]
noncomputable def Tj (p:ah) (cs:List (ah)) (c:PV):i8:=[("path",.str p),("sep",.str [47]),("dot",.str [46]),("dotdot",.str [46,46]),("_",.str []),("initial_slashes",.str [47]),("comps",.list (cs.map .str)),("new_comps",.lst 0),("comp",c)]
theorem Jg(n:Nat)(p:ah)(cs acc:List (ah))(c:ah)(ha:[46,46]∉acc)(hl:acc.length<=1000):
  ∃fl,i0 ((ev (n+10)).S (i7 "normpath")) (jj "normpath" 6) (Tj p cs (.str c)) [.lst (acc.map .str)]=some (fl,Tj p cs (.str c),[.lst ((pW acc c).map .str)])/\(fl= .next\/fl= .cont):=by
 refine bc (p:=c=[]) (fun h1=> ?_) fun h1=> ?_
 ·subst h1;exact jt (.cont) rfl (.inr rfl)
 refine bc (p:=c=[46]) (fun h2=> ?_) fun h2=> ?_
 ·subst h2;exact jt (.cont) rfl (.inr rfl)
 refine bc (p:=c=[46,46]) (fun h3=> ?_) fun h3=> ?_
 ·subst h3;have e:pW acc [46,46]=acc.dropLast:=rfl;refine iR e <| bc (p:=acc=[]) (fun hn=> ?_) fun hn=> ?_
  ·subst hn;exact jt (.next) rfl (.inl rfl)
  ·refine J_ (show∃u b,acc=u++[b]from⟨acc.dropLast,acc.getLast hn,(eg hn).symm⟩) fun u b z3=> ?_;clear hn;subst z3;refine iR f_ ?_;have hb:b≠[46,46]:=fun e=>ha (by(refine iR e ?_);simp);refine iR (by simp:(u++[b]).map PV.str=u.map PV.str++[PV.str b]) ?_;have ht:lK [.lst (u.map PV.str++[PV.str b])] (.lst 0)=some true:=by
    refine(?_:some (!(u.map PV.str++[PV.str b]).isEmpty)=_);simp
   have hg:jk [.lst (u.map PV.str++[PV.str b])] (.lst 0) (.int (-1))=some (.str b):=by
    refine(?_:idx (u.map PV.str++[PV.str b]) (-1)=_);unfold idx;rw[aS (by decide),a_ (by simp;(rw[Lk];exact bI _)),cX (by simp;(rw[Lk];exact aK _))];have:(-1+((u.map PV.str++[PV.str b]).length:Int)).toNat-(u.map PV.str).length=0:=by simp;(rw[Lk];exact Nat.sub_self _)
    exact iR this rfl
   have hc:jF [.lst (u.map PV.str++[PV.str b])] .Eq (.str b) (.str [46,46])=some false:=by
    refine(iR (aL.mpr hb) ?_:some (b==[46,46])=_);exact rfl
   have hp:methP [.lst (u.map PV.str++[PV.str b])] (.lst 0) "pop" []=some (.str b,[.lst (u.map .str)]):=by
    refine(iR (List.getLast?_concat) ?_:(u.map PV.str++[PV.str b]).getLast?.map (fun v=>(v,([.lst (u.map PV.str++[PV.str b]).dropLast]:St)))=_);exact iR f_ rfl
   generalize u.map PV.str++[PV.str b]=L at ht hg hc hp|-;exact jt (.next) (iT (mQ (by rfl) (by rfl)) (iT (mQ (oB (by rfl) (oB (by rfl) (oB (nu (nK (by rfl) (by rfl) (ht)) (rO (ju (c:=ja (h:=hg)) (h:=jI (by rfl) (hc))))) (by rfl)))) (iT (pV (nK (by rfl) (by rfl) (ht)) (iT (Qh (by rfl) (jo (h:=hp))) jq)) jq)) jq)) (.inl rfl)
 ·refine iR (by unfold pW;(refine iR (aS (by rintro(q|q);exact h1 q;exact h2 q)) ?_;refine iR (aS h3) ?_;exact rfl):pW acc c=acc++[c]) ?_;refine iR bR <| iR fT ?_
  have ht:lK [.lst (acc.map .str)] (.str c)=some true:=by
   refine(?_:some (!c.isEmpty)=_);cases c with
   |nil=>exact absurd rfl h1
   |cons a c=>rfl
  have An:jF [.lst (acc.map .str)] .Eq (.str c) (.str [46])=some false:=by
   refine(iR (aL.mpr h2) ?_:some (c==[46])=_);exact rfl
  have OB:jF [.lst (acc.map .str)] .NotEq (.str c) (.str [46,46])=some true:=by
   refine(iR (aL.mpr h3) ?_:(some (c==[46,46])).map (!·)=_);rfl
  exact jt (.next) (iT (mQ (oB (xw (nK (by rfl) (by rfl) (ht))) (oB (ju (h:=jI (by rfl) (An))) (by rfl))) (by rfl)) (iT (pV (um (ju (h:=jI (by rfl) (OB)))) (iT (kT (by rfl) (jo (h:=append_at [.lst (acc.map .str)] 0 (acc.map .str) (.str c) rfl (by(simpa using hl))))) jq)) jq)) (.inl rfl)
theorem Je{acc:List (ah)}{c x:ah}(h:x∈pW acc c):x∈acc\/(x=c/\c≠[46,46]):=by
 unfold pW at h;split at h
 ·exact .inl h
 ·split at h
  ·exact .inl (dc (by rwa [gW]at h))
  ·rename_i h1 h2;refine cg (bg.mp h) (fun h=> ?_) fun h=> ?_
   ·exact .inl h
   ·rw[aA]at h;exact .inr ⟨h,h2⟩
theorem Jf(acc:List (ah))(c:ah):(pW acc c).length<=acc.length+1:=by
 unfold pW;split
 ·(exact dH _)
 ·split
  ·exact iR List.length_dropLast <| ao (b6 ..) (dH _)
  ·simp
theorem yc(l:List (ah))(c:ah):lY (l++[c])=pW (lY l) c:=by unfold lY;(refine iR fj ?_);rfl
theorem yd:∀(k:Nat)(l:List (ah)),l.length=k->[46,46]∉lY l/\(lY l).length<=k:=by
 intro L0
 induction L0 with
 |zero=>
  intro l h;have:l=[]:=cV.mp h;subst this;exact⟨by trivial,by trivial⟩
 |succ k ih=>
  intro l h;have hn:l≠[]:=by intro e;subst e;(exact nomatch h)
  refine J_ (show∃u b,l=u++[b]from⟨l.dropLast,l.getLast hn,(eg hn).symm⟩) fun u b z6=> ?_;clear hn;subst z6;have ih:=ih u (by(simpa using h));refine iR (yc ..) <| ⟨fun q=> ?_,?_⟩
  ·refine cg (Je q) (fun q=> ?_) fun q=> ?_
   ·exact ih.1 q
   ·exact q.2 q.1.symm
  ·have:=Jf (lY u) b;exact ao this (cQ ih.2)
theorem q8(l:List (ah)):qP (l.map .str)=some l:=AZ (f:=mJ) (g:=.str) (fun ζ=>rfl) l
theorem Jt{st:St}{k:Nat}{l:List (ah)}(h:st[k]? =some (.lst (l.map .str)))(h1:(jO [47] l).length<=1000)(h2:l.length<=1000):methP st (.str [47]) "join" [.lst k]=some (.str (jO [47] l),st):=by
 have e:(("join":Str)==("join":Str))=true:=by decide+kernel
 have k2:uo st [47] [.lst k]=some (.str (jO [47] l)):=by
  refine(iX (u7 h) (iX (q8 l) (nG ?_ rfl)):(j7 st k).bind (fun l=>(qP l).bind fun ps=>gd (kM (jO [47] ps)&&ps.length<=1000&&true) (some (PV.str (jO [47] ps))))=_);simp only[Bool.and_true,aG,bq];exact⟨aH (by unfold BX;(exact lit ‹_›)),h2⟩
 refine(iR e ?_:(se st _ "join" _).map _=_);exact ow k2
theorem vR(c:Nat):∀l:ah,(jz c l).length<=l.length+1:=by
 intro L0
 induction L0 with
 |nil=>
  simp[jz]
 |cons x r ih=>
  rw[jz];split
  ·exact eH ‹_›
  ·cases h:jz c r with
   |nil=>(exact Nat.zero_lt_succ _)
   |cons p ps=>replace ih:=h▸ih;(exact dY ‹_›)
theorem Cq(st:St)(s:ah)(h:s.length<=1000):methP st (.str s) "split" [.str [47]]=some (.list ((jz 47 s).map .str),st):=by
 have k:rP s "split" 47=some (.list ((jz 47 s).map .str)):=by
  unfold rP
  iterate 4 refine D9 (by decide+kernel) ?_
  exact HR (by decide+kernel) (nG (iR ((show kM s=true from aH (by unfold BX;(exact lit ‹_›)))) rfl) rfl)
 refine(iR k ?_:(rP s "split" 47).map (fun v=>(v,st))=_);rfl
theorem Xl(n:Nat)(rest:ah)(h:rest.take 1≠[47]\/(rest.drop 1).take 1=[47])(hl:rest.length<=500)(hj:(jO [47] (lY (jz 47 rest))).length<=900):(ev (n+12)).C "normpath" [.str (47::rest)] [] []=some (.str (47::jO [47] (lY (jz 47 rest))),[]):=by
 have wI:=vR 47 rest;have Al:=Iq n rest h;have hm:methP [] (.str rest) "split" [.str [47]]=some (.list ((jz 47 rest).map .str),[]):=Cq [] rest (lit ‹_›);have jd:(jz 47 rest).length<=1000:=by exact lit (ao wI (cQ hl))
 generalize jz 47 rest=cs at hj hm jd|-;have loop:=oZ (B:=i0 ((ev (n+10)).S (i7 "normpath")) (jj "normpath" 6)) (sc:=i7 "normpath") (target:=rt (jL "normpath") 6) (fit:=kI (.list (cs.map .str)) [.lst []])
  (fun j ρ st=>st=[.lst ((lY (cs.take j)).map .str)]/\(ρ=Wo rest cs\/∃k,ρ=Tj rest cs k))
  (cs.map .str) 0 (Wo rest cs) [.lst []] ⟨rfl,.inl rfl⟩ (by
   intro i v ρ st hv hI;obtain⟨rfl,k9⟩:=hI;rw[aX];rw[bk]at hv;obtain⟨c,hc,rfl⟩:=fD.mp hv;obtain⟨jS,rfl⟩:=ay.mp hc;have hf:=yd (cs.take i).length (cs.take i) rfl;obtain⟨fl,ht,WM⟩:=Jg n rest cs (lY (cs.take i)) cs[i] hf.1 (by have:=hf.2;rw[bD]at this;exact ao this (ao (cH ..) jd):(lY (cs.take i)).length<=1000);rw[aX,(by rw[bT jS,yc]:lY (cs.take (i+1))=pW (lY (cs.take i)) cs[i])];rcases k9 with rfl|⟨k,rfl⟩
   ·exact .mk _ fl _ _ rfl ht WM rfl ⟨rfl,(.inr ⟨_,rfl⟩)⟩
   ·exact(.mk _ fl _ _ rfl ht WM rfl ⟨rfl,(.inr ⟨_,rfl⟩)⟩))
 obtain⟨kC,ji,h1,rfl,h3⟩:=loop;rw[aX,aJ,dQ]at h1;have hf:=yd cs.length cs rfl;have ZD:=Jt (st:=[.lst ((lY cs).map .str)]) (k:=0) rfl (lit ‹_›) (ao hf.2 jd);have Ec:=oJ [.lst ((lY cs).map .str)] (x:=[47]) (y:=jO [47] (lY cs)) (by decide) (lit ‹_›);have ZX:47::jO [47] (lY cs)=[47]++jO [47] (lY cs):=rfl;generalize jO [47] (lY cs)=J at ZD Ec|-;generalize (lY cs).map PV.str=L at h1 ZD Ec;rcases h3 with rfl|⟨k,rfl⟩<;>exact kN (k:=iT (iS (h:=by rfl)) (iT (by rfl) (iT (by rfl)
  (iT (iS (h:=jg (h:=Al)))
  (iT (iS (h:=jo (h:=hm)))
  (iT (iS (h:=by rfl))
  (iT (rG (by rfl) (by rfl) (by rfl) (h1))
  (iT (iS (h:=by rfl))
  (iT (iS (h:=jb (by rfl) (jo (h:=ZD)) (Ec)))
  (lA (by rfl)))))))))))
theorem Ir(c:Nat):∀x:ah,c∉x->jz c x=[x]:=by
 intro L0
 induction L0 with
 |nil=>
  intro _;exact rfl
 |cons a x ih=>
  intro h;rw[jz,aS (by rw[aR];intro e;exact h (by(refine iR e ?_);simp)),ih fun q=>h (aq _ q)]
theorem ER(c:Nat)(r:ah):∀x:ah,c∉x->jz c (x++c::r)=x::jz c r:=by
 intro L0
 induction L0 with
 |nil=>
  intro _;rw[dD,jz,a_ (by simp)]
 |cons a x ih=>
  intro h;rw[gz,jz,aS (by simp only[aR];intro e;exact h (by(refine iR e ?_);simp)),ih fun q=>h (aq _ q)]
theorem tM:∀l:List (ah),l≠[]->(∀x∈l,47∉x)->jz 47 (jO [47] l)=l
 |[],h,_=>absurd rfl h
 |[a],_,h=>Ir 47 a (h a (by simp))
 |a::b::l,_,h=>by
  refine(?_:jz 47 (a++[47]++jO [47] (b::l))=_);rw[cL,List.singleton_append,ER 47 _ a (h a (by simp)),(tM (b::l) (by simp) fun x hx=>h x (aq _ hx))]
theorem Df:∀(w:ah)(acc:List (ah)),(∀c∈w,1<=c/\c<=6)->(w.map nm).foldl pW acc=acc++w.map nm:=by
 intro L0
 induction L0 with
 |nil=>
  intro acc _;simp
 |cons c w ih=>
  intro acc h;have hc:=k8 c (h c (by simp));refine iR aU <| iR dB <| iR (by unfold pW;(refine iR (aS (by rintro(q|q);exact hc.2.1 q;exact hc.2.2.1 q)) ?_;refine iR (aS hc.2.2.2.1) ?_;exact rfl):pW acc (nm c)=acc++[nm c]) ?_
  refine iR (ih _ fun x hx=>h x (aq _ hx)) ?_;simp
theorem Fb(w:ah)(h:∀c∈w,1<=c/\c<=6):lY (jz 47 (kc w))=w.map nm:=by
 cases w with
 |nil=>rfl
 |cons c w=>
  unfold kc;rw[tM _ (by simp) (by
   intro x hx;refine kU hx fun d hd z1=> ?_;clear hx;subst z1;exact(k8 d (h d hd)).1)]
  unfold lY;exact iR (Df _ _ h ..) <| iR (dD ..) rfl
theorem Ig(w:ah)(h:∀c∈w,1<=c/\c<=6):(kc w).head?≠some 47:=by
 cases w with
 |nil=>trivial
 |cons c w=>
  have hc:=k8 c (h c (by simp));have e:∃r,kc (c::w)=nm c++r:=by
   cases w with
   |nil=>exact⟨[],by(simp[kc,jO])⟩
   |cons d w=>exact⟨[47]++kc (d::w),by(simp[kc,jO])⟩
  refine m9 e fun r e=>iR e ?_;cases hn:nm c with
  |nil=>exact absurd hn hc.2.1
  |cons a s=>
   intro q;simp only[gz,List.head?_cons,dZ]at q;exact hc.1 (by(refine iR hn ?_;refine iR q ?_);simp)
theorem xH(w:ah)(h:wK w):(kc w).length<=42:=by
 have:=zC w h.2;have h1:=h.1;unfold P at this;simp only[aB]at this;exact Nat.le_of_succ_le_succ (ao this (bE (bS 7 h1) 1))
theorem Em(n:Nat)(w:ah)(hw:wK w)(j:Nat)(hj:j<6):∃J,(ev (n+11)).C "join" [.str [47],.str (wc j++kc w)] [] []=some (.str J,[])/\∀m,(ev (m+12)).C "normpath" [.str J] [] []=some (.str (P w),[]):=by
 have hh:=Ig w hw.2;have hl:=xH w hw;have hn:=Fb w hw.2;have Yr:(kc w).take 1≠[47]:=by
  intro e;cases hq:kc w with
  |nil=>replace e:=hq▸e;cases e
  |cons a r=>rw[hq]at e hh;simp at e hh;exact hh e
 have fin:∀rest,(rest.take 1≠[47]\/(rest.drop 1).take 1=[47])->rest.length<=500->lY (jz 47 rest)=w.map nm->∀m,(ev (m+12)).C "normpath" [.str (47::rest)] [] []=some (.str (P w),[]):=by
  intro rest h1 h2 h3 m;have:=Xl m rest h1 h2 (by(refine iR h3 ?_);refine(?_:(kc w).length<=900);exact lit ‹_›)
  replace this:=h3▸this
  exact this
 rcases(by exact lt6 j hj:j=0\/j=1\/j=2\/j=3\/j=4\/j=5)with rfl|rfl|rfl|rfl|rfl|rfl
 ·exact⟨47::kc w,uz n (kc w),fin _ (.inl Yr) (lit ‹_›) hn⟩
 ·exact⟨47::kc w,CJ n (kc w) hh (lit ‹_›),fin _ (.inl Yr) (lit ‹_›) hn⟩
 ·exact⟨47::(46::47::kc w),uz n _,fin _ (.inl (by simp)) (by simp;exact lit ‹_›) hn⟩
 ·exact⟨47::(122::47::46::46::47::kc w),uz n _,fin _ (.inl (by simp)) (by simp;exact lit ‹_›) hn⟩
 ·exact⟨47::(47::47::kc w),uz n _,fin _ (.inr (by rfl)) (by simp;exact lit ‹_›) hn⟩
 ·exact⟨47::(46::46::47::kc w),CJ n (46::46::47::kc w) (by simp) (by simp;exact lit ‹_›),fin _ (.inl (by simp)) (by simp;exact lit ‹_›) hn⟩
section
variable{n:Nat}{sc:Scope}{ρ lO zh:i8}{st st1 jQ uM DX:St}{p q:Pos}{x y z v:PV}
theorem Uk{g xs:Expr}{fn:Str}{k:Nat}{l vs:List PV}{p1 p2 p3 p4:Pos}(h1:jW "tuple" ρ=none)(h2:i9 sc "tuple"=some .globalImplicit)(h3:jW "map" ρ=none)(h4:i9 sc "map"=some .globalImplicit)(h5:lI g=false)(h6:lI xs=false)
  (hg:(ev n).E sc g ρ st=some (.fn fn,st1)) (hx:(ev n).E sc xs ρ st1=some (.lst k,jQ)) (hc:contents jQ (.lst k)=some l) (hm:w_ (fun a st=>(ev n).C fn a [] st) (putL jQ.length) (kI (.lst k) jQ) l (jQ++[.lst []])=some uM) (hf:finish jQ.length uM (.lst jQ.length)=some (.list vs,DX)):
  (ev (n+1)).E sc (.Call (.Name "tuple" p1) [.Call (.Name "map" p2) [g,xs] [] p3] [] p4) ρ st=some (.tup vs,DX):=by
 have e1:(("tuple":Str)==("tuple":Str))=true:=by decide+kernel
 have e2:(("map":Str)==("map":Str))=true:=by decide+kernel
 have e:TM (ev n) sc g xs ρ st=some (.tup vs,DX):=nG (iR h5 <| iR h6 rfl) (iX hg (iX hx (iX (a:=fn) rfl (iX (a:=k) rfl (iX hc (iX hm (iX hf (ow (a:=vs) rfl))))))));have e0:GJ (ev n) sc "tuple" [.Call (.Name "map" p2) [g,xs] [] p3] [] ρ st=some (.tup vs,DX):=nG (ug h1 h2) (iR e1 <| nG rfl (iX (nG (by(refine iR e2 ?_;refine iR (ug h3 h4) ?_);rfl) rfl:mapOf sc ρ [.Call (.Name "map" p2) [g,xs] [] p3]=some (g,xs)) e));exact e0
theorem Xm{c:List PV->St->Option (PV×St)}{put:PV->St->Option St}{fit:St->Bool}:w_ c put fit [] st=some st:=rfl
theorem Wy{c:List PV->St->Option (PV×St)}{put:PV->St->Option St}{fit:St->Bool}{r:List PV}(h1:c [v] st=some (x,st1))(h2:put x st1=some jQ)(h3:fit jQ=true)(h4:w_ c put fit r jQ=some uM):w_ c put fit (v::r) st=some uM:=iX h1 (iX h2 (nG h3 h4))
theorem Sy{st:St}{k:Nat}{o:Option Bool}(h:st[k]? =some (.bs o)):HU st k=some o:=by unfold HU;(refine iR h ?_;exact rfl)
theorem Ul{elt target iter:Expr}{kh:Scope}{l:List PV}{b:Bool}(hc:qX sc kh iter=true)(h:(ev n).E sc iter ρ st=some (x,st1))(hl:contents st1 x=some l)
  (k:lZ (ev n) kh (O2 st1.length) elt target [] (kI x st1) l (freeOf kh ρ) (st1++[.bs none])=some jQ) (hb:jQ[st1.length]? =some (.bs (some b))) (hf:uR st1.length jQ=true):(ev (n+1)).E sc (.SetComp elt [⟨target,iter,[],0⟩] kh p) ρ st=some (.bset b,jQ.take st1.length):=(nG hc (iX h (iX hl (iX k (iX (Sy hb) (iX (a:=b) rfl (nG hf rfl)))))):AL (ev n) sc elt target iter kh ρ st=some (.bset b,jQ.take st1.length))
theorem Uq{target a:Expr}{body:List Stmt}{l:List PV}{R:jf×i8×St}(h0:jW "enumerate" ρ=none)(h1:i9 sc "enumerate"=some .globalImplicit)(hs:(lI a|| !isTuple target)=false)(h:(ev n).E sc a ρ st=some (.list l,st1))
  (k:qy (i0 ((ev n).S sc) body) sc target (fun ζ=>true) (List.zipWith (fun(i:Nat) v=>PV.tup [.int (i:Int),v]) (List.range l.length) l) ρ st1=some R):
  (ev (n+1)).S sc (.For target (.Call (.Name "enumerate" q) [a] [] p) body [] p1) ρ st=some R:=by
 have e2:(("enumerate":Str)==("enumerate":Str))=true:=by decide+kernel
 have hw:qg sc ρ (.Call (.Name "enumerate" q) [a] [] p)=some (false,a):=by
  refine(iR e2 ?_:gd (("enumerate":Str)==("enumerate":Str)&&ql sc ρ "enumerate") (some (false,a))=_);exact iR (ug h0 h1) rfl
 exact CP hw (nG (iR hs rfl) (iX h (iX (a:=l) rfl k)):zl (ev n) sc target a body ρ st=some R)
end
theorem Q4{B:i8->St->Option (jf×i8×St)}{sc:Scope}{target:Expr}{fit:St->Bool}(I:Nat->i8->St->Prop)(Q:i8->St->Prop):∀(l:List PV)(j:Nat)(ρ:i8)(st:St),I j ρ st->
  (∀i v ρ st,l[i]? =some v->I (j+i) ρ st->∃lO fl zh jQ,kX sc st target v ρ=some lO/\B lO st=some (fl,zh,jQ)/\(((fl= .next\/fl= .cont)/\fit jQ=true/\I (j+(i+1)) zh jQ)\/(fl= .brk/\Q zh jQ)))->
  (∀ρ st,I (j+l.length) ρ st->Q ρ st)->
  ∃kC ji,qy B sc target fit l ρ st=some (.next,kC,ji)/\Q kC ji:=by
 intro L0
 induction L0 with
 |nil=>
  intro j ρ st h _ hQ;exact Ow ρ st rfl (hQ ρ st h)
 |cons v l ih=>
  intro j ρ st h step hQ;refine Yj (step 0 v ρ st rfl h) fun lO fl zh jQ h1 h2 h3=> ?_;clear h;rcases h3 with⟨h3,h4,h5⟩|⟨rfl,h5⟩
  ·obtain⟨kC,ji,h6,h7⟩:=ih (j+1) zh jQ (h5) (fun i v ρ st hv hI=>by
    have:=step (i+1) v ρ st hv (iR ((by lia:j+(i+1)=j+1+i)) hI);rw[show j+(i+1+1)=j+1+(i+1) by lia]at this;exact this) (fun ρ st hI=>hQ ρ st (by rw[aB,show j+(l.length+1)=j+1+l.length by lia];exact hI))
   exact Ow kC ji (oM h1 h2 h3 h4 h6) h7
  ·exact Ow zh jQ (Us h1 h2) h5
noncomputable def lcp {α:Type} [DecidableEq α]:List α->List α->List α
 |a::u,b::v=>if a=b then a::lcp u v else[]
 |_,_=>[]
theorem lC{α:Type}[DecidableEq α]{a b:α}{u v:List α}:lcp (a::u) (b::v)=if a=b then a::lcp u v else[]:=rfl
theorem sy{α:Type}[DecidableEq α](v:List α):lcp [] v=[]:=rfl
theorem rS{α:Type}[DecidableEq α](u:List α):lcp u []=[]:=by cases u<;>rfl
theorem Ny{α:Type}[DecidableEq α]:∀u:List α,lcp u u=u:=by
 intro L0
 induction L0 with
 |nil=>
  exact rfl
 |cons a u ih=>
  rw[lC,a_ rfl,ih]
theorem nC{α:Type}[DecidableEq α]:∀u v:List α,lcp u v=lcp v u:=by
 intro L0
 induction L0 with
 |nil=>
  intro L1;cases L1 with
  |nil=>
   exact rfl
  |cons _ _=>
   exact rfl
 |cons a u ih=>
  intro L1;cases L1 with
  |nil=>
   exact rfl
  |cons b v=>
   rw[lC,lC];refine bc (p:=a=b) (fun h=> ?_) fun h=> ?_
   ·subst h;exact iR (a_ rfl) <| iR (a_ rfl) <| iR (ih v) rfl
   ·exact iR (aS h) <| iR (aS fun e=>h e.symm) rfl
theorem UE{α:Type}[DecidableEq α]:∀(u v:List α)(j:Nat)(a b:α),u.take j=v.take j->u[j]? =some a->v[j]? =some b->a≠b->lcp u v=u.take j:=by
 intro u
 induction u with
 |nil=>intro _ _ _ _ _ h;cases h
 |cons x u ih=>
  intro v j a b h h1 h2 h3;cases v with
  |nil=>cases h2
  |cons y v=>
   cases j with
   |zero=>
    cases h1;cases h2;rw[lC,aS h3];rfl
   |succ j=>
    have h:=gQ h;obtain rfl:=h.1;rw[lC,a_ rfl,ih v j a b h.2 h1 h2 h3];rfl
theorem QG{α:Type}[DecidableEq α]:∀(u v:List α),u.take u.length=v.take u.length->lcp u v=u:=by
 intro L0
 induction L0 with
 |nil=>
  intro _ _;cases ‹List α› <;>rfl
 |cons x u ih=>
  intro L1;cases L1 with
  |nil=>
   intro h;trivial
  |cons y v=>
   intro h;simp only[aB,fu,fZ]at h;obtain⟨rfl,h⟩:=h;rw[lC,a_ rfl,ih v h]
theorem QF{α β:Type}[DecidableEq α][DecidableEq β](f:α->β):∀u v:List α,(∀a∈u,∀b∈v,f a=f b->a=b)->lcp (u.map f) (v.map f)=(lcp u v).map f:=by
 intro L0
 induction L0 with
 |nil=>
  intro L1;cases L1 with
  |nil=>
   intro _;exact rfl
  |cons _ _=>
   intro _;exact rfl
 |cons a u ih=>
  intro L1;cases L1 with
  |nil=>
   intro _;exact rfl
  |cons b v=>
   intro h;rw[aU,aU,lC,lC];refine bc (p:=a=b) (fun e=> ?_) fun e=> ?_
   ·subst e;exact iR (a_ rfl) <| iR (a_ rfl) <| iR aU <| iR (ih v fun x hx y hy=>h x (aq _ hx) y (aq _ hy)) rfl
   ·rw[aS e,aS fun q=>e (h a (by simp) b (by simp) q)];rfl
theorem EN:∀a b:ah,strLt a b=false->strLt b a=false->a=b:=by
 intro L0
 induction L0 with
 |nil=>
  intro L1;cases L1 with
  |nil=>
   intro _ _;exact rfl
  |cons _ _=>
   intro h _;cases h
 |cons a u ih=>
  intro L1;cases L1 with
  |nil=>
   intro _ h;cases h
  |cons b v=>
   intro h1 h2
   replace h1:(if a==b then strLt u v else decide (a<b))=false:=h1
   replace h2:(if b==a then strLt v u else decide (b<a))=false:=h2
   by_cases e:a=b
   ·subst e;simp only[cO,iH]at h1 h2;exact iR (ih v h1 h2) rfl
   ·rw[aS (by simpa using e)]at h1;rw[aS (by simpa using fun q:b=a=>e q.symm)]at h2;exact absurd (dz (bw (gK h2)) (bw (gK h1))) e
theorem yr:∀a b:List (ah),∃c,jZ (a.map .str) (b.map .str)=some c:=by
 intro L0
 induction L0 with
 |nil=>
  intro L1;cases L1 with
  |nil=>
   exact⟨_,rfl⟩
  |cons _ _=>
   exact⟨_,rfl⟩
 |cons a u ih=>
  intro L1;cases L1 with
  |nil=>
   exact⟨_,rfl⟩
  |cons b v=>
   skip
   refine(?_:∃c,cond (a==b) (jZ (u.map .str) (v.map .str)) (qW (.str a) (.str b))=some c);cases a==b with
   |true=>exact ih v
   |false=>exact⟨_,rfl⟩
theorem tR(a b:ah)(u v:List (ah)):jZ ((a::u).map .str) ((b::v).map .str)=if a=b then jZ (u.map .str) (v.map .str)else some (strLt a b):=by
 skip
 refine(bc (p:=a=b) (fun e=> ?_) fun e=> ?_:cond (a==b) (jZ (u.map .str) (v.map .str)) (qW (.str a) (.str b))=_)
 ·exact iR (a_ e) <| iR (aR.mpr e) rfl
 ·exact iR (aS e) <| iR (aL.mpr e) rfl
theorem FF:∀a b:List (ah),jZ (a.map .str) (b.map .str)=some false->jZ (b.map .str) (a.map .str)=some false->a=b:=by
 intro L0
 induction L0 with
 |nil=>
  intro L1;cases L1 with
  |nil=>
   intro _ _;exact rfl
  |cons _ _=>
   intro h _;exact nomatch h
 |cons a u ih=>
  intro L1;cases L1 with
  |nil=>
   intro _ h;exact nomatch h
  |cons b v=>
   intro h1 h2;rw[tR]at h1 h2;by_cases e:a=b
   ·subst e;rw[a_ rfl]at h1 h2;rw[ih v h1 h2]
   ·rw[aS e]at h1;rw[aS fun q=>e q.symm]at h2;exact absurd (EN a b (aj h1) (aj h2)) e
theorem xQ:∀(a b:List (ah)),jZ (b.map .str) (a.map .str)=some false->∀j,j<a.length->a.take j=b.take j->j<b.length
 |[],_,_,j,h,_=>by simp at h
 |_::_,[],h,_,_,_=>by cases h
 |a::u,b::v,h,0,_,_=>by simp
 |a::u,b::v,h,j+1,h1,h2=>by
  simp only[fu,fZ,aB]at h1 h2|-;obtain⟨rfl,h2⟩:=h2;rw[tR,a_ rfl]at h;have:=xQ u v h j (aM ‹_›) h2;exact Nat.succ_lt_succ ‹_›
noncomputable def pU (c:ah):Bool:=c !=[]&&c !=[46]
noncomputable abbrev Yo:Expr:=lg (rt (jj "commonpath" 3) 2)
theorem yl(n:Nat)(c0:j8)(L:List PV)(fit:St->Bool)(lH:∀st,fit st=true):∀(A acc:List (ah))(ρ:i8),acc.length+A.length<=1000->(ρ=([("curdir",.str [46])]:i8)\/∃c,ρ=([("curdir",.str [46]),("c",c)]:i8))->
  lZ (ev (n+4)) (n_ Yo) (putL 2) (lg Yo) (qw Yo) (qx Yo) fit (A.map .str) ρ [c0,.lst L,.lst (acc.map .str)]=some [c0,.lst L,.lst ((acc++A.filter pU).map .str)]:=by
 intro L0
 induction L0 with
 |nil=>
  intro acc ρ _ _;exact iR (iN ..) <| iR (cK ..) rfl
 |cons a A ih=>
  intro acc ρ hl k9
  replace hl:=aB▸hl
  have lU:putL 2 (.str a) [c0,.lst L,.lst (acc.map .str)]=some [c0,.lst L,.lst ((acc++[a]).map .str)]:=by
   show gd (kM (acc.map PV.str)) (some ([c0,.lst L,.lst (acc.map PV.str)].set 2 (.lst (acc.map PV.str++[.str a]))))=_;exact nG (aH (by(refine iR (aJ ..) ?_);unfold BX;exact lit (bC (pD ‹_›)))) (by simp)
  refine iR aU ?_;by_cases h1:a=[]
  ·subst h1;have e:([]::A).filter pU=A.filter pU:=rfl;refine iR e ?_;rcases k9 with rfl|⟨c,rfl⟩
   all_goals exact AN (by rfl) (by rfl) (lH _) (ih acc _ (bC ‹_›) (.inr ⟨_,rfl⟩))
  ·have ht:lK [c0,.lst L,.lst (acc.map .str)] (.str a)=some true:=by
    cases a with
    |nil=>exact absurd rfl h1
    |cons x a=>rfl
   by_cases h2:a=[46]
   ·subst h2;have e:([46]::A).filter pU=A.filter pU:=rfl;refine iR e ?_;rcases k9 with rfl|⟨c,rfl⟩
    all_goals exact AN (by rfl) (by rfl) (lH _) (ih acc _ (bC ‹_›) (.inr ⟨_,rfl⟩))
   ·have hc:jF [c0,.lst L,.lst (acc.map .str)] .NotEq (.str a) (.str [46])=some true:=by
     show(some (a==[46])).map (!·)=_;exact iR (aL.mpr h2) rfl
    have e:acc++(a::A).filter pU=(acc++[a])++A.filter pU:=by
     rw[cA (by unfold pU;simp[h1,h2])];simp
    refine iR e ?_;have uP:(acc++[a]).length+A.length<=1000:=by simp;exact vM ‹_›
    rcases k9 with rfl|⟨c,rfl⟩
    all_goals exact rB (by rfl) (vJ (nu (nK (by rfl) (by rfl) (ht)) (nu (ju (h:=jI (by rfl) (hc))) (by rfl)))) (by rfl) (lU) (lH _) (ih (acc++[a]) _ uP (.inr ⟨_,rfl⟩))
theorem Ac(c0:j8)(hb:jK 1 c0=true)(A B:List (ah)):finish 1 [c0,.lst [.list (A.map .str),.list (B.map .str)]] (.lst 1)=some (.list [.list (A.map .str),.list (B.map .str)],[c0]):=by
 unfold finish;rw[RV (by refine(?_:(true&&(jK 1 c0&&true))=true);(refine iR hb ?_);rfl)];have h1:jh [c0,.lst [.list (A.map .str),.list (B.map .str)]] 1 6 (.lst 1)=some (.list [.list (A.map .str),.list (B.map .str)]):=by
  have e:∀X:List (ah),jh [c0,.lst [.list (A.map .str),.list (B.map .str)]] 1 5 (.list (X.map .str))=some (.list (X.map .str)):=by
   intro X;refine(iR (qF (jh _ 1 4) (fun s=>rfl) ..) ?_:(mW (jh _ 1 4) (X.map PV.str)).map PV.list=_);rfl
  refine(iR (e ..) ?_:((jh _ 1 5 (.list (A.map .str))).bind fun x=>((jh _ 1 5 (.list (B.map .str))).bind fun x=>(some []).map (x:: ·)).map (x:: ·)).map PV.list=_);exact iR (e ..) rfl
 exact iR h1 rfl
theorem Ad(c0:j8)(L:List PV)(hb:jK 2 c0=true)(hL:i_ 2 L=true)(A:List (ah)):finish 2 [c0,.lst L,.lst (A.map .str)] (.lst 2)=some (.list (A.map .str),[c0,.lst L]):=by
 unfold finish;rw[RV (by refine(?_:(true&&(jK 2 c0&&(i_ 2 L&&true)))=true);(refine iR hb ?_;refine iR hL ?_);rfl)];have h1:jh [c0,.lst L,.lst (A.map .str)] 2 6 (.lst 2)=some (.list (A.map .str)):=by
  refine(iR (qF (jh _ 2 5) (fun s=>rfl) ..) ?_:(mW (jh _ 2 5) (A.map PV.str)).map PV.list=_);rfl
 exact iR h1 rfl
theorem DJ(k:Nat):∀A:List (ah),i_ k (A.map .str)=true:=by
 intro L0
 induction L0 with
 |nil=>
  exact rfl
 |cons a A ih=>
  rw[aU,i_,ih];rfl
noncomputable def Km (a b:ah) (sp:PV) (s1 s2:List (ah)) (Tc:PV):i8:=[("paths",.tup [.str a,.str b]),("sep",.str [47]),("curdir",.str [46]),("split_paths",sp),("isabs",.bool true),("s1",.list (s1.map .str)),("s2",.list (s2.map .str)),("common",Tc)]
noncomputable def vI (a b:ah) (sp:PV) (s1 s2:List (ah)) (Tc i c:PV):i8:=[("paths",.tup [.str a,.str b]),("sep",.str [47]),("curdir",.str [46]),("split_paths",sp),("isabs",.bool true),("s1",.list (s1.map .str)),("s2",.list (s2.map .str)),("common",Tc),("i",i),("c",c)]
theorem Iu(st:St)(s:List PV)(j:Nat):kR st (.list s) none (some ((j:Nat):Int)) none=some (.list (s.take j)):=by
 refine(?_:(nt s none (some (j:Int))).map PV.list=_);unfold nt;have:nQ s.length ((j:Nat):Int)=some (min j s.length):=by unfold nQ;(refine iR (a_ (bI j)) ?_);rfl
 simp only[Option.map_none,ee,Option.getD_none,fH,this,fM,List.drop_zero,Nat.sub_zero];congr 2;rw[List.take_eq_take_iff]
 (exact cI (cH ..))
theorem Q8{L:List PV}{i:Nat}{v:PV}(h:(List.zipWith (fun(i:Nat) v=>PV.tup [.int (i:Int),v]) (List.range L.length) L)[i]? =some v):∃x,L[i]? =some x/\v= .tup [.int (i:Int),x]:=by
 replace h:=(List.getElem?_zipWith)▸h
 cases hx:L[i]? with
 |none=>replace h:=hx▸h;cases hr:(List.range L.length)[i]? <;>replace h:=hr▸h<;>cases h
 |some x=>
  have jS:i<L.length:=by
   refine cg (Nat.lt_or_ge i L.length) (fun q=> ?_) fun q=> ?_
   ·exact q
   ·replace hx:=(fU q)▸hx
    cases hx
  replace h:=(gn jS)▸(hx▸h)
  exact⟨x,rfl,(aj h).symm⟩
theorem DB(n:Nat)(a b:ah)(sp:PV)(s1 s2:List (ah))(Tc:PV)(st:St)(j:Nat)(c d:ah)(hd:s2[j]? =some d):
  (c=d->i0 ((ev (n+6)).S (i7 "commonpath")) (OJ (jj "commonpath" 3) 6) (vI a b sp s1 s2 Tc (.int (j:Int)) (.str c)) st=some (.next,vI a b sp s1 s2 Tc (.int (j:Int)) (.str c),st))/\
  (c≠d->i0 ((ev (n+6)).S (i7 "commonpath")) (OJ (jj "commonpath" 3) 6) (vI a b sp s1 s2 Tc (.int (j:Int)) (.str c)) st=some (.brk,vI a b sp s1 s2 (.list ((s1.take j).map .str)) (.int (j:Int)) (.str c),st)):=by
 have hg:jk st (.list (s2.map .str)) (.int (j:Int))=some (.str d):=by
  show idx (s2.map PV.str) (j:Int)=_;unfold idx;refine iR (a_ (bI j) ..) <| iR (b7 ..) <| iR (bk ..) ?_
  exact iR (hd ..) rfl
 have hc:jF st .NotEq (.str c) (.str d)=some (!(c==d)):=rfl;refine⟨fun e=> ?_,fun e=> ?_⟩
 ·replace hc:=(aR.mpr e)▸hc
  exact iT (mQ (ju (h:=jI (ja (h:=hg)) (hc))) (by rfl)) jq
 ·replace hc:=(aL.mpr e)▸hc
  exact ua (pV (ju (h:=jI (ja (h:=hg)) (hc))) (iT (iS (h:=kB (by rfl) mz (n9 (by rfl)) mz ((by(refine iR (Iu ..) ?_;refine iR (List.map_take ..) ?_;exact rfl):kR st (.list (s1.map .str)) none (some (j:Int)) none=some (.list ((s1.take j).map .str)))))) (by rfl))) (by intro q;cases q)
theorem DC(n:Nat)(a b:ah)(sp:PV)(s1 s2:List (ah))(st:St)(yM:∀j,j<s1.length->s1.take j=s2.take j->j<s2.length):
  ∃kC,qy (i0 ((ev (n+6)).S (i7 "commonpath")) (OJ (jj "commonpath" 3) 6)) (i7 "commonpath") (rt (jj "commonpath" 3) 6) (fun ζ=>true) (List.zipWith (fun(i:Nat) v=>PV.tup [.int (i:Int),v]) (List.range (s1.map PV.str).length) (s1.map PV.str)) (Km a b sp s1 s2 (.list (s1.map .str))) st=some (.next,kC,st)/\
   (kC=Km a b sp s1 s2 (.list ((lcp s1 s2).map .str))\/∃i c,kC=vI a b sp s1 s2 (.list ((lcp s1 s2).map .str)) i c):=by
 have loop:=Q4 (B:=i0 ((ev (n+6)).S (i7 "commonpath")) (OJ (jj "commonpath" 3) 6)) (sc:=i7 "commonpath") (target:=rt (jj "commonpath" 3) 6) (fit:=fun ζ=>true)
  (fun j ρ ji=>ji=st/\s1.take j=s2.take j/\(ρ=Km a b sp s1 s2 (.list (s1.map .str))\/∃i c,ρ=vI a b sp s1 s2 (.list (s1.map .str)) i c))
  (fun ρ ji=>ji=st/\(ρ=Km a b sp s1 s2 (.list ((lcp s1 s2).map .str))\/∃i c,ρ=vI a b sp s1 s2 (.list ((lcp s1 s2).map .str)) i c))
  (List.zipWith (fun(i:Nat) v=>PV.tup [.int (i:Int),v]) (List.range (s1.map PV.str).length) (s1.map PV.str)) 0 (Km a b sp s1 s2 (.list (s1.map .str))) st (tZ rfl rfl (.inl rfl)) (by
   intro i v ρ ji hv hI;rw[aX]at hI;refine w4 hI fun z1 VM k9=> ?_;subst z1;refine jm (Q8 hv) fun x hx z2=>iR z2 ?_
   replace hx:=(bk)▸hx
   refine jw hx fun c hc z3=>jC z3 <| m9 (ay.mp hc) fun jS hce=> ?_
   have wk:=yM i jS VM;have hd:s2[i]? =some s2[i]:=aO wk;have ht:=DB n a b sp s1 s2 (.list (s1.map .str)) ji i c s2[i] hd;have aaK:∃lO,kX (i7 "commonpath") ji (rt (jj "commonpath" 3) 6) (.tup [.int (i:Int),.str c]) ρ=some lO/\lO=vI a b sp s1 s2 (.list (s1.map .str)) (.int (i:Int)) (.str c):=by
    clear yM hx hv;rcases k9 with rfl|⟨k,c',rfl⟩
    all_goals exact jt _ rfl rfl
   refine jm aaK fun lO ha z4=> ?_;subst z4;refine bc (p:=c=s2[i]) (fun e=> ?_) fun e=> ?_
   ·refine⟨_,_,_,_,ha,ht.1 e,.inl ⟨.inl rfl,rfl,rfl,?_,.inr (DO _ _ rfl)⟩⟩;exact iR (aX ..) <| iR (bT jS ..) <| iR (bT wk ..) <| iR (VM ..) <| jC (e ..) <| iR (hce ..) rfl
   ·refine⟨_,_,_,_,ha,ht.2 e,.inr ⟨rfl,rfl,.inr (DO (.int (i:Int)) (.str c) ?_)⟩⟩
    (refine iR (UE s1 s2 i c s2[i] VM hc hd e) ?_;exact rfl))
  (by
   intro ρ ji hI;have hl:(List.zipWith (fun(i:Nat) v=>PV.tup [.int (i:Int),v]) (List.range (s1.map PV.str).length) (s1.map PV.str)).length=s1.length:=by simp
   rw[aX,hl]at hI;refine w4 hI fun z5 VM k9=> ?_;clear yM hI hl;subst z5;exact iR (QG s1 s2 VM) <| ⟨rfl,k9⟩)
 refine qL loop fun kC ji h1 z6 h3=> ?_;clear yM loop;subst z6;exact jt kC h1 h3
theorem Ft(st:St)(l:List (ah))(h1:(jO [47] l).length<=1000)(h2:l.length<=1000):methP st (.str [47]) "join" [.list (l.map .str)]=some (.str (jO [47] l),st):=by
 have e:(("join":Str)==("join":Str))=true:=by decide+kernel
 have k2:uo st [47] [.list (l.map .str)]=some (.str (jO [47] l)):=by
  refine(iX (q8 l) (nG ?_ rfl):(qP (l.map .str)).bind (fun ps=>gd (kM (jO [47] ps)&&ps.length<=1000&&true) (some (PV.str (jO [47] ps))))=_);simp only[Bool.and_true,aG,bq];exact⟨aH (by unfold BX;(exact lit ‹_›)),h2⟩
 refine(iR e ?_:(se st _ "join" _).map _=_);exact ow k2
theorem Qq(A B:List (ah)):∃s1 s2,(∀st,lz st "min" [.list [.list (A.map .str),.list (B.map .str)]]=some (.list (s1.map .str)))/\(∀st,lz st "max" [.list [.list (A.map .str),.list (B.map .str)]]=some (.list (s2.map .str)))/\
  (∀j,j<s1.length->s1.take j=s2.take j->j<s2.length)/\lcp s1 s2=lcp A B:=by
 have e1:∀st,lz st "min" [.list [.list (A.map .str),.list (B.map .str)]]=(jZ (B.map .str) (A.map .str)).bind fun r=>some (cond r (.list (B.map .str)) (.list (A.map .str))):=fun st=>rfl;have e2:∀st,lz st "max" [.list [.list (A.map .str),.list (B.map .str)]]=(jZ (A.map .str) (B.map .str)).bind fun r=>some (cond r (.list (B.map .str)) (.list (A.map .str))):=fun st=>rfl;obtain⟨c1,h1⟩:=yr B A;obtain⟨c2,h2⟩:=yr A B;rw[h1]at e1;rw[h2]at e2;cases c1 with
 |true=>
  cases c2 with
  |true=>
   refine(v9 B B e1 e2 (fun j h ζ=>h) ?_);have:A=B:=by
    have:∀A B:List (ah),jZ (A.map .str) (B.map .str)=some true->jZ (B.map .str) (A.map .str)=some true->False:=by
     intro A
     induction A with
     |nil=>intro B h h';cases B<;>cases h'
     |cons a u ih=>
      intro B h h';cases B with
      |nil=>cases h
      |cons b v=>
       rw[tR]at h h';by_cases e:a=b
       ·subst e;rw[a_ rfl]at h h';exact ih v h h'
       ·rw[aS e]at h;rw[aS fun q=>e q.symm]at h';have h:=aj h;have h':=aj h';have:∀x y:ah,strLt x y=true->strLt y x=true->False:=by
         intro x
         induction x with
         |nil=>intro y h h';cases y<;>cases h'
         |cons p x ih=>
          intro y h h';cases y with
          |nil=>cases h
          |cons q y=>
           rw[strLt]at h h';by_cases e:p=q
           ·subst e;simp only[cO,iH]at h h';exact ih y h h'
           ·rw[aS (by simpa using e)]at h;rw[aS (by simpa using fun z:q=p=>e z.symm)]at h';exact(Nat.lt_asymm (bL h) (bL h')).elim
        exact this a b h h'
    exact(this A B h2 h1).elim
   rw[this]
  |false=>exact(v9 B A e1 e2 (xQ B A h2) (nC B A))
 |false=>
  cases c2 with
  |true=>exact(v9 A B e1 e2 (xQ A B h1) rfl)
  |false=>
   have:=FF A B h2 h1;clear h1 h2;subst this;exact v9 A A e1 e2 (fun j h ζ=>h) rfl
theorem x6(a b:ah)(st:St)(x:j8):kI (.lst 0) (.lst [.str a,.str b]::st) [.lst [.str a,.str b],x]=true:=sC rfl
theorem uY(w:ah)(h:wK w):(jz 47 (P w)).filter pU=w.map nm:=by
 refine iR (show jz 47 (47::kc w)=[]::jz 47 (kc w)from rfl) ?_;cases w with
 |nil=>rfl
 |cons c w=>
  unfold kc;rw[tM _ (by simp) (by
   intro x hx;refine kU hx fun d hd z1=> ?_;subst z1;exact(k8 d (h.2 d hd)).1),cB (by decide),dI]
  intro x hx;refine kU hx fun d hd z2=> ?_;subst z2;have:=k8 d (h.2 d hd);unfold pU;simp[this.2.1,this.2.2.1]
theorem x7(w:ah)(h:wK w):(jz 47 (P w)).length<=100:=by
 have h1:=vR 47 (P w);have h2:=zC w h.2;have h3:=h.1;exact lit (ao h1 (cQ (ao h2 (bE (bS 7 h3) 1))))
theorem QE{v w:ah}:∀c∈lcp v w,c∈v:=by
 induction v generalizing w with
 |nil=>intro c h;(cases w)<;>simp[lcp]at h
 |cons a v ih=>
  intro c h;cases w with
  |nil=>simp[lcp]at h
  |cons b w=>
   rw[lcp]at h;split at h
   ·rcases aV.mp h with rfl|h
    ·exact aT ..
    ·exact aq _ (ih c h)
   ·exact nomatch h
theorem A2{v w:ah}:(lcp v w).length<=v.length:=by
 induction v generalizing w with
 |nil=>cases w<;>first|rfl|simp[lcp]
 |cons a v ih=>
  cases w with
  |nil=>simp[lcp]
  |cons b w=>
   rw[lcp];split
   ·have:=ih (w:=w);exact eH ‹_›
   ·simp
theorem wK.lcp{v w:ah}(h:wK v):wK (lcp v w):=⟨ao A2 h.1,fun c hc=>h.2 c (QE c hc)⟩
theorem Rf(n:Nat)(a b:ah)(J:ah)(s1 s2 X:List (ah))(hsa:∀st,methP st (.str a) "startswith" [.str [47]]=some (.bool true,st))(hsb:∀st,methP st (.str b) "startswith" [.str [47]]=some (.bool true,st))(A B:List (ah))
  (S4:∀st,methP st (.str a) "split" [.str [47]]=some (.list (A.map .str),st)) (DQ:∀st,methP st (.str b) "split" [.str [47]]=some (.list (B.map .str),st)) (hA:A.length<=100) (hB:B.length<=100)
  (Kv:∀st,lz st "min" [.list [.list ((A.filter pU).map .str),.list ((B.filter pU).map .str)]]=some (.list (s1.map .str))) (mL:∀st,lz st "max" [.list [.list ((A.filter pU).map .str),.list ((B.filter pU).map .str)]]=some (.list (s2.map .str)))
  (yM:∀j,j<s1.length->s1.take j=s2.take j->j<s2.length) (hX:lcp s1 s2=X) (hJ:jO [47] X=J) (hJl:J.length<=500) (hXl:X.length<=500):
  (ev (n+9)).C "commonpath" [.lst 0] [] [.lst [.str a,.str b]]=some (.str (47::J),[.lst [.str a,.str b]]):=by
 have hj:∀st,methP st (.str [47]) "join" [.list (X.map .str)]=some (.str J,st):=fun st=>by(refine jC hJ ?_);exact Ft st X (iR hJ <| lit ‹_›) (lit ‹_›)
 have Ec:=fun st=>oJ st (x:=[47]) (y:=J) (by decide) (lit ‹_›);have ZX:47::J=[47]++J:=rfl;refine iR ZX ?_;have fB:=Ac (.lst [.str a,.str b]) rfl (A.filter pU) (B.filter pU);have iA:=fun L fit lH=>yl n (.lst [.str a,.str b]) L fit lH A [] _ (by(refine iR b8 ?_);lia) (.inl rfl);have iB:=fun L fit lH=>yl n (.lst [.str a,.str b]) L fit lH B [] _ (by(refine iR b8 ?_);lia) (.inl rfl);have f2A:=Ad (.lst [.str a,.str b]) [] rfl rfl (A.filter pU);have ZW:=Ad (.lst [.str a,.str b]) [.list ((A.filter pU).map .str)] rfl (by refine(?_:(i_ 2 ((A.filter pU).map .str)&&true)=true);rw[DJ];rfl) (B.filter pU);simp only[dD]at iA iB;generalize hFA:A.filter pU=FA at iA fB f2A ZW Kv mL;generalize hFB:B.filter pU=FB at iB fB ZW Kv mL;refine jm (DC n a b (.list [.list (FA.map .str),.list (FB.map .str)]) s1 s2 [.lst [.str a,.str b]] yM) fun kC Xu k9=> ?_
 replace k9:=hX▸k9
 generalize List.map PV.str X=XL at hj k9;generalize X.map PV.str=XL at hj k9;have tail:∃zh,i0 ((ev (n+7)).S (i7 "commonpath")) ((jj "commonpath" 3).drop 7) kC [.lst [.str a,.str b]]=some (.ret (.str ([47]++J)),zh,[.lst [.str a,.str b]]):=by
  clear hA hB yM hX hJ hJl hXl ZX hFA hFB;rcases k9 with rfl|⟨i,c,rfl⟩
  all_goals exact⟨_,iT (by rfl) (lA (jb (by rfl) (jo (h:=hj _)) (Ec _)))⟩
 exact m9 tail fun zh tail=>kN (k:=iT (iS (h:=Uk (by rfl) (by rfl) (by rfl) (by rfl) (by rfl) (by rfl) (by rfl) (by rfl) (by rfl) (Wy (by rfl) (by rfl) (x6 _ _ _ _) (Wy (by rfl) (by rfl) (x6 _ _ _ _) Xm)) (by rfl)))
  (iT (by rfl) (iT (by rfl)
  (ua (Ca
   (iT (iS (h:=jT (a:=rB (by rfl) pB (jo (h:=S4 _)) (by rfl) (by rfl) (rB (by rfl) pB (jo (h:=DQ _)) (by rfl) (by rfl) GK)) (h:=by exact(Ac (.lst [.str a,.str b]) rfl A B))))
   (iT (Ca (iT (iS (h:=Ul (by rfl) (by rfl) (by rfl) (rB (by rfl) pB (jo (h:=hsa _)) (by rfl) (by rfl) (rB (by rfl) pB (jo (h:=hsb _)) (by rfl) (by rfl) GK)) (by rfl) (by rfl))) jq))
   (iT (iS (h:=Lz (by rfl) (by rfl) (by rfl)
     (rB (by rfl) pB (jT (a:=iA _ _ (fun ζ=>rfl)) (h:=by exact f2A)) (by rfl) (by rfl)
     (rB (by rfl) pB (jT (a:=iB _ _ (fun ζ=>rfl)) (h:=by exact ZW)) (by rfl) (by rfl) GK)) (by exact fB)))
   (iT (iS (h:=jV (h:=Kv _)))
   (iT (iS (h:=jV (h:=mL _)))
   (iT (iS (h:=by rfl))
   (iT (Uq (by rfl) (by rfl) (by rfl) (by rfl) (Xu))
   (tail))))))))) (by intro q;cases q)))))
theorem Rd(n:Nat)(v w:ah)(hv:wK v)(hw:wK w):(ev (n+9)).C "commonpath" [.lst 0] [] [.lst [.str (P v),.str (P w)]]=some (.str (P (lcp v w)),[.lst [.str (P v),.str (P w)]]):=by
 have Al:∀w,wK w->∀st,methP st (.str (P w)) "split" [.str [47]]=some (.list ((jz 47 (P w)).map .str),st):=by
  intro w hw st;have h1:=zC w hw.2;have h2:=hw.1;exact Cq st (P w) (lit (ao h1 (bE (bS 7 h2) 1)))
 refine DN (Qq (v.map nm) (w.map nm)) fun s1 s2 h1 h2 h3 h4=> ?_;have SX:wK (lcp v w):=hv.lcp;refine Rf n (P v) (P w) (kc (lcp v w)) s1 s2 ((lcp v w).map nm) (fun st=>rfl) (fun st=>rfl) _ _ (Al v hv) (Al w hw) (x7 v hv) (x7 w hw) ?_ ?_ h3 (h4.trans (QF nm v w fun a ha b hb=>LF a b (hv.2 a ha) (hw.2 b hb):lcp (v.map nm) (w.map nm)=(lcp v w).map nm)) rfl ?_ ?_
 ·exact iR (uY v hv) <| iR (uY w hw) h1
 ·exact iR (uY v hv) <| iR (uY w hw) h2
 ·have:=xH _ SX;exact lit ‹_›
 ·refine iR (aJ ..) ?_;have:=SX.1;exact lit ‹_›
noncomputable def lV (v w:ah):Int:=(v.length:Int)+(w.length:Int)-2*((lcp v w).length:Int)
theorem Lv(n:Nat)(v w:ah)(hv:wK v)(hw:wK w):(ev (n+15)).C "_law_steps" [.str (P v),.str (P w)] [] []=some (.int (lV v w),[]):=by
 have hc:=Rd n v w hv hw;have h1:=AM (n+5) v hv.2;have h2:=AM (n+5) w hw.2;have SX:wK (lcp v w):=hv.lcp;have h4:=frame (st:=[.lst [.str (P v),.str (P w)]]) rfl (AM (n+5) (lcp v w) SX.2);have hm:∀st,kZ st .Mult (.int 2) (.int ((lcp v w).length:Int))=some (.int (2*((lcp v w).length:Int))):=by
  intro st;have:=SX.1;refine(ow (nG ?_ rfl):(gd (decide ((2:Int).natAbs<2^62)&&decide (((lcp v w).length:Int).natAbs<2^62)) (some (2*((lcp v w).length:Int)))).map PV.int=_);simp only[aG,bq];exact⟨by decide,by exact aD this (by decide)⟩
 unfold lV;generalize ((lcp v w).length:Int)=k at h4 hm|-;generalize P (lcp v w)=pl at hc h4;generalize P v=pv at hc h1 h4|-;generalize P w=pw at hc h2 h4|-;exact kN (k:=lA (jb
  (jb (jg (h:=h1)) (jg (h:=h2)) (by rfl))
  (jb (by rfl) (jg (g:=iY (by rfl) (jg (h:=hc)) jr) (h:=h4)) (hm _)) (by rfl)))
structure Hp where
 d:Nat
 s:ah
 t:ah
 r:Nat
noncomputable def kj (e:Hp):PV:=.tup [.int (e.d:Int),.str e.s,.str e.t,.int (e.r:Int)]
noncomputable def hp0:Hp:=⟨0,[],[],0⟩
noncomputable def gh (H:List Hp) (i:Nat):Hp:=H.getD i hp0
theorem tQ{a b:PV}{l m:List PV}{r:Bool}(h:qp a b=some r):jZ (a::l) (b::m)=cond r (jZ l m) (qW a b):=iX h rfl
theorem vt{a b:PV}{l m:List PV}{r q:Bool}(h:qp a b=some r)(h2:qW a b=some q)(k:∃c,jZ l m=some c):∃c,jZ (a::l) (b::m)=some c:=by
 refine iR (tQ h) ?_;cases r with
 |false=>exact⟨q,h2⟩
 |true=>exact k
theorem ltH(a b:Hp):∃c,(∀st,jF st .Lt (kj a) (kj b)=some c)/\(c=true->a.d<=b.d)/\(c=false->b.d<=a.d):=by
 have e:∀st c,jZ [.int (a.d:Int),.str a.s,.str a.t,.int (a.r:Int)] [.int (b.d:Int),.str b.s,.str b.t,.int (b.r:Int)]=some c->jF st .Lt (kj a) (kj b)=some c:=fun st c h=>Eg h;have e0:qp (.int (a.d:Int)) (.int (b.d:Int))=some ((a.d:Int)==(b.d:Int)):=rfl;refine bc (p:=a.d=b.d) (fun h=> ?_) fun h=> ?_
 ·refine m9 (vt rfl rfl (vt rfl rfl (vt rfl rfl ⟨_,rfl⟩)):∃c,jZ [.str a.s,.str a.t,.int (a.r:Int)] [.str b.s,.str b.t,.int (b.r:Int)]=some c) fun c hc=>(sY c (fun st=>e st c ?_) (fun ζ=>aE h) (fun ζ=>aE h.symm));rw[h,cO]at e0;exact iR h <| iR (tQ e0) hc
 ·refine(sY (decide ((a.d:Int)<(b.d:Int))) (fun st=>e st _ ?_) (fun q=> ?_) (fun q=> ?_))
  ·rw[aL.mpr (by lia)]at e0;exact iR (tQ e0) rfl
  ·have:=bL q;exact bC (cE.mp (bL q))
  ·have:=gK q;exact bw fun z=>gK q (cE.mpr z)
theorem oH(H:List Hp)(j:Nat)(x:Hp)(hj:j<H.length)(i:Nat):gh (H.set j x) i=if i=j then x else gh H i:=by
 unfold gh;refine iR (bB) ?_;refine iR (bB) ?_;refine iR (List.getElem?_set) ?_;refine bc (p:=j=i) (fun e=> ?_) fun e=> ?_
 ·subst e;exact iR (a_ rfl) <| iR (a_ rfl) <| iR (a_ hj) rfl
 ·exact iR (aS e) <| iR (aS fun q=>e q.symm) rfl
theorem xD(H:List Hp)(i:Nat)(h:i<H.length):gh H i=H[i]:=by
 unfold gh;refine iR (bB) ?_;refine iR (aO h) ?_;rfl
def sO (s:Nat) (H:List Hp):Prop:=∀i,1<=i->i<H.length->s<=(i-1) / 2->(gh H i).d<=(gh H ((i-1) / 2)).d
def Dn (s p:Nat):Prop:=s<=p/\(s=0\/p=s\/(p-1) / 2=s)
theorem z_(H:List Hp)(h:sO 0 H):∀(k i:Nat),i<=k->i<H.length->(gh H i).d<=(gh H 0).d
 |0,i,h1,_=>by
   have:i=0:=by(exact Nat.le_zero.mp h1)
   subst this;exact aK _
 |k+1,i,h1,h2=>by
  refine bc (p:=i=0) (fun e=> ?_) fun e=> ?_
  ·clear h1;subst e;exact aK _
  ·exact ao (h i (dO ‹_›) h2 (c9 _)) (z_ H h k ((i-1) / 2) (aM (aW (ny (dO e)) h1)) (aD (uu i) h2))
theorem zI(H:List Hp)(i j:Nat)(x:Hp)(hi:i<H.length)(hj:j<H.length)(ZE:i≠j):((H.set i (gh H j)).set j x).Perm (H.set i x):=by
 have h:=List.set_set_perm (as:=H.set i x) (i:=i) (j:=j) (iR cJ hi) (iR cJ hj);rw[List.getElem_set_self,List.getElem_set_ne ZE,List.set_set]at h;exact iR (xD H j hj) h
theorem pn(rest:St)(H:List Hp)(i:Nat)(h:i<H.length):jk (.lst (H.map kj)::rest) (.lst 0) (.int (i:Int))=some (kj (gh H i)):=by
 refine(?_:idx (H.map kj) (i:Int)=_);unfold idx;refine iR (a_ (bI i) ..) <| iR (b7 ..) <| iR (bk ..) ?_
 refine iR (aO h ..) ?_;exact iR (xD H i h ..) rfl
theorem nS(rest:St)(H:List Hp)(i:Nat)(x:Hp)(h:i<H.length):pL (.lst (H.map kj)::rest) (.lst 0) (.int (i:Int)) (kj x)=some (.lst ((H.set i x).map kj)::rest):=by
 refine(nG (by simp;exact h) ?_:gd (decide (0<=(i:Int))&&decide ((i:Int).toNat<(H.map kj).length)) (some ((j8.lst (H.map kj)::rest).set 0 (.lst ((H.map kj).set (i:Int).toNat (kj x)))))=_);exact iR (b7 ..) <| iR (List.map_set ..) rfl
theorem CU(k:Nat):∀H:List Hp,i_ k (H.map kj)=true:=by
 intro L0
 induction L0 with
 |nil=>
  exact rfl
 |cons e H ih=>
  rw[aU,i_,ih];rfl
theorem Kz(rest:St)(H:List Hp)(v w:PV)(hr:rest.all (jK (rest.length+1))=true)(hv:∀st,jh st (rest.length+1) 6 v=some w):finish (rest.length+1) (.lst (H.map kj)::rest) v=some (w,.lst (H.map kj)::rest):=by
 unfold finish;have e:(j8.lst (H.map kj)::rest).take (rest.length+1)= .lst (H.map kj)::rest:=cR (by simp);have hs:uR (rest.length+1) (j8.lst (H.map kj)::rest)=true:=by
  unfold uR;refine iR e <| iR gi <| iR hr <| (?_:(decide (rest.length+1<=(j8.lst (H.map kj)::rest).length)&&(i_ _ (H.map kj)&&true))=true)
  refine iR (CU ..) <| iR (aB ..) ?_
  simp
 exact iR (RV hs ..) <| iR (e ..) <| iR (hv ..) rfl
noncomputable def O0 (s p:Nat) (x:Hp):i8:=[("heap",.lst 0),("startpos",.int (s:Int)),("pos",.int (p:Int)),("newitem",kj x)]
noncomputable def Gw (s p:Nat) (x:Hp) (a b:PV):i8:=[("heap",.lst 0),("startpos",.int (s:Int)),("pos",.int (p:Int)),("newitem",kj x),("parentpos",a),("parent",b)]
def KG (s p:Nat) (x:Hp) (ρ:i8):Prop:=ρ=O0 s p x\/∃a b,ρ=Gw s p x a b
theorem MB(st:St)(p:Nat)(h:1<=p):kZ st .RShift (.int ((p:Int)-1)) (.int 1)=some (.int (((p-1) / 2:Nat):Int)):=by
 rw[(rfl:kZ st .RShift (.int ((p:Int)-1)) (.int 1)=some (.int (((p:Int)-1)>>>(1:Nat)))),show(p:Int)-1=((p-1:Nat):Int) by exact(Int.ofNat_sub ‹_›).symm];congr 2
theorem Qc(n:Nat)(s p:Nat)(x:Hp)(ρ:i8)(st:St)(k9:KG s p x ρ):(ev (n+4)).T (i7 "_siftdown_max") (rt (jL "_siftdown_max") 1) ρ st=some (decide (s<p),st):=by
 have hc:jF st .Gt (.int (p:Int)) (.int (s:Int))=some (decide (s<p)):=by
  refine(?_:some (decide ((s:Int)<(p:Int)))=_);congr 1;rw[decide_eq_decide];exact cE
 rcases k9 with rfl|⟨a,b,rfl⟩
 all_goals exact ju (h:=jI (by rfl) (hc))
theorem Qa(n:Nat)(s p:Nat)(x:Hp)(ρ:i8)(rest:St)(H:List Hp)(c:Bool)(k9:KG s p x ρ)(hp:1<=p)(hl:p<H.length)(hc:∀st,jF st .Lt (kj (gh H ((p-1) / 2))) (kj x)=some c):
  i0 ((ev (n+4)).S (i7 "_siftdown_max")) (jj "_siftdown_max" 1) ρ (.lst (H.map kj)::rest)=
   if c then some (.cont,Gw s ((p-1) / 2) x (.int (((p-1) / 2:Nat):Int)) (kj (gh H ((p-1) / 2))),.lst ((H.set p (gh H ((p-1) / 2))).map kj)::rest)
   else some (.brk,Gw s p x (.int (((p-1) / 2:Nat):Int)) (kj (gh H ((p-1) / 2))),.lst (H.map kj)::rest):=by
 have hs:=fun st=>MB st p hp;have hg:=pn rest H ((p-1) / 2) (aD (uu p) ‹_›);have oW:=nS rest H p (gh H ((p-1) / 2)) hl;generalize (p-1) / 2=q at*;generalize kj (gh H q)=g at*;cases c with
 |true=>
  rcases k9 with rfl|⟨a,b,rfl⟩
  ·exact iT (iS (h:=jb (by rfl) (by rfl) (hs _))) (iT (iS (h:=ja (h:=hg)))
    (ua (pV (ju (h:=jI (by rfl) (hc _))) (iT (pG (by rfl) (by rfl) (by rfl) (oW)) (iT (iS (h:=by rfl)) (by rfl)))) (by intro q;cases q)))
  ·exact iT (iS (h:=jb (by rfl) (by rfl) (hs _))) (iT (iS (h:=ja (h:=hg)))
    (ua (pV (ju (h:=jI (by rfl) (hc _))) (iT (pG (by rfl) (by rfl) (by rfl) (oW)) (iT (iS (h:=by rfl)) (by rfl)))) (by intro q;cases q)))
 |false=>
  rcases k9 with rfl|⟨a,b,rfl⟩
  ·exact iT (iS (h:=jb (by rfl) (by rfl) (hs _))) (iT (iS (h:=ja (h:=hg)))
    (iT (mQ (ju (h:=jI (by rfl) (hc _))) (by rfl)) (by rfl)))
  ·exact iT (iS (h:=jb (by rfl) (by rfl) (hs _))) (iT (iS (h:=ja (h:=hg)))
    (iT (mQ (ju (h:=jI (by rfl) (hc _))) (by rfl)) (by rfl)))
def SD (s:Nat) (H:List Hp) (p:Nat) (x:Hp):Prop:=Dn s p/\p<H.length/\∀i,1<=i->i<H.length->s<=(i-1) / 2->
 ((i-1) / 2≠p->i≠p->(gh H i).d<=(gh H ((i-1) / 2)).d)/\((i-1) / 2=p->(gh H i).d<=x.d/\(s<p->(gh H i).d<=(gh H ((p-1) / 2)).d))
theorem LX{s:Nat}{H:List Hp}{p:Nat}{x:Hp}(h:SD s H p x)(hx:s<p->x.d<=(gh H ((p-1) / 2)).d):sO s (H.set p x):=by
 refine w4 h fun h1 h2 h3=>fun i hi hl hs=> ?_
 replace hl:=cJ▸hl
 have h3:=h3 i hi hl hs;rw[oH H p x h2,oH H p x h2];refine bc (p:=i=p) (fun e1=> ?_) fun e1=> ?_
 ·subst e1;rw[a_ rfl,aS (cC (ny hi))];exact hx (aD hs (ny hi))
 ·refine iR (aS e1) <| bc (p:=(i-1) / 2=p) (fun e2=> ?_) fun e2=> ?_
  ·exact iR (a_ e2) <| (h3.2 e2).1
  ·exact iR (aS e2) <| h3.1 e2 e1
theorem RI{s:Nat}{H:List Hp}{p:Nat}{x:Hp}(h:SD s H p x)(Al:s<p)(hx:(gh H ((p-1) / 2)).d<=x.d):SD s (H.set p (gh H ((p-1) / 2))) ((p-1) / 2) x:=by
 refine w4 h fun h1 h2 h3=> ?_;have hq:(p-1) / 2<p:=by(exact ny Al)
 refine⟨?_,by(refine iR cJ ?_);(exact iF hq h2),fun i hi hl hs=> ?_⟩
 ·refine lP h1 fun h1 t9=> ?_;unfold Dn
  (exact t9.elim (fun e=>⟨e▸c9 _,.inl e⟩) fun q=>q.elim (fun e=>absurd e (cN Al)) fun e=>⟨aE e.symm,.inr (.inl e)⟩)
 ·replace hl:=cJ▸hl
  have Vv:=h3 i hi hl hs;rw[oH H p _ h2,oH H p _ h2,oH H p _ h2,aS (show ¬ ((p-1) / 2-1) / 2=p by(exact cC (aD (uu _) hq)))];have hup:s<(p-1) / 2->(gh H ((p-1) / 2)).d<=(gh H (((p-1) / 2-1) / 2)).d:=by
   intro sZ;exact lP h1 fun h1 t9=>(h3 ((p-1) / 2) (cZ sZ) (iF hq h2) (t9.elim (fun e=>e▸c9 _) fun q=>q.elim (fun e=>absurd e (cN Al)) fun e=>absurd e (cN sZ))).1 (cC (aD (uu _) hq)) (cC ‹_›)
  refine⟨fun e1 e2=> ?_,fun e=> ?_⟩
  ·refine bc (p:=i=p) (fun e3=> ?_) fun e3=> ?_
   ·clear h1 h2 h3 hq hi hl hs e2;clear h;subst e3;exact absurd rfl e1
   ·refine iR (aS e3) <| bc (p:=(i-1) / 2=p) (fun e4=> ?_) fun e4=> ?_
    ·exact iR (a_ e4) <| (Vv.2 e4).2 Al
    ·exact iR (aS e4) <| Vv.1 e4 e3
  ·refine bc (p:=i=p) (fun e3=> ?_) fun e3=> ?_
   ·exact iR (a_ e3) <| ⟨hx,hup⟩
   ·refine iR (aS e3) ?_;have h4:=Vv.1 (fun q=>cC hq (e.symm.trans q)) e3
    replace h4:=e▸h4
    exact⟨ao h4 hx,fun q=>ao h4 (hup q)⟩
theorem Qd(n:Nat)(s:Nat)(x:Hp)(rest:St):∀(k p:Nat)(H:List Hp)(ρ:i8),p<k->KG s p x ρ->SD s H p x->
  ∃(kC:i8)(H':List Hp)(p':Nat),mX ((ev (n+4)).T (i7 "_siftdown_max") (rt (jL "_siftdown_max") 1)) (i0 ((ev (n+4)).S (i7 "_siftdown_max")) (jj "_siftdown_max" 1)) k ρ (.lst (H.map kj)::rest)=some (.next,kC,.lst (H'.map kj)::rest)/\
   KG s p' x kC/\p'<H'.length/\(H'.set p' x).Perm (H.set p x)/\sO s (H'.set p' x):=by
 intro L0
 induction L0 with
 |zero=>
  intro p H ρ h _ _
  (exact absurd h (gM _))
 |succ k ih=>
  intro p H ρ hk k9 hS;have ht:=Qc n s p x ρ (.lst (H.map kj)::rest) k9;refine bc (p:=s<p) (fun Al=> ?_) fun Al=> ?_
  ·refine uO (ltH (gh H ((p-1) / 2)) x) fun c hc An OB=> ?_;have hb:=Qa n s p x ρ rest H c k9 (cZ Al) hS.2.1 hc
   replace ht:=(aH Al)▸ht
   cases c with
   |true=>
    replace hb:=(a_ rfl)▸hb
    obtain⟨kC,H',p',h1,h2,h3,h4,h5⟩:=ih ((p-1) / 2) (H.set p (gh H ((p-1) / 2))) _ (aW (ny Al) (aM hk)) (.inr (DO _ _ rfl)) (RI hS Al (An rfl));have:=hS.2.1;exact⟨kC,H',p',B_ ht hb (.inr rfl) h1,h2,h3,h4.trans (zI H p ((p-1) / 2) x hS.2.1 (iF (ny Al) this) (cN (ny Al))),h5⟩
   |false=>
    exact⟨_,H,p,Uj ht hb,.inr (DO _ _ rfl),hS.2.1,.refl _,LX hS fun ζ=>OB rfl⟩
  ·replace ht:=(cD Al)▸ht
   exact Ak ρ H p (xx ht) k9 hS.2.1 (.refl _) (LX hS fun q=>absurd q Al)
theorem MA(n:Nat)(s p:Nat)(H:List Hp)(rest:St)(hr:rest.all (jK (rest.length+1))=true)(hp:p<40)(hS:SD s H p (gh H p)):
  ∃H':List Hp,(ev (n+6)).C "_siftdown_max" [.lst 0,.int (s:Int),.int (p:Int)] [] (.lst (H.map kj)::rest)=some (.none,.lst (H'.map kj)::rest)/\H'.Perm H/\sO s H':=by
 refine wF (Qd n s (gh H p) rest 40 p H (O0 s p (gh H p)) hp (.inl rfl) hS) fun kC H' p' h1 h2 h3 h4 h5=> ?_;have hg:=pn rest H p hS.2.1;have oW:=nS rest H' p' (gh H p) h3;have Cd:H.set p (gh H p)=H:=by(refine iR (xD H p hS.2.1) ?_);exact List.set_getElem_self hS.2.1
 replace h4:=Cd▸h4
 have hf:=Kz rest (H'.set p' (gh H p)) .none .none hr fun ζ=>rfl;refine(sY (H'.set p' (gh H p)) ?_ h4 h5);unfold O0 at h1;unfold KG O0 Gw at h2;generalize kj (gh H p)=g at*;clear hr hp hS h3 h4 h5 Cd;rcases h2 with rfl|⟨a,b,rfl⟩
 all_goals exact kN (k:=iT (iS (h:=ja (h:=hg))) (iT (sf (h1)) (iT (pG (by rfl) (by rfl) (by rfl) (oW)) jq))) (h:=hf)
noncomputable def HP (e s p c:Int) (x:Hp):i8:=[("heap",.lst 0),("pos",.int p),("endpos",.int e),("startpos",.int s),("newitem",kj x),("childpos",.int c)]
noncomputable def vH (e s p c:Int) (x:Hp) (a:PV):i8:=[("heap",.lst 0),("pos",.int p),("endpos",.int e),("startpos",.int s),("newitem",kj x),("childpos",.int c),("rightpos",a)]
def Ay (e s p c:Int) (x:Hp) (ρ:i8):Prop:=ρ=HP e s p c x\/∃a,ρ=vH e s p c x a
theorem vm(st:St)(p:Int)(h:p.natAbs<1000):kZ st .Mult (.int 2) (.int p)=some (.int (2*p)):=by
 refine ow (nG ?_ rfl);simp only[aG,bq];exact⟨by decide,by exact rE h⟩
theorem PC(n:Nat)(e s p c:Int)(x:Hp)(ρ:i8)(st:St)(k9:Ay e s p c x ρ):(ev (n+7)).T (i7 "_siftup_max") (rt (jL "_siftup_max") 4) ρ st=some (decide (c<e),st):=by
 rcases k9 with rfl|⟨a,rfl⟩
 all_goals exact ju (h:=jI (by rfl) (by rfl))
theorem Cp(n:Nat)(e s p c:Int)(x:Hp)(ρ:i8)(st ji:St)(v w:PV)(k9:Ay e s p c x ρ)(hc:c.natAbs<900)
  (h1:jF st .Lt (.int (c+1)) (.int e)=some false\/(jF st .Lt (.int (c+1)) (.int e)=some true/\jk st (.lst 0) (.int (c+1))=some w/\jF st .Lt w v=some true))
  (hg:jk st (.lst 0) (.int c)=some v) (hs:pL st (.lst 0) (.int p) v=some ji):
  i0 ((ev (n+7)).S (i7 "_siftup_max")) (jj "_siftup_max" 4) ρ st=some (.next,vH e s c (2*c+1) x (.int (c+1)),ji):=by
 have hm:=fun st=>vm st c (rE hc);unfold Ay HP at k9;unfold vH at k9|-;generalize kj x=g at*;rcases h1 with h1|⟨h1,h2,h3⟩
 ·rcases k9 with rfl|⟨a,rfl⟩
  all_goals exact iT (iS (h:=by rfl)) (iT (mQ (rO (ju (h:=jI (by rfl) (h1)))) (by rfl)) (iT (pG (ja (h:=hg)) (by rfl) (by rfl) (hs)) (iT (iS (h:=by rfl)) (iT (iS (h:=jb (jb (by rfl) (by rfl) (hm _)) (by rfl) (by rfl))) jq))))
 ·rcases k9 with rfl|⟨a,rfl⟩
  all_goals exact iT (iS (h:=by rfl)) (iT (mQ (nu (ju (h:=jI (by rfl) (by exact h1))) (rO (xw (ju (c:=ja (h:=by exact h2)) (h:=jI (ja (h:=by exact hg)) (by exact h3)))))) (by rfl)) (iT (pG (ja (h:=hg)) (by rfl) (by rfl) (hs)) (iT (iS (h:=by rfl)) (iT (iS (h:=jb (jb (by rfl) (by rfl) (hm _)) (by rfl) (by rfl))) jq))))
theorem Mm(n:Nat)(e s p c:Int)(x:Hp)(ρ:i8)(st ji:St)(v w:PV)(k9:Ay e s p c x ρ)(hc:c.natAbs<900)
  (h1:jF st .Lt (.int (c+1)) (.int e)=some true) (h2:jk st (.lst 0) (.int (c+1))=some w) (h3:jF st .Lt w v=some false)
  (hg:jk st (.lst 0) (.int c)=some v) (hs:pL st (.lst 0) (.int p) w=some ji):
  i0 ((ev (n+7)).S (i7 "_siftup_max")) (jj "_siftup_max" 4) ρ st=some (.next,vH e s (c+1) (2*(c+1)+1) x (.int (c+1)),ji):=by
 have hm:=fun st=>vm st (c+1) (aD (Int.natAbs_add_le ..) (rE (Nat.add_lt_add_right hc 1)));unfold Ay HP at k9;unfold vH at k9|-;generalize kj x=g at*;rcases k9 with rfl|⟨a,rfl⟩
 all_goals exact iT (iS (h:=by rfl)) (iT (pV (nu (ju (h:=jI (by rfl) (by exact h1))) (nu (TZ (ju (c:=ja (h:=by exact h2)) (h:=jI (ja (h:=by exact hg)) (by exact h3)))) (by rfl))) (iT (iS (h:=by rfl)) jq)) (iT (pG (ja (h:=h2)) (by rfl) (by rfl) (hs)) (iT (iS (h:=by rfl)) (iT (iS (h:=jb (jb (by rfl) (by rfl) (hm _)) (by rfl) (by rfl))) jq))))
def SU (s:Nat) (H:List Hp) (p:Nat):Prop:=Dn s p/\p<H.length/\H.length<=7/\∀i,1<=i->i<H.length->s<=(i-1) / 2->
 ((i-1) / 2≠p->i≠p->(gh H i).d<=(gh H ((i-1) / 2)).d)/\((i-1) / 2=p->s<p->(gh H i).d<=(gh H ((p-1) / 2)).d)
theorem RH{s:Nat}{H:List Hp}{p c:Nat}(h:SU s H p)(hc:c=2*p+1\/c=2*p+2)(wI:c<H.length)(ho:∀i,1<=i->i<H.length->(i-1) / 2=p->(gh H i).d<=(gh H c).d):SU s (H.set p (gh H c)) c:=by
 refine o04 h fun z1 h2 h7 h3=> ?_;clear h;obtain⟨h1,t9⟩:=z1;refine(Zh ?_ (iR cJ wI) (iR cJ h7) (fun i hi hl hs=> ?_))
 ·unfold Dn;exact⟨ao h1 (bC (Ef hc)),t9.elim .inl fun q=>q.elim (fun e=>.inr (.inr ((AK hc).trans e))) fun e=>.inl (e.symm.trans (UP hc (aW wI h7)))⟩
 ·replace hl:=cJ▸hl
  have Vv:=h3 i hi hl hs;refine iR (oH H p _ h2 ..) <| iR (oH H p _ h2 ..) <| iR (oH H p _ h2 ..) <| ⟨fun e1 e2=> ?_,fun e q=> ?_⟩
  ·refine bc (p:=i=p) (fun e3=> ?_) fun e3=> ?_
   ·cases e3;exact iR (a_ rfl) <| iR (aS (cC (ny hi))) <| (h3 c (cZ (Ef hc)) wI (AK hc▸ao hs (uu _))).2 (AK hc) (aD hs (ny hi))
   ·refine iR (aS e3) <| bc (p:=(i-1) / 2=p) (fun e4=> ?_) fun e4=> ?_
    ·exact iR (a_ e4) <| ho i hi hl e4
    ·exact iR (aS e4) <| Vv.1 e4 e3
  ·refine iR (aS (cN (iF (Ef hc) (e▸ny hi)))) <| iR (a_ (AK hc)) ?_
   have:=Vv.1 (fun q=>cN (Ef hc) (e.symm.trans q)) (cN (iF (Ef hc) (e▸ny hi)))
   replace this:=e▸this
   exact this
theorem PD(n:Nat)(s:Nat)(x:Hp)(rest:St):∀(k p:Nat)(H:List Hp)(ρ:i8),H.length<p+k->Ay (H.length:Int) (s:Int) (p:Int) (2*(p:Int)+1) x ρ->SU s H p->
  ∃(kC:i8)(H':List Hp)(p':Nat)(c':Int),mX ((ev (n+7)).T (i7 "_siftup_max") (rt (jL "_siftup_max") 4)) (i0 ((ev (n+7)).S (i7 "_siftup_max")) (jj "_siftup_max" 4)) k ρ (.lst (H.map kj)::rest)=some (.next,kC,.lst (H'.map kj)::rest)/\
   Ay (H.length:Int) (s:Int) (p':Int) c' x kC/\(H'.set p' x).Perm (H.set p x)/\SU s H' p'/\H'.length<=2*p'+1:=by
 intro L0
 induction L0 with
 |zero=>
  intro p H ρ h _ hS;have:=hS.2.1;exact absurd h (gB.mpr (bC this))
 |succ k ih=>
  intro p H ρ hk k9 hS;have ht:=PC n _ _ _ _ x ρ (.lst (H.map kj)::rest) k9;have w5:=hS.2.1;have h7:=hS.2.2.1;refine bc (p:=2*p+1<H.length) (fun wI=> ?_) fun wI=> ?_
  ·replace ht:=(aH (show 2*(p:Int)+1<(H.length:Int) by exact cE.mpr ‹_›))▸ht
   have hg:=pn rest H (2*p+1) wI;have e1:((2*p+1:Nat):Int)=2*(p:Int)+1:=by rfl
   have e2:((2*p+2:Nat):Int)=2*(p:Int)+1+1:=by rfl
   have go:∀c:Nat,(c=2*p+1\/c=2*p+2)->c<H.length->(∀i,1<=i->i<H.length->(i-1) / 2=p->(gh H i).d<=(gh H c).d)->
     i0 ((ev (n+7)).S (i7 "_siftup_max")) (jj "_siftup_max" 4) ρ (.lst (H.map kj)::rest)=some (.next,vH (H.length:Int) (s:Int) (c:Int) (2*(c:Int)+1) x (.int (2*(p:Int)+1+1)),.lst ((H.set p (gh H c)).map kj)::rest)->
     ∃(kC:i8)(H':List Hp)(p':Nat)(c':Int),mX ((ev (n+7)).T (i7 "_siftup_max") (rt (jL "_siftup_max") 4)) (i0 ((ev (n+7)).S (i7 "_siftup_max")) (jj "_siftup_max" 4)) (k+1) ρ (.lst (H.map kj)::rest)=some (.next,kC,.lst (H'.map kj)::rest)/\
   Ay (H.length:Int) (s:Int) (p':Int) c' x kC/\(H'.set p' x).Perm (H.set p x)/\SU s H' p'/\H'.length<=2*p'+1:=by
    intro c hc hlc ho hb;have jd:(H.set p (gh H c)).length=H.length:=cJ ..;refine o45 (ih c (H.set p (gh H c)) (vH (H.length:Int) (s:Int) (c:Int) (2*(c:Int)+1) x (.int (2*(p:Int)+1+1))) (iR jd <| XU hk (Ef hc)) (iR jd <| .inr ⟨_,rfl⟩) (RH hS hc hlc ho)) fun kC H' p' c' q1 q2 q3 q4 q5=> ?_;clear hk h7
    replace q2:=jd▸q2
    exact i45 kC H' p' c' (B_ ht hb (.inl rfl) q1) q2 (q3.trans (zI H p c x w5 hlc (cC (Ef hc)))) q4 q5
   refine bc (p:=2*p+2<H.length) (fun OA=> ?_) fun OA=> ?_
   ·have hg2:=pn rest H (2*p+2) OA;have An:∀st,jF st .Lt (.int (2*(p:Int)+1+1)) (.int (H.length:Int))=some true:=fun st=>by
     (show some (decide _)=_)
     exact iR (aH (cE.mpr ‹_›)) rfl
    refine uO (ltH (gh H (2*p+2)) (gh H (2*p+1))) fun c hc S7 hcf=> ?_;have Kw:∀i,1<=i->(i-1) / 2=p->i=2*p+1\/i=2*p+2:=fun i h1 h2=>by(exact xO h1 h2)
    cases c with
    |true=>
     have hb:=Cp n _ _ _ _ x ρ _ _ _ _ k9 (rE (aW wI h7)) (.inr (tZ (An _) hg2 (hc _))) hg (nS rest H p _ w5);refine go (2*p+1) (.inl rfl) wI (fun i h1 ζ h2=> ?_) (hb)
     (refine cg (Kw i h1 h2) (fun z1=> ?_) fun z1=> ?_<;>refine iR z1 ?_)
     ·exact aK _
     ·exact S7 rfl
    |false=>
     have hb:=Mm n _ _ _ _ x ρ _ _ _ _ k9 (rE (aW wI h7)) (An _) hg2 (hc _) hg (nS rest H p _ w5);refine go (2*p+2) (.inr rfl) OA (fun i h1 ζ h2=> ?_) (hb)
     (refine cg (Kw i h1 h2) (fun z1=> ?_) fun z1=> ?_<;>refine iR z1 ?_)
     ·exact hcf rfl
     ·exact aK _
   ·have An:∀st,jF st .Lt (.int (2*(p:Int)+1+1)) (.int (H.length:Int))=some false:=fun st=>by
     (show some (decide _)=_)
     exact iR (cD (fun q=>OA (cE.mp q))) rfl
    have hb:=Cp n _ _ _ _ x ρ _ _ _ (.int 0) k9 (rE (aW wI h7)) (.inl (An _)) hg (nS rest H p _ w5);refine go (2*p+1) (.inl rfl) wI (fun i h1 h2 h3=> ?_) (hb);have:i=2*p+1:=by(exact(xO h1 h3).resolve_right fun e=>OA (e▸h2))
    clear hk w5 h7 wI hg e1 e2 go OA An hb h1 h2 h3;exact jC this <| aK _
  ·rw[cD (show ¬ 2*(p:Int)+1<(H.length:Int) by(exact fun q=>wI (cE.mp q)))]at ht;exact i45 ρ H p _ (xx ht) k9 (.refl _) hS (bw ‹_›)
theorem CD(H:List Hp)(rest:St):lz (.lst (H.map kj)::rest) "len" [.lst 0]=some (.int (H.length:Int)):=by
 refine(iR (aJ ..) ?_:some (PV.int ((H.map kj).length:Int))=_);rfl
theorem AE(n:Nat)(s:Nat)(H:List Hp)(rest:St)(hr:rest.all (jK (rest.length+1))=true)(hs:s<H.length)(h7:H.length<=7)(hH:sO (s+1) H):
  ∃H':List Hp,(ev (n+9)).C "_siftup_max" [.lst 0,.int (s:Int)] [] (.lst (H.map kj)::rest)=some (.none,.lst (H'.map kj)::rest)/\H'.Perm H/\sO s H':=by
 have hS:SU s H s:=by
  refine⟨⟨aK _,.inr (.inl rfl)⟩,hs,h7,fun i h1 h2 h3=>⟨fun e1 e2=>hH i h1 h2 (gI h3 (Ne.symm e1)),fun ζ q=>by exact absurd ‹_› (dP _)⟩⟩
 refine o45 (PD n s (gh H s) rest 40 s H (HP (H.length:Int) (s:Int) (s:Int) (2*(s:Int)+1) (gh H s)) (aD h7 (aW (by decide:7<40) (fY ..))) (.inl rfl) hS) fun kC H1 p c' q1 q2 q3 q4 q5=> ?_;have Cd:H.set s (gh H s)=H:=by(refine iR (xD H s hs) ?_);exact List.set_getElem_self hs
 replace q3:=Cd▸q3
 have w5:=q4.2.1;have OS:H1.length=H.length:=by have:=q3.length_eq;replace this:=cJ▸this;exact this
 refine uO (MA n s p (H1.set p (gh H s)) rest hr (aW (OS▸w5) (lit h7)) (by
  refine⟨q4.1,by(refine iR cJ ?_);exact w5,fun i h1 h2 h3=> ?_⟩
  replace h2:=cJ▸h2
  refine iR (oH H1 p _ w5 ..) <| iR (oH H1 p _ w5 ..) <| ⟨fun e1 e2=> ?_,fun e=>by(exact absurd h2 (gB.mpr (ao q5 (QV h1 e))))⟩
  exact iR (aS e2) <| iR (aS e1) <| (q4.2.2.2 i h1 h2 h3).1 e1 e2)) fun H' r1 r2 r3=> ?_
 have hg:=pn rest H s hs;have oW:=nS rest H1 p (gh H s) w5;have hm:=fun st=>vm st (s:Int) (rE (aW hs h7));have jd:=CD H rest;have hf:=Kz rest H' .none .none hr fun ζ=>rfl;refine(sY H' ?_ (r2.trans q3) r3);unfold HP at q1;unfold Ay HP vH at q2;generalize (H.length:Int)=el at*;generalize kj (gh H s)=g at*;clear hr hs h7 hH hS q4 q5 Cd q3 w5 OS r2 r3;rcases q2 with rfl|⟨a,rfl⟩
 ·exact kN (k:=iT (iS (h:=jV (h:=jd))) (iT (iS (h:=by rfl)) (iT (iS (h:=ja (h:=hg))) (iT (iS (h:=jb (jb (by rfl) (by rfl) (hm _)) (by rfl) (by rfl)))
   (iT (sf (q1)) (iT (pG (by rfl) (by rfl) (by rfl) (oW)) (iT (kT (by rfl) (jg (h:=r1))) jq))))))) (h:=hf)
 ·exact kN (k:=iT (iS (h:=jV (h:=jd))) (iT (iS (h:=by rfl)) (iT (iS (h:=ja (h:=hg))) (iT (iS (h:=jb (jb (by rfl) (by rfl) (hm _)) (by rfl) (by rfl)))
   (iT (sf (q1)) (iT (pG (by rfl) (by rfl) (by rfl) (oW)) (iT (kT (by rfl) (jg (h:=r1))) jq))))))) (h:=hf)
theorem Up{n:Nat}{sc:Scope}{ρ:i8}{st st1:St}{p q p1:Pos}{target a:Expr}{body:List Stmt}{i j:Int}{R:jf×i8×St}(l:List PV)(h0:jW "reversed" ρ=none)(h1:i9 sc "reversed"=some .globalImplicit)(hs:lI a=false)(h:(ev n).E sc a ρ st=some (.rng i j,st1))(hl:(sI i j).reverse=l)
  (k:qy (i0 ((ev n).S sc) body) sc target (fun ζ=>true) l ρ st1=some R):
  (ev (n+1)).S sc (.For target (.Call (.Name "reversed" q) [a] [] p) body [] p1) ρ st=some R:=by
 have hw:qg sc ρ (.Call (.Name "reversed" q) [a] [] p)=some (true,a):=by
  refine(iR (ug h0 h1) ?_:gd (ql sc ρ "reversed") (some (true,a))=_);rfl
 exact CP hw (nG (iR hs rfl) (iX h (iX (a:=(i,j)) rfl (iR hl k))):HN (ev n) sc target a body ρ st=some R)
theorem QS(n:Nat)(H:List Hp)(rest:St)(hr:rest.all (jK (rest.length+1))=true)(h7:H.length=7):
  ∃H':List Hp,(ev (n+13)).C "_heapify_max" [.lst 0] [] (.lst (H.map kj)::rest)=some (.none,.lst (H'.map kj)::rest)/\H'.Perm H/\sO 0 H':=by
 obtain⟨H1,a1,a2,a3⟩:=AE n 2 H rest hr (h7.symm▸(by decide)) (aE ‹_›) (fun i h1 h2 h3=>by exact absurd (ao h3 (Nat.div_le_div_right (Nat.sub_le_sub_right (aM (h7▸h2)) 1))) (by decide));have l1:=a2.length_eq;obtain⟨H2,b1,b2,b3⟩:=AE n 1 H1 rest hr (b9 (by decide) (l1.trans h7).symm) (aE (l1.trans h7)) a3;have l2:=b2.length_eq;obtain⟨H3,c1,c2,c3⟩:=AE n 0 H2 rest hr (b9 (by decide) ((l2.trans l1).trans h7).symm) (aE ((l2.trans l1).trans h7)) b3;have jd:=CD H rest
 replace jd:=h7▸jd
 refine(sY H3 ?_ (c2.trans (b2.trans a2)) c3);exact kN (k:=iT (iS (h:=jV (h:=jd))) (iT (Up [.int 2,.int 1,.int 0] (by rfl) (by rfl) (by rfl) (by rfl) (by rfl)
  (oM (by rfl) (iT (kT (by rfl) (jg (h:=a1))) jq) (.inl rfl) (by rfl)
  (oM (by rfl) (iT (kT (by rfl) (jg (h:=b1))) jq) (.inl rfl) (by rfl)
  (oM (by rfl) (iT (kT (by rfl) (jg (h:=c1))) jq) (.inl rfl) (by rfl) AF)))) jq)) (h:=Kz rest H3 .none .none hr fun ζ=>rfl)
theorem QO(n:Nat)(H:List Hp)(rest:St)(hr:rest.all (jK (rest.length+1))=true)(h7:H.length<=7)(h0:H≠[])(hH:sO 0 H):
  ∃(m:Hp)(H':List Hp),(ev (n+13)).C "_heappop_max" [.lst 0] [] (.lst (H.map kj)::rest)=some (kj m,.lst (H'.map kj)::rest)/\(m::H').Perm H/\sO 0 H'/\(∀e∈H',e.d<=m.d):=by
 refine J_ (show∃u l,H=u++[l]from⟨H.dropLast,H.getLast h0,(eg h0).symm⟩) fun u l z3=> ?_;subst z3;have hp:methP (.lst ((u++[l]).map kj)::rest) (.lst 0) "pop" []=some (kj l,.lst (u.map kj)::rest):=by
  have e:(u++[l]).map kj=u.map kj++[kj l]:=by simp
  refine iR e <| (?_:(u.map kj++[kj l]).getLast?.map (fun v=>(v,(.lst (u.map kj++[kj l]).dropLast::rest:St)))=_)
  refine iR (List.getLast?_concat) ?_;exact iR f_ rfl
 have fz:∀e k st,jh st k 6 (kj e)=some (kj e):=fun e k st=>rfl;have OP:lK (.lst (u.map kj)::rest) (.lst 0)=some (!u.isEmpty):=by
  refine(iR List.isEmpty_map ?_:some (!(u.map kj).isEmpty)=_);exact rfl
 refine bc (p:=u=[]) (fun hu=> ?_) fun hu=> ?_
 ·clear h0;subst hu;have hf:=Kz rest [] (kj l) (kj l) hr (fz l _);refine⟨l,[],?_,.refl _,fun i ζ h=>by trivial,fun e he=>by(exact nomatch he)⟩;generalize kj l=gl at*;exact kN (k:=iT (iS (h:=jo (h:=hp))) (iT (mQ (nK (by rfl) (by rfl) (OP)) (by rfl)) (lA (by rfl)))) (h:=hf)
 ·have S0:0<u.length:=List.length_pos_iff.mpr hu
  replace h7:=cS▸(au▸h7)
  have m_:(!u.isEmpty)=true:=by cases u with
   |nil=>exact absurd rfl hu
   |cons=>rfl
  replace OP:=m_▸OP
  have hg:=pn rest u 0 S0;have oW:=nS rest u 0 l S0;have hl:(u.set 0 l).length=u.length:=cJ ..;obtain⟨H',q1,q2,q3⟩:=AE n 0 (u.set 0 l) rest hr (b9 ‹_› (fy ‹_›)) (ao (aE hl) (Nat.le_of_succ_le h7)) (by
   intro i h1 h2 h3
   replace h2:=hl▸h2
   rw[oH u 0 l S0,oH u 0 l S0,aS (cN ‹_›),aS (cN ‹_›)];have:=hH i h1 (iR au <| iR cS <| dY ‹_›) (c9 _);have e:∀j,j<u.length->gh (u++[l]) j=gh u j:=fun j hj=>by
    unfold gh;refine iR (bB) ?_;refine iR (bB) ?_;refine iR (bf hj) ?_;exact rfl
   rw[e i h2,e _ (aD (ao (Nat.div_le_self ..) (b6 ..)) h2)]at this;exact this)
  have lD:(gh u 0::H').Perm (u++[l]):=by
   cases u with
   |nil=>exact absurd rfl hu
   |cons a u=>
    have:H'.Perm (l::u):=q2;refine((List.Perm.cons _ this)).trans <| (?_:(a::l::u).Perm (a::(u++[l])))
    exact List.Perm.cons _ (List.perm_append_singleton l u).symm
  have B3:∀e∈H',e.d<=(gh u 0).d:=by
   intro e he;have:e∈u++[l]:=lD.subset (aq _ he);clear h7 h0 hu m_ hl q2 he;obtain⟨i,hi,rfl⟩:=List.getElem_of_mem this;have h1:=z_ (u++[l]) hH i i (aK _) hi;have e0:gh (u++[l]) 0=gh u 0:=by
    unfold gh;refine iR (bB) ?_;refine iR (bB) ?_;refine iR (bf S0) ?_;exact rfl
   replace h1:=e0▸((xD _ i hi)▸h1)
   exact h1
  have hf:=Kz rest H' (kj (gh u 0)) (kj (gh u 0)) hr (fz _ _);refine(v9 (gh u 0) H' ?_ lD q3 B3);generalize kj l=gl at*;generalize kj (gh u 0)=g0 at*;exact kN (k:=iT (iS (h:=jo (h:=hp))) (ua (pV (nK (by rfl) (by rfl) (OP))
   (iT (iS (h:=ja (h:=hg))) (iT (pG (by rfl) (by rfl) (by rfl) (oW)) (iT (kT (by rfl) (jg (h:=q1))) (lA (by rfl)))))) (by intro q;(exact nomatch q)))) (h:=hf)
structure jc where
 w:Nat->ah
 r:Nat->Nat
 h:Nat->Nat
 b:Nat->Nat
structure jc.ok(I:jc):Prop where
 way:∀k,k<7->wK (I.w k)
 inj:∀i k,i<7->k<7->I.w i=I.w k->i=k
 r:∀k,k<7->I.r k<3
 h:∀k,k<7->I.h k<6
noncomputable def jc.s (I:jc) (k:Nat):ah:=wc (I.h k)++kc (I.w k)
noncomputable def jc.t (I:jc) (k:Nat):ah:=up (I.w k) (I.r k)
noncomputable def jc.rw (I:jc) (c:Nat->Nat) (k:Nat):Rw:=⟨c k,I.r k,I.s k,I.b k⟩
noncomputable def jc.hp (I:jc) (k:Nat):Hp:=⟨(I.t k).length,I.s k,P (I.t k),I.r k⟩
noncomputable def jc.D (I:jc) (o:ah):List (ah×PV):=o.map fun k=>(I.s k,PV.str (P (I.w k)))
theorem Lm(v w:ah)(hv:wK v)(hw:wK w)(h:P v=P w):v=w:=by
 have e:v.map nm=w.map nm:=by(refine jC (uY v hv) ?_;refine jC (uY w hw) ?_;refine iR h ?_;exact rfl)
 have Yq:=hv.2;have SY:=hw.2;clear h hv hw
 induction v generalizing w with
 |nil=>cases w with
  |nil=>rfl
  |cons=>cases e
 |cons a v ih=>
  cases w with
  |nil=>cases e
  |cons b w=>
   rw[aU,aU,fZ]at e;rw[LF a b (Yq a (by simp)) (SY b (by simp)) e.1,ih w e.2 (fun c hc=>Yq c (aq _ hc)) fun c hc=>SY c (aq _ hc)]
theorem jc.s_inj{I:jc}(ok:I.ok)(i k:Nat)(hi:i<7)(hk:k<7)(h:I.s i=I.s k):i=k:=by
 refine jm (Em 0 (I.w i) (ok.way i hi) (I.h i) (ok.h i hi)) fun J h1 h2=>jm (Em 0 (I.w k) (ok.way k hk) (I.h k) (ok.h k hk)) fun K h3 h4=> ?_;have e1:some (PV.str J,([]:St))=some (.str K,[]):=by
  refine jC h1 <| jC h3 <| (?_:_=(ev (0+11)).C "join" [.str [47],.str (I.s k)] [] [])
  exact jC h rfl
 have e2:J=K:=by
  have:=(Prod.mk.inj (aj e1)).1;exact PV.str.inj this
 clear h h1 h3 e1;subst e2;have e4:P (I.w i)=P (I.w k):=PV.str.inj (Prod.mk.inj (aj ((h2 0).symm.trans (h4 0)))).1;exact ok.inj i k hi hk (Lm _ _ (ok.way i hi) (ok.way k hk) e4)
theorem xY:∀w:ah,(∀c∈w,1<=c/\c<=6)->clean (kc w)
 |[],_=>⟨by trivial,by rfl⟩
 |[c],h=>by
  have hc:=k8 c (h c (by simp));exact⟨hc.2.2.2.2.2.2.1,hc.2.2.2.2.2.2.2⟩
 |c::d::w,h=>by
  have hc:=k8 c (h c (by simp));have ih:=xY (d::w) fun x hx=>h x (aq _ hx);refine iR (by(simp[kc,jO]):kc (c::d::w)=nm c++(47::kc (d::w))) <| ⟨fun q=> ?_,?_⟩
  ·refine cg (bg.mp q) (fun q=> ?_) fun q=> ?_
   ·exact hc.2.2.2.2.2.2.1 q
   ·refine cg (aV.mp q) (fun q=> ?_) fun q=> ?_
    ·exact nomatch q
    ·exact ih.1 q
  ·refine iR List.all_append <| iR hc.2.2.2.2.2.2.2 <| iR gi <| iR ih.2 ?_
   decide+kernel
theorem JY(j:Nat)(h:j<6):clean (wc j):=by
 have e:j=0\/j=1\/j=2\/j=3\/j=4\/j=5:=by exact lt6 j h
 (clear h;rcases e with rfl|rfl|rfl|rfl|rfl|rfl)<;>exact⟨by decide,by decide+kernel⟩
theorem jc.s_clean{I:jc}(ok:I.ok)(k:Nat)(hk:k<7):clean (I.s k):=by
 have h1:=JY (I.h k) (ok.h k hk);have h2:=xY (I.w k) (ok.way k hk).2;refine⟨fun q=> ?_,?_⟩
 ·refine cg (bg.mp q) (fun q=> ?_) fun q=> ?_
  ·exact h1.1 q
  ·exact h2.1 q
 ·refine(iR List.all_append ?_:(wc (I.h k)++kc (I.w k)).all _=true);exact iR h1.2 <| iR h2.2 rfl
theorem jc.rw_ok{I:jc}(ok:I.ok)(c:Nat->Nat)(hc:∀k,c k<55296)(k:Nat)(hk:k<7):(I.rw c k).ok:=⟨hc k,ok.r k hk,I.s_clean ok k hk⟩
theorem zQ:∀(L:List Rw)(p j:Nat)(v:PV),(jE p L)[j]? =some v->∃x,L[j]? =some x/\v=B8 (p+(textOf (L.take j)).length) x:=by
 intro L0
 induction L0 with
 |nil=>
  intro _ _ _ h;trivial
 |cons x L ih=>
  intro p L1;cases L1 with
  |zero=>
   intro v h;exact⟨x,rfl,by simp[jE]at h;exact h.symm⟩
  |succ j=>
   intro v h;obtain⟨y,h1,h2⟩:=ih (p+(wg x).length) j v (h);refine⟨y,by exact h1,?_⟩;rw[h2,fu,p7,au,fE]
theorem Ez(k:Nat)(I:jc):∀o:ah,jK k (.dct (I.D o))=true:=by
 intro o;refine(?_:i_ k ((I.D o).map (·.2))=true)
 induction o with
 |nil=>rfl
 |cons a o ih=>
  refine(iR ih ?_:(true&&i_ k ((I.D o).map (·.2)))=true);rfl
theorem jc.lookup{I:jc}(ok:I.ok):∀(o:ah),(∀i∈o,i<7)->∀k,k∈o->k<7->sr (I.s k) (I.D o)=some (.str (P (I.w k))):=by
 intro L0
 induction L0 with
 |nil=>
  intro _ _ h _;exact nomatch h
 |cons a o ih=>
  intro ho k h hk;have ha:=ho a (by simp);dsimp only[sr,jc.D];refine iR aU <| iR (List.find?_cons) ?_
  refine bc (p:=I.s a=I.s k) (fun e=> ?_) fun e=> ?_
  ·have:=I.s_inj ok a k ha hk e;clear ha;subst this;simp
  ·have m_:a≠k:=fun q=>e (iR q rfl);have hb:(I.s a==I.s k)=false:=aL.mpr e;rw[hb];exact ih (fun i hi=>ho i (aq _ hi)) k ((aV.mp h).resolve_left fun q=>m_ q.symm) hk
theorem jc.put{I:jc}(ok:I.ok)(o:ah)(ho:∀i∈o,i<7)(k:Nat)(hk:k<7)(hn:k∉o):D7 (I.s k) (.str (P (I.w k))) (I.D o)=I.D (o++[k]):=by
 unfold D7;rw[aS]
 ·unfold jc.D;exact iR bR rfl
 ·intro h;refine jm (List.any_eq_true.mp h) fun x hx e=>kU hx fun i hi z1=> ?_;clear h hx;subst z1;exact hn (I.s_inj ok i k (ho i hi) hk (by(simpa using e):I.s i=I.s k)▸hi)
noncomputable def Ti (T:ah):i8:=[("listing",.str T),("text",.str T),("heap",.lst 0),("places",.dct 1)]
noncomputable def KU (T:ah) (a b c d e:PV):i8:=[("listing",.str T),("text",.str T),("heap",.lst 0),("places",.dct 1),("start",a),("need",b),("reach",c),("string",d),("top",e)]
noncomputable def Xe (T:ah) (a b c d:PV) (tl:i8):i8:=("listing",.str T)::("text",.str T)::("heap",.lst 0)::("places",.dct 1)::("start",a)::("need",b)::("reach",c)::("string",d)::tl
theorem zH{I:jc}(ok:I.ok)(n:Nat)(T:ah)(o:ah)(ho:∀i∈o,i<7)(RM:o.length<=7)(k:Nat)(hk:k<7)(hn:k∉o)(a b:PV)(tl:i8)(BS:tl=[]\/∃e,tl=([("top",e)]:i8)):
  i0 ((ev (n+22)).S (i7 "_law_sent")) (jj "_law_sent" 3) (Xe T a b (.int (I.r k:Int)) (.str (I.s k)) tl) [.lst ((o.map I.hp).map kj),.dct (I.D o)]=
   some (.next,KU T a b (.int (I.r k:Int)) (.str (I.s k)) (.str (P (I.t k))),[.lst (((o++[k]).map I.hp).map kj),.dct (I.D (o++[k]))]):=by
 refine jm (Em (n+8) (I.w k) (ok.way k hk) (I.h k) (ok.h k hk)) fun J hj Vq=> ?_;have Vq:=Vq (n+8);have B3:=Z5 (n+7) (I.w k) (ok.way k hk) (I.r k) (by have:=ok.r k hk;(exact bC (rE ‹_›)));have SY:wK (I.t k):=(ok.way k hk).up _;have Pa:=AM (n+13) (I.t k) SY.2;have hj:(ev (n+19)).C _ _ _ [.lst ((o.map I.hp).map kj),.dct (I.D o)]=_:=frame rfl hj;have Vq:(ev (n+20)).C _ _ _ [.lst ((o.map I.hp).map kj),.dct (I.D o)]=_:=frame rfl Vq;have B3:(ev (n+20)).C _ _ _ [.lst ((o.map I.hp).map kj),.dct (I.D (o++[k]))]=_:=frame rfl B3;have Pa:(ev (n+18)).C _ _ _ [.lst ((o.map I.hp).map kj),.dct (I.D (o++[k]))]=_:=frame rfl Pa;have oW:pL [.lst ((o.map I.hp).map kj),.dct (I.D o)] (.dct 1) (.str (I.s k)) (.str (P (I.w k)))=some [.lst ((o.map I.hp).map kj),.dct (I.D (o++[k]))]:=by
  refine(?_:gd (decide ((I.D o).length<=1000)) (some ([j8.lst ((o.map I.hp).map kj),.dct (I.D o)].set 1 (.dct (D7 (I.s k) (.str (P (I.w k))) (I.D o)))))=_);rw[RV (aH (iR (aJ ..) <| lit ‹_›)),I.put ok o ho k hk hn];rfl
 have qO:jk [.lst ((o.map I.hp).map kj),.dct (I.D (o++[k]))] (.dct 1) (.str (I.s k))=some (.str (P (I.w k))):=by
  exact(I.lookup ok (o++[k]) (by intro i hi;refine cg (bg.mp hi) (fun q=> ?_) fun q=> ?_;exact ho i q;(refine iR (aA.mp q) ?_);exact hk) k (by simp) hk:sr (I.s k) (I.D (o++[k]))=_)
 have Ao:=append_at [.lst ((o.map I.hp).map kj),.dct (I.D (o++[k]))] 0 ((o.map I.hp).map kj) (kj (I.hp k)) rfl (by simp;(exact lit ‹_›));have e:(((o++[k]).map I.hp).map kj)=((o.map I.hp).map kj)++[kj (I.hp k)]:=by simp
 refine iR e ?_;have e2:kj (I.hp k)= .tup [.int ((I.t k).length:Int),.str (I.s k),.str (P (I.t k)),.int (I.r k:Int)]:=rfl;rw[e2]at Ao|-;have e3:wc (I.h k)++kc (I.w k)=I.s k:=rfl
 replace hj:=e3▸hj
 have e4:up (I.w k) (I.r k)=I.t k:=rfl
 replace B3:=e4▸B3
 generalize P (I.w k)=pw at*;generalize P (I.t k)=pt at*;generalize I.s k=s at*;generalize ((o.map I.hp).map kj)=HL at*;generalize I.D o=D0 at*;generalize I.D (o++[k])=D1 at*;clear ok ho RM hk hn SY e4 e3 e2;rcases BS with rfl|⟨e,rfl⟩
 ·exact iT (pG (jg (g:=iY (by rfl) (jg (h:=hj)) jr) (h:=Vq)) (by rfl) (by rfl) (oW))
   (iT (iS (h:=jg (g:=iY (by rfl) (ja (h:=qO)) (by rfl)) (h:=B3)))
   (iT (kT (by rfl) (jo (g:=iY (by rfl) (p6 (iY (by rfl) (jg (h:=Pa)) (by rfl)) (by rfl)) (by rfl)) (h:=Ao))) jq))
 ·exact iT (pG (jg (g:=iY (by rfl) (jg (h:=hj)) jr) (h:=Vq)) (by rfl) (by rfl) (oW))
   (iT (iS (h:=jg (g:=iY (by rfl) (ja (h:=qO)) (by rfl)) (h:=B3)))
   (iT (kT (by rfl) (jo (g:=iY (by rfl) (p6 (iY (by rfl) (jg (h:=Pa)) (by rfl)) (by rfl)) (by rfl)) (h:=Ao))) jq))
noncomputable def rq (I:jc) (o:ah) (HL SL:List PV):St:=[.lst HL,.dct (I.D o),.lst SL]
theorem Ie{I:jc}(ok:I.ok)(n:Nat)(T:ah)(c:Nat->Nat)(o:ah)(ho:∀i∈o,i<7)(hn:o.Nodup)(hl:o.length=7):
  ∃a b c' d e,qy (i0 ((ev (n+22)).S (i7 "_law_sent")) (jj "_law_sent" 3)) (i7 "_law_sent") (rt (jL "_law_sent") 3) (fun ζ=>true) (jE 0 (o.map (I.rw c))) (Ti T) [.lst [],.dct []]=
   some (.next,KU T a b c' d e,[.lst ((o.map I.hp).map kj),.dct (I.D o)]):=by
 have loop:=oZ (B:=i0 ((ev (n+22)).S (i7 "_law_sent")) (jj "_law_sent" 3)) (sc:=i7 "_law_sent") (target:=rt (jL "_law_sent") 3) (fit:=fun ζ=>true)
  (fun j ρ st=>st=[.lst (((o.take j).map I.hp).map kj),.dct (I.D (o.take j))]/\((j=0/\ρ=Ti T)\/∃a b c' d e,ρ=KU T a b c' d e))
  (jE 0 (o.map (I.rw c))) 0 (Ti T) [.lst [],.dct []] ⟨rfl,.inl ⟨rfl,rfl⟩⟩ (by
   intro j v ρ st hv hI;rw[aX]at hI;obtain⟨rfl,k9⟩:=hI;obtain⟨x,hx,rfl⟩:=zQ _ _ _ _ hv;rw[bk]at hx;obtain⟨k,hk,rfl⟩:=fD.mp hx;obtain⟨jS,ZA⟩:=ay.mp hk;have v_:k<7:=ho k (by rw[<-ZA];exact iG _);have hnt:k∉o.take j:=by
    intro q;rw[<-eZ j o,c8]at hn;have:k∈o.drop j:=by rw[bP jS,ZA];simp
    exact hn.2.2 k q k this rfl
   have e:o.take (j+1)=o.take j++[k]:=by rw[bT jS,ZA]
   rw[aX (j+1),e];rcases k9 with⟨_,rfl⟩|⟨a,b,c',d,e,rfl⟩
   ·exact⟨_,_,_,_,rfl,zH ok n T (o.take j) (fun i hi=>ho i (dc hi)) (by rw[bD];exact ao (cH ..) (aE hl)) k v_ hnt _ _ [] (.inl rfl),.inl rfl,rfl,rfl,.inr (SV _ _ _ _ _ rfl)⟩
   ·exact⟨_,_,_,_,rfl,zH ok n T (o.take j) (fun i hi=>ho i (dc hi)) (by rw[bD];exact ao (cH ..) (aE hl)) k v_ hnt _ _ [("top",e)] (.inr ⟨_,rfl⟩),.inl rfl,rfl,rfl,.inr (SV _ _ _ _ _ rfl)⟩)
 obtain⟨kC,ji,h1,rfl,h3⟩:=loop;rw[q_,aJ,aX,cR (aK _)]at h1;rcases h3 with⟨h3,_⟩|⟨a,b,c',d,e,rfl⟩
 ·rw[q_,aJ]at h3;exact absurd (hl.symm.trans ((aX _).symm.trans h3)) (by decide)
 ·exact SV a b c' d e h1
noncomputable def D6 (T X:ah) (a b c d e de ca ro mu wi:PV):i8:=[("listing",.str T),("text",.str X),("heap",.lst 0),("places",.dct 1),("start",a),("need",b),("reach",c),("string",d),("top",e),("sent",.lst 2),("depth",de),("called",ca),("rows",ro),("much",mu),("wide",wi)]
noncomputable def OZ (T X:ah) (a b c d e de ca ro mu:PV):i8:=[("listing",.str T),("text",.str X),("heap",.lst 0),("places",.dct 1),("start",a),("need",b),("reach",c),("string",d),("top",e),("sent",.lst 2),("depth",de),("called",ca),("rows",ro),("much",mu)]
noncomputable def Wm (T X:ah) (a b c d e:PV):i8:=[("listing",.str T),("text",.str X),("heap",.lst 0),("places",.dct 1),("start",a),("need",b),("reach",c),("string",d),("top",e),("sent",.lst 2)]
noncomputable abbrev Lg:List Stmt:=OJ (OJ (jj "_law_sent" 6) 3) 1
noncomputable abbrev Sp:Expr:=rt (OJ (jj "_law_sent" 6) 3) 1
theorem Jx(n:Nat)(T X pre post fg pw pt s:ah)(p nd mu wi dd d':Int)(c de ca ro:PV)(st:St)
  (qO:jk st (.dct 1) (.str s)=some (.str pw)) (mq:(ev (n+15)).C "_law_steps" [.str pw,.str pt] [] st=some (.int dd,st)) (ZG:(ev (n+15)).C "_law_figures" [.int d'] [] st=some (.str fg,st))
  (mL:lz st "max" [.int (nd-mu),.int 0]=some (.int d')) (sH:kR st (.str X) none (some p) none=some (.str pre)) (sZ:kR st (.str X) (some (p+4)) none none=some (.str post))
  (V7:kZ st .Add (.str pre) (.str fg)=some (.str (pre++fg))) (ha2:kZ st .Add (.str (pre++fg)) (.str post)=some (.str ((pre++fg)++post))):
  i0 ((ev (n+20)).S (i7 "_law_sent")) Lg (D6 T X (.int p) (.int nd) c (.str s) (.str pt) de ca ro (.int mu) (.int wi)) st=
   some (.next,D6 T (if 0<nd/\dd<=wi then(pre++fg)++post else X) (.int p) (.int nd) c (.str s) (.str pt) de ca ro (.int mu) (.int wi),st):=by
 have An:jF st .Gt (.int nd) (.int 0)=some (decide (0<nd)):=rfl;have OB:jF st .LtE (.int dd) (.int wi)=some (decide (dd<=wi)):=rfl;refine bc (p:=0<nd) (fun h1=> ?_) fun h1=> ?_
 ·rw[aH h1]at An;refine bc (p:=dd<=wi) (fun h2=> ?_) fun h2=> ?_
  ·rw[aH h2]at OB;rw[a_ ⟨h1,h2⟩];exact iT (pV (nu (ju (h:=jI (by rfl) (An))) (nu (ju (c:=jg (g:=iY (by rfl) (ja (h:=qO)) (by rfl)) (h:=mq)) (h:=jI (by rfl) (OB))) (by rfl)))
    (iT (iS (h:=jb (jb (kB (by rfl) mz (n9 (by rfl)) mz (sH)) (jg (g:=iY (by rfl) (jV (h:=mL)) jr) (h:=ZG)) (V7)) (kB (by rfl) (n9 (by rfl)) mz mz (sZ)) (ha2))) jq)) jq
  ·rw[cD h2]at OB;rw[aS fun q=>h2 q.2];exact iT (mQ (nu (ju (h:=jI (by rfl) (An))) (rO (ju (c:=jg (g:=iY (by rfl) (ja (h:=qO)) (by rfl)) (h:=mq)) (h:=jI (by rfl) (OB))))) (by rfl)) jq
 ·rw[cD h1]at An;rw[aS fun q=>h1 q.1];exact iT (mQ (rO (ju (h:=jI (by rfl) (An)))) (by rfl)) jq
noncomputable def jc.upd (I:jc) (c:Nat->Nat) (k:Nat) (i:Nat):Nat:=if lV (I.w i) (I.t k)<=(I.r i:Int)then c i-c k else c i
noncomputable def jc.text (I:jc) (c:Nat->Nat) (o:ah):ah:=textOf (o.map (I.rw c))
theorem jc.text_app(I:jc)(c:Nat->Nat)(a b:ah):I.text c (a++b)=I.text c a++I.text c b:=by
 unfold jc.text;exact iR (bR ..) <| iR (xX ..) rfl
theorem jc.text_cons(I:jc)(c:Nat->Nat)(a:Nat)(b:ah):I.text c (a::b)=mw (c a)++(qA (I.r a) (I.s a) (I.b a)++I.text c b):=by
 unfold jc.text;exact iR (aU ..) <| iR (p7 ..) <| iR (cL ..) rfl
theorem jc.text_one(I:jc)(c:Nat->Nat)(a:Nat):I.text c [a]=mw (c a)++qA (I.r a) (I.s a) (I.b a):=by
 refine iR (jc.text_cons ..) ?_;simp[jc.text,textOf]
theorem jc.text_same(I:jc)(c c':Nat->Nat):∀o:ah,(I.text c o).length=(I.text c' o).length:=by
 intro L0
 induction L0 with
 |nil=>
  exact rfl
 |cons a o ih=>
  rw[jc.text_cons,jc.text_cons,au,au,au,au,ih];rfl
theorem R6{I:jc}(ok:I.ok)(k:Nat)(hk:k<7):(I.s k).length<=50:=by
 have:=xH _ (ok.way k hk);have:=HA (I.h k);exact iR au <| lit (ck ‹(wc (I.h k)).length<=6› ‹(kc (I.w k)).length<=42›)
theorem jc.text_len{I:jc}(ok:I.ok)(c:Nat->Nat):∀o:ah,(∀i∈o,i<7)->(I.text c o).length<=70*o.length:=by
 intro L0
 induction L0 with
 |nil=>
  intro _;simp[jc.text,textOf]
 |cons a o ih=>
  intro h;have ih:=ih fun i hi=>h i (aq _ hi);have h1:=R6 ok a (h a (by simp));have h2:=Bc (I.b a);have h3:(([9,32]:ah).take (I.r a)).length<=2:=by(refine iR bD ?_);exact cH ..
  have h4:(mw (c a)).length=4:=rfl;refine iR (jc.text_cons ..) ?_;unfold qA;simp only[au,aB,b8]at*
  lia
theorem XF{I:jc}{o:ah}{HL SL:List PV}(h1:i_ 3 HL=true)(h2:i_ 3 SL=true):Good (rq I o HL SL):=by
 refine(iR (h1 ..) ?_:(i_ 3 HL&&(jK 3 (.dct (I.D o))&&(i_ 3 SL&&true)))=true);exact iR (h2 ..) <| iR (Ez ..) rfl
theorem Jy{I:jc}(ok:I.ok)(n:Nat)(T:ah)(c:Nat->Nat)(hc:∀i,c i<55296)(o:ah)(ho:∀i∈o,i<7)(hl:o.length=7)(k:Nat)(hk:k<7)(HL SL:List PV)(h1:i_ 3 HL=true)(h2:i_ 3 SL=true)(a b rc d de ca ro:PV)(ρ:i8)
  (k9:ρ=OZ T (I.text c o) a b rc d (.str (P (I.t k))) de ca ro (.int (c k:Int))\/∃wi,ρ=D6 T (I.text c o) a b rc d (.str (P (I.t k))) de ca ro (.int (c k:Int)) wi):
  ∃a b d wi,qy (i0 ((ev (n+20)).S (i7 "_law_sent")) Lg) (i7 "_law_sent") Sp (fun ζ=>true) (jE 0 (o.map (I.rw c))) ρ (rq I o HL SL)=
   some (.next,D6 T (I.text (I.upd c k) o) a b rc d (.str (P (I.t k))) de ca ro (.int (c k:Int)) wi,rq I o HL SL):=by
 have loop:=oZ (B:=i0 ((ev (n+20)).S (i7 "_law_sent")) Lg) (sc:=i7 "_law_sent") (target:=Sp) (fit:=fun ζ=>true)
  (fun j ρ st=>st=rq I o HL SL/\((j=0/\ρ=OZ T (I.text (I.upd c k) (o.take j)++I.text c (o.drop j)) a b rc d (.str (P (I.t k))) de ca ro (.int (c k:Int)))\/∃a b d wi,ρ=D6 T (I.text (I.upd c k) (o.take j)++I.text c (o.drop j)) a b rc d (.str (P (I.t k))) de ca ro (.int (c k:Int)) wi))
  (jE 0 (o.map (I.rw c))) 0 ρ (rq I o HL SL) ⟨rfl,by
   rcases k9 with rfl|⟨wi,rfl⟩
   ·exact .inl ⟨rfl,rfl⟩
   ·exact .inr ⟨a,b,d,wi,rfl⟩⟩ (by
   intro j v ρ st hv hI;rw[aX]at hI;obtain⟨rfl,k9⟩:=hI;obtain⟨x,hx,rfl⟩:=zQ _ _ _ _ hv
   replace hx:=(bk)▸hx
   obtain⟨i,hi,rfl⟩:=fD.mp hx;obtain⟨jS,ZF⟩:=ay.mp hi;have hi7:i<7:=ho i (jC ZF <| iG _);have e1:o.take (j+1)=o.take j++[i]:=by(refine iR (bT jS) ?_;refine iR ZF ?_;exact rfl)
   have e2:o.drop j=i::o.drop (j+1):=by(refine iR (bP jS) ?_;refine iR ZF ?_;exact rfl)
   have w5:0+(textOf ((o.map (I.rw c)).take j)).length=(I.text (I.upd c k) (o.take j)).length:=by
    exact iR (aX ..) <| jC (List.map_take ..) <| I.text_same _ _ _
   refine iR w5 ?_;have hX':I.text (I.upd c k) (o.take (j+1))++I.text c (o.drop (j+1))=(I.text (I.upd c k) (o.take j)++mw (I.upd c k i))++(qA (I.r i) (I.s i) (I.b i)++I.text c (o.drop (j+1))):=by
    refine iR (e1 ..) <| iR (I.text_app ..) <| iR (I.text_one ..) ?_
    simp only[cL]
   have BS:=jc.text_len ok (I.upd c k) (o.take j) fun i hi=>ho i (dc hi);have O6:=jc.text_len ok c (o.drop j) fun i hi=>ho i (List.mem_of_mem_drop hi)
   replace BS:=bD▸BS
   replace O6:=bV▸O6
   rw[e2,I.text_cons,au]at O6;refine iR (aX (j+1)) <| iR hX' ?_
   replace k9:=(by(refine iR (e2 ..) ?_;refine iR (I.text_cons ..) ?_;exact rfl):I.text (I.upd c k) (o.take j)++I.text c (o.drop j)=I.text (I.upd c k) (o.take j)++(mw (c i)++(qA (I.r i) (I.s i) (I.b i)++I.text c (o.drop (j+1)))))▸k9
   generalize I.text (I.upd c k) (o.take j)=pre at*;generalize qA (I.r i) (I.s i) (I.b i)++I.text c (o.drop (j+1))=post at*;have mq:(ev (n+15)).C "_law_steps" [.str (P (I.w i)),.str (P (I.t k))] [] (rq I o HL SL)=some (.int (lV (I.w i) (I.t k)),rq I o HL SL):=frame rfl (Lv n (I.w i) (I.t k) (ok.way i hi7) ((ok.way k hk).up _));have ZG:(ev (n+15)).C "_law_figures" [.int ((c i-c k:Nat):Int)] [] (rq I o HL SL)=some (.str (mw (c i-c k)),rq I o HL SL):=frame rfl (Ht (n+6) (c i-c k));have qO:jk (rq I o HL SL) (.dct 1) (.str (I.s i))=some (.str (P (I.w i))):=I.lookup ok o ho i (bJ hi:i∈o) hi7;have mL:lz (rq I o HL SL) "max" [.int ((c i:Int)-(c k:Int)),.int 0]=some (.int ((c i-c k:Nat):Int)):=by
    show some (PV.int (max ((c i:Int)-(c k:Int)) 0))=_;congr 2;exact(Int.ofNat_toNat _).symm.trans (aQ Nat.cast (Int.toNat_sub ..))
   have sH:kR (rq I o HL SL) (.str (pre++(mw (c i)++post))) none (some (pre.length:Int)) none=some (.str pre):=by
    exact iR (rQ ..) <| iR (iC ..) rfl
   have sZ:kR (rq I o HL SL) (.str (pre++(mw (c i)++post))) (some ((pre.length:Int)+4)) none none=some (.str post):=by
    have:=q9 (rq I o HL SL) (pre++(mw (c i)++post)) (pre.length+4);refine iR (this ..) <| jC (cL ..) <| iR (by(refine iR au ?_);rfl:pre.length+4=(pre++mw (c i)).length) ?_
    exact iR List.drop_left rfl
   have Yz:∀x,(mw x).length=4:=fun ζ=>rfl;have V7:=oJ (rq I o HL SL) (x:=pre) (y:=mw (c i-c k)) (ao BS (ao (bS 70 (cH j _)) (hl▸(by decide:70*7<=1000)))) (by(refine iR (Yz ..) ?_);decide);have turn:=fun(cc:PV)=>Jx n T (pre++(mw (c i)++post)) pre post (mw (c i-c k)) (P (I.w i)) (P (I.t k)) (I.s i) (pre.length:Int) (c i:Int) (c k:Int) (I.r i:Int) (lV (I.w i) (I.t k)) ((c i-c k:Nat):Int) cc de ca ro (rq I o HL SL) qO mq ZG mL sH sZ V7 (oJ (rq I o HL SL) (x:=pre++mw (c i-c k)) (y:=post) (by(refine iR (au ..) ?_;refine iR (Yz ..) ?_);exact lit (cF (ao BS (bS 70 (ao (cH ..) (aE hl)))) 4)) (ao (fY ..) (ao O6 (ao (bS 70 (b6 _ j)) (hl▸(by decide:70*7<=1000))))));have aav:(if 0<(c i:Int)/\lV (I.w i) (I.t k)<=(I.r i:Int)then(pre++mw (c i-c k))++post else pre++(mw (c i)++post))=(pre++mw (I.upd c k i))++post:=by
    unfold jc.upd;by_cases q:lV (I.w i) (I.t k)<=(I.r i:Int)
    ·refine iR (a_ q) ?_;by_cases q2:0<(c i:Int)
     ·exact iR (a_ ⟨q2,q⟩) rfl
     ·refine iR (aS fun z=>q2 z.1) ?_;have:c i=0:=by exact Nat.eq_zero_of_not_pos fun z=>q2 (cE.mpr z)
      exact iR (this ..) <| iR (Nat.zero_sub ..) <| iR (cL ..) rfl
    ·exact iR (aS q ..) <| iR (aS fun z=>q z.2 ..) <| iR (cL ..) rfl
   replace turn:=aav▸turn
   rcases k9 with⟨_,rfl⟩|⟨a,b,d,wi,rfl⟩
   ·exact⟨_,_,_,_,rfl,turn _,.inl rfl,rfl,rfl,.inr ⟨_,_,_,_,rfl⟩⟩
   ·exact⟨_,_,_,_,rfl,turn _,.inl rfl,rfl,rfl,.inr ⟨_,_,_,_,rfl⟩⟩)
 obtain⟨kC,ji,q1,rfl,q3⟩:=loop;rw[q_,aJ,aX,cR (aK _),dm (aK _)]at q3;have e0:I.text c []=[]:=rfl;rw[e0,cK]at q3;rcases q3 with⟨q3,_⟩|⟨a,b,d,wi,rfl⟩
 ·exact absurd (hl.symm.trans q3) (by decide)
 ·exact⟨a,b,d,wi,q1⟩
noncomputable abbrev Ym:Expr:=k6 (rt (jj "_law_sent" 6) 2)
theorem zT(f:PV->Option PV)(hf:∀s,f (.int s)=some (.int s)):∀L:List Int,mW f (L.map .int)=some (L.map .int):=rR hf
theorem aah(A B C:j8)(L:List PV)(v:PV)(h:L.length<=1000):putL 3 v [A,B,C,.lst L]=some [A,B,C,.lst (L++[v])]:=(nG (aH (by unfold BX;(exact lit ‹_›))) rfl:gd (kM L) (some ([A,B,C,.lst L].set 3 (.lst (L++[v]))))=_)
theorem Ji(I:jc)(n:Nat)(c:Nat->Nat)(s:ah)(A B C:j8)(fit:St->Bool)(lH:∀st,fit st=true):∀(l:ah)(acc:List Int)(p:Nat)(ρ:i8),acc.length+l.length<=1000->
  (ρ=([("called",.str s)]:i8)\/∃a b d e,ρ=([("called",.str s),("start",a),("need",b),("wide",d),("string",e)]:i8))->
  lZ (ev (n+19)) (n_ Ym) (putL 3) (lg Ym) (qw Ym) (qx Ym) fit (jE p (l.map (I.rw c))) ρ [A,B,C,.lst (acc.map .int)]=some [A,B,C,.lst ((acc++(l.filter (fun i=>I.s i==s)).map (fun i=>(c i:Int))).map .int)]:=by
 intro L0
 induction L0 with
 |nil=>
  intro acc p ρ _ _;show _=some [A,B,C,.lst ((acc++([]:List Int)).map .int)];rw[cK];rfl
 |cons i l ih=>
  intro acc p ρ hl k9;rw[aB]at hl;have ih:=ih;have hc:jF [A,B,C,.lst (acc.map .int)] .Eq (.str (I.s i)) (.str s)=some (I.s i==s):=rfl;have e:jE p ((i::l).map (I.rw c))= .tup [.int (p:Int),.int (c i:Int),.int (I.r i:Int),.str (I.s i)]::jE (p+(wg (I.rw c i)).length) (l.map (I.rw c)):=rfl;by_cases h:I.s i=s
  ·rw[aR.mpr h]at hc;have lU:=aah A B C (acc.map .int) (.int (c i:Int)) (by rw[aJ];exact bC (pD ‹_›));have e2:acc.map PV.int++[PV.int (c i:Int)]=(acc++[(c i:Int)]).map .int:=by simp
   rw[e2]at lU;have e3:acc++((i::l).filter (fun i=>I.s i==s)).map (fun i=>(c i:Int))=(acc++[(c i:Int)])++(l.filter (fun i=>I.s i==s)).map (fun i=>(c i:Int)):=by
    rw[cA (by simpa using h)];simp
   rw[e3];have uP:(acc++[(c i:Int)]).length+l.length<=1000:=by rw[au,cS];exact vM ‹_›
   rcases k9 with rfl|⟨a,b,d,e,rfl⟩
   all_goals exact rB (by rfl) (vJ (ju (h:=jI (by rfl) (hc)))) (by rfl) (lU) (lH _) (ih _ _ _ uP (.inr (Vl _ _ _ _ rfl)))
  ·rw[aL.mpr h]at hc;rw[cB (by simpa using h)];rcases k9 with rfl|⟨a,b,d,e,rfl⟩
   all_goals exact AN (by rfl) (vJ (ju (h:=jI (by rfl) (hc)))) (lH _) (ih _ _ _ (bC ‹_›) (.inr (Vl _ _ _ _ rfl)))
theorem Dz{A B C:j8}(h:[A,B,C].all (jK 3)=true)(L:List Int):finish 3 [A,B,C,.lst (L.map .int)] (.lst 3)=some (.list (L.map .int),[A,B,C]):=by
 unfold finish;have h1:jh [A,B,C,.lst (L.map .int)] 3 6 (.lst 3)=some (.list (L.map .int)):=by
  refine(iR (zT (jh [A,B,C,.lst (L.map .int)] 3 5) (fun s=>rfl) ..) ?_:(mW (jh [A,B,C,.lst (L.map .int)] 3 5) (L.map PV.int)).map PV.list=_);rfl
 rw[h1,RV (by refine(?_:(true&&[A,B,C].all (jK 3))=true);(refine iR h ?_);rfl)];rfl
theorem FI{I:jc}(ok:I.ok)(k:Nat)(hk:k<7):∀(o:ah),(∀i∈o,i<7)->o.Nodup->k∈o->o.filter (fun i=>I.s i==I.s k)=[k]:=by
 intro L0
 induction L0 with
 |nil=>
  intro _ _ h;cases h
 |cons a o ih=>
  intro ho hn h;rw[fk]at hn;refine bc (p:=a=k) (fun e=> ?_) fun e=> ?_
  ·subst e;rw[cA (by simp)];congr 1;rw[List.filter_eq_nil_iff];intro b hb q;have:b=a:=I.s_inj ok b a (ho b (aq _ hb)) hk (by simpa using q);exact hn.1 (this▸hb)
  ·rw[cB (by rw[aR];intro q;exact e (I.s_inj ok a k (ho a (by simp)) hk q))];exact ih (fun i hi=>ho i (aq _ hi)) hn.2 ((aV.mp h).resolve_left fun q=>e q.symm)
noncomputable def jc.pvS (I:jc) (x:Nat×Nat):PV:=.tup [.int (x.1:Int),.str (P (I.t x.2)),.str (P (I.w x.2)),.int (I.r x.2:Int)]
theorem Ex(I:jc)(m:Nat):∀l:List (Nat×Nat),i_ m (l.map I.pvS)=true:=by
 intro L0
 induction L0 with
 |nil=>
  exact rfl
 |cons x l ih=>
  refine(iR ih ?_:(true&&i_ m (l.map I.pvS))=true);rfl
inductive Az(T X:ah):i8->Prop where
 |z (a b c d e):Az T X (Wm T X a b c d e)
 |v (a b c d e de ca ro mu):Az T X (OZ T X a b c d e de ca ro mu)
 |w (a b c d e de ca ro mu wi):Az T X (D6 T X a b c d e de ca ro mu wi)
theorem MC{I:jc}(ok:I.ok)(n:Nat)(T:ah)(c:Nat->Nat)(hc:∀i,c i<55296)(o:ah)(ho:∀i∈o,i<7)(hn:o.Nodup)(hl:o.length=7)(k:Nat)(hk:k∈o)(HL BZ:List PV)(S:List (Nat×Nat))(h1:i_ 3 BZ=true)
  (yP:(ev (n+20)).C "_heappop_max" [.lst 0] [] (rq I o HL (S.map I.pvS))=some (kj (I.hp k),rq I o BZ (S.map I.pvS))) (ρ:i8) (k9:Az T (I.text c o) ρ):
  ∃a b d lO,(∀Rs,i0 ((ev (n+22)).S (i7 "_law_sent")) ((jj "_law_sent" 6).drop 3) lO (rq I o BZ (S.map I.pvS))=some Rs->i0 ((ev (n+22)).S (i7 "_law_sent")) (jj "_law_sent" 6) ρ (rq I o HL (S.map I.pvS))=some Rs)/\
   (lO=OZ T (I.text c o) a b (.int (I.r k:Int)) d (.str (P (I.t k))) (.int ((I.t k).length:Int)) (.str (I.s k)) (.list (jE 0 (o.map (I.rw c)))) (.int (c k:Int))\/∃wi,lO=D6 T (I.text c o) a b (.int (I.r k:Int)) d (.str (P (I.t k))) (.int ((I.t k).length:Int)) (.str (I.s k)) (.list (jE 0 (o.map (I.rw c)))) (.int (c k:Int)) wi):=by
 have v_:=ho k hk;have hg:=XF (I:=I) (o:=o) h1 (Ex I 3 S);have Lb:(ev (n+20)).C "_law_read" [.str (I.text c o)] [] (rq I o BZ (S.map I.pvS))=some (.list (jE 0 (o.map (I.rw c))),rq I o BZ (S.map I.pvS)):=
  (CH (n+6) hg (o.map (I.rw c)) (by
   intro x hx;refine kU hx fun i hi z1=> ?_;clear hx;subst z1;exact I.rw_ok ok c hc i (ho i hi)) (iR (aJ ..) <| SG ‹_›))
 have jD:=fun fit lH=>Ji I n c (I.s k) (.lst BZ) (.dct (I.D o)) (.lst (S.map I.pvS)) fit lH o [] 0 _ (by(refine iR b8 ?_);exact Wz (aE hl)) (.inl rfl)
 replace jD:=(FI ok k v_ o ho hn hk)▸jD
 have k_:=Dz (A:=.lst BZ) (B:=.dct (I.D o)) (C:=.lst (S.map I.pvS)) hg ([]++[k].map fun i=>(c i:Int));have B4:∀st,lz st "sum" [.list (([]++[k].map fun i=>(c i:Int)).map .int)]=some (.int (c k:Int)):=fun st=>by
  exact(rfl:some (PV.int ((c k:Int)+0))=_)
 have e2:kj (I.hp k)= .tup [.int ((I.t k).length:Int),.str (I.s k),.str (P (I.t k)),.int (I.r k:Int)]:=rfl
 replace yP:=e2▸yP
 generalize jE 0 (o.map (I.rw c))=R at*;generalize P (I.t k)=pt at*;generalize I.s k=s at*;generalize I.text c o=X at*
 (clear ok hc ho hn hl hk h1 v_ hg e2;cases k9)<;>exact(i42 _ _ _ _ (fun Rs hR=>iT (iS (h:=jg (h:=yP)))
  (iT (iS (h:=jg (h:=Lb)))
  (iT (iS (h:=jV (g:=iY (by rfl) (jT (a:=by exact jD _ (fun ζ=>rfl)) (h:=by exact k_)) jr) (h:=B4 _))) (hR)))) (by first|exact .inl rfl|exact .inr ⟨_,rfl⟩))
theorem Iz{I:jc}(ok:I.ok)(n:Nat)(T:ah)(c:Nat->Nat)(hc:∀i,c i<55296)(o:ah)(ho:∀i∈o,i<7)(hn:o.Nodup)(hl:o.length=7)(k:Nat)(hk:k∈o)(HL BZ:List PV)(S:List (Nat×Nat))(hS:S.length<=100)(h1:i_ 3 BZ=true)
  (yP:(ev (n+20)).C "_heappop_max" [.lst 0] [] (rq I o HL (S.map I.pvS))=some (kj (I.hp k),rq I o BZ (S.map I.pvS))) (ρ:i8) (k9:Az T (I.text c o) ρ):
  ∃kC,Az T (I.text (if 0<c k then I.upd c k else c) o) kC/\i0 ((ev (n+22)).S (i7 "_law_sent")) (jj "_law_sent" 6) ρ (rq I o HL (S.map I.pvS))=some (.next,kC,rq I o BZ ((if 0<c k then S++[(c k,k)]else S).map I.pvS)):=by
 refine o42 (MC ok n T c hc o ho hn hl k hk HL BZ S h1 yP ρ k9) fun a b d lO Av hf=> ?_;have v_:=ho k hk;have qO:∀S,jk (rq I o BZ S) (.dct 1) (.str (I.s k))=some (.str (P (I.w k))):=fun S=>I.lookup ok o ho k hk v_;have Ao:methP (rq I o BZ (S.map I.pvS)) (.lst 2) "append" [.tup [.int (c k:Int),.str (P (I.t k)),.str (P (I.w k)),.int (I.r k:Int)]]=some (.none,rq I o BZ ((S++[(c k,k)]).map I.pvS)):=by
  have:=append_at (rq I o BZ (S.map I.pvS)) 2 (S.map I.pvS) (I.pvS (c k,k)) rfl (iR (aJ ..) <| lit ‹_›);exact iR bR this
 have DZ:∀st,jF st .Gt (.int (c k:Int)) (.int 0)=some (decide (0<(c k:Int))):=fun st=>rfl;refine bc (p:=0<c k) (fun tw=> ?_) fun tw=> ?_
 ·refine iR (a_ tw) <| iR (a_ tw) ?_
  rw[aH (by(exact cE.mpr ‹_›))]at DZ;refine o41 (Jy ok n T c hc o ho hl k v_ BZ ((S++[(c k,k)]).map I.pvS) h1 (Ex I 3 _) a b (.int (I.r k:Int)) d (.int ((I.t k).length:Int)) (.str (I.s k)) (.list (jE 0 (o.map (I.rw c)))) lO hf) fun a' b' d' wi' hgv=>(jt _ (.w a' b' (.int (I.r k:Int)) d' (.str (P (I.t k))) (.int ((I.t k).length:Int)) (.str (I.s k)) (.list (jE 0 (o.map (I.rw c)))) (.int (c k:Int)) wi') (Av _ ?_));generalize jE 0 (o.map (I.rw c))=R at*;generalize P (I.t k)=pt at*;generalize P (I.w k)=pw at*;generalize I.s k=s at*;generalize I.text c o=X at*
  (clear ok hc ho hn hl hk hS h1 yP v_ k9;rcases hf with rfl|⟨wi,rfl⟩)<;>exact iT (pV (ju (h:=jI (by rfl) (DZ _)))
     (iT (kT (by rfl) (jo (g:=iY (by rfl) (p6 (iY (by rfl) (by rfl) (iY (by rfl) (by rfl) (iY (by rfl) (ja (h:=qO _)) (by rfl)))) (by rfl)) jr) (h:=Ao)))
     (iT (rG (by rfl) (by rfl) (by rfl) (by exact hgv)) jq))) jq
 ·refine iR (aS tw) <| iR (aS tw) ?_
  rw[cD (by(exact fun q=>absurd (cE.mp q) ‹_›))]at DZ;refine(jt lO ?_ (Av _ ?_))
  ·(clear ok hc ho hn hl hk hS h1 yP k9 Av v_ qO Ao tw;rcases hf with rfl|⟨wi,rfl⟩)<;>first|exact .v _ _ _ _ _ _ _ _ _|exact .w _ _ _ _ _ _ _ _ _ _
  ·(clear ok hc ho hn hl hk hS h1 yP k9 Av v_ qO Ao tw;rcases hf with rfl|⟨wi,rfl⟩)<;>exact iT (mQ (ju (h:=jI (by rfl) (DZ _))) (by rfl)) jq
theorem Ur{n:Nat}{sc:Scope}{ρ:i8}{st st1:St}{p q p1:Pos}{x:PV}{f:Str}{target a:Expr}{body:List Stmt}{l:List PV}{R:jf×i8×St}(h1:(f==("reversed":Str))=false)(h2:(f==("enumerate":Str))=false)(h:(ev n).E sc (.Call (.Name f q) [a] [] p) ρ st=some (x,st1))(hc:contents st1 x=some l)
  (kk:qy (i0 ((ev n).S sc) body) sc target (kI x st1) l ρ st1=some R):
  (ev (n+1)).S sc (.For target (.Call (.Name f q) [a] [] p) body [] p1) ρ st=some R:=by
 have k:=G1 (sc:=sc) (ρ:=ρ) (iter:=.Call (.Name f q) [a] [] p) (by refine(?_:(f !=("reversed":Str)&&f !=("enumerate":Str))=true);rw[bne,bne,h1,h2];rfl);exact Hs k.1 (nG rfl (iX h (iX hc kk)):gd (!oF (.Call (.Name f q) [a] [] p)) (HO (ev n) sc target (.Call (.Name f q) [a] [] p) body ρ st)=some R)
theorem uG{α β:Type}{f:α->β}{l m:List β}(h:l.Perm m):∀ks:List α,m=ks.map f->∃jR:List α,jR.Perm ks/\l=jR.map f:=by
 induction h with
 |nil=>intro ks hk;exact⟨ks,.refl _,hk⟩
 |cons x h ih=>
  intro ks hk;cases ks with
  |nil=>cases hk
  |cons a ks=>
   rw[aU,fZ]at hk;exact jm (ih ks hk.2) fun jR h1 h2=>⟨a::jR,h1.cons a,by rw[aU,<-h2,hk.1]⟩
 |swap x y l=>
  intro ks hk
  match ks,hk with
  |a::b::ks,hk=>
   simp only[aU,fZ]at hk;exact⟨b::a::ks,List.Perm.swap .., by simp[hk.1,hk.2.1,hk.2.2]⟩
 |trans h1 h2 Zd Zc=>
  intro ks hk;exact jm (Zc ks hk) fun jR h3 h4=>jm (Zd jR h4) fun Au h5 h6=>⟨Au,h5.trans h3,h6⟩
noncomputable def jc.stp (I:jc) (cs:(Nat->Nat)×List (Nat×Nat)) (k:Nat):(Nat->Nat)×List (Nat×Nat):=(if 0<cs.1 k then I.upd cs.1 k else cs.1,if 0<cs.1 k then cs.2++[(cs.1 k,k)]else cs.2)
theorem Ls(I:jc)(c:Nat->Nat)(k i:Nat):I.upd c k i<=c i:=by
 unfold jc.upd;split<;>(first|exact b6 .. |exact aK _)
theorem zZ(n:Nat)(T X:ah)(ρ:i8)(k9:Az T X ρ)(rest:St)(HL:List PV):(ev (n+22)).T (i7 "_law_sent") (rt (jL "_law_sent") 6) ρ (.lst HL::rest)=some (!HL.isEmpty,.lst HL::rest):=by
 cases k9<;>exact nK (by rfl) (by rfl) (by rfl)
theorem IA{I:jc}(ok:I.ok)(n:Nat)(T:ah)(o:ah)(ho:∀i∈o,i<7)(hn:o.Nodup)(hl:o.length=7):∀(fuel:Nat)(Hk:ah)(c:Nat->Nat)(S:List (Nat×Nat))(ρ:i8),Hk.length<fuel->Hk.length<=7->sO 0 (Hk.map I.hp)->(∀k∈Hk,k∈o)->(∀i,c i<55296)->S.length+Hk.length<=100->Az T (I.text c o) ρ->
  ∃(ks:ah)(kC:i8),ks.Perm Hk/\ks.Pairwise (fun i j=>(I.t j).length<=(I.t i).length)/\Az T (I.text (ks.foldl I.stp (c,S)).1 o) kC/\
   mX ((ev (n+22)).T (i7 "_law_sent") (rt (jL "_law_sent") 6)) (i0 ((ev (n+22)).S (i7 "_law_sent")) (jj "_law_sent" 6)) fuel ρ (rq I o ((Hk.map I.hp).map kj) (S.map I.pvS))=some (.next,kC,rq I o [] ((ks.foldl I.stp (c,S)).2.map I.pvS)):=by
 intro L0
 induction L0 with
 |zero=>
  intro Hk _ _ _ h _ _ _ _ _ _;exact absurd ‹_› (gM _)
 |succ fuel ih=>
  intro L1;cases L1 with
  |nil=>
   intro c S ρ _ _ _ _ _ _ k9;exact v9 [] ρ (.refl _) (.nil) k9 (xx (zZ n T _ ρ k9 _ _))
  |cons a Hk=>
   intro c S ρ hf h7 hH hm hc hS k9;have ht:=zZ n T _ ρ k9 [.dct (I.D o),.lst (S.map I.pvS)] (((a::Hk).map I.hp).map kj);have hr:([.dct (I.D o),.lst (S.map I.pvS)]:St).all (jK 3)=true:=by
    show(jK 3 (.dct (I.D o))&&(i_ 3 (S.map I.pvS)&&true))=true;rw[Ez,Ex];rfl
   refine cps fun G_ lF=> ?_;obtain⟨m,H',yP,lD,hH',mL⟩:=QO (n+7) ((a::Hk).map I.hp) [.dct (I.D o),.lst (S.map I.pvS)] hr (by rw[aJ];exact h7) (by simp) hH;obtain⟨jR,tY,S2⟩:=uG lD (a::Hk) rfl;refine lF ?_;cases jR with
   |nil=>cases S2
   |cons k Hk'=>
    rw[aU,fZ]at S2;clear hH hr lD;obtain⟨rfl,rfl⟩:=S2;have jd:=tY.length_eq;simp only[aB]at jd hf h7 hS;have Zz:k∈o:=hm k (tY.subset (by simp));refine cps fun G_ mH=> ?_;obtain⟨lO,aaq,hb⟩:=Iz ok n T c hc o ho hn hl k Zz _ ((Hk'.map I.hp).map kj) S (bC (pD ‹_›)) (CU _ _) yP ρ k9;obtain⟨ks,kC,q1,q2,q3,q4⟩:=ih Hk' (if 0<c k then I.upd c k else c) (if 0<c k then S++[(c k,k)]else S) lO (by lia) (Nat.le_of_succ_le (ao (aE jd) h7)) hH' (fun i hi=>hm i (tY.subset (aq _ hi)))
     (fun i=>by
      split
      ·exact aD (Ls I c k i) (hc i)
      ·exact hc i)
     (by split<;>(try simp only[au,cS])<;>lia) aaq
    refine mH <| (v9 (k::ks) kC ((q1.cons k).trans tY) ?_ q3 (B_ ht hb (.inl rfl) q4))
    rw[fN];refine⟨fun j hj=> ?_,q2⟩;exact mL (I.hp j) (List.mem_map_of_mem (q1.subset hj))
theorem Dv(I:jc)(st:St):∀S:List (Nat×Nat),mW (jh st 0 4) (S.map I.pvS)=some (S.map I.pvS):=rR fun ζ=>rfl
theorem NC{I:jc}(ok:I.ok)(n:Nat)(c:Nat->Nat)(hc:∀i,c i<55296)(o:ah)(ho:∀i∈o,i<7)(hn:o.Nodup)(hl:o.length=7):
  ∃ks:ah,ks.Perm o/\ks.Pairwise (fun i j=>(I.t j).length<=(I.t i).length)/\
   (ev (n+24)).C "_law_sent" [.str (I.text c o)] [] []=some (.tup [.list ((ks.foldl I.stp (c,[])).2.map I.pvS),.str (I.text (ks.foldl I.stp (c,[])).1 o)],[]):=by
 have Lb:(ev (n+21)).C "_law_read" [.str (I.text c o)] [] [.lst [],.dct []]=some (.list (jE 0 (o.map (I.rw c))),[.lst [],.dct []]):=
  (CH (n+7) (S:=[.lst [],.dct []]) rfl (o.map (I.rw c)) (by
   intro x hx;refine kU hx fun i hi z4=> ?_;clear hx;subst z4;exact I.rw_ok ok c hc i (ho i hi)) (iR (aJ ..) <| SG ‹_›))
 refine cps fun G_ nh=>o51 (Ie ok n (I.text c o) c o ho hn hl) fun a b cc d e zo=> ?_;have hr:([.dct (I.D o)]:St).all (jK 2)=true:=by
  refine(iR (Ez ..) ?_:(jK 2 (.dct (I.D o))&&true)=true);rfl
 obtain⟨H',hhp,lD,hH⟩:=QS (n+8) (o.map I.hp) [.dct (I.D o)] hr (iR (aJ ..) hl);refine jm (uG lD o rfl) fun Hk tY z5=>nh ?_;subst z5;have jd:=tY.length_eq;obtain⟨ks,kC,q1,q2,q3,q4⟩:=IA ok n (I.text c o) o ho hn hl 40 Hk c [] (Wm (I.text c o) (I.text c o) a b cc d e) (by lia) (aE (jd.trans hl)) hH (fun k hk=>tY.subset hk) hc (by simp;lia) (.z _ _ _ _ _);refine(sY ks (q1.trans tY) q2 ?_);have k_:finish 0 (rq I o [] ((ks.foldl I.stp (c,[])).2.map I.pvS)) (.tup [.lst 2,.str (I.text (ks.foldl I.stp (c,[])).1 o)])=some (.tup [.list ((ks.foldl I.stp (c,[])).2.map I.pvS),.str (I.text (ks.foldl I.stp (c,[])).1 o)],[]):=by
  have h2:jh (rq I o [] ((ks.foldl I.stp (c,[])).2.map I.pvS)) 0 5 (.lst 2)=some (.list ((ks.foldl I.stp (c,[])).2.map I.pvS)):=by
   refine(iR (Dv ..) ?_:(mW (jh (rq I o [] ((ks.foldl I.stp (c,[])).2.map I.pvS)) 0 4) ((ks.foldl I.stp (c,[])).2.map I.pvS)).map PV.list=_);rfl
  refine(iR h2 ?_:(((jh (rq I o [] ((ks.foldl I.stp (c,[])).2.map I.pvS)) 0 5 (.lst 2)).bind fun x=>((some [PV.str _]).map (x:: ·))).map PV.tup).map (fun v=>(v,([]:St)))=_);rfl
 have VN:∃v1 v2,jW "sent" kC=some v1/\jW "text" kC=some v2/\v1= .lst 2/\v2= .str (I.text (ks.foldl I.stp (c,[])).1 o):=by
  (clear ok hc ho hn hl hr tY lD hH jd q1 q2;cases q3)<;>exact(v9 _ _ rfl rfl rfl rfl)
 refine DN VN fun ζ ζ sH sZ z6 z7=> ?_;subst z6;subst z7;generalize I.text c o=T at*;generalize I.text (ks.foldl I.stp (c,[])).1 o=T' at*;generalize (ks.foldl I.stp (c,[])).2.map I.pvS=SL at*;generalize jE 0 (o.map (I.rw c))=R at*;unfold rq at*;generalize I.D o=D at*;generalize (Hk.map I.hp).map kj=HL at*;generalize (o.map I.hp).map kj=HL0 at*;exact kN (k:=iT (iS (h:=by rfl)) (iT (iS (h:=by rfl)) (iT (iS (h:=by rfl))
  (iT (Ur (by rfl) (by rfl) (jg (h:=Lb)) (by rfl) (zo))
  (iT (kT (by rfl) (jg (h:=hhp)))
  (iT (iS (h:=by rfl))
  (iT (sf (q4))
  (lA (p6 (iY (by rfl) (uZ (by rfl) (Eg sH)) (iY (by rfl) (uZ (by rfl) (Eg sZ)) jr)) (by rfl)))))))))) (h:=k_)
noncomputable def jc.pvP (I:jc) (k:Nat):PV:=.tup [.str (P (I.w k)),.int (I.r k:Int)]
noncomputable def jc.far (I:jc) (acc:ah) (k:Nat):Bool:=acc.all fun j=>decide ((I.r j:Int)<lV (I.w j) (I.t k))
noncomputable def jc.pk (I:jc) (acc:ah) (k:Nat):ah:=if I.far acc k then acc++[k]else acc
noncomputable abbrev Pc:Expr:=k6 (rt (jj "_law_picked" 1) 0)
noncomputable abbrev Yi:Expr:=rt (jL "_law_picked") 2
theorem Wq(A:j8)(L:List PV)(v:PV)(h:L.length<=1000):putL 1 v [A,.lst L]=some [A,.lst (L++[v])]:=(nG (aH (by unfold BX;(exact lit ‹_›))) rfl:gd (kM L) (some ([A,.lst L].set 1 (.lst (L++[v]))))=_)
theorem Ey(I:jc)(m:Nat):∀l:ah,i_ m (l.map I.pvP)=true:=by
 intro L0
 induction L0 with
 |nil=>
  exact rfl
 |cons x l ih=>
  refine(iR ih ?_:(true&&i_ m (l.map I.pvP))=true);rfl
theorem LO(m:Nat):∀l:List Bool,i_ m (l.map .bool)=true:=by
 intro L0
 induction L0 with
 |nil=>
  exact rfl
 |cons x l ih=>
  refine(iR ih ?_:(true&&i_ m (l.map .bool))=true);rfl
theorem NZ{I:jc}(ok:I.ok)(n:Nat)(k:Nat)(hk:k<7)(A:ah)(fit:St->Bool)(lH:∀x,fit [.lst (A.map I.pvP),x]=true):∀(l:ah)(bs:List Bool)(ρ:i8),(∀i∈l,i<7)->bs.length+l.length<=1000->
  (ρ=([("top",.str (P (I.t k)))]:i8)\/∃a b,ρ=([("top",.str (P (I.t k))),("other",a),("wide",b)]:i8))->
  lZ (ev (n+17)) (n_ Pc) (putL 1) (lg Pc) (qw Pc) (qx Pc) fit (l.map I.pvP) ρ [.lst (A.map I.pvP),.lst (bs.map .bool)]=some [.lst (A.map I.pvP),.lst ((bs++l.map (fun j=>decide ((I.r j:Int)<lV (I.w j) (I.t k)))).map .bool)]:=by
 intro L0
 induction L0 with
 |nil=>
  intro bs ρ _ _ _;refine(iR (cK ..) ?_:_=some ([.lst (A.map I.pvP),.lst ((bs++([]:List Bool)).map .bool)]:St));rfl
 |cons j l ih=>
  intro bs ρ hl7 hl k9
  replace hl:=aB▸hl
  have hj:=hl7 j (by simp);have ih:=ih;have hg:Good [.lst (A.map I.pvP),.lst (bs.map .bool)]:=by
   refine(iR (Ey ..) ?_:(i_ 2 (A.map I.pvP)&&(i_ 2 (bs.map .bool)&&true))=true);exact iR (LO ..) rfl
  have mq:(ev (n+15)).C "_law_steps" [.str (P (I.w j)),.str (P (I.t k))] [] [.lst (A.map I.pvP),.lst (bs.map .bool)]=some (.int (lV (I.w j) (I.t k)),[.lst (A.map I.pvP),.lst (bs.map .bool)]):=frame rfl (Lv n (I.w j) (I.t k) (ok.way j hj) ((ok.way k hk).up _));have hc:∀st,jF st .Gt (.int (lV (I.w j) (I.t k))) (.int (I.r j:Int))=some (decide ((I.r j:Int)<lV (I.w j) (I.t k))):=fun st=>rfl;have lU:=Wq (.lst (A.map I.pvP)) (bs.map .bool) (.bool (decide ((I.r j:Int)<lV (I.w j) (I.t k)))) (iR (aJ ..) <| bC (pD ‹_›));have e2:bs.map PV.bool++[PV.bool (decide ((I.r j:Int)<lV (I.w j) (I.t k)))]=(bs++[decide ((I.r j:Int)<lV (I.w j) (I.t k))]).map .bool:=by simp
  replace lU:=e2▸lU
  have e3:bs++(j::l).map (fun j=>decide ((I.r j:Int)<lV (I.w j) (I.t k)))=(bs++[decide ((I.r j:Int)<lV (I.w j) (I.t k))])++l.map (fun j=>decide ((I.r j:Int)<lV (I.w j) (I.t k))):=by simp
  refine iR e3 ?_;have uP:(bs++[decide ((I.r j:Int)<lV (I.w j) (I.t k))]).length+l.length<=1000:=by(refine iR au ?_;refine iR cS ?_);(exact vM ‹_›)
  have e4:(j::l).map I.pvP= .tup [.str (P (I.w j)),.int (I.r j:Int)]::l.map I.pvP:=rfl;refine iR e4 ?_;clear ok hk hl hj hg e2 e3 e4;rcases k9 with rfl|⟨a,b,rfl⟩
  all_goals exact rB (by rfl) pB (xm (by rfl) (jg (h:=mq)) (jI (by rfl) (hc _))) (lU) (lH _) (ih _ _ (fun i hi=>hl7 i (aq _ hi)) uP (.inr (DO _ _ rfl)))
theorem yf(f:PV->Option PV)(hf:∀s,f (.bool s)=some (.bool s)):∀L:List Bool,mW f (L.map .bool)=some (L.map .bool):=rR hf
theorem BH{A:j8}(h:jK 1 A=true)(L:List Bool):finish 1 [A,.lst (L.map .bool)] (.lst 1)=some (.list (L.map .bool),[A]):=by
 unfold finish;have h1:jh [A,.lst (L.map .bool)] 1 6 (.lst 1)=some (.list (L.map .bool)):=by
  refine(iR (yf (jh [A,.lst (L.map .bool)] 1 5) (fun s=>rfl) ..) ?_:(mW (jh [A,.lst (L.map .bool)] 1 5) (L.map PV.bool)).map PV.list=_);rfl
 rw[h1,RV (by refine(?_:(true&&(jK 1 A&&true))=true);(refine iR h ?_);rfl)];rfl
theorem Dy{A:j8}(h:jK 1 A=true)(L:List (ah)):finish 1 [A,.lst (L.map .str)] (.lst 1)=some (.list (L.map .str),[A]):=by
 unfold finish;have h1:jh [A,.lst (L.map .str)] 1 6 (.lst 1)=some (.list (L.map .str)):=by
  refine(iR (qF (jh [A,.lst (L.map .str)] 1 5) (fun s=>rfl) ..) ?_:(mW (jh [A,.lst (L.map .str)] 1 5) (L.map PV.str)).map PV.list=_);rfl
 rw[h1,RV (by refine(?_:(true&&(jK 1 A&&true))=true);(refine iR h ?_);rfl)];rfl
theorem vO(l:List Bool):uh (l.map .bool)=some l:=AZ (f:=xF) (g:=.bool) (fun ζ=>rfl) l
theorem E7(I:jc)(n:Nat)(A:ah)(fit:St->Bool)(lH:∀x,fit [.lst (A.map I.pvP),x]=true):∀(l:ah)(acc:List (ah))(ρ:i8),acc.length+l.length<=1000->
  (ρ=([]:i8)\/∃a b,ρ=([("place",a),("reach",b)]:i8))->
  lZ (ev (n+20)) (n_ Yi) (putL 1) (lg Yi) (qw Yi) (qx Yi) fit (l.map I.pvP) ρ [.lst (A.map I.pvP),.lst (acc.map .str)]=some [.lst (A.map I.pvP),.lst ((acc++l.map (fun j=>P (I.w j))).map .str)]:=by
 intro L0
 induction L0 with
 |nil=>
  intro acc ρ _ _;refine(iR (cK ..) ?_:_=some ([.lst (A.map I.pvP),.lst ((acc++([]:List (ah))).map .str)]:St));rfl
 |cons j l ih=>
  intro acc ρ hl k9
  replace hl:=aB▸hl
  have ih:=ih;have lU:=Wq (.lst (A.map I.pvP)) (acc.map .str) (.str (P (I.w j))) (iR (aJ ..) <| bC (pD ‹_›));have e2:acc.map PV.str++[PV.str (P (I.w j))]=(acc++[P (I.w j)]).map .str:=by simp
  replace lU:=e2▸lU
  have e3:acc++(j::l).map (fun j=>P (I.w j))=(acc++[P (I.w j)])++l.map (fun j=>P (I.w j)):=by simp
  refine iR e3 ?_;have uP:(acc++[P (I.w j)]).length+l.length<=1000:=by(refine iR au ?_;refine iR cS ?_);(exact vM ‹_›)
  have e4:(j::l).map I.pvP= .tup [.str (P (I.w j)),.int (I.r j:Int)]::l.map I.pvP:=rfl;refine iR e4 ?_;clear hl e2 e3 e4;rcases k9 with rfl|⟨a,b,rfl⟩
  all_goals exact rB (by rfl) pB (by rfl) (lU) (lH _) (ih _ _ uP (.inr (DO _ _ rfl)))
theorem Uw(I:jc)(acc:ah)(k:Nat):(I.pk acc k).length<=acc.length+1:=by
 unfold jc.pk;split
 ·simp
 ·exact eu ..
theorem LA(I:jc):∀(l acc:ah),(∀i∈acc,i<7)->(∀i∈l,i<7)->(∀i∈l.foldl I.pk acc,i<7)/\(l.foldl I.pk acc).length<=acc.length+l.length:=by
 intro L0
 induction L0 with
 |nil=>
  intro acc h _;exact⟨h,by simp⟩
 |cons k l ih=>
  intro acc h hl;have h1:∀i∈I.pk acc k,i<7:=by
   intro i hi;unfold jc.pk at hi;split at hi
   ·refine cg (bg.mp hi) (fun q=> ?_) fun q=> ?_
    ·exact h i q
    ·exact iR (aA.mp q) <| hl k (by simp)
   ·exact h i hi
  have h2:=Uw I acc k;have ih:=ih (I.pk acc k) h1 fun i hi=>hl i (aq _ hi);refine⟨ih.1,?_⟩;have:=ih.2;simp only[aB,dB]
  (exact ao this (ao (cF h2 _) (aE (dh ..))))
noncomputable def Wn (HM:PV):i8:=[("sent",HM),("picked",.lst 0)]
noncomputable def KV (HM a b c d:PV):i8:=[("sent",HM),("picked",.lst 0),("much",a),("top",b),("place",c),("reach",d)]
theorem I0{I:jc}(ok:I.ok)(n:Nat)(HM:PV)(x:Nat×Nat)(hx:x.2<7)(acc:ah)(ha:∀i∈acc,i<7)(hl:acc.length<=500):
  i0 ((ev (n+21)).S (i7 "_law_picked")) (jj "_law_picked" 1) (KV HM (.int (x.1:Int)) (.str (P (I.t x.2))) (.str (P (I.w x.2))) (.int (I.r x.2:Int))) [.lst (acc.map I.pvP)]=
   some (.next,KV HM (.int (x.1:Int)) (.str (P (I.t x.2))) (.str (P (I.w x.2))) (.int (I.r x.2:Int)),[.lst ((I.pk acc x.2).map I.pvP)]):=by
 have jD:=NZ ok n x.2 hx acc (kI (.lst 0) [.lst (acc.map I.pvP)]) (fun y=>sC rfl) acc [] _ ha (by rw[b8];exact Wz hl) (.inl rfl);have k_:=BH (A:=.lst (acc.map I.pvP)) (Ey I 1 acc) ([]++acc.map (fun j=>decide ((I.r j:Int)<lV (I.w j) (I.t x.2))));have pT:lz [.lst (acc.map I.pvP)] "all" [.list (([]++acc.map (fun j=>decide ((I.r j:Int)<lV (I.w j) (I.t x.2)))).map .bool)]=some (.bool (I.far acc x.2)):=by
  refine(?_:(uh (([]++acc.map (fun j=>decide ((I.r j:Int)<lV (I.w j) (I.t x.2)))).map .bool)).map (fun bs=>PV.bool (bs.all id))=_);rw[vO];refine(?_:some (PV.bool ((acc.map _).all id))=_);rw[List.all_map];rfl
 have Ao:=append_at [.lst (acc.map I.pvP)] 0 (acc.map I.pvP) (I.pvP x.2) rfl (by rw[aJ];exact lit ‹_›);rw[(by simp:acc.map I.pvP++[I.pvP x.2]=(acc++[x.2]).map I.pvP)]at Ao;rw[(show I.pvP x.2= .tup [.str (P (I.w x.2)),.int (I.r x.2:Int)]from rfl)]at Ao;unfold jc.pk;generalize P (I.t x.2)=pt at*;generalize P (I.w x.2)=pw at*;cases hf:I.far acc x.2 with
 |true=>
  rw[hf]at pT;exact iT (pV (nK (by rfl) (jV (g:=iY (by rfl) (jT (a:=by exact jD) (h:=by exact k_)) jr) (h:=pT)) (by rfl))
   (iT (kT (by rfl) (jo (h:=Ao))) jq)) jq
 |false=>
  rw[hf]at pT;exact iT (mQ (nK (by rfl) (jV (g:=iY (by rfl) (jT (a:=by exact jD) (h:=by exact k_)) jr) (h:=pT)) (by rfl)) (by rfl)) jq
theorem Fq{I:jc}(ok:I.ok)(n:Nat)(S:List (Nat×Nat))(hS:∀x∈S,x.2<7)(hl:S.length<=400):
  (ev (n+23)).C "_law_picked" [.list (S.map I.pvS)] [] []=some (.list (((S.reverse.map (·.2)).foldl I.pk []).map (fun k=>PV.str (P (I.w k)))),[]):=by
 have loop:=oZ (B:=i0 ((ev (n+21)).S (i7 "_law_picked")) (jj "_law_picked" 1)) (sc:=i7 "_law_picked") (target:=rt (jL "_law_picked") 1) (fit:=fun ζ=>true)
  (fun j ρ st=>st=[.lst ((((S.reverse.take j).map (·.2)).foldl I.pk []).map I.pvP)]/\(ρ=Wn (.list (S.map I.pvS))\/∃a b c d,ρ=KV (.list (S.map I.pvS)) a b c d))
  (S.map I.pvS).reverse 0 (Wn (.list (S.map I.pvS))) [.lst []] ⟨rfl,.inl rfl⟩ (by
   intro j v ρ st hv hI;rw[aX]at hI;refine lP hI fun z1 k9=> ?_;clear hI;subst z1
   replace hv:=(bk)▸((fy List.map_reverse)▸hv)
   refine jw hv fun x hx z2=>jC z2 <| m9 (ay.mp hx) fun jS hxe=> ?_
   have hm:∀y∈S.reverse.take j,y.2<7:=fun y hy=>hS y (gv.mp (dc hy));have h1:=LA I ((S.reverse.take j).map (·.2)) [] (by trivial) (by
    intro i hi;exact kU hi fun y hy z3=>jC z3 <| hm y hy)
   have hx7:x.2<7:=hS x (gv.mp (bJ hx));have yM:(((S.reverse.take j).map (·.2)).foldl I.pk []).length<=500:=by
    have:=h1.2;simp only[aJ,bD,b8,cT]at this;exact lit (ao this (ao (aE (aX _)) (ao (cH ..) hl)))
   have turn:=I0 ok n (.list (S.map I.pvS)) x hx7 _ h1.1 yM;have e:S.reverse.take (j+1)=S.reverse.take j++[x]:=by(refine iR (bT jS) ?_;refine iR hxe ?_;exact rfl)
   refine iR (aX (j+1)) <| iR e <| iR bR <| iR fj ?_
   clear ok hl hx hv jS hxe hm hx7;rcases k9 with rfl|⟨a,b,c,d,rfl⟩
   ·exact⟨_,_,_,_,rfl,turn,.inl rfl,rfl,rfl,.inr (Vl _ _ _ _ rfl)⟩
   ·exact⟨_,_,_,_,rfl,turn,.inl rfl,rfl,rfl,.inr (Vl _ _ _ _ rfl)⟩)
 refine qL loop fun kC ji q1 z4 q3=> ?_;subst z4;have e0:0+(S.map I.pvS).reverse.length=S.reverse.length:=by simp
 replace q1:=dQ▸(e0▸q1)
 have h1:=LA I (S.reverse.map (·.2)) [] (by trivial) (by
    intro i hi;exact kU hi fun y hy z5=>jC z5 <| hS y (gv.mp hy))
 generalize w5:(S.reverse.map (·.2)).foldl I.pk []=pl at*;have yM:pl.length<=500:=by
  have:=h1.2;simp only[aJ,b8,cT]at this;exact lit (ao this (ao (aE (aX _)) hl))
 have jD:=E7 I n pl (kI (.lst 0) [.lst (pl.map I.pvP)]) (fun y=>sC rfl) pl [] _ (by(refine iR b8 ?_);lia) (.inl rfl);have k_:=Dy (A:=.lst (pl.map I.pvP)) (Ey I 1 pl) ([]++pl.map (fun j=>P (I.w j)));have XC:finish 0 [.lst (pl.map I.pvP)] (.list (([]++pl.map (fun j=>P (I.w j))).map .str))=some (.list (([]++pl.map (fun j=>P (I.w j))).map .str),[]):=by
  refine(?_:((mW (jh [.lst (pl.map I.pvP)] 0 5) (([]++pl.map (fun j=>P (I.w j))).map PV.str)).map PV.list).map (fun v=>(v,([]:St)))=_);refine iR (qF (jh [.lst (pl.map I.pvP)] 0 5) (fun s=>rfl) ..) ?_;rfl
 have e:pl.map (fun k=>PV.str (P (I.w k)))=([]++pl.map (fun j=>P (I.w j))).map .str:=by simp
 refine iR e ?_;have VN:∀st,kR st (.list (S.map I.pvS)) none none (some (-1))=some (.list (S.map I.pvS).reverse):=fun st=>rfl;generalize (S.map I.pvS).reverse=SR at*;clear ok hS hl w5 h1 yM e e0;rcases q3 with rfl|⟨a,b,c,d,rfl⟩
 all_goals exact kN (k:=iT (iS (h:=by rfl)) (iT (rG (by rfl) (kB (by rfl) mz mz (n9 (by rfl)) (VN _)) (by rfl) (q1)) (lA (jT (a:=jD) (h:=by exact k_))))) (h:=XC)
noncomputable def mP (a:Nat->Nat) (k:Nat):List Int:=0::(wd a k).map fun(c:Nat)=>(c:Int)
theorem B6{a:Nat->Nat}(T:Tree a)(f k:Nat)(_:k<=f):∀c∈wd a k,c<=k/\1<=c:=
 tE T (P:=fun k=>∀c∈wd a k,c<=k/\1<=c) (fun c hc=>by rw[pY]at hc;exact nomatch hc) (fun k h h1 ih c hc=>by
  rw[lJ T k h]at hc;exact(bg.mp hc).elim (fun q=>⟨ao (ih c q).1 (bC h1),(ih c q).2⟩) fun q=>by rw[aA.mp q];exact⟨aK _,h⟩) k
theorem Ej{a:Nat->Nat}(T:Tree a)(f k:Nat)(_:k<=f):(wd a k).length<=k:=
 tE T (P:=fun k=>(wd a k).length<=k) (by rw[pY];exact aK 0) (fun k h h1 ih=>by
  exact iR (lJ T k h) <| iR au <| aD ih h1) k
theorem EE{a:Nat->Nat}(T:Tree a)(k:Nat)(h:0<k):nB (mP a (a k)) [(k:Int)]=mP a k:=by
 have h1:=T k h;have e:([(k:Int)].filter fun x=> !(mP a (a k)).contains x)=[(k:Int)]:=by
  rw[dI];intro x hx;rw[aA]at hx;subst hx;rw[cz,iD,fh];intro q;refine cg (aV.mp q) (fun q=> ?_) fun q=> ?_
  ·lia
  ·refine kU q fun c hc e=> ?_;have:=B6 T (a k) (a k) (aK _) c hc;exact dP _ (aD (ao (aE (Int.ofNat.inj e).symm) this.1) h1)
 unfold nB;refine iR e ?_;unfold mP;refine iR (lJ T k h) ?_;simp
theorem Mb{a:Nat->Nat}(T:Tree a)(st:St)(k:Nat)(h:0<k)(h6:k<=6):kZ st .BitOr (.iset (mP a (a k))) (.iset [(k:Int)])=some (.iset (mP a k)):=by
 have h1:=T k h;have hl:(mP a (a k)).length<=20:=by
  have:=Ej T (a k) (a k) (aK _);unfold mP;simp only[aB,aJ];exact lit (cQ (ao this (ao (bC h1) h6)))
 refine(nG (iR (aH hl) rfl) ?_:gd (decide ((mP a (a k)).length<=20)&&decide (1<=20)) ((gd (!(mP a (a k)).isEmpty) (some (nB (mP a (a k)) [(k:Int)]))).map PV.iset)=_);exact iR (EE T k h) rfl
theorem Um{n:Nat}{sc:Scope}{ρ:i8}{st:St}{p:Pos}{a:Expr}{i:Int}(hs:lI a=false)(h:(ev n).E sc a ρ (st++[.bs none])=some (.int i,st++[.bs none]))(hg:Good st):(ev (n+1)).E sc (.Set [a] 0 p) ρ st=some (.iset [i],st):=by
 have e1:(st++[j8.bs none])[st.length]? =some (.bs none):=by simp
 have e2:(st++[j8.bs none]).take st.length=st:=by simp
 have e3:((none:Option Bool).isNone&&uR st.length (st++[j8.bs none]))=true:=by
  unfold uR;refine iR e2 <| iR (show st.all (jK st.length)=true from hg) ?_
  simp
 exact(nG (iR hs rfl) (iX h (iX (a:=i) rfl (iX (Sy e1) (nG e3 (iR e2 rfl))))):Pd (ev n) sc a ρ st=some (.iset [i],st))
theorem U4(m:Nat):∀L:List (List Int),i_ m (L.map .iset)=true:=by
 intro L0
 induction L0 with
 |nil=>
  exact rfl
 |cons x L ih=>
  refine(iR ih ?_:(true&&i_ m (L.map .iset))=true);rfl
noncomputable def ni (a:Nat->Nat) (j:Nat):List PV:=((List.range j).map (mP a)).map .iset
theorem HZ{a:Nat->Nat}(T:Tree a)(n:Nat)(ab:PV)(k:Nat)(h:0<k)(h6:k<=6)(OV:∀st,jk st ab (.int (k:Int))=some (.int (a k:Int))):
  i0 ((ev (n+6)).S (i7 "_law_ways")) (jj "_law_ways" 1) [("above",ab),("ways",.lst 0),("k",.int (k:Int))] [.lst (ni a k)]=some (.next,([("above",ab),("ways",.lst 0),("k",.int (k:Int))]:i8),[.lst (ni a (k+1))]):=by
 have hg:Good [.lst (ni a k)]:=by
  refine(iR (U4 ..) ?_:(i_ 1 (ni a k)&&true)=true);rfl
 have qO:jk [.lst (ni a k)] (.lst 0) (.int (a k:Int))=some (.iset (mP a (a k))):=by
  refine(?_:idx (ni a k) (a k:Int)=_);unfold ni;exact iR bX <| qI (fun j=>PV.iset (mP a j)) k (a k) (T k h)
 have Ao:=append_at [.lst (ni a k)] 0 (ni a k) (.iset (mP a k)) rfl (by unfold ni;simp;(exact lit ‹_›));have e:ni a k++[.iset (mP a k)]=ni a (k+1):=by
  unfold ni;exact iR fm <| iR bR <| iR bR rfl
 replace Ao:=e▸Ao
 exact iT (kT (by rfl) (jo (g:=iY (by rfl) (jb (ja (d:=ja (h:=OV _)) (h:=qO)) (Um (by rfl) (by rfl) (hg)) (Mb T [.lst (ni a k)] k h h6)) jr) (h:=Ao))) jq
theorem Z3{a:Nat->Nat}(T:Tree a)(n:Nat)(ab:PV)(OV:∀k:Nat,k<7->∀st,jk st ab (.int (k:Int))=some (.int (a k:Int))):(ev (n+8)).C "_law_ways" [ab] [] []=some (.list (iW fun k=>.iset (mP a k)),[]):=by
 have loop:=oZ (B:=i0 ((ev (n+6)).S (i7 "_law_ways")) (jj "_law_ways" 1)) (sc:=i7 "_law_ways") (target:=rt (jL "_law_ways") 1) (fit:=fun ζ=>true)
  (fun j ρ st=>st=[.lst (ni a (j+1))]/\(ρ=([("above",ab),("ways",.lst 0)]:i8)\/∃k,ρ=([("above",ab),("ways",.lst 0),("k",k)]:i8)))
  (sI ((1:Nat):Int) ((7:Nat):Int)) 0 ([("above",ab),("ways",.lst 0)]:i8) [.lst [.iset [0]]] ⟨rfl,.inl rfl⟩ (by
   intro j v ρ st hv hI;obtain⟨rfl,hj⟩:=Lw hv;rw[aX]at hI|-;clear hv;obtain⟨rfl,k9⟩:=hI;have turn:=HZ T n ab (1+j) (eu ..) (aM ‹_›) (OV (1+j) hj);rw[eE 1 j]at turn|-;rcases k9 with rfl|⟨k,rfl⟩
   ·exact .mk _ _ _ _ rfl turn (.inl rfl) rfl ⟨rfl,(.inr ⟨_,rfl⟩)⟩
   ·exact(.mk _ _ _ _ rfl turn (.inl rfl) rfl ⟨rfl,(.inr ⟨_,rfl⟩)⟩))
 obtain⟨kC,ji,q1,q2,q3⟩:=loop;subst q2;have Kr:jW "ways" kC=some (.lst 0):=by
  rcases q3 with rfl|⟨k,rfl⟩<;>rfl
 have k_:finish 0 [.lst (ni a 7)] (.lst 0)=some (.list (iW fun k=>.iset (mP a k)),[]):=by
  show((mW (jh [.lst (ni a 7)] 0 5) (ni a 7)).map PV.list).map (fun v=>(v,([]:St)))=_;unfold ni;rfl
 exact kN (k:=iT (iS (h:=by rfl)) (iT (rG (by rfl) (by rfl) (by rfl) (q1)) (lA (uZ (by rfl) (Eg Kr))))) (h:=k_)
theorem Uv(A:St)(L:List PV)(v:PV)(h:L.length<=1000):putL A.length v (A++[.lst L])=some (A++[.lst (L++[v])]):=by
 unfold putL;exact iR (zU ..) <| nG (aH (by unfold BX;(exact lit ‹_›))) (by simp)
theorem kH{α:Type}{n:Nat}{sc:Scope}{elt target:Expr}{ifs:List Expr}{fit:St->Bool}(A:St)(YN g:α->PV)(t:α->Bool)(DW:i8)(lO:α->i8)
  (ha0:∀x st,kX sc st target (YN x) DW=some (lO x)) (V7:∀x y st,kX sc st target (YN x) (lO y)=some (lO x)) (lH:∀c,fit (A++[c])=true) (hb:∀x,below 0 (g x)=true):
  ∀(l:List α)(acc:List PV)(ρ:i8),(ρ=DW\/∃y,ρ=lO y)->i_ 0 acc=true->
  (∀x∈l,∀L,i_ 0 L=true->rI ((ev n).T sc) (lO x) ifs (A++[.lst L])=some (t x,A++[.lst L])/\(t x=true->(ev n).E sc elt (lO x) (A++[.lst L])=some (g x,A++[.lst L])))->acc.length+l.length<=1000->
  lZ (ev n) sc (putL A.length) elt target ifs fit (l.map YN) ρ (A++[.lst acc])=some (A++[.lst (acc++(l.filter t).map g)])
:=by
 intro l
 induction l with
 |nil=>
  intro acc ρ _ _ _ _;refine(iR (cK ..) ?_:_=some (A++[j8.lst (acc++[])]));rfl
 |cons x l ih=>
  intro acc ρ k9 B5 hx hl
  replace hl:=aB▸hl
  have ha:kX sc (A++[.lst acc]) target (YN x) ρ=some (lO x):=by
   clear hl;rcases k9 with rfl|⟨y,rfl⟩
   ·exact ha0 x _
   ·exact V7 x y _
  obtain⟨h1,h2⟩:=hx x (by simp) acc B5;refine iR aU ?_;cases ht:t x with
  |true=>
   replace h1:=ht▸h1
   refine iR (by(refine iR (cA ht) ?_);simp:acc++((x::l).filter t).map g=(acc++[g x])++(l.filter t).map g) ?_;refine rB ha h1 (h2 ht) (Uv A acc (g x) (bC (pD ‹_›))) (lH _) (ih _ _ (.inr ⟨x,rfl⟩) ?_ (fun y hy=>hx y (aq _ hy)) (iR au <| iR cS <| vM ‹_›));rw[Gb,B5,i_,hb x];rfl
  |false=>
   replace h1:=ht▸h1
   rw[cB (by(refine iR ht ?_);trivial)];exact AN ha h1 (lH _) (ih _ _ (.inr ⟨x,rfl⟩) B5 (fun y hy=>hx y (aq _ hy)) (bC ‹_›))
theorem Hi(i:Bool):Fz (.bool i):=fun ζ ζ=>rfl
theorem LJ(i:ah):Fz (.str i):=fun ζ ζ=>rfl
theorem NR(L:List Bool):Fz (.list (L.map .bool)):=fun st n=>by
 refine(iR (yf (jh st n 4) (fun s=>rfl) ..) ?_:(mW (jh st n 4) (L.map PV.bool)).map PV.list=_);rfl
noncomputable def BY (m:Nat) (x:Int):Int:=if x<0 then -1 else if x.toNat&&&m=0 then((x.toNat|||m:Nat):Int)else -1
noncomputable def HJ (ms:ah):List Int:=ms.foldl (fun told m=>told++told.map (BY m)) [0]
noncomputable def HG (ds:ah):List Int:=ds.foldl (fun told(d:Nat)=>told++told.map (fun x=>x+(d:Int))) [0]
noncomputable abbrev Vz:Expr:=k6 (rt (jj "_law_apart" 1) 0)
noncomputable abbrev Vj:Expr:=k6 (rt (jj "_law_sums" 1) 0)
theorem Vc(n:Nat)(m:Nat)(x:Int)(st:St):(ev (n+6)).E (n_ Vz) (lg Vz) [("row",.int (m:Int)),("kept",.int x)] st=some (.int (BY m x),st):=by
 have hc:jF st .Lt (.int x) (.int 0)=some (decide (x<0)):=rfl;unfold BY;refine bc (p:=x<0) (fun h=> ?_) fun h=> ?_
 ·rw[aH h]at hc;rw[a_ h];exact Lx (um (ju (h:=jI (by rfl) (hc)))) (by rfl)
 ·rw[cD h]at hc;rw[aS h];have WT:kZ st .BitAnd (.int x) (.int (m:Int))=some (.int ((x.toNat&&&m:Nat):Int)):=by
   refine(?_:(gd (decide (0<=x)&&decide (0<=(m:Int))) (some ((x.toNat&&&(m:Int).toNat:Nat):Int))).map PV.int=_);rw[show(decide (0<=x)&&decide (0<=(m:Int)))=true by simp only[aG,bq];lia];rfl
  have Ox:kZ st .BitOr (.int x) (.int (m:Int))=some (.int ((x.toNat|||m:Nat):Int)):=by
   refine(?_:(gd (decide (0<=x)&&decide (0<=(m:Int))) (some ((x.toNat|||(m:Int).toNat:Nat):Int))).map PV.int=_);rw[show(decide (0<=x)&&decide (0<=(m:Int)))=true by simp only[aG,bq];lia];rfl
  generalize hy:x.toNat&&&m=y at*;have ht:lK st (.int (y:Int))=some (decide (y≠0)):=by
   refine(?_:some ((y:Int) !=0)=_);congr 1;rw[Bool.eq_iff_iff];simp
  refine bc (p:=y=0) (fun h0=> ?_) fun h0=> ?_
  ·rw[a_ h0];rw[cD (by simpa using h0)]at ht;exact Ly (oB (ju (h:=jI (by rfl) (hc))) (oB (nK (by rfl) (jb (by rfl) (by rfl) (WT)) (ht)) (by rfl))) (jb (by rfl) (by rfl) (Ox))
  ·rw[aS h0];rw[aH h0]at ht;exact Lx (oB (ju (h:=jI (by rfl) (hc))) (um (nK (by rfl) (jb (by rfl) (by rfl) (WT)) (ht)))) (by rfl)
structure Told(st:St)(tv:PV)(L:List Int):Prop where
 c:contents st tv=some (L.map .int)
 f:∀c,kI tv st (st++[c])=true
 a:∀M:List Int,(L++M).length<=1000->kZ st .Add tv (.list (M.map .int))=some (.list ((L++M).map .int))
theorem Co{a M:List PV}(h:(a++M).length<=1000):(gd (kM (a++M)) (some (a++M))).map PV.list=some (.list (a++M)):=ow (nG (aH (by unfold BX;exact lit ‹_›)) rfl)
theorem R0:Told [.lst [.int 0]] (.lst 0) [0]:=⟨rfl,fun ζ=>sC rfl,fun M h=>by
 exact iR bR <| Co (a:=[.int 0]) (by(simpa using h))⟩
theorem RZ(L:List Int):Told [.lst [.int 0]] (.list (L.map .int)) L:=⟨rfl,fun ζ=>rfl,fun M h=>by
 exact iR bR <| Co (by(simpa using h))⟩
theorem A8(L:List Int):∀v∈L.map PV.int,Fz v:=by
 intro v hv;refine kU hv fun i ζ z1=> ?_;clear hv;subst z1;exact qV i
theorem Hz(n:Nat)(rows tv:PV)(m:Nat)(L:List Int)(hL:L.length<=400)(ht:Told [.lst [.int 0]] tv L):
  i0 ((ev (n+9)).S (i7 "_law_apart")) (jj "_law_apart" 1) [("rows",rows),("told",tv),("row",.int (m:Int))] [.lst [.int 0]]=some (.next,([("rows",rows),("told",.list ((L++L.map (BY m)).map .int)),("row",.int (m:Int))]:i8),[.lst [.int 0]]):=by
 have jD:=kH (n:=n+6) (sc:=n_ Vz) (elt:=lg Vz) (target:=qw Vz) (ifs:=qx Vz) (fit:=kI tv [.lst [.int 0]]) [.lst [.int 0]] PV.int (fun x=>.int (BY m x)) (fun ζ=>true) [("row",.int (m:Int))] (fun x=>[("row",.int (m:Int)),("kept",.int x)]) (fun ζ ζ=>rfl) (fun ζ ζ ζ=>rfl) ht.f (fun ζ=>rfl)
  L [] _ (.inl rfl) rfl (fun x ζ M ζ=>⟨rfl,fun ζ=>Vc n m x _⟩) (by simp;exact lit ‹_›)
 have e:[]++(L.filter fun ζ=>true).map (fun x=>PV.int (BY m x))=(L.map (BY m)).map .int:=by(refine iR (dI.mpr (fun ζ ζ=>rfl) ..) ?_;refine iR (dD ..) ?_;refine iR (bX ..) ?_);rfl
 replace jD:=e▸jD
 have k_:=jB (A:=[.lst [.int 0]]) rfl ((L.map (BY m)).map .int) (A8 _);have S7:=ht.c;exact iT (iS (h:=jb (by rfl) (jT (d:=S7) (a:=jD) (h:=k_)) (ht.a (L.map (BY m)) (by simp;exact lit (ck ‹_› ‹_›))))) jq
theorem T3(n:Nat)(m:Nat)(x:Int)(st:St):(ev (n+2)).E (n_ Vj) (lg Vj) [("need",.int (m:Int)),("kept",.int x)] st=some (.int (x+(m:Int)),st):=by rfl
theorem GW(n:Nat)(rows tv:PV)(m:Nat)(L:List Int)(hL:L.length<=400)(ht:Told [.lst [.int 0]] tv L):
  i0 ((ev (n+5)).S (i7 "_law_sums")) (jj "_law_sums" 1) [("needs",rows),("sums",tv),("need",.int (m:Int))] [.lst [.int 0]]=some (.next,([("needs",rows),("sums",.list ((L++L.map (fun x=>x+(m:Int))).map .int)),("need",.int (m:Int))]:i8),[.lst [.int 0]]):=by
 have jD:=kH (n:=n+2) (sc:=n_ Vj) (elt:=lg Vj) (target:=qw Vj) (ifs:=qx Vj) (fit:=kI tv [.lst [.int 0]]) [.lst [.int 0]] PV.int (fun x=>.int (x+(m:Int))) (fun ζ=>true) [("need",.int (m:Int))] (fun x=>[("need",.int (m:Int)),("kept",.int x)]) (fun ζ ζ=>rfl) (fun ζ ζ ζ=>rfl) ht.f (fun ζ=>rfl)
  L [] _ (.inl rfl) rfl (fun x ζ M ζ=>⟨rfl,fun ζ=>T3 n m x _⟩) (by simp;exact lit ‹_›)
 have e:[]++(L.filter fun ζ=>true).map (fun x=>PV.int (x+(m:Int)))=(L.map (fun x=>x+(m:Int))).map .int:=by(refine iR (dI.mpr (fun ζ ζ=>rfl) ..) ?_;refine iR (dD ..) ?_;refine iR (bX ..) ?_);rfl
 replace jD:=e▸jD
 have k_:=jB (A:=[.lst [.int 0]]) rfl ((L.map (fun x=>x+(m:Int))).map .int) (A8 _);have S7:=ht.c;exact iT (iS (h:=jb (by rfl) (jT (d:=S7) (a:=jD) (h:=k_)) (ht.a (L.map (fun x=>x+(m:Int))) (by simp;exact lit (ck ‹_› ‹_›))))) jq
theorem Hv(f:Nat->Int->Int):∀(l:ah)(L:List Int),(l.foldl (fun told m=>told++told.map (f m)) L).length=2^l.length*L.length:=by
 intro L0
 induction L0 with
 |nil=>
  intro L;simp
 |cons m l ih=>
  intro L;exact iR (dB ..) <| iR (ih ..) <| iR (au ..) <| iR (aJ ..) <| iR (aB ..) <| iR (Nat.pow_succ ..) <| iR (Nat.mul_assoc ..) <| iR (iP ..) rfl
theorem vZ(st:St)(L:List Int):finish 0 st (.list (L.map .int))=some (.list (L.map .int),[]):=by
 refine(iR (zT (jh st 0 5) (fun s=>rfl) ..) ?_:((mW (jh st 0 5) (L.map PV.int)).map PV.list).map (fun v=>(v,([]:St)))=_);rfl
theorem apart(n:Nat)(ms:ah)(h0:ms≠[])(h:ms.length<=8):(ev (n+11)).C "_law_apart" [.list (ms.map fun(m:Nat)=>.int (m:Int))] [] []=some (.list ((HJ ms).map .int),[]):=by
 have loop:=oZ (B:=i0 ((ev (n+9)).S (i7 "_law_apart")) (jj "_law_apart" 1)) (sc:=i7 "_law_apart") (target:=rt (jL "_law_apart") 1) (fit:=fun ζ=>true)
  (fun j ρ st=>st=[.lst [.int 0]]/\((j=0/\ρ=([("rows",.list (ms.map fun(m:Nat)=>.int (m:Int))),("told",.lst 0)]:i8))\/∃k,ρ=([("rows",.list (ms.map fun(m:Nat)=>.int (m:Int))),("told",.list ((HJ (ms.take j)).map .int)),("row",k)]:i8)))
  (ms.map fun(m:Nat)=>PV.int (m:Int)) 0 _ [.lst [.int 0]] ⟨rfl,.inl ⟨rfl,rfl⟩⟩ (by
   intro j v ρ st hv hI;rw[aX]at hI;refine lP hI fun z2 k9=> ?_;clear hI;subst z2
   replace hv:=(bk)▸hv
   refine jw hv fun m hm z3=> ?_;subst z3;refine m9 (ay.mp hm) fun jS VO=> ?_;have e:HJ (ms.take (j+1))=HJ (ms.take j)++(HJ (ms.take j)).map (BY m):=by
    refine iR (bT jS) <| iR VO ?_
    unfold HJ;exact iR fj rfl
   have hl:(HJ (ms.take j)).length<=400:=by
    unfold HJ;refine iR (Hv ..) ?_;have:(ms.take j).length<=7:=by(refine iR bD ?_);(exact ao (Nat.min_le_left ..) (aM (aW jS ‹_›)))
    have:=Nat.pow_le_pow_right (show 0<2 by decide) this;simp only[aB,b8];exact lit (ao (aE (Nat.mul_one _)) this)
   refine iR (aX (j+1)) <| iR e ?_
   clear h hm hv jS VO e;rcases k9 with⟨rfl,rfl⟩|⟨k,rfl⟩
   ·exact .mk _ _ _ _ rfl (Hz n _ (.lst 0) m [0] (by decide) R0) (.inl rfl) rfl ⟨rfl,(.inr ⟨_,rfl⟩)⟩
   ·exact(.mk _ _ _ _ rfl (Hz n _ _ m _ hl (RZ _)) (.inl rfl) rfl ⟨rfl,(.inr ⟨_,rfl⟩)⟩))
 refine qL loop fun kC ji q1 z4 q3=> ?_;subst z4;rw[aJ,aX,dQ]at q3;clear h;rcases q3 with⟨q3,_⟩|⟨k,rfl⟩
 ·exact absurd (cV.mp q3) h0
 ·have k_:=vZ [.lst [.int 0]] (HJ ms);exact kN (k:=iT (iS (h:=by rfl)) (iT (rG (by rfl) (by rfl) (by rfl) (q1)) (lA (by rfl)))) (h:=k_)
theorem Z7(n:Nat)(ms:ah)(h0:ms≠[])(h:ms.length<=8):(ev (n+7)).C "_law_sums" [.list (ms.map fun(m:Nat)=>.int (m:Int))] [] []=some (.list ((HG ms).map .int),[]):=by
 have loop:=oZ (B:=i0 ((ev (n+5)).S (i7 "_law_sums")) (jj "_law_sums" 1)) (sc:=i7 "_law_sums") (target:=rt (jL "_law_sums") 1) (fit:=fun ζ=>true)
  (fun j ρ st=>st=[.lst [.int 0]]/\((j=0/\ρ=([("needs",.list (ms.map fun(m:Nat)=>.int (m:Int))),("sums",.lst 0)]:i8))\/∃k,ρ=([("needs",.list (ms.map fun(m:Nat)=>.int (m:Int))),("sums",.list ((HG (ms.take j)).map .int)),("need",k)]:i8)))
  (ms.map fun(m:Nat)=>PV.int (m:Int)) 0 _ [.lst [.int 0]] ⟨rfl,.inl ⟨rfl,rfl⟩⟩ (by
   intro j v ρ st hv hI;rw[aX]at hI;refine lP hI fun z5 k9=> ?_;clear hI;subst z5
   replace hv:=(bk)▸hv
   refine jw hv fun m hm z6=> ?_;subst z6;refine m9 (ay.mp hm) fun jS VO=> ?_;have e:HG (ms.take (j+1))=HG (ms.take j)++(HG (ms.take j)).map (fun x=>x+(m:Int)):=by
    refine iR (bT jS) <| iR VO ?_
    unfold HG;exact iR fj rfl
   have hl:(HG (ms.take j)).length<=400:=by
    unfold HG;refine iR (Hv (fun(d:Nat) x=>x+(d:Int)) ..) ?_;have:(ms.take j).length<=7:=by(refine iR bD ?_);(exact ao (Nat.min_le_left ..) (aM (aW jS ‹_›)))
    have:=Nat.pow_le_pow_right (show 0<2 by decide) this;simp only[aB,b8]
    lia
   refine iR (aX (j+1)) <| iR e ?_
   clear h hm hv jS VO e;rcases k9 with⟨rfl,rfl⟩|⟨k,rfl⟩
   ·exact .mk _ _ _ _ rfl (GW n _ (.lst 0) m [0] (by decide) R0) (.inl rfl) rfl ⟨rfl,(.inr ⟨_,rfl⟩)⟩
   ·exact(.mk _ _ _ _ rfl (GW n _ _ m _ hl (RZ _)) (.inl rfl) rfl ⟨rfl,(.inr ⟨_,rfl⟩)⟩))
 refine qL loop fun kC ji q1 z7 q3=> ?_;subst z7;rw[aJ,aX,dQ]at q3;clear h;rcases q3 with⟨q3,_⟩|⟨k,rfl⟩
 ·exact absurd (cV.mp q3) h0
 ·have k_:=vZ [.lst [.int 0]] (HG ms);exact kN (k:=iT (iS (h:=by rfl)) (iT (rG (by rfl) (by rfl) (by rfl) (q1)) (lA (by rfl)))) (h:=k_)
noncomputable abbrev jn (j:Nat):Expr:=rt (jL "law") j
noncomputable def zr (l:List PV):i8:=List.zip ["script","numbers","above","texts","rests","needs","first","order","sent","text","picked","ways","near","at","apart","sums","most","choice"] l
theorem GI{L:List PV}(h:i_ 0 L=true):Good [.lst L]:=by
 refine(iR (nU (m:=0) 1 L h) ?_:(i_ 1 L&&true)=true);rfl
theorem nP{α:Type}(l:List α)(g:α->PV)(h:∀x,Fz (g x)):∀v∈l.map g,Fz v:=by
 intro v hv;refine kU hv fun x ζ z7=> ?_;clear hv;subst z7;exact h x
theorem qB(st:St){α:Type}(l:List α)(f:α->Nat):lz st "sum" [.list (l.map fun x=>.int (f x:Int))]=some (.int ((l.map f).sum:Nat)):=by
 have e:(l.map fun x=>PV.int (f x:Int))=(l.map fun x=>(f x:Int)).map .int:=by(refine iR bX ?_);rfl
 refine iR e <| (?_:(xu _).map (fun ns=>PV.int ns.sum)=_)
 refine iR (xW ..) <| (?_:some (PV.int _)=_)
 congr 2
 induction l with
 |nil=>rfl
 |cons a l ih=>rw[aU,eB,ih (iR bX rfl),aU];rfl
theorem Cz(st:St)(i:Nat)(h:i<7):kZ st .Pow (.int 2) (.int (i:Int))=some (.int ((2^i:Nat):Int)):=by
 have:∀st,∀i:Nat,i<7->kZ st .Pow (.int 2) (.int (i:Int))=some (.int ((2^i:Nat):Int)):=by
  intro st i hi;have e:i=0\/i=1\/i=2\/i=3\/i=4\/i=5\/i=6:=by exact xE ‹_›
  (clear hi;rcases e with rfl|rfl|rfl|rfl|rfl|rfl|rfl)<;>rfl
 exact this st i h
theorem J1{k:Nat}(h:k∈List.range 7):k<7:=bH.mp h
theorem Mv(n:Nat)(i:Nat->Int)(z0 z2 z3 z4:PV):(ev (n+25)).E (i7 "law") (jn 4) (zr [z0,(.list (iW fun k=>.int (i k))),z2,z3,z4]) []=some (.list (iW fun k=>.int (dN (i k):Int)),[]):=by
 have e:(fun k=>PV.int (dN (i k):Int))=fun k=>PV.int (Int.fmod (Int.fdiv (i k) 324) 55296):=by
  funext k;exact aQ PV.int (mh (Int.fdiv (i k) 324) 55296 (by decide)).1
 refine iR e ?_;have jD:=kH (n:=n+24) (sc:=n_ (jn 4)) (elt:=lg (jn 4)) (target:=qw (jn 4)) (ifs:=qx (jn 4)) (fit:=fun ζ=>true) [] (fun k=>PV.int (i k)) (fun k=>PV.int (Int.fmod (Int.fdiv (i k) 324) 55296)) (fun ζ=>true) [] (fun k=>[("number",.int (i k))]) (fun ζ ζ=>rfl) (fun ζ ζ ζ=>rfl) (fun ζ=>rfl) (fun ζ=>rfl)
  (List.range 7) [] _ (.inl rfl) rfl (fun x ζ M ζ=>⟨rfl,fun ζ=>rfl⟩) (by decide)
 skip
 exact jT (a:=by exact jD) (h:=jB (A:=[]) rfl ((List.range 7).map fun k=>PV.int (Int.fmod (Int.fdiv (i k) 324) 55296)) (nP _ _ fun ζ=>qV _))
noncomputable def sJ (m:Nat):ah:=(List.range (7-m)).map (m+ ·)++List.range m
theorem AX(m:Nat)(h:m<7):(sJ m).Perm (List.range 7):=by
 have e:m=0\/m=1\/m=2\/m=3\/m=4\/m=5\/m=6:=by exact xE ‹_›
 (clear h;rcases e with rfl|rfl|rfl|rfl|rfl|rfl|rfl)<;>decide
theorem Mu(n:Nat)(m:Nat)(h:m<7)(z0 z1 z2 z3 z4 z5:PV):(ev (n+25)).E (i7 "law") (jn 6) (zr [z0,z1,z2,z3,z4,z5,(.int (m:Int))]) []=some (.list ((sJ m).map fun(k:Nat)=>.int (k:Int)),[]):=by
 have e:m=0\/m=1\/m=2\/m=3\/m=4\/m=5\/m=6:=by exact xE ‹_›
 (clear h;rcases e with rfl|rfl|rfl|rfl|rfl|rfl|rfl)<;>rfl
theorem Sf:∀l:List (ah),jO [] l=l.flatten
 |[]=>rfl
 |[a]=>by(simp[jO])
 |a::b::l=>by
  refine(iR (Sf (b::l)) ?_:a++[]++jO [] (b::l)=_);simp
theorem yi(st:St)(l:List (ah))(h1:l.flatten.length<=1000)(h2:l.length<=1000):methP st (.str []) "join" [.list (l.map .str)]=some (.str l.flatten,st):=by
 have e:(("join":Str)==("join":Str))=true:=by decide+kernel
 have k2:uo st [] [.list (l.map .str)]=some (.str l.flatten):=by
  refine(iX (q8 l) ?_:(qP (l.map .str)).bind (fun ps=>gd (kM (jO [] ps)&&ps.length<=1000&&true) (some (PV.str (jO [] ps))))=_);refine iR (Sf ..) <| nG ?_ rfl
  simp only[Bool.and_true,aG,bq];exact⟨aH (by unfold BX;exact lit ‹_›),h2⟩
 refine(iR e ?_:(se st _ "join" _).map _=_);exact ow k2
noncomputable abbrev Yn:Expr:=k6 (k6 (jn 7))
theorem EP(n:Nat)(c:Nat->Nat)(R:Nat->ah)(o:ah)(ho:∀k∈o,k<7)(hR:∀k,k<7->(R k).length<=100)(hl:o.length=7)(z0 z1 z2 z3 z6:PV):
  (ev (n+24)).E (i7 "law") (k6 (jn 7)) (zr [z0,z1,z2,z3,(.list ((iW R).map .str)),(.list (iW fun k=>.int (c k:Int))),z6,(.list (o.map fun(k:Nat)=>.int (k:Int)))]) []=some (.str (o.map fun k=>mw (c k)++R k).flatten,[]):=by
 have ZO:∀st,∀k:Nat,k<7->jk st (.list ((iW R).map .str)) (.int (k:Int))=some (.str (R k)):=fun st k hk=>by
  exact iR bX <| j3 st (fun k=>.str (R k)) k hk
 have jD:=kH (n:=n+22) (sc:=n_ Yn) (elt:=lg Yn) (target:=qw Yn) (ifs:=qx Yn) (fit:=fun ζ=>true) [] (fun(k:Nat)=>PV.int (k:Int)) (fun k=>PV.str (mw (c k)++R k)) (fun ζ=>true) [("rests",.list ((iW R).map .str)),("needs",.list (iW fun k=>.int (c k:Int)))] (fun k=>[("rests",.list ((iW R).map .str)),("needs",.list (iW fun k=>.int (c k:Int))),("k",.int (k:Int))]) (fun ζ ζ=>rfl) (fun ζ ζ ζ=>rfl) (fun ζ=>rfl) (fun ζ=>rfl)
  o [] _ (.inl rfl) rfl (fun k hk M hM=>⟨rfl,fun ζ=>by
   have v_:=ho k hk;have hn:=j3 [.lst M] (fun k=>.int (c k:Int)) k v_;have hr:=ZO [.lst M] k v_;have ha:=oJ [.lst M] (x:=mw (c k)) (y:=R k) (by refine(?_:4<=1000);decide) (by have:=hR k v_;exact lit ‹_›);exact jb (jg (g:=iY (by rfl) (ja (h:=hn)) jr) (h:=(frame rfl (Ht (n+11) (c k)):(ev (n+20)).C "_law_figures" [.int (c k:Int)] [] [.lst M]=some (.str (mw (c k)),[.lst M])))) (ja (h:=hr)) (ha)⟩) (by simp;exact GO ‹_›)
 rw[dI.mpr (fun ζ ζ=>rfl),dD,dD]at jD;have k_:=jB (A:=[]) rfl (o.map fun k=>PV.str (mw (c k)++R k)) (nP _ _ fun ζ=>LJ _);rw[(by(refine iR bX ?_);rfl:(o.map fun k=>PV.str (mw (c k)++R k))=(o.map fun k=>mw (c k)++R k).map .str)]at jD k_;have Ld:((o.map fun k=>mw (c k)++R k).flatten).length<=1000:=by
  have:∀l:ah,(∀k∈l,k<7)->((l.map fun k=>mw (c k)++R k).flatten).length<=104*l.length:=by
   intro l hl
   induction l with
   |nil=>simp
   |cons a l ih=>
    have h1:=hR a (hl a (by simp));have h2:=ih fun k hk=>hl k (aq _ hk);simp only[aU,gZ,au,aB,(show(mw (c a)).length=4 from rfl)];exact ao (ck (bE h1 4) h2) (aE (eE ..))
  have:=this o ho;exact lit (ao this (bS 104 (aE hl)))
 exact jo (g:=iY (by rfl) (jT (a:=by exact jD) (h:=k_)) jr) (h:=yi [] (o.map fun k=>mw (c k)++R k) Ld (by simp;exact GO ‹_›))
theorem DK(L:List Bool):below 0 (.list (L.map .bool))=true:=LO 0 L
noncomputable def Aj (W:Nat->List Int) (r:Nat->Nat) (i k:Nat):Bool:=decide (((mV (W i) (W k)).length:Int)<=(r k:Int))
theorem Fc(n:Nat)(i:Nat->Int)(W:Nat->List Int)(hW:∀k,k<7->(W k).length<=20)(j:Nat)(hj:j<7)(M:List PV)(hM:i_ 0 M=true):
  (ev (n+24)).E (n_ (jn 10)) (lg (jn 10)) [("numbers",(.list (iW fun k=>.int (i k)))),("ways",(.list (iW fun k=>.iset (W k)))),("i",.int (j:Int))] [.lst M]=some (.list ((iW fun k=>Aj W (fun k=>rN (i k)) j k).map .bool),[.lst M]):=by
 have hg:=GI hM;have jD:=kH (n:=n+23) (sc:=n_ (lg (jn 10))) (elt:=lg (lg (jn 10))) (target:=qw (lg (jn 10))) (ifs:=qx (lg (jn 10))) (fit:=fun ζ=>true) [.lst M] (fun(k:Nat)=>PV.int (k:Int)) (fun k=>PV.bool (Aj W (fun k=>rN (i k)) j k)) (fun ζ=>true) [("numbers",(.list (iW fun k=>.int (i k)))),("ways",(.list (iW fun k=>.iset (W k)))),("i",.int (j:Int))] (fun k=>[("numbers",(.list (iW fun k=>.int (i k)))),("ways",(.list (iW fun k=>.iset (W k)))),("i",.int (j:Int)),("k",.int (k:Int))]) (fun ζ ζ=>rfl) (fun ζ ζ ζ=>rfl) (fun ζ=>rfl) (fun ζ=>rfl)
  (List.range 7) [] _ (.inl rfl) rfl (fun k hk L hL=>⟨rfl,fun ζ=>by
   have v_:=J1 hk;have hn:=fun st=>j3 st (fun k=>.int (i k)) k v_;have SY:=fun st=>j3 st (fun k=>.iset (W k)) k v_;have hx:∀st,kZ st .BitXor (.iset (W j)) (.iset (W k))=some (.iset (mV (W j) (W k))):=fun st=>by
    refine(?_:gd (decide ((W j).length<=20)&&decide ((W k).length<=20)) (some (PV.iset (mV (W j) (W k))))=_);rw[RV (by(simp[hW j hj,hW k v_]))]
   have hc:∀st,jF st .LtE (.int ((mV (W j) (W k)).length:Int)) (.int (Int.fmod (Int.fdiv (i k) 6) 3))=some (Aj W (fun k=>rN (i k)) j k):=fun st=>by
    refine(?_:some (decide (_<=Int.fmod (Int.fdiv (i k) 6) 3))=some (decide (_<=((rN (i k):Nat):Int))));congr 2;have:=(mh (Int.fdiv (i k) 6) 3 (by decide)).1;unfold rN
    replace this:=(show((3:Nat):Int)=3 from rfl)▸this
    exact iR this rfl
   exact xm (by rfl) (jV (g:=iY (by rfl) (jb (ja (h:=(fun st=>j3 st (fun k=>.iset (W k)) j hj) _)) (ja (h:=SY _)) (hx _)) jr) (h:=by rfl)) (jI (jb (jb (ja (h:=hn _)) (by rfl) (by rfl)) (by rfl) (by rfl)) (hc _))⟩) (by decide)
 skip
 have e:(iW fun k=>Aj W (fun k=>rN (i k)) j k).map PV.bool=(List.range 7).map fun k=>PV.bool (Aj W (fun k=>rN (i k)) j k):=by unfold iW;(refine iR bX ?_);rfl
 exact iR e <| jT (a:=by exact jD) (h:=jB hg ((List.range 7).map fun k=>PV.bool (Aj W (fun k=>rN (i k)) j k)) (nP _ _ fun ζ=>Hi _))
theorem PN(n:Nat)(i:Nat->Int)(W:Nat->List Int)(hW:∀k,k<7->(W k).length<=20)(z0 z2 z3 z4 z5 z6 z7 z8 z9 kW:PV):
  (ev (n+25)).E (i7 "law") (jn 10) (zr [z0,(.list (iW fun k=>.int (i k))),z2,z3,z4,z5,z6,z7,z8,z9,kW,(.list (iW fun k=>.iset (W k)))]) []=some ((.list (iW fun j=>.list ((iW fun k=>Aj W (fun k=>rN (i k)) j k).map .bool))),[]):=by
 have jD:=kH (n:=n+24) (sc:=n_ (jn 10)) (elt:=lg (jn 10)) (target:=qw (jn 10)) (ifs:=qx (jn 10)) (fit:=fun ζ=>true) [] (fun(k:Nat)=>PV.int (k:Int)) (fun j=>.list ((iW fun k=>Aj W (fun k=>rN (i k)) j k).map .bool)) (fun ζ=>true) [("numbers",(.list (iW fun k=>.int (i k)))),("ways",(.list (iW fun k=>.iset (W k))))] (fun k=>[("numbers",(.list (iW fun k=>.int (i k)))),("ways",(.list (iW fun k=>.iset (W k)))),("i",.int (k:Int))]) (fun ζ ζ=>rfl) (fun ζ ζ ζ=>rfl) (fun ζ=>rfl) (fun ζ=>DK _)
  (List.range 7) [] _ (.inl rfl) rfl (fun j hj L hL=>⟨rfl,fun ζ=>Fc n i W hW j (J1 hj) L hL⟩) (by decide)
 exact jT (a:=by exact jD) (h:=jB (A:=[]) rfl (iW fun j=>PV.list ((iW fun k=>Aj W (fun k=>rN (i k)) j k).map .bool)) (nP _ _ fun ζ=>NR _))
noncomputable def BU (I:jc) (X:Nat->ah) (S:List (Nat×Nat)) (j:Nat):Nat:=((S.filter fun x=>P (I.t x.2)==X j).map (·.1)).sum
theorem Oh(I:jc)(n:Nat)(X:Nat->ah)(S:List (Nat×Nat))(hS:S.length<=100)(j:Nat)(hj:j<7)(M:List PV)(hM:i_ 0 M=true):
  (ev (n+24)).E (n_ (jn 11)) (lg (jn 11)) [("texts",(.list (iW fun k=>.str (X k)))),("sent",.list (S.map I.pvS)),("i",.int (j:Int))] [.lst M]=some (.int (BU I X S j:Int),[.lst M]):=by
 have hg:=GI hM;have jD:=kH (n:=n+22) (sc:=n_ (k6 (lg (jn 11)))) (elt:=lg (k6 (lg (jn 11)))) (target:=qw (k6 (lg (jn 11)))) (ifs:=qx (k6 (lg (jn 11)))) (fit:=fun ζ=>true) [.lst M] I.pvS (fun x=>PV.int (x.1:Int)) (fun x=>P (I.t x.2)==X j) [("texts",(.list (iW fun k=>.str (X k)))),("i",.int (j:Int))] (fun x=>[("texts",(.list (iW fun k=>.str (X k)))),("i",.int (j:Int)),("much",.int (x.1:Int)),("top",.str (P (I.t x.2))),("place",.str (P (I.w x.2))),("reach",.int (I.r x.2:Int))]) (fun ζ ζ=>rfl) (fun ζ ζ ζ=>rfl) (fun ζ=>rfl) (fun ζ=>rfl)
  S [] _ (.inl rfl) rfl (fun x hx L hL=>⟨by
   have hc:∀st,jF st .Eq (.str (P (I.t x.2))) (.str (X j))=some (P (I.t x.2)==X j):=fun st=>rfl;exact vJ (ju (h:=jI (ja (h:=(fun st=>j3 st (fun k=>.str (X k)) j hj) _)) (hc _))),fun ζ=>rfl⟩) (by simp;exact lit ‹_›)
 have k_:=jB hg ((S.filter fun x=>P (I.t x.2)==X j).map fun x=>PV.int (x.1:Int)) (nP _ _ fun ζ=>qV _);have B4:=qB [.lst M] (S.filter fun x=>P (I.t x.2)==X j) (·.1);exact jV (g:=iY (by rfl) (jT (a:=by exact jD) (h:=k_)) jr) (h:=B4)
theorem Xc(I:jc)(n:Nat)(X:Nat->ah)(S:List (Nat×Nat))(hS:S.length<=100)(z0 z1 z2 z4 z5 z6 z7 z9 kW lF mH:PV):
  (ev (n+25)).E (i7 "law") (jn 11) (zr [z0,z1,z2,(.list (iW fun k=>.str (X k))),z4,z5,z6,z7,(.list (S.map I.pvS)),z9,kW,lF,mH]) []=some (.list (iW fun j=>.int (BU I X S j:Int)),[]):=by
 have jD:=kH (n:=n+24) (sc:=n_ (jn 11)) (elt:=lg (jn 11)) (target:=qw (jn 11)) (ifs:=qx (jn 11)) (fit:=fun ζ=>true) [] (fun(k:Nat)=>PV.int (k:Int)) (fun j=>.int (BU I X S j:Int)) (fun ζ=>true) [("texts",(.list (iW fun k=>.str (X k)))),("sent",.list (S.map I.pvS))] (fun k=>[("texts",(.list (iW fun k=>.str (X k)))),("sent",.list (S.map I.pvS)),("i",.int (k:Int))]) (fun ζ ζ=>rfl) (fun ζ ζ ζ=>rfl) (fun ζ=>rfl) (fun ζ=>rfl)
  (List.range 7) [] _ (.inl rfl) rfl (fun j hj L hL=>⟨rfl,fun ζ=>Oh I n X S hS j (J1 hj) L hL⟩) (by decide)
 exact jT (a:=by exact jD) (h:=jB (A:=[]) rfl (iW fun j=>PV.int (BU I X S j:Int)) (nP _ _ fun ζ=>qV _))
noncomputable def oO (nr:Nat->Nat->Bool) (k:Nat):Nat:=(((List.range 7).filter fun i=>nr i k).map (2^ ·)).sum
theorem CO(st:St)(nr:Nat->Nat->Bool)(j k:Nat)(hj:j<7)(hk:k<7):jk st (.list (iW fun i=>.list ((iW fun k=>nr i k).map .bool))) (.int (j:Int))=some (.list ((iW fun k=>nr j k).map .bool))/\jk st (.list ((iW fun k=>nr j k).map .bool)) (.int (k:Int))=some (.bool (nr j k)):=⟨j3 st (fun i=>.list ((iW fun k=>nr i k).map .bool)) j hj,iR bX (j3 st (fun k=>.bool (nr j k)) k hk)⟩
theorem Fj(n:Nat)(nr:Nat->Nat->Bool)(k:Nat)(hk:k<7)(M:List PV)(hM:i_ 0 M=true):
  (ev (n+23)).E (n_ (k6 (jn 12))) (lg (k6 (jn 12))) [("near",(.list (iW fun i=>.list ((iW fun k=>nr i k).map .bool)))),("k",.int (k:Int))] [.lst M]=some (.int (oO nr k:Int),[.lst M]):=by
 have hg:=GI hM;have jD:=kH (n:=n+21) (sc:=n_ (k6 (lg (k6 (jn 12))))) (elt:=lg (k6 (lg (k6 (jn 12))))) (target:=qw (k6 (lg (k6 (jn 12))))) (ifs:=qx (k6 (lg (k6 (jn 12))))) (fit:=fun ζ=>true) [.lst M] (fun(k:Nat)=>PV.int (k:Int)) (fun i=>PV.int ((2^i:Nat):Int)) (fun i=>nr i k) [("near",(.list (iW fun i=>.list ((iW fun k=>nr i k).map .bool)))),("k",.int (k:Int))] (fun i=>[("near",(.list (iW fun i=>.list ((iW fun k=>nr i k).map .bool)))),("k",.int (k:Int)),("i",.int (i:Int))]) (fun ζ ζ=>rfl) (fun ζ ζ ζ=>rfl) (fun ζ=>rfl) (fun ζ=>rfl)
  (List.range 7) [] _ (.inl rfl) rfl (fun i hi L hL=>⟨by
   have hw:=fun st=>CO st nr i k (J1 hi) hk;exact vJ (nK (by rfl) (ja (c:=ja (h:=(hw _).1)) (h:=(hw _).2)) (by rfl)),fun ζ=>by
   exact jb (by rfl) (by rfl) ((fun st=>Cz st i (J1 hi)) _)⟩) (by decide)
 have k_:=jB hg (((List.range 7).filter fun i=>nr i k).map fun i=>PV.int ((2^i:Nat):Int)) (nP _ _ fun ζ=>qV _);exact jV (g:=iY (by rfl) (jT (a:=by exact jD) (h:=k_)) jr) (h:=qB [.lst M] ((List.range 7).filter fun i=>nr i k) (2^ ·))
theorem Mx(n:Nat)(nr:Nat->Nat->Bool)(z0 z1 z2 z3 z4 z5 z6 z7 z8 z9 kW lF nh:PV):
  (ev (n+24)).E (i7 "law") (k6 (jn 12)) (zr [z0,z1,z2,z3,z4,z5,z6,z7,z8,z9,kW,lF,(.list (iW fun i=>.list ((iW fun k=>nr i k).map .bool))),nh]) []=some (.list ((iW (oO nr)).map fun(m:Nat)=>.int (m:Int)),[]):=by
 have jD:=kH (n:=n+23) (sc:=n_ (k6 (jn 12))) (elt:=lg (k6 (jn 12))) (target:=qw (k6 (jn 12))) (ifs:=qx (k6 (jn 12))) (fit:=fun ζ=>true) [] (fun(k:Nat)=>PV.int (k:Int)) (fun k=>.int (oO nr k:Int)) (fun ζ=>true) [("near",(.list (iW fun i=>.list ((iW fun k=>nr i k).map .bool))))] (fun k=>[("near",(.list (iW fun i=>.list ((iW fun k=>nr i k).map .bool)))),("k",.int (k:Int))]) (fun ζ ζ=>rfl) (fun ζ ζ ζ=>rfl) (fun ζ=>rfl) (fun ζ=>rfl)
  (List.range 7) [] _ (.inl rfl) rfl (fun j hj L hL=>⟨rfl,fun ζ=>Fj n nr j (J1 hj) L hL⟩) (by decide)
 skip
 have e:((iW (oO nr)).map fun(m:Nat)=>PV.int (m:Int))=iW fun j=>PV.int (oO nr j:Int):=by unfold iW;(refine iR bX ?_);rfl
 exact iR e <| jT (a:=by exact jD) (h:=jB (A:=[]) rfl (iW fun j=>PV.int (oO nr j:Int)) (nP _ _ fun ζ=>qV _))
theorem wQ(st:St)(L:List Int)(c:Nat)(h:c<L.length):jk st (.list (L.map .int)) (.int (c:Int))=some (.int (L.getD c 0)):=by
 refine(?_:idx (L.map PV.int) (c:Int)=_);unfold idx;refine iR (a_ (bI c) ..) <| iR (b7 ..) <| iR (bk ..) ?_
 refine iR (bB ..) ?_;refine iR (aO h ..) ?_;rfl
noncomputable def sM (ap su:List Int):List Int:=((List.range 128).filter fun c=>decide (0<=ap.getD c 0)).map fun c=>su.getD c 0
theorem Mw(n:Nat)(ap su:List Int)(ha:ap.length=128)(hs:su.length=128)(z0 z1 z2 z3 z4 z5 z6 z7 z8 z9 kW lF mH nh:PV):
  (ev (n+24)).E (i7 "law") (k6 (jn 14)) (zr [z0,z1,z2,z3,z4,z5,z6,z7,z8,z9,kW,lF,mH,nh,(.list (ap.map .int)),(.list (su.map .int))]) []=some (.list ((sM ap su).map .int),[]):=by
 have jD:=kH (n:=n+23) (sc:=n_ (k6 (jn 14))) (elt:=lg (k6 (jn 14))) (target:=qw (k6 (jn 14))) (ifs:=qx (k6 (jn 14))) (fit:=fun ζ=>true) [] (fun(k:Nat)=>PV.int (k:Int)) (fun c=>.int (su.getD c 0)) (fun c=>decide (0<=ap.getD c 0)) [("apart",.list (ap.map .int)),("sums",.list (su.map .int))] (fun k=>[("apart",.list (ap.map .int)),("sums",.list (su.map .int)),("c",.int (k:Int))]) (fun ζ ζ=>rfl) (fun ζ ζ ζ=>rfl) (fun ζ=>rfl) (fun ζ=>rfl)
  (List.range 128) [] _ (.inl rfl) rfl (fun c hc L hL=>⟨by
   have hg:=fun st=>wQ st ap c (iR ha <| bH.mp hc);exact vJ (ju (c:=ja (h:=hg _)) (h:=jI (by rfl) ((fun st=>rfl:∀st,jF st .GtE (.int (ap.getD c 0)) (.int 0)=some (decide (0<=ap.getD c 0))) _))),fun ζ=>by
   exact ja (h:=(fun st=>wQ st su c (by(refine iR hs ?_);exact bH.mp hc)) _)⟩) (by decide)
 skip
 replace jD:=(fy (by unfold sM;(refine iR bX ?_);rfl:(sM ap su).map PV.int=((List.range 128).filter fun c=>decide (0<=ap.getD c 0)).map fun c=>PV.int (su.getD c 0)))▸jD
 exact jT (a:=by exact jD) (h:=jB (A:=[]) rfl ((sM ap su).map PV.int) (A8 _))
theorem Nn(st:St):∀(l:List Int)(a:Int),∃M,yO (.int a) (l.map .int)=some (.int M)/\M∈a::l/\∀x∈a::l,x<=M:=by
 intro L0
 induction L0 with
 |nil=>
  intro a;exact⟨a,rfl,by simp,by simp⟩
 |cons b l ih=>
  intro a;have e:yO (.int a) ((b::l).map .int)=if a<b then yO (.int b) (l.map .int)else yO (.int a) (l.map .int):=by
   refine(bc (p:=a<b) (fun h=> ?_) fun h=> ?_:yO (cond (decide (a<b)) (.int b) (.int a)) (l.map .int)=_)
   ·exact iR (aH h) <| iR (a_ h) rfl
   ·exact iR (cD h) <| iR (aS h) rfl
  refine iR e <| bc (p:=a<b) (fun h=> ?_) fun h=> ?_
  ·refine iR (a_ h) <| uO (ih b) fun M h1 h2 h3=>⟨M,h1,aq _ h2,fun x hx=> ?_⟩
   clear e;rcases aV.mp hx with rfl|hx
   ·have:=h3 b (by simp);lia
   ·exact h3 x hx
  ·refine iR (aS h) <| uO (ih a) fun M h1 h2 h3=>⟨M,h1,?_,fun x hx=> ?_⟩
   ·rcases aV.mp h2 with h2|h2
    ·refine iR h2 ?_;simp
    ·exact aq _ (aq _ h2)
   ·rcases aV.mp hx with rfl|hx
    ·exact h3 _ (by simp)
    ·rcases aV.mp hx with rfl|hx
     ·have:=h3 a (by simp);lia
     ·exact h3 x (aq _ hx)
theorem Nm(st:St)(l:List Int)(M:Int)(h1:M∈l)(h2:∀x∈l,x<=M):lz st "max" [.list (l.map .int)]=some (.int M):=by
 cases l with
 |nil=>cases h1
 |cons a l=>
  refine uO (Nn st l a) fun N e1 e2 e3=> ?_;have:N=M:=by have:=h2 N e2;have:=e3 M h1;lia
  clear h1 h2 e2 e3;subst this;exact e1
noncomputable def RW (X:Nat->ah) (pl:List (ah)):Nat:=(((List.range 7).filter fun k=>pl.contains (X k)).map (2^ ·)).sum
theorem Ip(n:Nat)(X:Nat->ah)(pl:List (ah))(z0 z1 z2 z4 z5 z6 z7 z8 z9 lF mH nh oU qb sX:PV):
  (ev (n+25)).E (i7 "law") (jn 15) (zr [z0,z1,z2,(.list (iW fun k=>.str (X k))),z4,z5,z6,z7,z8,z9,(.list (pl.map .str)),lF,mH,nh,oU,qb,sX]) []=some (.int (RW X pl:Int),[]):=by
 have jD:=kH (n:=n+23) (sc:=n_ (k6 (jn 15))) (elt:=lg (k6 (jn 15))) (target:=qw (k6 (jn 15))) (ifs:=qx (k6 (jn 15))) (fit:=fun ζ=>true) [] (fun(k:Nat)=>PV.int (k:Int)) (fun i=>PV.int ((2^i:Nat):Int)) (fun k=>pl.contains (X k)) [("texts",(.list (iW fun k=>.str (X k)))),("picked",.list (pl.map .str))] (fun k=>[("texts",(.list (iW fun k=>.str (X k)))),("picked",.list (pl.map .str)),("k",.int (k:Int))]) (fun ζ ζ=>rfl) (fun ζ ζ ζ=>rfl) (fun ζ=>rfl) (fun ζ=>rfl)
  (List.range 7) [] _ (.inl rfl) rfl (fun i hi L hL=>⟨by
   have hw:=fun st=>j3 st (fun k=>.str (X k)) i (J1 hi);have DZ:∀st,jF st .In (.str (X i)) (.list (pl.map .str))=some (pl.contains (X i)):=fun st=>by
    have e:jF st .In (.str (X i)) (.list (pl.map .str))=(qP (pl.map .str)).map (·.contains (X i)):=by
     (clear hL;rcases X i with _|⟨a,_|⟨b,l⟩⟩)<;>rfl
    exact iR (e ..) <| iR (q8 ..) rfl
   exact vJ (ju (c:=ja (h:=hw _)) (h:=jI (by rfl) (DZ _))),fun ζ=>by
   exact jb (by rfl) (by rfl) ((fun st=>Cz st i (J1 hi)) _)⟩) (by decide)
 skip
 have k_:=jB (A:=[]) rfl (((List.range 7).filter fun k=>pl.contains (X k)).map fun i=>PV.int ((2^i:Nat):Int)) (nP _ _ fun ζ=>qV _);exact jV (g:=iY (by rfl) (jT (a:=by exact jD) (h:=k_)) jr) (h:=qB [] ((List.range 7).filter fun k=>pl.contains (X k)) (2^ ·))
theorem JX(st:St)(L:List Bool):lz st "all" [.list (L.map .bool)]=some (.bool (L.all id)):=by
 refine(iR (vO ..) ?_:(uh (L.map .bool)).map (fun bs=>PV.bool (bs.all id))=_);rfl
noncomputable abbrev Td:Expr:=k6 (Gk (rt (jL "law") 16) 0)
noncomputable abbrev YO:Expr:=k6 (lg (lg Td))
noncomputable def uV (nr:Nat->Nat->Bool) (at':Nat->Nat) (k:Nat):Nat:=(((List.range 7).filter fun i=>nr i k).map at').sum
theorem JW(n:Nat)(nr:Nat->Nat->Bool)(at' c:Nat->Nat)(k:Nat)(hk:k<7)(M:List PV)(hM:i_ 0 M=true):
  (ev (n+22)).E (n_ Td) (lg Td) [("needs",(.list (iW fun k=>.int (c k:Int)))),("near",(.list (iW fun i=>.list ((iW fun k=>nr i k).map .bool)))),("at",(.list (iW fun j=>.int (at' j:Int)))),("k",.int (k:Int))] [.lst M]=some (.bool (decide ((c k:Int)<=(uV nr at' k:Int))),[.lst M]):=by
 have hg:=GI hM;have jD:=kH (n:=n+19) (sc:=n_ YO) (elt:=lg YO) (target:=qw YO) (ifs:=qx YO) (fit:=fun ζ=>true) [.lst M] (fun(k:Nat)=>PV.int (k:Int)) (fun i=>PV.int (at' i:Int)) (fun i=>nr i k) [("near",(.list (iW fun i=>.list ((iW fun k=>nr i k).map .bool)))),("at",(.list (iW fun j=>.int (at' j:Int)))),("k",.int (k:Int))] (fun i=>[("near",(.list (iW fun i=>.list ((iW fun k=>nr i k).map .bool)))),("at",(.list (iW fun j=>.int (at' j:Int)))),("k",.int (k:Int)),("i",.int (i:Int))]) (fun ζ ζ=>rfl) (fun ζ ζ ζ=>rfl) (fun ζ=>rfl) (fun ζ=>rfl)
  (List.range 7) [] _ (.inl rfl) rfl (fun i hi L hL=>⟨by
   have hw:=fun st=>CO st nr i k (J1 hi) hk;exact vJ (nK (by rfl) (ja (c:=ja (h:=(hw _).1)) (h:=(hw _).2)) (by rfl)),fun ζ=>by
   exact ja (h:=(fun st=>j3 st (fun j=>.int (at' j:Int)) i (J1 hi)) _)⟩) (by decide)
 have B4:=qB [.lst M] ((List.range 7).filter fun i=>nr i k) at';have hn:=fun st=>j3 st (fun k=>.int (c k:Int)) k hk;have hc:∀st,jF st .GtE (.int (uV nr at' k:Int)) (.int (c k:Int))=some (decide ((c k:Int)<=(uV nr at' k:Int))):=fun st=>rfl;exact xm (by rfl) (jV (g:=iY (by rfl) (jT (a:=by exact jD) (h:=jB hg (((List.range 7).filter fun i=>nr i k).map fun i=>PV.int (at' i:Int)) (nP _ _ fun ζ=>qV _))) jr) (h:=by exact B4)) (jI (ja (h:=hn _)) (hc _))
theorem Ub(n:Nat)(nr:Nat->Nat->Bool)(at' c:Nat->Nat)(h:∀k,k<7->c k<=uV nr at' k)(z0 z1 z2 z3 z4 z6 z7 z8 z9 kW lF oU qb sX vF:PV):
  (ev (n+24)).E (i7 "law") (Gk (rt (jL "law") 16) 0) (zr [z0,z1,z2,z3,z4,(.list (iW fun k=>.int (c k:Int))),z6,z7,z8,z9,kW,lF,(.list (iW fun i=>.list ((iW fun k=>nr i k).map .bool))),(.list (iW fun j=>.int (at' j:Int))),oU,qb,sX,vF]) []=some (.bool true,[]):=by
 have jD:=kH (n:=n+22) (sc:=n_ Td) (elt:=lg Td) (target:=qw Td) (ifs:=qx Td) (fit:=fun ζ=>true) [] (fun(k:Nat)=>PV.int (k:Int)) (fun k=>.bool (decide ((c k:Int)<=(uV nr at' k:Int)))) (fun ζ=>true) [("needs",(.list (iW fun k=>.int (c k:Int)))),("near",(.list (iW fun i=>.list ((iW fun k=>nr i k).map .bool)))),("at",(.list (iW fun j=>.int (at' j:Int))))] (fun k=>[("needs",(.list (iW fun k=>.int (c k:Int)))),("near",(.list (iW fun i=>.list ((iW fun k=>nr i k).map .bool)))),("at",(.list (iW fun j=>.int (at' j:Int)))),("k",.int (k:Int))]) (fun ζ ζ=>rfl) (fun ζ ζ ζ=>rfl) (fun ζ=>rfl) (fun ζ=>rfl)
  (List.range 7) [] _ (.inl rfl) rfl (fun k hk L hL=>⟨rfl,fun ζ=>JW n nr at' c k (J1 hk) L hL⟩) (by decide)
 skip
 have k_:=jB (A:=[]) rfl (iW fun k=>PV.bool (decide ((c k:Int)<=(uV nr at' k:Int)))) (nP _ _ fun ζ=>Hi _);have pT:lz [] "all" [.list (iW fun k=>PV.bool (decide ((c k:Int)<=(uV nr at' k:Int))))]=some (.bool true):=by
  have e:(iW fun k=>PV.bool (decide ((c k:Int)<=(uV nr at' k:Int))))=(iW fun k=>decide ((c k:Int)<=(uV nr at' k:Int))).map .bool:=by(refine iR bX ?_);rfl
  refine iR (e ..) <| iR (JX ..) ?_
  congr 2;rw[bZ];intro b hb;refine kU hb fun k hk BV=> ?_;clear e hb;subst BV;have:=h k (J1 hk);exact aH (d_.mpr ‹_›)
 exact jV (g:=iY (by rfl) (jT (a:=by exact jD) (h:=k_)) jr) (h:=pT)
noncomputable abbrev Yg:Expr:=k6 (lg (lg (Gk (rt (jL "law") 16) 1)))
theorem Xb(I:jc)(n:Nat)(S:List (Nat×Nat))(hS:S.length<=100)(at':Nat->Nat)(su:List Int)(ch:Nat)(VU:ch<su.length)(M:Nat)(h1:(S.map (·.1)).sum=M)(h2:((List.range 7).map at').sum=M)(h3:su.getD ch 0=(M:Int))(z0 z1 z2 z3 z4 z5 z6 z7 z9 kW lF mH oU:PV):
  (ev (n+23)).E (i7 "law") (Gk (rt (jL "law") 16) 1) (zr [z0,z1,z2,z3,z4,z5,z6,z7,(.list (S.map I.pvS)),z9,kW,lF,mH,(.list (iW fun j=>.int (at' j:Int))),oU,(.list (su.map .int)),(.int (M:Int)),(.int (ch:Int))]) []=some (.bool true,[.lst [.int (M:Int),.int (M:Int),.int (M:Int)],.lst [.int (M:Int),.int (M:Int),.int (M:Int)]]):=by
 have jD:=kH (n:=n+19) (sc:=n_ Yg) (elt:=lg Yg) (target:=qw Yg) (ifs:=qx Yg) (fit:=fun ζ=>true) [] I.pvS (fun x=>PV.int (x.1:Int)) (fun ζ=>true) [] (fun x=>[("row",I.pvS x)]) (fun ζ ζ=>rfl) (fun ζ ζ ζ=>rfl) (fun ζ=>rfl) (fun ζ=>rfl)
  S [] _ (.inl rfl) rfl (fun x hx L hL=>⟨rfl,fun ζ=>rfl⟩) (by simp;exact lit ‹_›)
 rw[dI.mpr (fun ζ ζ=>rfl),dD,dD]at jD;have k_:=jB (A:=[]) rfl (S.map fun x=>PV.int (x.1:Int)) (nP _ _ fun ζ=>qV _);have sH:=qB [] S (·.1);rw[h1]at sH;have sZ:=qB [] (List.range 7) at';rw[h2]at sZ;have Vo:=wQ [] su ch VU;rw[h3]at Vo;have hc:jF [.lst [.int (M:Int),.int (M:Int),.int (M:Int)],.lst [.int (M:Int),.int (M:Int),.int (M:Int)]] .Eq (.lst 0) (.lst 1)=some true:=by
  refine(?_:some (((M:Int)==(M:Int))&&(((M:Int)==(M:Int))&&(((M:Int)==(M:Int))&&true)))=_);rw[cO];rfl
 exact xm (by rfl) (Uo (iY (by rfl) (jV (g:=iY (by rfl) (jT (a:=by exact jD) (h:=by exact k_)) jr) (h:=sH)) (iY (by rfl) (jV (h:=sZ)) (iY (by rfl) (ja (h:=Vo)) jr))) (by rfl)) (jI (show(ev (n+22)).E (i7 "law") (k6 (Gk (rt (jL "law") 16) 1)) (zr [z0,z1,z2,z3,z4,z5,z6,z7,(.list (S.map I.pvS)),z9,kW,lF,mH,(.list (iW fun j=>.int (at' j:Int))),oU,(.list (su.map .int)),(.int (M:Int)),(.int (ch:Int))]) [.lst [.int (M:Int),.int (M:Int),.int (M:Int)]]=some (.lst 1,[.lst [.int (M:Int),.int (M:Int),.int (M:Int)],.lst [.int (M:Int),.int (M:Int),.int (M:Int)]])from by rfl) hc)
theorem My(n:Nat)(ap:List Int)(ch:Nat)(VU:ch<ap.length)(h:0<=ap.getD ch 0)(st:St)(z0 z1 z2 z3 z4 z5 z6 z7 z8 z9 kW lF mH nh qb sX:PV):
  (ev (n+22)).E (i7 "law") (Gk (rt (jL "law") 16) 2) (zr [z0,z1,z2,z3,z4,z5,z6,z7,z8,z9,kW,lF,mH,nh,(.list (ap.map .int)),qb,sX,(.int (ch:Int))]) st=some (.bool true,st):=by
 have hc:jF st .GtE (.int (ap.getD ch 0)) (.int 0)=some true:=by
  refine(iR (aH h) ?_:some (decide (0<=ap.getD ch 0))=_);exact rfl
 exact xm (by rfl) (ja (h:=wQ st ap ch VU)) (jI (by rfl) (hc))
noncomputable abbrev Ye:Expr:=k6 (k6 (Gk (rt (jL "law") 16) 3))
theorem PM(n:Nat)(R:Nat->ah)(o:ah)(ho:∀k∈o,k<7)(hR:∀k,k<7->(R k).length<=100)(hl:o.length=7)(st:St)(mq:i_ 2 []=true)(c0 c1:j8)(h0:jK 2 c0=true)(h1:jK 2 c1=true)(T:ah)(hT:T=(o.map fun k=>mw 0++R k).flatten)(z0 z1 z2 z3 z5 z6 z8 kW lF mH nh oU qb sX vF:PV):
  (ev (n+21)).E (i7 "law") (Gk (rt (jL "law") 16) 3) (zr [z0,z1,z2,z3,(.list ((iW R).map .str)),z5,z6,(.list (o.map fun(k:Nat)=>.int (k:Int))),z8,(.str T),kW,lF,mH,nh,oU,qb,sX,vF]) [c0,c1]=some (.bool true,[c0,c1]):=by
 have ZO:∀st,∀k:Nat,k<7->jk st (.list ((iW R).map .str)) (.int (k:Int))=some (.str (R k)):=fun st k hk=>by
  exact iR bX <| j3 st (fun k=>.str (R k)) k hk
 have hg:Good [c0,c1]:=by
  refine(iR h0 ?_:(jK 2 c0&&(jK 2 c1&&true))=true);exact iR h1 rfl
 have jD:=kH (n:=n+18) (sc:=n_ Ye) (elt:=lg Ye) (target:=qw Ye) (ifs:=qx Ye) (fit:=fun ζ=>true) [c0,c1] (fun(k:Nat)=>PV.int (k:Int)) (fun k=>PV.str (mw 0++R k)) (fun ζ=>true) [("rests",(.list ((iW R).map .str)))] (fun k=>[("rests",(.list ((iW R).map .str))),("k",.int (k:Int))]) (fun ζ ζ=>rfl) (fun ζ ζ ζ=>rfl) (fun ζ=>rfl) (fun ζ=>rfl)
  o [] _ (.inl rfl) rfl (fun k hk M hM=>⟨rfl,fun ζ=>by
   have v_:=ho k hk;have hr:=fun st=>ZO st k v_;exact jb (by rfl) (ja (h:=hr _)) ((fun st=>oJ st (x:=mw 0) (y:=R k) (by refine(?_:4<=1000);decide) (by have:=hR k v_;exact lit ‹_›)) _)⟩) (by simp;exact GO ‹_›)
 rw[dI.mpr (fun ζ ζ=>rfl)]at jD;have k_:=jB hg (o.map fun k=>PV.str (mw 0++R k)) (nP _ _ fun ζ=>LJ _);rw[(by(refine iR bX ?_);rfl:(o.map fun k=>PV.str (mw 0++R k))=(o.map fun k=>mw 0++R k).map .str)]at jD k_;have Ld:((o.map fun k=>mw 0++R k).flatten).length<=1000:=by
  have:∀l:ah,(∀k∈l,k<7)->((l.map fun k=>mw 0++R k).flatten).length<=104*l.length:=by
   intro l hl
   induction l with
   |nil=>simp
   |cons a l ih=>
    have h1:=hR a (hl a (by simp));have h2:=ih fun k hk=>hl k (aq _ hk);have h3:(mw 0).length=4:=rfl;simp only[aU,gZ,au,aB,h3];exact ao (ck (bE h1 4) h2) (aE (eE ..))
  have:=this o ho;exact lit (ao this (bS 104 (aE hl)))
 have hc:∀st,jF st .Eq (.str T) (.str (o.map fun k=>mw 0++R k).flatten)=some true:=fun st=>by
  refine(iR (hT ..) ?_:some (T==_)=_);exact iR (cO ..) rfl
 exact xm (by rfl) (by rfl) (jI (jo (g:=iY (by rfl) (jT (a:=by exact jD) (h:=k_)) jr) (h:=yi [c0,c1] (o.map fun k=>mw 0++R k) Ld (by simp;exact GO ‹_›))) (hc _))
noncomputable def mO (j:Nat):Stmt:=(jL "law").getD j default
theorem lw0(n:Nat)(z0 z1:PV)(h:(ev (n+25)).E (i7 "law") (jn 0) (zr [z0]) []=some (z1,[])):(ev (n+26)).S (i7 "law") (mO 0) (zr [z0]) []=some (jf.next,(zr [z0,z1]),[]):=iS (h:=h)
theorem lw1(n:Nat)(z0 z1 z2:PV)(h:(ev (n+25)).E (i7 "law") (jn 1) (zr [z0,z1]) []=some (z2,[])):(ev (n+26)).S (i7 "law") (mO 1) (zr [z0,z1]) []=some (jf.next,(zr [z0,z1,z2]),[]):=iS (h:=h)
theorem lw2(n:Nat)(z0 z1 z2 z3:PV)(h:(ev (n+25)).E (i7 "law") (jn 2) (zr [z0,z1,z2]) []=some (z3,[])):(ev (n+26)).S (i7 "law") (mO 2) (zr [z0,z1,z2]) []=some (jf.next,(zr [z0,z1,z2,z3]),[]):=iS (h:=h)
theorem lw3(n:Nat)(z0 z1 z2 z3 z4:PV)(h:(ev (n+25)).E (i7 "law") (jn 3) (zr [z0,z1,z2,z3]) []=some (z4,[])):(ev (n+26)).S (i7 "law") (mO 3) (zr [z0,z1,z2,z3]) []=some (jf.next,(zr [z0,z1,z2,z3,z4]),[]):=iS (h:=h)
theorem lw4(n:Nat)(z0 z1 z2 z3 z4 z5:PV)(h:(ev (n+25)).E (i7 "law") (jn 4) (zr [z0,z1,z2,z3,z4]) []=some (z5,[])):(ev (n+26)).S (i7 "law") (mO 4) (zr [z0,z1,z2,z3,z4]) []=some (jf.next,(zr [z0,z1,z2,z3,z4,z5]),[]):=iS (h:=h)
theorem lw5(n:Nat)(z0 z1 z2 z3 z4 z5 z6:PV)(h:(ev (n+25)).E (i7 "law") (jn 5) (zr [z0,z1,z2,z3,z4,z5]) []=some (z6,[])):(ev (n+26)).S (i7 "law") (mO 5) (zr [z0,z1,z2,z3,z4,z5]) []=some (jf.next,(zr [z0,z1,z2,z3,z4,z5,z6]),[]):=iS (h:=h)
theorem lw6(n:Nat)(z0 z1 z2 z3 z4 z5 z6 z7:PV)(h:(ev (n+25)).E (i7 "law") (jn 6) (zr [z0,z1,z2,z3,z4,z5,z6]) []=some (z7,[])):(ev (n+26)).S (i7 "law") (mO 6) (zr [z0,z1,z2,z3,z4,z5,z6]) []=some (jf.next,(zr [z0,z1,z2,z3,z4,z5,z6,z7]),[]):=iS (h:=h)
theorem lw7(n:Nat)(z0 z1 z2 z3 z4 z5 z6 z7 z8 z9:PV)(h:(ev (n+25)).E (i7 "law") (jn 7) (zr [z0,z1,z2,z3,z4,z5,z6,z7]) []=some ((.tup [z8,z9]),[])):(ev (n+26)).S (i7 "law") (mO 7) (zr [z0,z1,z2,z3,z4,z5,z6,z7]) []=some (jf.next,(zr [z0,z1,z2,z3,z4,z5,z6,z7,z8,z9]),[]):=iS (h:=h)
theorem lw8(n:Nat)(z0 z1 z2 z3 z4 z5 z6 z7 z8 z9 kW:PV)(h:(ev (n+25)).E (i7 "law") (jn 8) (zr [z0,z1,z2,z3,z4,z5,z6,z7,z8,z9]) []=some (kW,[])):(ev (n+26)).S (i7 "law") (mO 8) (zr [z0,z1,z2,z3,z4,z5,z6,z7,z8,z9]) []=some (jf.next,(zr [z0,z1,z2,z3,z4,z5,z6,z7,z8,z9,kW]),[]):=iS (h:=h)
theorem lw9(n:Nat)(z0 z1 z2 z3 z4 z5 z6 z7 z8 z9 kW lF:PV)(h:(ev (n+25)).E (i7 "law") (jn 9) (zr [z0,z1,z2,z3,z4,z5,z6,z7,z8,z9,kW]) []=some (lF,[])):(ev (n+26)).S (i7 "law") (mO 9) (zr [z0,z1,z2,z3,z4,z5,z6,z7,z8,z9,kW]) []=some (jf.next,(zr [z0,z1,z2,z3,z4,z5,z6,z7,z8,z9,kW,lF]),[]):=iS (h:=h)
theorem aao(n:Nat)(z0 z1 z2 z3 z4 z5 z6 z7 z8 z9 kW lF mH:PV)(h:(ev (n+25)).E (i7 "law") (jn 10) (zr [z0,z1,z2,z3,z4,z5,z6,z7,z8,z9,kW,lF]) []=some (mH,[])):(ev (n+26)).S (i7 "law") (mO 10) (zr [z0,z1,z2,z3,z4,z5,z6,z7,z8,z9,kW,lF]) []=some (jf.next,(zr [z0,z1,z2,z3,z4,z5,z6,z7,z8,z9,kW,lF,mH]),[]):=iS (h:=h)
theorem aan(n:Nat)(z0 z1 z2 z3 z4 z5 z6 z7 z8 z9 kW lF mH nh:PV)(h:(ev (n+25)).E (i7 "law") (jn 11) (zr [z0,z1,z2,z3,z4,z5,z6,z7,z8,z9,kW,lF,mH]) []=some (nh,[])):(ev (n+26)).S (i7 "law") (mO 11) (zr [z0,z1,z2,z3,z4,z5,z6,z7,z8,z9,kW,lF,mH]) []=some (jf.next,(zr [z0,z1,z2,z3,z4,z5,z6,z7,z8,z9,kW,lF,mH,nh]),[]):=iS (h:=h)
theorem aam(n:Nat)(z0 z1 z2 z3 z4 z5 z6 z7 z8 z9 kW lF mH nh oU:PV)(h:(ev (n+25)).E (i7 "law") (jn 12) (zr [z0,z1,z2,z3,z4,z5,z6,z7,z8,z9,kW,lF,mH,nh]) []=some (oU,[])):(ev (n+26)).S (i7 "law") (mO 12) (zr [z0,z1,z2,z3,z4,z5,z6,z7,z8,z9,kW,lF,mH,nh]) []=some (jf.next,(zr [z0,z1,z2,z3,z4,z5,z6,z7,z8,z9,kW,lF,mH,nh,oU]),[]):=iS (h:=h)
theorem aal(n:Nat)(z0 z1 z2 z3 z4 z5 z6 z7 z8 z9 kW lF mH nh oU qb:PV)(h:(ev (n+25)).E (i7 "law") (jn 13) (zr [z0,z1,z2,z3,z4,z5,z6,z7,z8,z9,kW,lF,mH,nh,oU]) []=some (qb,[])):(ev (n+26)).S (i7 "law") (mO 13) (zr [z0,z1,z2,z3,z4,z5,z6,z7,z8,z9,kW,lF,mH,nh,oU]) []=some (jf.next,(zr [z0,z1,z2,z3,z4,z5,z6,z7,z8,z9,kW,lF,mH,nh,oU,qb]),[]):=iS (h:=h)
theorem aak(n:Nat)(z0 z1 z2 z3 z4 z5 z6 z7 z8 z9 kW lF mH nh oU qb sX:PV)(h:(ev (n+25)).E (i7 "law") (jn 14) (zr [z0,z1,z2,z3,z4,z5,z6,z7,z8,z9,kW,lF,mH,nh,oU,qb]) []=some (sX,[])):(ev (n+26)).S (i7 "law") (mO 14) (zr [z0,z1,z2,z3,z4,z5,z6,z7,z8,z9,kW,lF,mH,nh,oU,qb]) []=some (jf.next,(zr [z0,z1,z2,z3,z4,z5,z6,z7,z8,z9,kW,lF,mH,nh,oU,qb,sX]),[]):=iS (h:=h)
theorem aaj(n:Nat)(z0 z1 z2 z3 z4 z5 z6 z7 z8 z9 kW lF mH nh oU qb sX vF:PV)(h:(ev (n+25)).E (i7 "law") (jn 15) (zr [z0,z1,z2,z3,z4,z5,z6,z7,z8,z9,kW,lF,mH,nh,oU,qb,sX]) []=some (vF,[])):(ev (n+26)).S (i7 "law") (mO 15) (zr [z0,z1,z2,z3,z4,z5,z6,z7,z8,z9,kW,lF,mH,nh,oU,qb,sX]) []=some (jf.next,(zr [z0,z1,z2,z3,z4,z5,z6,z7,z8,z9,kW,lF,mH,nh,oU,qb,sX,vF]),[]):=iS (h:=h)
theorem Jq(n:Nat)(z0 z1 z2 z3 z4 z5 z6 z7 z8 z9 kW lF mH nh oU qb sX vF:PV)
  (h0:(ev (n+25)).E (i7 "law") (jn 0) (zr [z0]) []=some (z1,[]))
  (h1:(ev (n+25)).E (i7 "law") (jn 1) (zr [z0,z1]) []=some (z2,[]))
  (h2:(ev (n+25)).E (i7 "law") (jn 2) (zr [z0,z1,z2]) []=some (z3,[]))
  (h3:(ev (n+25)).E (i7 "law") (jn 3) (zr [z0,z1,z2,z3]) []=some (z4,[]))
  (h4:(ev (n+25)).E (i7 "law") (jn 4) (zr [z0,z1,z2,z3,z4]) []=some (z5,[]))
  (h5:(ev (n+25)).E (i7 "law") (jn 5) (zr [z0,z1,z2,z3,z4,z5]) []=some (z6,[]))
  (h6:(ev (n+25)).E (i7 "law") (jn 6) (zr [z0,z1,z2,z3,z4,z5,z6]) []=some (z7,[]))
  (h7:(ev (n+25)).E (i7 "law") (jn 7) (zr [z0,z1,z2,z3,z4,z5,z6,z7]) []=some ((.tup [z8,z9]),[]))
  (h8:(ev (n+25)).E (i7 "law") (jn 8) (zr [z0,z1,z2,z3,z4,z5,z6,z7,z8,z9]) []=some (kW,[]))
  (h9:(ev (n+25)).E (i7 "law") (jn 9) (zr [z0,z1,z2,z3,z4,z5,z6,z7,z8,z9,kW]) []=some (lF,[]))
  (ZU:(ev (n+25)).E (i7 "law") (jn 10) (zr [z0,z1,z2,z3,z4,z5,z6,z7,z8,z9,kW,lF]) []=some (mH,[]))
  (ZT:(ev (n+25)).E (i7 "law") (jn 11) (zr [z0,z1,z2,z3,z4,z5,z6,z7,z8,z9,kW,lF,mH]) []=some (nh,[]))
  (Gn:(ev (n+25)).E (i7 "law") (jn 12) (zr [z0,z1,z2,z3,z4,z5,z6,z7,z8,z9,kW,lF,mH,nh]) []=some (oU,[]))
  (h13:(ev (n+25)).E (i7 "law") (jn 13) (zr [z0,z1,z2,z3,z4,z5,z6,z7,z8,z9,kW,lF,mH,nh,oU]) []=some (qb,[]))
  (h14:(ev (n+25)).E (i7 "law") (jn 14) (zr [z0,z1,z2,z3,z4,z5,z6,z7,z8,z9,kW,lF,mH,nh,oU,qb]) []=some (sX,[]))
  (h15:(ev (n+25)).E (i7 "law") (jn 15) (zr [z0,z1,z2,z3,z4,z5,z6,z7,z8,z9,kW,lF,mH,nh,oU,qb,sX]) []=some (vF,[]))
  (c0 c1:j8) (r0:(ev (n+24)).E (i7 "law") (Gk (rt (jL "law") 16) 0) (zr [z0,z1,z2,z3,z4,z5,z6,z7,z8,z9,kW,lF,mH,nh,oU,qb,sX,vF]) []=some (.bool true,[])) (r1:(ev (n+23)).E (i7 "law") (Gk (rt (jL "law") 16) 1) (zr [z0,z1,z2,z3,z4,z5,z6,z7,z8,z9,kW,lF,mH,nh,oU,qb,sX,vF]) []=some (.bool true,[c0,c1]))
  (r2:(ev (n+22)).E (i7 "law") (Gk (rt (jL "law") 16) 2) (zr [z0,z1,z2,z3,z4,z5,z6,z7,z8,z9,kW,lF,mH,nh,oU,qb,sX,vF]) [c0,c1]=some (.bool true,[c0,c1])) (r3:(ev (n+21)).E (i7 "law") (Gk (rt (jL "law") 16) 3) (zr [z0,z1,z2,z3,z4,z5,z6,z7,z8,z9,kW,lF,mH,nh,oU,qb,sX,vF]) [c0,c1]=some (.bool true,[c0,c1])):
  (ev (n+27)).C "law" [z0] [] []=some (.bool true,[]):=kN (k:=iT (lw0 n _ _ h0)
  (iT (lw1 n _ _ _ h1)
  (iT (lw2 n _ _ _ _ h2)
  (iT (lw3 n _ _ _ _ _ h3)
  (iT (lw4 n _ _ _ _ _ _ h4)
  (iT (lw5 n _ _ _ _ _ _ _ h5)
  (iT (lw6 n _ _ _ _ _ _ _ _ h6)
  (iT (lw7 n _ _ _ _ _ _ _ _ _ _ h7)
  (iT (lw8 n _ _ _ _ _ _ _ _ _ _ _ h8)
  (iT (lw9 n _ _ _ _ _ _ _ _ _ _ _ _ h9)
  (iT (aao n _ _ _ _ _ _ _ _ _ _ _ _ _ ZU)
  (iT (aan n _ _ _ _ _ _ _ _ _ _ _ _ _ _ ZT)
  (iT (aam n _ _ _ _ _ _ _ _ _ _ _ _ _ _ _ Gn)
  (iT (aal n _ _ _ _ _ _ _ _ _ _ _ _ _ _ _ _ h13)
  (iT (aak n _ _ _ _ _ _ _ _ _ _ _ _ _ _ _ _ _ h14)
  (iT (aaj n _ _ _ _ _ _ _ _ _ _ _ _ _ _ _ _ _ _ h15)
  (lA (AW (r0) (by rfl) (AW (r1) (by rfl) (AW (r2) (by rfl) (Qi (r3))))))))))))))))))))))
theorem cl0(n:Nat)(z0 w:PV)(h:(ev (n+24)).C "_law_numbers" [z0] [] []=some (w,[])):(ev (n+25)).E (i7 "law") (jn 0) (zr [z0]) []=some (w,[]):=jg (h:=h)
theorem cl1(n:Nat)(z0 z1 w:PV)(h:(ev (n+24)).C "_law_above" [z1] [] []=some (w,[])):(ev (n+25)).E (i7 "law") (jn 1) (zr [z0,z1]) []=some (w,[]):=jg (h:=h)
theorem cl2(n:Nat)(z0 z1 z2 w:PV)(h:(ev (n+24)).C "_law_texts" [z2] [] []=some (w,[])):(ev (n+25)).E (i7 "law") (jn 2) (zr [z0,z1,z2]) []=some (w,[]):=jg (h:=h)
theorem cl3(n:Nat)(z0 z1 z2 z3 w:PV)(h:(ev (n+24)).C "_law_rests" [z1,z3] [] []=some (w,[])):(ev (n+25)).E (i7 "law") (jn 3) (zr [z0,z1,z2,z3]) []=some (w,[]):=jg (h:=h)
theorem cl8(n:Nat)(z0 z1 z2 z3 z4 z5 z6 z7 z8 z9 w:PV)(h:(ev (n+24)).C "_law_picked" [z8] [] []=some (w,[])):(ev (n+25)).E (i7 "law") (jn 8) (zr [z0,z1,z2,z3,z4,z5,z6,z7,z8,z9]) []=some (w,[]):=jg (h:=h)
theorem cl9(n:Nat)(z0 z1 z2 z3 z4 z5 z6 z7 z8 z9 kW w:PV)(h:(ev (n+24)).C "_law_ways" [z2] [] []=some (w,[])):(ev (n+25)).E (i7 "law") (jn 9) (zr [z0,z1,z2,z3,z4,z5,z6,z7,z8,z9,kW]) []=some (w,[]):=jg (h:=h)
theorem aaT(n:Nat)(z0 z1 z2 z3 z4 z5 z6 z7 z8 z9 kW lF mH nh oU w:PV)(h:(ev (n+24)).C "_law_sums" [z5] [] []=some (w,[])):(ev (n+25)).E (i7 "law") (jn 13) (zr [z0,z1,z2,z3,z4,z5,z6,z7,z8,z9,kW,lF,mH,nh,oU]) []=some (w,[]):=jg (h:=h)
theorem cl7(n:Nat)(z0 z1 z2 z3 z4 z5 z6 z7 a w:PV)(ha:(ev (n+24)).E (i7 "law") (k6 (jn 7)) (zr [z0,z1,z2,z3,z4,z5,z6,z7]) []=some (a,[]))(h:(ev (n+24)).C "_law_sent" [a] [] []=some (w,[])):(ev (n+25)).E (i7 "law") (jn 7) (zr [z0,z1,z2,z3,z4,z5,z6,z7]) []=some (w,[]):=jg (g:=iY (by rfl) (ha) jr) (h:=h)
theorem aaU(n:Nat)(z0 z1 z2 z3 z4 z5 z6 z7 z8 z9 kW lF mH nh a w:PV)(ha:(ev (n+24)).E (i7 "law") (k6 (jn 12)) (zr [z0,z1,z2,z3,z4,z5,z6,z7,z8,z9,kW,lF,mH,nh]) []=some (a,[]))(h:(ev (n+24)).C "_law_apart" [a] [] []=some (w,[])):(ev (n+25)).E (i7 "law") (jn 12) (zr [z0,z1,z2,z3,z4,z5,z6,z7,z8,z9,kW,lF,mH,nh]) []=some (w,[]):=jg (g:=iY (by rfl) (ha) jr) (h:=h)
theorem aaS(n:Nat)(z0 z1 z2 z3 z4 z5 z6 z7 z8 z9 kW lF mH nh oU qb a w:PV)(ha:(ev (n+24)).E (i7 "law") (k6 (jn 14)) (zr [z0,z1,z2,z3,z4,z5,z6,z7,z8,z9,kW,lF,mH,nh,oU,qb]) []=some (a,[]))(h:lz [] "max" [a]=some w):(ev (n+25)).E (i7 "law") (jn 14) (zr [z0,z1,z2,z3,z4,z5,z6,z7,z8,z9,kW,lF,mH,nh,oU,qb]) []=some (w,[]):=jV (g:=iY (by rfl) (ha) jr) (h:=h)
theorem cl5(n:Nat)(z0 z1 z2 z3 z4 z5:PV)(k m:Int)(hl:lz [] "len" [z0]=some (.int k))(h:kZ [] .Mod (.int k) (.int 7)=some (.int m)):(ev (n+25)).E (i7 "law") (jn 5) (zr [z0,z1,z2,z3,z4,z5]) []=some (.int m,[]):=jb (jV (h:=hl)) (by rfl) (h)
theorem NB(n:Nat)(ns:List Int)(m:Nat)(hm:m<7)(yK:Int.fmod (ns.length:Int) 7=(m:Int))(i:Nat->Int)(ab:PV)(X R:Nat->ah)(hR:∀k,k<7->(R k).length<=100)(W:Nat->List Int)(hW:∀k,k<7->(W k).length<=20)(I:jc)(S:List (Nat×Nat))(hS:S.length<=100)(T:ah)(pl:List (ah))(ap su:List Int)(ha:ap.length=128)(hs:su.length=128)(M:Nat)
  (aax:(ev (n+24)).C "_law_numbers" [.list (ns.map .int)] [] []=some (.list (iW fun k=>.int (i k)),[]))
  (OV:(ev (n+24)).C "_law_above" [.list (iW fun k=>.int (i k))] [] []=some (ab,[]))
  (htx:(ev (n+24)).C "_law_texts" [ab] [] []=some (.list (iW fun k=>.str (X k)),[]))
  (hrs:(ev (n+24)).C "_law_rests" [.list (iW fun k=>.int (i k)),.list (iW fun k=>.str (X k))] [] []=some (.list ((iW R).map .str),[]))
  (Xr:(ev (n+24)).C "_law_sent" [.str ((sJ m).map fun k=>mw (dN (i k))++R k).flatten] [] []=some (.tup [.list (S.map I.pvS),.str T],[]))
  (S1:(ev (n+24)).C "_law_picked" [.list (S.map I.pvS)] [] []=some (.list (pl.map .str),[]))
  (Xn:(ev (n+24)).C "_law_ways" [ab] [] []=some (.list (iW fun k=>.iset (W k)),[]))
  (Ao:(ev (n+24)).C "_law_apart" [.list ((iW (oO (Aj W fun k=>rN (i k)))).map fun(m:Nat)=>.int (m:Int))] [] []=some (.list (ap.map .int),[]))
  (Zo:(ev (n+24)).C "_law_sums" [.list (iW fun k=>.int (dN (i k):Int))] [] []=some (.list (su.map .int),[]))
  (h1:(M:Int)∈sM ap su) (h2:∀x∈sM ap su,x<=(M:Int)) (h3:RW X pl<128)
  (f1:∀k,k<7->dN (i k)<=uV (Aj W fun k=>rN (i k)) (BU I X S) k) (f2:(S.map (·.1)).sum=M) (f3:((List.range 7).map (BU I X S)).sum=M) (f4:su.getD (RW X pl) 0=(M:Int)) (f5:0<=ap.getD (RW X pl) 0) (f6:T=((sJ m).map fun k=>mw 0++R k).flatten):
  (ev (n+27)).C "law" [.list (ns.map .int)] [] []=some (.bool true,[]):=by
 have ho:∀k∈sJ m,k<7:=fun k hk=>bH.mp ((AX m hm).subset hk);have RM:(sJ m).length=7:=by have:=(AX m hm).length_eq;exact this
 have jd:lz [] "len" [.list (ns.map .int)]=some (.int (ns.length:Int)):=by
  refine(iR (aJ ..) ?_:some (PV.int ((ns.map PV.int).length:Int))=_);exact rfl
 have aay:kZ [] .Mod (.int (ns.length:Int)) (.int 7)=some (.int (m:Int)):=by
  refine(iR yK ?_:some (PV.int (Int.fmod (ns.length:Int) 7))=_);exact rfl
 exact Jq n (.list (ns.map .int)) (.list (iW fun k=>.int (i k))) ab (.list (iW fun k=>.str (X k))) (.list ((iW R).map .str)) (.list (iW fun k=>.int (dN (i k):Int))) (.int (m:Int)) (.list ((sJ m).map fun(k:Nat)=>.int (k:Int))) (.list (S.map I.pvS)) (.str T) (.list (pl.map .str)) (.list (iW fun k=>.iset (W k)))
  (.list (iW fun j=>.list ((iW fun k=>Aj W (fun k=>rN (i k)) j k).map .bool))) (.list (iW fun j=>.int (BU I X S j:Int))) (.list (ap.map .int)) (.list (su.map .int)) (.int (M:Int)) (.int (RW X pl:Int))
  (cl0 n _ _ aax) (cl1 n _ _ _ OV) (cl2 n _ _ _ _ htx) (cl3 n _ _ _ _ _ hrs) (Mv n i _ _ _ _) (cl5 n _ _ _ _ _ _ _ _ jd aay) (Mu n m hm _ _ _ _ _ _)
  (cl7 n _ _ _ _ _ _ _ _ _ _ (EP n (fun k=>dN (i k)) R (sJ m) ho hR RM _ _ _ _ _) Xr)
  (cl8 n _ _ _ _ _ _ _ _ _ _ _ S1) (cl9 n _ _ _ _ _ _ _ _ _ _ _ _ Xn) (PN n i W hW _ _ _ _ _ _ _ _ _ _) (Xc I n X S hS _ _ _ _ _ _ _ _ _ _ _) (aaU n _ _ _ _ _ _ _ _ _ _ _ _ _ _ _ _ (Mx n (Aj W fun k=>rN (i k)) _ _ _ _ _ _ _ _ _ _ _ _ _) Ao) (aaT n _ _ _ _ _ _ _ _ _ _ _ _ _ _ _ _ Zo)
  (aaS n _ _ _ _ _ _ _ _ _ _ _ _ _ _ _ _ _ _ (Mw n ap su ha hs _ _ _ _ _ _ _ _ _ _ _ _ _ _) (Nm [] (sM ap su) (M:Int) h1 h2)) (Ip n X pl _ _ _ _ _ _ _ _ _ _ _ _ _ _ _)
  _ _ (Ub n (Aj W fun k=>rN (i k)) (BU I X S) (fun k=>dN (i k)) f1 _ _ _ _ _ _ _ _ _ _ _ _ _ _ _) (Xb I n S hS (BU I X S) su (RW X pl) (iR hs h3) M f2 f3 f4 _ _ _ _ _ _ _ _ _ _ _ _ _)
  (My n ap (RW X pl) (iR ha h3) f5 _ _ _ _ _ _ _ _ _ _ _ _ _ _ _ _ _) (PM n R (sJ m) ho hR RM [] rfl _ _ rfl rfl T f6 _ _ _ _ _ _ _ _ _ _ _ _ _ _ _)
theorem xM{v w:ah}:(lcp v w).length<=w.length:=by(refine iR (nC ..) ?_);exact A2
theorem A1:∀v w:ah,lcp v w=v.take (lcp v w).length:=by
 intro L0
 induction L0 with
 |nil=>
  intro w
  skip<;>first|rfl|simp[sy,rS]
 |cons a v ih=>
  intro L1;cases L1 with
  |nil=>
   rfl
  |cons b w=>
   rw[lC];refine bc (p:=a=b) (fun h=> ?_) fun h=> ?_
   ·exact iR (a_ h) <| iR aB <| iR fu <| jC (ih w) rfl
   ·exact iR (aS h) rfl
theorem CF(v w:ah):lcp v w=w.take (lcp v w).length:=by(refine iR (nC ..) ?_);exact A1 w v
theorem zW:∀u v w:ah,min (lcp u v).length (lcp v w).length<=(lcp u w).length
 |[],v,w=>by skip<;>first|rfl|simp[sy,rS]
 |a::u,[],w=>by simp[sy,rS]
 |a::u,b::v,[]=>by simp[sy,rS]
 |a::u,b::v,c::w=>by
  have ih:=zW u v w;simp only[lC];refine bc (p:=a=b) (fun h1=> ?_) fun h1=> ?_
  ·refine bc (p:=b=c) (fun h2=> ?_) fun h2=> ?_
   ·subst h1;subst h2;simp only[iH,aB];exact ao (aE (Nat.succ_min_succ ..)) (cQ ‹_›)
   ·refine iR (aS h2) ?_;simp
  ·refine iR (aS h1) ?_;simp
theorem xK:∀(v w:ah)(n:Nat),(lcp (v.take n) w).length=min n (lcp v w).length
 |[],w,n=>by skip<;>first|rfl|(simp[sy])
 |a::v,w,0=>by skip<;>first|rfl|simp[sy,rS]
 |a::v,[],n+1=>by rfl
 |a::v,b::w,n+1=>by
  rw[fu,lC,lC];refine bc (p:=a=b) (fun h=> ?_) fun h=> ?_
  ·exact iR (a_ h) <| iR (a_ h) <| iR aB <| iR aB <| iR (xK v w n) <| (Nat.succ_min_succ ..).symm
  ·exact iR (aS h) <| iR (aS h) rfl
theorem CG:∀(q u v:ah),q=u.take q.length->q=v.take q.length->q.length<=(lcp u v).length
 |[],_,_,_,_=>by simp
 |a::q,[],v,h,_=>by trivial
 |a::q,b::u,[],_,h=>by trivial
 |a::q,b::u,c::v,h1,h2=>by
  rw[aB,fu,fZ]at h1 h2;obtain⟨rfl,h1⟩:=h1;obtain⟨rfl,h2⟩:=h2;rw[lC,a_ rfl,aB];have:=CG q u v h1 h2;exact eH ‹_›
theorem JH(v w:ah):lV v w=lV w v:=by unfold lV;(refine iR (nC ..) ?_);exact aQ (· -_) (Int.add_comm ..)
section
variable(w:ah)(r:Nat)
theorem uW:(up w r).length=w.length-r:=by(refine iR bD ?_);exact cI (b6 ..)
theorem TY:lV w (up w r)<=(r:Int):=by
 have h1:(lcp w (up w r)).length=(up w r).length:=by
  exact iR (nC ..) <| iR (xK ..) <| iR (Ny ..) <| iR (bD ..) rfl
 unfold lV;refine iR (h1 ..) <| iR (uW ..) <| KC.mpr ?_
 rw[iP,<-fE,eE r];exact cF (SH ..) _
theorem Pz{t:ah}(h:lV w t<=(r:Int))(hl:t.length<=(up w r).length):t=up w r:=by
 have h2:=xM (v:=w) (w:=t);rw[uW]at hl;have h:=KC.mp h;refine bc (p:=t.length=0) (fun h0=> ?_) fun h0=> ?_
 ·have:(up w r).length=0:=(uW ..).trans (RD h h2 h0);exact iR (cV.mp h0) <| iR (cV.mp this) rfl
 ·refine lP (RC h hl h2 h0) fun h3 h4=> ?_;have h5:=A1 w t;have h6:=CF w t;rw[h3]at h5 h6;rw[dQ]at h6;exact jC h6 <| iR h5 <| iR h4 rfl
theorem H_{w' v:ah}{r':Nat}(h1:lV w v<=(r:Int))(h2:lV w' v<=(r':Int))(hl:(up w r).length<=(up w' r').length):lV w (up w' r')<=(r:Int):=by
 rw[uW,uW]at hl;have a1:=zW w v w';have e2:(lcp v w').length=(lcp w' v).length:=by rw[nC]
 rw[e2]at a1;have b4:=xM (v:=w') (w:=v);have h3:(lcp w (up w' r')).length=min (w'.length-r') (lcp w w').length:=by
  exact iR (nC ..) <| iR (xK ..) <| iR (nC ..) rfl
 refine(iR (h3 ..) ?_:_-2*((lcp w (up w' r')).length:Int)<=_);exact iR (uW ..) <| KC.mpr (RB (KC.mp h1) (KC.mp h2) hl a1 b4)
end
section
variable{a:Nat->Nat}(T:Tree a)
include T
theorem Lq(k:Nat)(h:k<7):wK (wd a k):=by
 refine⟨?_,fun c hc=> ?_⟩
 ·have:=Ej T k k (aK _);exact ao this (aM h)
 ·have:=B6 T k k (aK _) c hc;exact⟨this.2,ao this.1 (aM h)⟩
theorem TU(i k:Nat)(h:wd a i=wd a k):i=k:=by
 by_cases hi:i=0
 ·subst hi;refine bc (p:=k=0) (fun hk=> ?_) fun hk=> ?_
  ·exact hk.symm
  ·rw[pY,lJ T k (dO ‹_›)]at h;have:=aQ List.length h;simp at this
 ·by_cases hk:k=0
  ·subst hk;rw[pY,lJ T i (dO ‹_›)]at h;have:=aQ List.length h;simp at this
  ·rw[lJ T i (dO ‹_›),lJ T k (dO ‹_›)]at h;exact List.singleton_inj.mp (List.append_inj' h rfl).2
theorem Po(f k n:Nat)(_:k<=f):∃j,j<=k/\(wd a k).take n=wd a j:=
 tE T (P:=fun k=>∃j,j<=k/\(wd a k).take n=wd a j) ⟨0,aK _,by rw[pY];exact List.take_nil⟩ (fun k h h1 ih=>by
  refine bc (p:=(wd a k).length<=n) (fun hn=> ?_) fun hn=> ?_
  ·exact jt k (aK _) (cR hn)
  ·refine jm ih fun j hj e=>(jt j (ao hj (bC h1)) ?_);rw[lJ T k h,au]at hn;refine iR (lJ T k h) ?_;refine iR (List.take_append_of_le_length (aM (e8 hn))) ?_;exact e) k
theorem RX(f k c:Nat)(_:k<=f):c∈wd a k->∃v,wd a k=wd a c++v:=
 tE T (P:=fun k=>c∈wd a k->∃v,wd a k=wd a c++v) (fun hc=>by rw[pY]at hc;exact nomatch hc) (fun k h h1 ih hc=>by
  rw[lJ T k h]at hc;refine cg (bg.mp hc) (fun q=> ?_) fun q=> ?_
  ·exact m9 (ih q) fun v e=>⟨v++[k],by rw[lJ T k h,e,cL]⟩
  ·rw[aA.mp q];exact⟨[],(cK _).symm⟩) k
theorem L_(f k:Nat)(_:k<=f):(wd a k).Nodup:=
 tE T (P:=fun k=>(wd a k).Nodup) (by rw[pY];exact d8) (fun k h h1 ih=>by
  rw[lJ T k h,c8];refine(tZ ih (fk.mpr ⟨fK,d8⟩) (fun x hx y hy=> ?_));rw[aA.mp hy];exact cC (aD (B6 T (a k) (a k) (aK _) x hx).1 h1)) k
theorem Pp(i k:Nat):(wd a i).filter (fun c=> !(wd a k).contains c)=(wd a i).drop (lcp (wd a i) (wd a k)).length:=by
 have e:=eZ (lcp (wd a i) (wd a k)).length (wd a i);have h1:((wd a i).take (lcp (wd a i) (wd a k)).length).filter (fun c=> !(wd a k).contains c)=[]:=by
  rw[List.filter_eq_nil_iff];intro c hc;rw[<-A1,CF]at hc;have:=dc hc;simp[this]
 have h2:((wd a i).drop (lcp (wd a i) (wd a k)).length).filter (fun c=> !(wd a k).contains c)=(wd a i).drop (lcp (wd a i) (wd a k)).length:=by
  rw[dI];intro c hc;rw[cz,iD,fh];intro q;have hi:c∈wd a i:=List.mem_of_mem_drop hc;refine m9 (RX T i i c (aK _) hi) fun v1 e1=>m9 (RX T k k c (aK _) q) fun v2 e2=> ?_;have ZI:c∈wd a c:=by
   have tw:1<=c:=(B6 T i i (aK _) c hi).2;refine iR (lJ T c ‹_›) ?_;simp
  have S7:c∈(wd a i).take (lcp (wd a i) (wd a k)).length:=by
   have:wd a c=((wd a i).take (lcp (wd a i) (wd a k)).length).take (wd a c).length:=by
    rw[List.take_take,cI (CG (wd a c) (wd a i) (wd a k) (by rw[e1,iC]) (by rw[e2,iC])),e1,iC]
   replace ZI:=this▸ZI
   exact dc ZI
  have hn:=L_ T i i (aK _);rw[<-e,c8]at hn;exact hn.2.2 c S7 c hc rfl
 conv=>lhs;rw[<-e]
 exact iR (gD ..) <| iR (h1 ..) <| iR (h2 ..) <| iR (dD ..) rfl
theorem MX(i k:Nat):((mV (mP a i) (mP a k)).length:Int)=lV (wd a i) (wd a k):=by
 have key:∀i k,((mP a i).filter fun x=> !(mP a k).contains x).length=(wd a i).length-(lcp (wd a i) (wd a k)).length:=by
  intro i k;have e:(mP a i).filter (fun x=> !(mP a k).contains x)=((wd a i).filter (fun c=> !(wd a k).contains c)).map fun(c:Nat)=>(c:Int):=by
   unfold mP;refine iR (cB (by simp)) <| iR List.filter_map ?_
   congr 1;apply List.filter_congr;intro c hc;have tw:=(B6 T i i (aK _) c hc).2;refine(?_:(!((0:Int)::(wd a k).map fun(c:Nat)=>(c:Int)).contains (c:Int))= !(wd a k).contains c);congr 1;rw[Bool.eq_iff_iff];simp only[iD,bq,aV,iE];constructor
   ·rintro(q|⟨x,hx,q⟩)
    ·lia
    ·have:x=c:=by lia
     exact this▸hx
   ·intro q;exact .inr (jt c q rfl)
  exact iR (e ..) <| iR (aJ ..) <| iR (Pp T ..) <| iR (bV ..) rfl
 delta mV lV
 refine iR (au ..) <| iR (key ..) <| iR (key ..) ?_
 have h1:=A2 (v:=wd a i) (w:=wd a k);have h2:=xM (v:=wd a i) (w:=wd a k);refine iR (by(refine iR (nC ..) ?_;exact rfl):(lcp (wd a k) (wd a i)).length=(lcp (wd a i) (wd a k)).length) ?_
 (exact RA h1 h2)
end
noncomputable def jc.on (I:jc) (k:Nat) (v:ah):Bool:=decide (lV (I.w k) v<=(I.r k:Int))
theorem xy(I:jc)(k:Nat):I.on k (I.t k)=true:=aH (TY (I.w k) (I.r k))
theorem Ux(I:jc)(j k:Nat)(h:I.on k (I.t j)=true)(hl:(I.t j).length<=(I.t k).length):I.t j=I.t k:=Pz (I.w k) (I.r k) (bL h) hl
theorem Qm(I:jc)(i k:Nat)(v:ah)(h1:I.on i v=true)(h2:I.on k v=true)(hl:(I.t i).length<=(I.t k).length):I.on i (I.t k)=true:=
 aH (H_ (I.w i) (I.r i) (bL h1) (bL h2) hl)
noncomputable def jc.cov (I:jc) (k:Nat) (R:List (Nat×Nat)):Nat:=(R.map fun x=>if I.on k (I.t x.2)then x.1 else 0).sum
theorem Bb(I:jc)(k:Nat):I.cov k []=0:=rfl
theorem uE(I:jc)(k:Nat)(x:Nat×Nat)(R:List (Nat×Nat)):I.cov k (x::R)=(if I.on k (I.t x.2)then x.1 else 0)+I.cov k R:=by
 rfl
theorem Rc(I:jc)(k:Nat)(D R:List (Nat×Nat)):I.cov k (D++R)=I.cov k D+I.cov k R:=by
 unfold jc.cov;exact iR bR <| iR iO rfl
theorem N6(I:jc)(k:Nat):∀R:List (Nat×Nat),(∀x∈R,I.on k (I.t x.2)=false)->I.cov k R=0:=by
 intro L0
 induction L0 with
 |nil=>
  intro _;exact rfl
 |cons x R ih=>
  intro h;rw[uE,h x (by simp),ih fun y hy=>h y (aq _ hy)];rfl
def YQ (I:jc) (c0:Nat->Nat):List (Nat×Nat)->Prop
 |[]=>True
 |x::R=>YQ I c0 R/\c0 x.2=x.1+I.cov x.2 R/\∀y∈R,(I.t x.2).length<=(I.t y.2).length
theorem AA(I:jc)(c:Nat->Nat)(k i:Nat):I.upd c k i=if I.on i (I.t k)then c i-c k else c i:=by
 unfold jc.upd jc.on;refine bc (p:=lV (I.w i) (I.t k)<=(I.r i:Int)) (fun h=> ?_) fun h=> ?_
 ·exact iR (a_ h) <| iR (aH h) rfl
 ·exact iR (aS h) <| iR (cD h) rfl
theorem Mr(I:jc):∀(ks:ah)(c:Nat->Nat)(S:List (Nat×Nat))(i:Nat),c i=0->(ks.foldl I.stp (c,S)).1 i=0:=by
 intro L0
 induction L0 with
 |nil=>
  intro _ _ _ h;exact h
 |cons k ks ih=>
  intro c S i h;refine iR dB <| ih _ _ i <| (?_:(if 0<c k then I.upd c k else c) i=0)
  split
  ·have:=Ls I c k i;exact Nat.le_zero.mp (ao this (aE h))
  ·exact h
theorem PI(I:jc):∀(ks:ah)(c:Nat->Nat)(S:List (Nat×Nat))(i:Nat),i∈ks->(ks.foldl I.stp (c,S)).1 i=0:=by
 intro L0
 induction L0 with
 |nil=>
  intro _ _ _ h;cases h
 |cons k ks ih=>
  intro c S i h;refine iR dB ?_;rcases aV.mp h with rfl|h
  ·refine Mr I ks _ _ i ?_;show(if 0<c i then I.upd c i else c) i=0;split
   ·refine iR (AA ..) <| iR (xy ..) ?_
    simp
   ·exact Nat.eq_zero_of_not_pos ‹_›
  ·exact ih _ _ i h
theorem run(I:jc)(c0:Nat->Nat):∀(ks:ah)(c:Nat->Nat)(R:List (Nat×Nat)),ks.Pairwise (fun i j=>(I.t j).length<=(I.t i).length)->(∀i,c0 i<=c i+I.cov i R)->(∀i,0<c i->c0 i=c i+I.cov i R)->YQ I c0 R->(∀x∈R,∀j∈ks,(I.t j).length<=(I.t x.2).length)->
  ∃R',(ks.foldl I.stp (c,R.reverse)).2=R'.reverse/\(∀i,c0 i<=(ks.foldl I.stp (c,R.reverse)).1 i+I.cov i R')/\YQ I c0 R'/\(∀x∈R',x∈R\/x.2∈ks)/\R'.length<=R.length+ks.length:=by
 intro L0
 induction L0 with
 |nil=>
  intro c R _ h1 _ h3 _;exact⟨R,rfl,h1,h3,fun ζ h=>.inl h,aK _⟩
 |cons k ks ih=>
  intro c R hp h1 h2 h3 h4;rw[fN]at hp;refine iR dB <| bc (p:=0<c k) (fun hk=> ?_) fun hk=> ?_
  ·have e:I.stp (c,R.reverse) k=(I.upd c k,((c k,k)::R).reverse):=by
    refine(?_:((if 0<c k then I.upd c k else c),(if 0<c k then R.reverse++[(c k,k)]else R.reverse))=_);rw[a_ hk,a_ hk,List.reverse_cons]
   refine iR e ?_;obtain⟨R',q1,q2,q3,q4,q5⟩:=ih (I.upd c k) ((c k,k)::R) hp.2 (fun i=>by
     have:=h1 i;rw[AA,uE];refine(?_:_<=_+((if I.on i (I.t k)then c k else 0)+_));split<;>first|exact U_ this|exact(aX (I.cov i R)).symm▸this) (fun i hi=>by
     rw[AA]at hi;rw[AA,uE];refine(?_:_=_+((if I.on i (I.t k)then c k else 0)+_));split at hi
     ·rename_i hb;have:=h2 i (aW hi (b6 ..));exact iR (a_ hb) <| iR (a_ hb) <| Ry hi this
     ·rename_i hb;have:=h2 i hi
      (refine iR (aS hb) ?_;refine iR (aS hb) ?_);exact this.trans (aQ _ (aX _).symm)) ⟨h3,h2 k hk,fun y hy=>h4 y hy k (by simp)⟩ (fun x hx j hj=>by
     rcases aV.mp hx with rfl|hx
     ·exact hp.1 j hj
     ·exact h4 x hx j (aq _ hj))
   refine⟨R',q1,q2,q3,fun x hx=> ?_,by rw[aB]at q5 |-; exact ao q5 (aE (dh ..))⟩;refine cg (q4 x hx) (fun q=> ?_) fun q=> ?_
   ·rcases aV.mp q with rfl|q
    ·exact .inr (by simp)
    ·exact .inl q
   ·exact .inr (aq _ q)
  ·have e:I.stp (c,R.reverse) k=(c,R.reverse):=by
    refine(?_:((if 0<c k then I.upd c k else c),(if 0<c k then R.reverse++[(c k,k)]else R.reverse))=_);rw[aS hk,aS hk]
   refine iR e <| Za (ih c R hp.2 h1 h2 h3 fun x hx j hj=>h4 x hx j (aq _ hj)) fun R' q1 q2 q3 q4 q5=>⟨R',q1,q2,q3,fun x hx=> ?_,by(refine iR aB ?_);exact dM q5⟩
   refine cg (q4 x hx) (fun q=> ?_) fun q=> ?_
   ·exact .inl q
   ·exact .inr (aq _ q)
def jc.dj (I:jc) (a b:Nat):Prop:=∀v,I.on a v=true->I.on b v=true->False
theorem Hu(I:jc)(acc:ah)(k:Nat):I.far acc k=true↔ ∀j∈acc,I.on j (I.t k)=false:=by
 dsimp only[jc.far,jc.on];rw[bZ];constructor
 ·intro h j hj;have:=bL (h j hj);exact cD (ir.mpr ‹_›)
 ·intro h j hj;have:=gK (h j hj);exact aH (ir.mp ‹_›)
theorem Xk(I:jc)(c0:Nat->Nat):∀(R D:List (Nat×Nat))(acc:ah),YQ I c0 R->(∀x∈D,∀y∈R,(I.t x.2).length<=(I.t y.2).length)->acc.Pairwise I.dj->(∀x∈D,∃a∈acc,I.on a (I.t x.2)=true)->(∀a∈acc,c0 a=I.cov a (D++R))->(∀a∈acc,∃x∈D,a=x.2)->
  ((R.map (·.2)).foldl I.pk acc).Pairwise I.dj/\(∀x∈D++R,∃a∈(R.map (·.2)).foldl I.pk acc,I.on a (I.t x.2)=true)/\(∀a∈(R.map (·.2)).foldl I.pk acc,c0 a=I.cov a (D++R))/\(∀a∈(R.map (·.2)).foldl I.pk acc,∃x∈D++R,a=x.2):=by
 intro L0
 induction L0 with
 |nil=>
  intro D acc _ _ h1 h2 h3 h4;rw[cK]at h3|-;exact Zh h1 h2 h3 h4
 |cons x R ih=>
  intro D acc hv hd h1 h2 h3 h4;have e:D++x::R=(D++[x])++R:=by simp
  rw[e]at h3|-;refine iR aU <| iR dB ?_
  have J5:∀z∈D++[x],∀y∈R,(I.t z.2).length<=(I.t y.2).length:=by
   intro z hz y hy;refine cg (bg.mp hz) (fun hz=> ?_) fun hz=> ?_
   ·exact hd z hz y (aq _ hy)
   ·exact iR (aA.mp hz) <| hv.2.2 y hy
  refine bc (p:=I.far acc x.2=true) (fun hf=> ?_) fun hf=> ?_
  ·have e2:I.pk acc x.2=acc++[x.2]:=by unfold jc.pk;(refine iR (a_ hf) ?_;exact rfl)
   have WN:=(Hu I acc x.2).mp hf;refine iR e2 <| ih (D++[x]) (acc++[x.2]) hv.1 J5 ?_ ?_ ?_ ?_
   ·rw[List.pairwise_append];refine⟨h1,by simp,fun a ha b hb v hv1 Yq=> ?_⟩;rw[aA]at hb;subst hb;refine jm (h4 a ha) fun z hz z1=> ?_;subst z1;have:=Qm I z.2 x.2 v hv1 Yq (hd z hz x (by simp))
    replace this:=(WN _ ha)▸this
    exact nomatch this
   ·intro z hz;refine cg (bg.mp hz) (fun hz=> ?_) fun hz=> ?_
    ·exact jm (h2 z hz) fun a ha hb=>jt a (aY _ ha) hb
    ·exact iR (aA.mp hz) <| ⟨x.2,by simp,xy I x.2⟩
   ·intro a ha;refine cg (bg.mp ha) (fun ha=> ?_) fun ha=> ?_
    ·exact h3 a ha
    ·refine iR (aA.mp ha ..) <| jC (e ..) <| iR (Rc ..) <| iR (uE ..) <| iR (xy ..) <| iR (a_ rfl ..) <| iR (hv.2.1 ..) ?_
     have:I.cov x.2 D=0:=by
      refine N6 I x.2 D fun z hz=> ?_;cases hb:I.on x.2 (I.t z.2)with
      |false=>rfl
      |true=>
       refine jm (h2 z hz) fun a ha S9=> ?_
       replace S9:=(WN a ha)▸((Ux I z.2 x.2 hb (hd z hz x (by simp)))▸S9)
       exact nomatch S9
     lia
   ·intro a ha;refine cg (bg.mp ha) (fun ha=> ?_) fun ha=> ?_
    ·exact jm (h4 a ha) fun z hz e3=>jt z (aY _ hz) e3
    ·exact⟨x,by simp,aA.mp ha⟩
  ·refine iR (by unfold jc.pk;(refine iR (aS hf) ?_;exact rfl):I.pk acc x.2=acc) ?_;refine ih (D++[x]) acc hv.1 J5 h1 ?_ h3 ?_
   ·intro z hz;refine cg (bg.mp hz) (fun hz=> ?_) fun hz=> ?_
    ·exact h2 z hz
    ·refine iR (aA.mp hz) ?_;have hex:∃a∈acc,I.on a (I.t x.2)≠false:=by
      exact Classical.byContradiction fun q=>(fun q=>hf ((Hu I acc x.2).mpr q):¬ ∀j∈acc,I.on j (I.t x.2)=false) fun j hj=>Classical.byContradiction fun z=>q (jt j hj z)
     exact jm hex fun a ha hb=>⟨a,ha,by(simpa using hb)⟩
   ·intro a ha;exact jm (h4 a ha) fun z hz e3=>jt z (aY _ hz) e3
theorem GV{α:Type}(f g:α->Nat):∀l:List α,(l.map fun x=>f x+g x).sum=(l.map f).sum+(l.map g).sum:=by
 intro L0
 induction L0 with
 |nil=>
  exact rfl
 |cons a l ih=>
  simp only[aU,eB,ih];lia
theorem GU{α:Type}(p:α->Bool)(m:Nat):∀l:List α,(l.map fun x=>if p x then m else 0).sum=m*l.countP p:=by
 intro L0
 induction L0 with
 |nil=>
  rfl
 |cons a l ih=>
  refine iR aU <| iR eB <| iR ih <| iR List.countP_cons ?_
  cases p a
  ·simp
  ·simp only[iH,Nat.mul_add];lia
theorem Hw(I:jc)(C:ah):∀R:List (Nat×Nat),(C.map fun a=>I.cov a R).sum=(R.map fun x=>x.1*C.countP fun a=>I.on a (I.t x.2)).sum:=by
 intro L0
 induction L0 with
 |nil=>
  refine iR List.map_nil <| iR List.sum_nil ?_
  induction C with
  |nil=>rfl
  |cons a C ih=>(refine iR (aU ..) ?_;refine iR (eB ..) ?_;refine iR (ih ..) ?_;refine iR (Bb ..) ?_);rfl
 |cons x R ih=>
  exact iR (aU ..) <| iR (eB ..) <| jC (ih ..) <| jC (GU ..) <| jC (GV ..) rfl
theorem ya(I:jc)(v:ah):∀C:ah,C.Pairwise (fun a b=>I.on a v=true->I.on b v=true->False)->C.countP (fun a=>I.on a v)<=1:=by
 intro L0
 induction L0 with
 |nil=>
  intro _;simp
 |cons a C ih=>
  intro h;rw[fN]at h;refine iR List.countP_cons ?_;have ih:=ih h.2;cases ha:I.on a v with
  |false=>exact ih
  |true=>
   have:C.countP (fun a=>I.on a v)=0:=by
    rw[List.countP_eq_zero];intro b hb q;exact h.1 b hb ha q
   (refine iR this ?_);trivial
theorem JI(I:jc)(v:ah)(C:ah)(h:∃a∈C,I.on a v=true):1<=C.countP (fun a=>I.on a v):=List.countP_pos_iff.mpr h
theorem Fe(I:jc)(c0:Nat->Nat)(R:List (Nat×Nat))(hc:∀i,i<7->c0 i<=I.cov i R)(C:ah)(hC:∀i∈C,i<7)(hd:∀x∈R,C.Pairwise (fun a b=>I.on a (I.t x.2)=true->I.on b (I.t x.2)=true->False)):(C.map c0).sum<=(R.map (·.1)).sum:=by
 have h1:(C.map c0).sum<=(C.map fun a=>I.cov a R).sum:=by
  clear hd
  induction C with
  |nil=>exact aK _
  |cons a C ih=>
   have:=hc a (hC a (by simp));have:=ih fun i hi=>hC i (aq _ hi);simp only[aU,eB];exact ck ‹_› ‹_›
 refine ao h1 <| iR (Hw ..) ?_
 clear h1 hc
 induction R with
 |nil=>exact aK _
 |cons x R ih=>
  have ih:=ih fun y hy=>hd y (aq _ hy);have h3:x.1*C.countP (fun a=>I.on a (I.t x.2))<=x.1*1:=bS _ (ya I (I.t x.2) C (hd x (by simp)));simp only[aU,eB];exact ck (ao h3 (aE (Nat.mul_one _))) ih
theorem Fd(I:jc)(c0:Nat->Nat)(R:List (Nat×Nat))(C:ah)(hd:C.Pairwise I.dj)(h1:∀x∈R,∃a∈C,I.on a (I.t x.2)=true)(h2:∀a∈C,c0 a=I.cov a R):(C.map c0).sum=(R.map (·.1)).sum:=by
 have e:C.map c0=C.map fun a=>I.cov a R:=dU h2;refine iR (e ..) <| iR (Hw ..) ?_
 congr 1;refine dU fun x hx=> ?_;have h3:=ya I (I.t x.2) C (hd.imp fun h=>h (I.t x.2));have h4:=JI I (I.t x.2) C (h1 x hx);have:C.countP (fun a=>I.on a (I.t x.2))=1:=by(exact dz ‹_› ‹_›)
 exact iR (this ..) <| iR (Nat.mul_one ..) rfl
noncomputable def qM:Nat->List (ah)
 |0=>[[]]
 |j+1=>qM j++(qM j).map (· ++[j])
theorem ux:∀j,(qM j).length=2^j:=by
 intro L0
 induction L0 with
 |zero=>
  exact rfl
 |succ j ih=>
  rw[qM,au,aJ,ih,Nat.pow_succ];lia
theorem Mk:∀(j:Nat)(C:ah),C∈qM j->∀i∈C,i<j:=by
 intro L0
 induction L0 with
 |zero=>
  intro C h;rw[qM,aA]at h;subst h;trivial
 |succ j ih=>
  intro C h
  skip
  refine cg (bg.mp h) (fun h=> ?_) fun h=> ?_
  ·intro i hi;have:=ih C h i hi;exact dY ‹_›
  ·refine kU h fun D hD z1=> ?_;clear h;subst z1;intro i hi;refine cg (bg.mp hi) (fun hi=> ?_) fun hi=> ?_
   ·have:=ih D hD i hi;exact dY ‹_›
   ·exact iR (aA.mp hi) <| aK _
theorem Mn(c:Nat->Nat):∀j,HG ((List.range j).map c)=(qM j).map fun C=>(((C.map c).sum:Nat):Int):=by
 intro L0
 induction L0 with
 |zero=>
  exact rfl
 |succ j ih=>
  refine iR fm <| iR bR <| iR fT ?_
  unfold HG at ih|-;rw[fj,ih,dB,List.foldl_nil,qM,bR,bX,bX];congr 1;refine dU fun C ζ=>(?_:(((C.map c).sum:Nat):Int)+(c j:Int)=((((C++[j]).map c).sum:Nat):Int));exact iR bR <| iR iO rfl
noncomputable def qZ (m:Nat->Nat) (C:ah) (x:Int):Int:=C.foldl (fun x k=>BY (m k) x) x
theorem Ol(m:Nat->Nat):∀j,HJ ((List.range j).map m)=(qM j).map fun C=>qZ m C 0:=by
 intro L0
 induction L0 with
 |zero=>
  exact rfl
 |succ j ih=>
  refine iR fm <| iR bR <| iR fT ?_
  unfold HJ at ih|-;rw[fj,ih,dB,List.foldl_nil,qM,bR,bX,bX];congr 1;refine dU fun C ζ=>(?_:BY (m j) (qZ m C 0)=qZ m (C++[j]) 0);unfold qZ;exact iR fj rfl
theorem CB(f:Nat->Bool):∀j,(((List.range j).filter f).map (2^ ·)).sum<2^j:=by
 intro L0
 induction L0 with
 |zero=>
  simp
 |succ j ih=>
  refine iR (fm ..) <| iR (gD ..) <| iR (bR ..) <| iR (iO ..) <| iR (Nat.pow_succ ..) ?_
  cases hf:f j
  ·rw[cB (by simp[hf])];simp;exact aW ih (Nat.le_mul_of_pos_right _ (by decide))
  ·(refine iR (cA hf) ?_);simp;exact b9 (Nat.add_lt_add_right ih _) (Nat.mul_two _).symm
theorem PB(f:Nat->Bool):∀j,(qM j)[(((List.range j).filter f).map (2^ ·)).sum]? =some ((List.range j).filter f):=by
 intro L0
 induction L0 with
 |zero=>
  exact rfl
 |succ j ih=>
  rw[fm,gD,bR,iO,qM];cases hf:f j
  ·rw[cB (by(simp[hf])),iN,List.map_nil,List.sum_nil,Nat.add_zero,cK,bf (by(refine iR (ux ..) ?_);exact(CB f j)),ih]
  ·rw[cA hf,iN,fT,List.sum_singleton,cX (iR (ux ..) <| fY ..),ux,Nat.add_sub_cancel,bk,ih];rfl
theorem Ai(f:Nat->Bool):∀j i,((((List.range j).filter f).map (2^ ·)).sum).testBit i=(decide (i<j)&&f i):=by
 intro L0
 induction L0 with
 |zero=>
  intro i;simp
 |succ j ih=>
  intro i;have jS:=CB f j;refine iR (fm ..) <| iR (gD ..) <| iR (bR ..) <| iR (iO ..) ?_
  cases hf:f j
  ·rw[cB (by simp[hf]),iN,List.map_nil,List.sum_nil,Nat.add_zero,ih];by_cases e:i=j
   ·subst e;simp[hf]
   ·have:decide (i<j+1)=decide (i<j):=by(rw[decide_eq_decide]);exact⟨fun q=>gI (aM q) e,dY⟩
    exact iR this rfl
  ·refine iR (cA hf ..) <| iR (iN ..) <| iR (fT ..) <| iR (List.sum_singleton ..) <| iR (eE ..) ?_
   by_cases e:i=j
   ·subst e;refine iR (Nat.testBit_two_pow_add_eq ..) <| iR (ih ..) ?_
    simp[hf]
   ·by_cases h:i<j
    ·refine iR (Nat.testBit_two_pow_add_gt h ..) <| iR (ih ..) ?_
     have:decide (i<j+1)=decide (i<j):=by(rw[decide_eq_decide]);exact⟨fun q=>gI (aM q) e,dY⟩
     exact iR this rfl
    ·have h1:decide (i<j+1)=false:=cD (fun q=>h (gI (aM q) e));rw[h1,Nat.testBit_lt_two_pow]
     ·rfl
     ·have:2^(j+1)<=2^i:=Nat.pow_le_pow_right (by decide) (by lia);rw[Nat.pow_succ]at this;exact aW (Nat.add_lt_add_left jS _) (ao (aE (Nat.mul_two _).symm) this)
theorem RE(m:Nat->Nat):∀C,qZ m C (-1)= -1:=by
 intro L0
 induction L0 with
 |nil=>
  exact rfl
 |cons k C ih=>
  refine(?_:qZ m C (BY (m k) (-1))= -1);have:BY (m k) (-1)= -1:=rfl;exact iR this <| iR ih rfl
theorem Eo(v w x:Nat):(v|||w)&&&x=0↔v&&&x=0/\w&&&x=0:=by
 rw[Nat.and_or_distrib_right,Nat.or_eq_zero_iff]
theorem Gh(m:Nat->Nat):∀(C:ah)(v:Nat),0<=qZ m C (v:Int)↔C.Pairwise (fun a b=>m a&&&m b=0)/\∀k∈C,v&&&m k=0:=by
 intro L0
 induction L0 with
 |nil=>
  intro v;refine(?_:0<=(v:Int)↔_);simp
 |cons k C ih=>
  intro v;refine(?_:0<=qZ m C (BY (m k) (v:Int))↔_);rw[fN];have e:BY (m k) (v:Int)=if v&&&m k=0 then((v|||m k:Nat):Int)else -1:=by
   unfold BY;rw[aS (by lia),b7]
  refine iR e <| bc (p:=v&&&m k=0) (fun h=> ?_) fun h=> ?_
  ·rw[a_ h,ih];constructor
   ·rintro⟨h1,h2⟩;refine⟨⟨fun a ha=>((Eo v (m k) (m a)).mp (h2 a ha)).2,h1⟩,fun j hj=> ?_⟩;clear e;rcases aV.mp hj with rfl|hj
    ·exact h
    ·exact((Eo v (m k) (m j)).mp (h2 j hj)).1
   ·rintro⟨⟨h1,h2⟩,h3⟩;exact⟨h2,fun j hj=>(Eo v (m k) (m j)).mpr ⟨h3 j (aq _ hj),h1 j hj⟩⟩
  ·refine iR (aS h ..) <| iR (RE ..) ?_
   constructor
   ·intro q;lia
   ·rintro⟨_,h3⟩;exact absurd (h3 k (by simp)) h
theorem G5(nr:Nat->Nat->Bool)(a b:Nat):oO nr a&&&oO nr b=0↔ ∀i,i<7->nr i a=true->nr i b=true->False:=by
 have ta:=Ai (fun i=>nr i a) 7;have tb:=Ai (fun i=>nr i b) 7;unfold oO;constructor
 ·intro h i hi h1 h2;have:=aQ (fun x=>Nat.testBit x i) h;simp only[Nat.testBit_and,ta,tb,h1,h2,aH hi,Nat.zero_testBit]at this;cases this
 ·intro h;refine Nat.eq_of_testBit_eq fun i=>iR (Nat.testBit_and ..) <| iR (ta ..) <| iR (tb ..) <| iR (Nat.zero_testBit ..) ?_
  by_cases hi:i<7
  ·cases h1:nr i a
   ·simp
   ·cases h2:nr i b
    ·simp
    ·exact absurd (h i hi h1 h2) id
  ·simp[hi]
theorem count_at(j0:Nat)(h:j0<7)(b:Bool):(List.range 7).countP (fun j=>(j==j0)&&b)=if b then 1 else 0:=by
 have:∀j0:Nat,j0<7->∀b:Bool,(List.range 7).countP (fun j=>(j==j0)&&b)=if b then 1 else 0:=by decide
 exact this j0 h b
theorem LQ{I:jc}(ok:I.ok)(ht:∀k,k<7->∃j,j<7/\I.t k=I.w j)(p:ah->Bool):∀S:List (Nat×Nat),(∀x∈S,x.2<7)->
  (((List.range 7).filter fun j=>p (I.w j)).map (BU I (fun k=>P (I.w k)) S)).sum=(S.map fun x=>if p (I.t x.2)then x.1 else 0).sum:=by
 intro L0
 induction L0 with
 |nil=>
  intro _;refine iR List.map_nil <| iR List.sum_nil ?_
  generalize (List.range 7).filter _=F
  induction F with
  |nil=>rfl
  |cons a F ih=>(refine iR aU ?_;refine iR eB ?_;refine iR ih ?_);rfl
 |cons x S ih=>
  intro h;have ih:=ih fun y hy=>h y (aq _ hy);refine iR aU <| iR eB <| jC ih ?_
  have e:∀j,BU I (fun k=>P (I.w k)) (x::S) j=(if P (I.t x.2)==P (I.w j)then x.1 else 0)+BU I (fun k=>P (I.w k)) S j:=by
   intro j;dsimp only[BU];refine iR List.filter_cons ?_;clear ih;split
   ·rfl
   ·(exact(aX _).symm)
  have e2:((List.range 7).filter fun j=>p (I.w j)).map (BU I (fun k=>P (I.w k)) (x::S))=((List.range 7).filter fun j=>p (I.w j)).map fun j=>(if P (I.t x.2)==P (I.w j)then x.1 else 0)+BU I (fun k=>P (I.w k)) S j:=dU fun j ζ=>e j;refine iR (e2 ..) <| iR (GV ..) <| iR (GU ..) <| iR (List.countP_filter ..) ?_
  congr 1;obtain⟨j0,Vr,et⟩:=ht x.2 (h x (by simp));have e3:(List.range 7).countP (fun j=>(P (I.t x.2)==P (I.w j))&&p (I.w j))=(List.range 7).countP (fun j=>(j==j0)&&p (I.t x.2)):=by
   refine List.countP_congr fun j hj=> ?_;have hj7:=bH.mp hj;refine iR et <| bc (p:=j=j0) (fun q=> ?_) fun q=> ?_
   ·clear ht h ih e e2 et hj;subst q;simp
   ·have:(P (I.w j0)==P (I.w j))=false:=aL.mpr fun z=>q (ok.inj j0 j Vr hj7 (Lm _ _ (ok.way j0 Vr) (ok.way j hj7) z)).symm;refine iR this <| iR (aL.mpr q) ?_
    rfl
  refine iR (e3 ..) <| iR (count_at j0 Vr ..) ?_
  (clear ok ht h ih e e2 Vr et e3;cases p (I.t x.2))<;>simp
theorem GS(l:ah):l.reverse.sum=l.sum:=(List.reverse_perm l).sum_nat
theorem Rb(I:jc)(k:Nat)(R:List (Nat×Nat)):(R.reverse.map fun x=>if I.on k (I.t x.2)then x.1 else 0).sum=I.cov k R:=iR (List.map_reverse ..) <| iR (GS ..) rfl
theorem plain{I:jc}(ok:I.ok)(ht:∀k,k<7->∃j,j<7/\I.t k=I.w j)(nr:Nat->Nat->Bool)(RN:∀j k,j<7->k<7->nr j k=I.on k (I.w j))(c0:Nat->Nat)(o ks:ah)(ho:o.Perm (List.range 7))(hk:ks.Perm o)(hp:ks.Pairwise fun i j=>(I.t j).length<=(I.t i).length)(S:List (Nat×Nat))(hS:S=(ks.foldl I.stp (c0,[])).2)(pl:ah)(w5:pl=(S.reverse.map (·.2)).foldl I.pk [])(ap su:List Int)(Ao:ap=HJ ((List.range 7).map (oO nr)))(Zo:su=HG ((List.range 7).map c0))(ch M:Nat)(VU:ch=RW (fun k=>P (I.w k)) (pl.map fun k=>P (I.w k)))(hM:M=(S.map (·.1)).sum):
  (∀x∈S,x.2<7)/\S.length<=7/\(∀k∈o,(ks.foldl I.stp (c0,[])).1 k=0)/\ch<128/\(∀k,k<7->c0 k<=uV nr (BU I (fun k=>P (I.w k)) S) k)/\((List.range 7).map (BU I (fun k=>P (I.w k)) S)).sum=M/\su.getD ch 0=(M:Int)/\0<=ap.getD ch 0/\(M:Int)∈sM ap su/\∀x∈sM ap su,x<=(M:Int):=by
 have v_:∀k∈ks,k<7:=fun k h=>bH.mp (ho.subset (hk.subset h));have Gm:ks.length=7:=by have:=hk.length_eq;have:=ho.length_eq;replace this:=dK▸this;(exact Eq.trans ‹_› ‹_›)
 obtain⟨R,r1,r2,r3,r4,r5⟩:=run I c0 ks c0 [] hp (fun i=>by(refine iR (Bb ..) ?_);exact aK _) (fun i ζ=>by(refine iR (Bb ..) ?_);rfl) trivial (by simp)
 replace r1:=(fy hS)▸r1
 have ZN:∀x∈R,x.2<7:=fun x hx=>v_ _ ((r4 x hx).resolve_left (by simp));have ZM:∀x∈S,x.2<7:=fun x hx=>ZN x (gv.mp (r1▸hx));have Sj:∀k,k<7->(ks.foldl I.stp (c0,[])).1 k=0:=fun k h=>PI I ks c0 [] k (hk.symm.subset (ho.symm.subset (bH.mpr h)));have Kw:∀i,i<7->c0 i<=I.cov i R:=fun i hi=>by have:=r2 i;replace this:=(Sj i hi)▸this;exact ao this (aE (aX _))
 have hMR:M=(R.map (·.1)).sum:=by(refine iR (hM ..) ?_;refine iR (r1 ..) ?_;refine iR (List.map_reverse ..) ?_;refine iR (GS ..) ?_;exact rfl)
 have WC:S.reverse=R:=by(refine iR (r1 ..) ?_;refine iR (iw ..) ?_;exact rfl)
 obtain⟨p1,p2,p3,p4⟩:=Xk I c0 R [] [] r3 (by simp) .nil (by simp) (by simp) (by trivial)
 replace w5:=WC▸w5
 rw[<-w5]at p1 p2 p3 p4;have O8:∀a∈pl,a<7:=fun a ha=>by
  refine jm (p4 a ha) fun x hx z1=> ?_;subst z1;exact ZN x hx
 have Yt:pl.Nodup:=p1.imp fun{a b} h e=>by
  clear hk hp hS v_ Gm w5 r2 r3 r4 WC p4;subst e;exact h (I.t a) (xy I a) (xy I a)
 have UM:=Fd I c0 R pl p1 p2 p3;have RT:=PB (fun k=>(pl.map fun k=>P (I.w k)).contains (P (I.w k))) 7;have hC:((List.range 7).filter fun k=>(pl.map fun k=>P (I.w k)).contains (P (I.w k))).Perm pl:=by
  refine(List.perm_ext_iff_of_nodup (List.nodup_range.filter _) Yt).mpr fun k=> ?_;rw[dF,bH];rw[iD,bq,iE];constructor
  ·rintro⟨h7,j,hj,e⟩;exact ok.inj j k (O8 j hj) h7 (Lm _ _ (ok.way j (O8 j hj)) (ok.way k h7) e)▸hj
  ·intro h;exact⟨O8 k h,k,h,rfl⟩
 have RT:(qM 7)[ch]? =some ((List.range 7).filter fun k=>(pl.map fun k=>P (I.w k)).contains (P (I.w k))):=by(refine iR VU ?_);exact RT
 generalize ((List.range 7).filter fun k=>(pl.map fun k=>P (I.w k)).contains (P (I.w k)))=C at RT hC;have LH:ch<128:=by
  refine m9 (ay.mp RT) fun h ζ=> ?_
  skip
  exact h
 have esu:∀c C,(qM 7)[c]? =some C->su.getD c 0=(((C.map c0).sum:Nat):Int):=by
  intro c C h;refine iR (Zo ..) <| iR (Mn ..) <| iR (bB ..) ?_
  refine iR (bk ..) ?_;exact iR (h ..) rfl
 have eap:∀c C,(qM 7)[c]? =some C->(0<=ap.getD c 0↔C.Pairwise fun a b=>oO nr a&&&oO nr b=0):=by
  intro c C h;have e:ap.getD c 0=qZ (oO nr) C ((0:Nat):Int):=by
   refine iR (Ao ..) <| iR (Ol ..) <| iR (bB ..) ?_
   refine iR (bk ..) ?_;exact iR (h ..) rfl
  rw[e,Gh];constructor
  ·exact fun q=>q.1
  ·exact fun q=>⟨q,fun k ζ=>Nat.zero_and _⟩
 have B4:su.getD ch 0=(M:Int):=by
  exact iR (esu ch C RT) <| iR (hC.map c0).sum_nat <| iR UM <| iR hMR rfl
 have LI:0<=ap.getD ch 0:=by
  rw[eap ch C RT];have hC7:=fun a ha=>O8 a (hC.subset ha);refine List.Pairwise.imp_of_mem (fun{a b} ha hb h=> ?_) (hC.symm.pairwise p1 fun{a b} h v h1 h2=>h v h2 h1:C.Pairwise I.dj);rw[G5];intro i hi h1 h2
  replace h1:=(RN i a hi (hC7 a ha))▸h1
  replace h2:=(RN i b hi (hC7 b hb))▸h2
  exact h _ h1 h2
 refine⟨ZM,?_,fun k h=>Sj k (bH.mp (ho.subset h)),LH,fun k h7=> ?_,?_,B4,LI,?_,fun x hx=> ?_⟩
 ·refine iR r1 <| iR cT ?_
  replace r5:=b8▸r5
  exact ao r5 (aE ((aX _).trans Gm))
 ·have h1:=LQ ok ht (I.on k) S ZM;rw[r1,Rb]at h1;have h2:uV nr (BU I (fun k=>P (I.w k)) S) k=I.cov k R:=by
   refine jC h1 <| jC r1 ?_
   unfold uV;congr 2;exact List.filter_congr fun j hj=>RN j k (bH.mp hj) h7
  exact iR h2 <| Kw k h7
 ·have h1:=LQ ok ht (fun ζ=>true) S ZM
  replace h1:=(dI.mpr (fun ζ ζ=>rfl))▸h1
  exact iR h1 <| iR hM rfl
 ·unfold sM;rw[iE];exact⟨ch,dF.mpr ⟨bH.mpr LH,aH LI⟩,B4⟩
 ·refine kU hx fun c hc z2=> ?_;subst z2;refine lP (dF.mp hc) fun An OB=> ?_;have An:=bH.mp An;have jS:c<(qM 7).length:=by(refine iR (ux ..) ?_);exact An
  have qO:(qM 7)[c]? =some (qM 7)[c]:=aO jS;refine iR (esu c _ qO) <| iR hMR ?_
  have oz:=Mk 7 _ (iG jS);have:=Fe I c0 R Kw (qM 7)[c] oz fun x hx=>by
   refine jm (ht x.2 (ZN x hx)) fun j hj et=>List.Pairwise.imp_of_mem (fun{a b} ha hb h=> ?_) ((eap c _ qO).mp (bL OB));rw[G5]at h;intro h1 h2;rw[et]at h1 h2;exact h j hj (iR (RN j a hj (oz a ha)) h1) (iR (RN j b hj (oz b hb)) h2)
  exact d_.mpr ‹_›
noncomputable def aN (ns:List Int) (k:Nat):Nat:=if k=0 then 0 else(Int.fmod (ru ns k) (k:Int)).toNat
theorem o6(ns:List Int):Tree (aN ns):=fun k h=>by
 unfold aN;rw[aS (cN ‹_›)];exact(mh (ru ns k) k h).2
theorem sA(ns:List Int)(k:Nat)(h:0<k):Int.fmod (ru ns k) (k:Int)=(aN ns k:Int):=by
 unfold aN;rw[aS (cN ‹_›)];exact(mh (ru ns k) k h).1.symm
noncomputable def nc (ns:List Int):jc:=⟨wd (aN ns),fun k=>rN (ru ns k),fun k=>hN (ru ns k),fun k=>bN (ru ns k)⟩
theorem CL(ns:List Int):(nc ns).ok:=⟨fun k h=>Lq (o6 ns) k h,fun i k ζ ζ h=>TU (o6 ns) i k h,fun k ζ=>Xj _,fun k ζ=>So _⟩
theorem Jv(ns:List Int)(k:Nat)(h:k<7):∃j,j<7/\(nc ns).t k=(nc ns).w j:=jm (Po (o6 ns) k k ((wd (aN ns) k).length-rN (ru ns k)) (aK _)) fun j hj e=>⟨j,by(exact aD ‹_› ‹_›),e⟩
noncomputable def D5 (ns:List Int) (k:Nat):ah:=row (ru ns) (fun k=>P (wd (aN ns) k)) k
theorem GZ(ns:List Int)(k:Nat):D5 ns k=qA ((nc ns).r k) ((nc ns).s k) ((nc ns).b k):=by
 dsimp only[D5,row,VI,qA,jc.s,nc];simp only[cL,List.singleton_append,gz,dD];rfl
theorem zG(ns:List Int)(c:Nat->Nat):∀o:ah,(nc ns).text c o=(o.map fun k=>mw (c k)++D5 ns k).flatten:=by
 intro L0
 induction L0 with
 |nil=>
  exact rfl
 |cons k o ih=>
  rw[jc.text_cons,aU,gZ,<-ih,GZ,cL]
theorem MQ(ns:List Int)(k:Nat)(h:k<7):(D5 ns k).length<=100:=by
 have h1:=R6 (CL ns) k h;have h2:=Bc ((nc ns).b k);have h3:(([9,32]:ah).take ((nc ns).r k)).length<=2:=by(refine iR bD ?_);exact cH ..
 refine iR (GZ ..) ?_;unfold qA;simp only[au,aB,b8];exact lit (ck h3 (cQ (ck h1 (cQ (cQ h2)))))
theorem L8(ns:List Int)(k:Nat)(h:k<7):(mP (aN ns) k).length<=20:=by
 have:=Ej (o6 ns) k k (aK _);unfold mP;simp only[aB,aJ];exact rE (aD ‹_› ‹_›)
theorem Qo(ns:List Int)(j k:Nat):Aj (mP (aN ns)) (fun k=>rN (ru ns k)) j k=(nc ns).on k ((nc ns).w j):=by
 dsimp only[Aj,jc.on];exact iR (MX (o6 ns) ..) <| iR (JH ..) rfl
noncomputable def vd (ns:List Int):PV:=Yk 0 (aN ns 1) (aN ns 2) (aN ns 3) (aN ns 4) (aN ns 5) (aN ns 6)
theorem Gj(n:Nat)(ns:List Int):(ev (n+7)).C "_law_above" [.list (iW fun k=>.int (ru ns k))] [] []=some (vd ns,[]):=by
 unfold vd;exact jC (sA ns 1 (by decide)) <| jC (sA ns 2 (by decide)) <| jC (sA ns 3 (by decide)) <| jC (sA ns 4 (by decide)) <| jC (sA ns 5 (by decide)) <| jC (sA ns 6 (by decide)) <| XY n (ru ns 0) (ru ns 1) (ru ns 2) (ru ns 3) (ru ns 4) (ru ns 5) (ru ns 6)
theorem HV(ns:List Int)(k:Nat)(h:0<k):tx (aN ns) k=P (wd (aN ns) k):=by
 unfold tx;rw[L4];refine iR (lJ (o6 ns) k h) ?_;simp
theorem EK(n:Nat)(ns:List Int):(ev (n+9)).C "_law_texts" [vd ns] [] []=some (.list (iW fun k=>.str (P (wd (aN ns) k))),[]):=by
 have h:=W8 (o6 ns) n
 replace h:=(HV ns 6 (by decide))▸((HV ns 5 (by decide))▸((HV ns 4 (by decide))▸((HV ns 3 (by decide))▸((HV ns 2 (by decide))▸((HV ns 1 (by decide))▸h)))))
 exact h
theorem JZ(ns:List Int)(k:Nat)(h:k<7)(st:St):jk st (vd ns) (.int (k:Int))=some (.int (aN ns k:Int)):=by
 have e:k=0\/k=1\/k=2\/k=3\/k=4\/k=5\/k=6:=by(exact xE ‹_›)
 (clear h;rcases e with rfl|rfl|rfl|rfl|rfl|rfl|rfl)<;>rfl
theorem Om(ns:List Int)(k:Nat)(h:k<7):(P (wd (aN ns) k)).length<=100:=by
 have h1:=Lq (o6 ns) k h;have h2:=zC _ h1.2;have h3:=h1.1;exact lit (ao h2 (bE (bS 7 h3) 1))
theorem Yc:∀ns:List Int,ns.length<=63->(ev 27).C "law" [.list (ns.map .int)] [] []=some (.bool true,[]):=by
 intro ns _;have hm:ns.length%7<7:=fQ _ (by decide);have yK:Int.fmod (ns.length:Int) 7=((ns.length%7:Nat):Int):=by
  exact iR (Int.fmod_eq_emod_of_nonneg _ (by decide)) rfl
 generalize ns.length%7=m at hm yK;have lD:=AX m hm;have ho:∀i∈sJ m,i<7:=fun i hi=>bH.mp (lD.subset hi);have Yt:(sJ m).Nodup:=lD.nodup_iff.mpr List.nodup_range;have hl:(sJ m).length=7:=by have:=lD.length_eq;replace this:=dK▸this;exact this
 have ok:=CL ns;have hc:∀i,dN (ru ns i)<55296:=fun i=>XH _;refine cps fun G_ z1=>uO (NC ok 0 (fun k=>dN (ru ns k)) hc (sJ m) ho Yt hl) fun ks k1 k2 k3=> ?_;clear ho Yt hl hc;obtain⟨g1,g2,g3,g4,g5,g6,g7,g8,g9,g10⟩:=plain ok (Jv ns) (Aj (mP (aN ns)) fun k=>rN (ru ns k)) (fun j k ζ ζ=>Qo ns j k) (fun k=>dN (ru ns k)) (sJ m) ks lD k1 k2 _ rfl _ rfl _ _ rfl rfl _ _ rfl rfl;refine z1 ?_;rw[zG,zG]at k3
 replace k3:=(dU fun k hk=>by(refine iR (g3 k hk) ?_;exact rfl):((sJ m).map fun k=>mw ((ks.foldl (nc ns).stp (fun k=>dN (ru ns k),[])).1 k)++D5 ns k)=(sJ m).map fun k=>mw 0++D5 ns k)▸k3
 have hS:(ks.foldl (nc ns).stp (fun k=>dN (ru ns k),[])).2.length<=100:=by exact lit ‹_›
 have S1:=Fq ok 1 _ g1 (lit ‹_›);have Tw:=Z7 17 ((List.range 7).map fun k=>dN (ru ns k)) (by simp) (by simp);have Cf:(HJ ((List.range 7).map (oO (Aj (mP (aN ns)) fun k=>rN (ru ns k))))).length=128:=by
  rfl
 have Xv:(HG ((List.range 7).map fun k=>dN (ru ns k))).length=128:=by
  rfl
 generalize hSS:(ks.foldl (nc ns).stp (fun k=>dN (ru ns k),[])).2=S at*;have epl:((S.reverse.map (·.2)).foldl (nc ns).pk []).map (fun k=>PV.str (P ((nc ns).w k)))=(((S.reverse.map (·.2)).foldl (nc ns).pk []).map fun k=>P ((nc ns).w k)).map .str:=by(refine iR bX ?_);rfl
 replace S1:=epl▸S1
 exact NB 0 ns m hm yK (ru ns) (vd ns) (fun k=>P (wd (aN ns) k)) (D5 ns) (MQ ns) (mP (aN ns)) (L8 ns) (nc ns) S hS _ _ _ _ Cf Xv _
  (Qn 17 ns) (Gj 17 ns) (EK 15 ns) (Xf 9 (ru ns) (fun k=>P (wd (aN ns) k)) (Om ns)) k3 S1 (Z3 (o6 ns) 16 (vd ns) (JZ ns)) (apart 13 ((List.range 7).map (oO (Aj (mP (aN ns)) fun k=>rN (ru ns k)))) (by simp) (by simp)) (by replace Tw:=bX▸Tw;exact Tw)
  g9 g10 g4 g5 rfl g6 g7 g8 rfl
end
end Mine.Internal
theorem PySem.Challenge.cw_ik0206_01_holds : PySem.Challenge.rw_ik0206_01.Holds :=
  Mine.Internal.Yd Mine.Internal.Yc
