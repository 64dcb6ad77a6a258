import PyProof.Rows.All
import PyProof.FactsAll.bool
import PyProof.CodeObjX
import PyProof.StrLoop
import PyProof.EnumIter
import PyProof.EnumFor
import PyProof.EnumMake
import PyProof.FactsAll.set
import PyProof.RangeIter
import PyProof.WalksMore
import PyProof.RangeFor
import PyProof.Gen
import PyProof.GenArm
import PyProof.GenQ
import PyProof.WalksEnum
import PyProof.TupleOfGen
import PyProof.Rows.SetFrom
import Wide.Seal
import KE.IntText
import KE.KRevIter
import KE.KSetDisp
import Open.Tops
import Wide.FinOn
import OpenK.AllK
import Wide.All
import Lean
import PySem.Challenge.RW_ik0206_01
set_option Elab.async false
set_option maxRecDepth 1000000
set_option maxHeartbeats 8000000
set_option linter.all false
namespace Mine
def ai:=@PySem.wpAny_bind
def aj:=@PySem.wpAny_pure
def ak:=@Option.bind_eq_some_iff
def ao:=@Option.bind_some
def aq:=@Option.map_eq_some_iff
def au:=@Option.map_some
def ay:=@List.mem_cons_of_mem
def az:=@Bool.false_eq_true
def aA:=@Bool.and_eq_true
def aB:=@List.length_append
def aD:=@if_neg
def aE:=@List.length_cons
def aF:=@List.getElem?_eq_some_iff
def aG:=@PySem.Heap.get?_push_of_some
def aH:=@List.length_map
def aJ:=@decide_eq_true_eq
def aK:=@List.mem_singleton
def aL:=@List.map_cons
def aM:=@PySem.Heap.get?_push_size
def aO:=@beq_eq_false_iff_ne
def aP:=@List.getElem?_eq_getElem
def aQ:=@if_pos
def aR:=@beq_iff_eq
def aS:=@List.nil_append
def aT:=@decide_eq_true
def aU:=@List.mem_cons_self
def aV:=@Nat.le_refl
def aW:=@Option.some.injEq
def aX:=@PySem.wpAny_holding
def aY:=@List.mem_cons
def aZ:=@PySem.Around.under_plainId
def a_:=@if_false
def bf:=@Array.length_toList
def bg:=@List.mem_append_left
def bh:=@PySem.builtinLookup_eq_fast
def bk:=@List.getElem?_append_left
def bl:=@List.mem_append
def bq:=@List.drop_eq_getElem_cons
def br:=@List.getElem?_map
def bu:=@Int.toNat_natCast
def bw:=@List.map_map
def bx:=@PySem.codeAny_builtin
def bz:=@Nat.zero_add
def bA:=@PySem.wpAny_loadPart'
def bB:=@List.length_nil
def bC:=@PySem.wpAny_of_eq
def bD:=@PySem.plainId_quiet
def bE:=@PySem.isSubtype_type
def bF:=@List.getD_eq_getElem?_getD
def bG:=@PySem.Heap.lt_size
def bH:=@List.length_drop
def bI:=@List.length_take
def bJ:=@beq_self_eq_true
def bK:=@List.mem_range
def bL:=@List.mem_of_getElem?
def bM:=@PySem.Heap.size_push
def bO:=@List.getElem?_append_right
def bP:=@decide_eq_false
def bQ:=@PySem.typeLookup_type
def bR:=@List.map_append
def bS:=@PySem.wpAny_newObj_type
def bT:=@List.take_of_length_le
def bU:=@PySem.wpAny_mono
def bV:=@List.take_succ_eq_append_getElem
def bW:=@PySem.wpAny_call_entry
def bX:=@Option.some.inj
def bY:=@if_true
def bZ:=@PySem.wpAny_setState_of
def b7:=@List.filter_eq_self
def b8:=@List.forIn_cons
def b9:=@List.all_eq_true
def b_:=@List.mem_map
def cg:=@PySem.wpAny_standAt
def cj:=@List.eq_nil_of_length_eq_zero
def ck:=@List.filter_cons_of_pos
def cu:=@List.filter_cons_of_neg
def cy:=@List.length_singleton
def cz:=@Int.natCast_nonneg
def cA:=@PySem.wpAny_isInstance
def cB:=@List.length_set
def cC:=@Bool.not_eq_true'
def cD:=@List.nodup_append
def cE:=@List.append_assoc
def cF:=@List.getElem?_toArray
def cG:=@PySem.Heap.get?_update_self
def cH:=@Bool.or_eq_true
def cI:=@List.append_nil
def cJ:=@of_decide_eq_true
def cK:=@List.size_toArray
def cL:=@Bool.false_ne_true
def cM:=@List.mem_append_right
def cN:=@List.length_reverse
def cO:=@List.getElem?_cons_zero
def cP:=@PySem.MeetsSeq3.plain_eq_loop
def cQ:=@List.length_eq_zero_iff
def cR:=@PySem.wpAny_askSetting
def cS:=@List.lookup_cons
def cT:=@PySem.wpAny_callSpecial?_slot
def cU:=@List.mem_of_mem_take
def cV:=@Array.getElem?_eq_getElem
def cW:=@PySem.typeIs_str
def cX:=@PySem.Heap.get?_update_other
def cY:=@PySem.F.plain_min_loop
def cZ:=@PySem.F.plain_max_loop
def c8:=@List.foldl_cons
def c9:=@List.dropLast_concat_getLast
def c_:=@List.sum_cons
def dc:=@PySem.entryFor_of_tree
def dg:=@PySem.seg_bind_wrap
def dh:=@List.map_congr_left
def di:=@List.length_range
def dm:=@congrArg
def dw:=@Bool.not_true
def dz:=@List.mem_filter
def dB:=@Nat.le_trans
def dD:=@PySem.wpAny_rule
def dF:=@PySem.Heap.SameBut.update
def dG:=@PySem.wpAny_setEntries_of
def dH:=@Nat.zero_le
def dI:=@List.getElem?_eq_none
def dJ:=@List.forIn_nil
def dK:=@Nat.ne_of_lt
def dM:=@List.findIdx?_eq_some_iff_getElem
def dO:=@PySem.wpAny_truthy_bool
def dP:=@List.filter_eq_nil_iff
def dQ:=@List.drop_of_length_le
def dR:=@bne_self_eq_false
def dS:=@Nat.succ_pos
def dU:=@PySem.Heap.SameBut.refl
def dW:=@PySem.arm_eval_Call_Name'
def dX:=@List.take_succ_cons
def dY:=@PySem.sizeLine_eq
def dZ:=@List.cons.injEq
def d7:=@PySem.wpAny_updateSeq
def d8:=@List.take_length
def d9:=@PySem.Calls.loadGlobal_builtin
def d_:=@Prod.mk.injEq
def ee:=@PySem.wpAny_seqItems
def eg:=@PySem.wpAny_tryCatch
def ek:=@PySem.wpAny_letGo
def eu:=@List.getElem?_cons_succ
def ez:=@decide_eq_false_iff_not
def eB:=@Bool.not_eq_false
def eE:=@List.foldl_append
def eF:=@Option.map_none
def eG:=@List.nodup_cons
def eH:=@List.range_succ
def eK:=@List.filterMap_cons
def eL:=@List.map_nil
def eN:=@Nat.lt_irrefl
def eO:=@PySem.wpAny_field
def eS:=@Option.getD_none
def eU:=@Option.getD_some
def eV:=@Array.toList_inj
def eW:=@List.cons_append
def eX:=@ite_congr
def eY:=@PySem.strKind_is
def eZ:=@List.pairwise_cons
def e7:=@List.filter_append
def e8:=@PySem.Calls.spliced_cons
def e9:=@PySem.W.FB.slot_frozenset_contains
def e_:=@Nat.mod_lt
def fc:=@List.nodup_nil
def ff:=@Array.forIn_toList
def fh:=@List.map_singleton
def fj:=@List.mem_iff_getElem?
def fk:=@Option.isNone_iff_eq_none
def fm:=@PySem.wpAny_specialOf
def fq:=@Nat.sub_zero
def fu:=@PySem.Calls.evalArgs_plain
def fy:=@PySem.wpAny_pyIter_list
def fC:=@PySem.wpAny_assign_Name
def fD:=@Nat.le_succ
def fE:=@PySem.wpAny_setEpoch_of
def fF:=@PySem.signature?_of
def fG:=@List.all_cons
def fH:=@List.eraseIdx_eq_take_drop_succ
def fJ:=@List.getElem?_range
def fK:=@PySem.Calls.loadGlobal_global
def fL:=@PySem.MeetsSeq3.entry_eq_loop
def fM:=@List.mem_reverse
def fN:=@List.not_mem_nil
def fO:=@Bool.not_eq_true
def fP:=@List.zip_cons_cons
def fQ:=@PySem.Calls.callWith_builtin
def fS:=@PySem.wpAny_typeOf
def fT:=@PySem.wpAny_pyIter_rangeiter
def fU:=@List.findIdx?_cons
def fV:=@PySem.Calls.Constant_str
def fW:=@PySem.wpAny_ite_false
def fX:=@PySem.codeAny_of_tree
def fY:=@PySem.wpAny_attempt
def fZ:=@List.length_filter_le
def f7:=@List.singleton_append
def f9:=@List.dropLast_eq_take
def f_:=@List.contains_iff_mem
def gb:=@List.take_append_drop
def gc:=@List.flatten_cons
def gf:=@PySem.wpAny_richCompare_same_room
def gg:=@Nat.le_succ_of_le
def gh:=@PySem.Calls.spliced_nil
def gi:=@Array.getD_eq_getD_getElem?
def gj:=@Array.toList_push
def gk:=@List.reverse_reverse
def gm:=@PySem.codeAny_call_builtin
def gn:=@PySem.wpAny_fieldsOf
def gp:=@List.take_left
def gq:=@List.dropLast_concat
def gr:=@List.contains_eq_mem
def gu:=@List.getElem_mem
def gy:=@List.isEmpty_nil
def gz:=@List.replicate_succ
def gA:=@Array.toList_append
def gB:=@PySem.wpAny_binaryOp_same
def gC:=@List.perm_singleton
def gD:=@PySem.F.plain_extend_loop
def gE:=@List.cons.inj
def gF:=@Bool.true_and
def gG:=@Bool.and_true
def gH:=@Nat.min_eq_left
def gI:=@List.filter_nil
def gJ:=@List.sum_append
abbrev aa:=PySem.Value->PySem.Shared->Prop
abbrev af:=PySem.Shared->Prop
abbrev ah:=List Nat
section
open PySem
inductive PV where
 |none|bool (b:Bool)|int (i:Int)|str (s:List Nat)
 |tup (l:List PV)|list (l:List PV)|lst (k:Nat)|dct (k:Nat)
 |iset (l:List Int)|cset (l:List Nat)|bset (b:Bool)
 |fn (n:Str)|typ (n:String)|rng (a b:Int)
 deriving Inhabited
inductive jv where
 |lst (l:List PV)
 |dct (l:List (List Nat×PV))
 |bs (o:Option Bool)
 deriving Inhabited
abbrev St:=List jv
abbrev ie:=List (Str×PV)
inductive iE where
 |next|brk|cont|ret (v:PV)
 deriving Inhabited
structure pK where
 E:Scope->Expr->ie->St->Option (PV×St)
 T:Scope->Expr->ie->St->Option (Bool×St)
 S:Scope->Stmt->ie->St->Option (iE×ie×St)
 C:Str->List PV->List (Str×PV)->St->Option (PV×St)
def yE:Nat:=1000000
def jY:PV->PV->Option Bool
 | .int a,.int b=>some (a==b)
 | .str a,.str b=>some (a==b)
 |_,_=>none
def qT:List PV->List PV->Option (List Bool)
 |a::l,b::m=>match jY a b,qT l m with
  |some r,some rs=>some (r::rs)
  |_,_=>none
 |_,_=>some []
def Jg:PV->PV->Option Bool
 | .int a,.int b=>some (a==b)
 | .str a,.str b=>some (a==b)
 | .list a,.list b=>if a.length==b.length then(qT a b).map (·.all id)else none
 |_,_=>none
def strLt:List Nat->List Nat->Bool
 |[],[]=>false
 |[],_::_=>true
 |_::_,[]=>false
 |a::l,b::m=>if a==b then strLt l m else decide (a<b)
def mE:PV->PV->Option Bool
 | .int a,.int b=>some (decide (a<b))
 | .str a,.str b=>some (strLt a b)
 |_,_=>none
def iz:List PV->List PV->Option Bool
 |[],[]=>some false
 |[],_::_=>some true
 |_::_,[]=>some false
 |a::l,b::m=>match jY a b with
  |some true=>iz l m
  |some false=>mE a b
  |none=>none
def uA:PV->PV->Option Bool
 | .int a,.int b=>some (decide (a<b))
 | .str a,.str b=>some (strLt a b)
 | .list a,.list b=>iz a b
 |_,_=>none
def ng(a b:Int):List PV:=(List.range (b-a).toNat).map fun(i:Nat)=>PV.int (a+(i:Int))
def gM(st:St):PV->Option (List PV)
 | .tup l=>some l
 | .list l=>some l
 | .lst k=>match st[k]? with
  |some (.lst l)=>some l
  |_=>none
 | .rng a b=>some (ng a b)
 |_=>none
def iT(st:St):PV->Option Bool
 | .bool b=>some b
 | .int i=>some (i !=0)
 | .str s=>some (!s.isEmpty)
 | .tup l=>some (!l.isEmpty)
 | .list l=>some (!l.isEmpty)
 | .lst k=>match st[k]? with
  |some (.lst l)=>some (!l.isEmpty)
  |_=>none
 |_=>none
def mD:List PV->Option (List Int)
 |[]=>some []
 | .int i::r=>(mD r).map (i:: ·)
 |_::_=>none
def kR:List PV->Option (List Bool)
 |[]=>some []
 | .bool i::r=>(kR r).map (i:: ·)
 |_::_=>none
def jI:List PV->Option (List (List Nat))
 |[]=>some []
 | .str i::r=>(jI r).map (i:: ·)
 |_::_=>none
def lz(a b:List Int):List Int:=a.filter (fun x=> !b.contains x)++b.filter (fun x=> !a.contains x)
def lP(a b:List Int):List Int:=a++b.filter (fun x=> !a.contains x)
def iP(l:List α):Bool:=l.length<=yE
def pQ(x:PV):Bool:=match x with
 | .lst _=>true
 | .list _=>true
 |_=>false
def jm(st:St)(op:Operator):PV->PV->Option PV
 | .int a,.int b=>match op with
  | .Add=>some (.int (a+b))
  | .Sub=>some (.int (a-b))
  | .Mult=>if a.natAbs<2^62&&b.natAbs<2^62 then some (.int (a*b))else none
  | .FloorDiv=>if b==0||1000000000<=b.natAbs then none else some (.int (Int.fdiv a b))
  | .Mod=>if b==0 then none else some (.int (Int.fmod a b))
  | .Pow=>if 0<=b&&b<=60&&a.natAbs<=16 then some (.int (a^b.toNat))else none
  | .RShift=>if 0<=b&&b<=60 then some (.int (a>>>b.toNat))else none
  | .BitAnd=>if 0<=a&&0<=b then some (.int ((a.toNat&&&b.toNat:Nat):Int))else none
  | .BitOr=>if 0<=a&&0<=b then some (.int ((a.toNat|||b.toNat:Nat):Int))else none
  |_=>none
 | .str a,.str b=>match op with
  | .Add=>if iP (a++b)then some (.str (a++b))else none
  |_=>none
 | .str a,.int n=>match op with
  | .Mult=>if 0<=n&&n<=1000&&a.length<=1000 then some (.str (List.replicate n.toNat a).flatten)else none
  |_=>none
 | .iset a,.iset b=>if a.length<=20&&b.length<=20 then match op with
  | .BitOr=>if a.isEmpty then none else some (.iset (lP a b))
  | .BitXor=>some (.iset (lz a b))
  |_=>none
  else none
 |x,y=>match op with
  | .Add=>match gM st x,gM st y with
   |some a,some b=>if pQ x&&pQ y&&iP (a++b)then some (.list (a++b))else none
   |_,_=>none
  |_=>none
def seen(st:St):PV->Option PV
 | .lst k=>match st[k]? with
  |some (.lst l)=>some (.list l)
  |_=>none
 |v=>some v
def iN(st:St)(op:CmpOp)(x y:PV):Option Bool:=
 match op with
 | .Eq=>match seen st x,seen st y with
  |some a,some b=>Jg a b
  |_,_=>none
 | .NotEq=>(jY x y).map (!·)
 | .Lt=>match x,y with
  | .tup a,.tup b=>iz a b
  |x,y=>mE x y
 | .Gt=>match x,y with
  | .int a,.int b=>some (decide (b<a))
  |_,_=>none
 | .LtE=>match x,y with
  | .int a,.int b=>some (decide (a<=b))
  |_,_=>none
 | .GtE=>match x,y with
  | .int a,.int b=>some (decide (b<=a))
  |_,_=>none
 | .In=>match x,y with
  | .str [c],.cset l=>some (l.contains c)
  | .str a,.lst k=>match gM st (.lst k)with
   |some l=>(jI l).map (·.contains a)
   |_=>none
  | .str a,.list l=>(jI l).map (·.contains a)
  |_,_=>none
 |_=>none
def idx(l:List α)(i:Int):Option α:=if 0<=i then l[i.toNat]? else if 0<=i+l.length then l[(i+l.length).toNat]? else none
def m8(k:List Nat)(l:List (List Nat×PV)):Option PV:=(l.find? fun kv=>kv.1==k).map (·.2)
def Ai(k:List Nat)(v:PV)(l:List (List Nat×PV)):List (List Nat×PV):=
 if l.any (fun kv=>kv.1==k)then l.map (fun kv=>if kv.1==k then(kv.1,v)else kv)else l++[(k,v)]
def gZ(st:St):PV->PV->Option PV
 | .str s,.int i=>(idx s i).map fun c=>.str [c]
 | .dct k,.str x=>match st[k]? with
  |some (.dct l)=>m8 x l
  |_=>none
 |x,.int i=>match x with
  | .rng _ _=>none
  |_=>match gM st x with
   |some l=>idx l i
   |none=>none
 |_,_=>none
def jr(st:St):PV->PV->PV->Option St
 | .lst k,.int i,v=>match st[k]? with
  |some (.lst l)=>if 0<=i&&i.toNat<l.length then some (st.set k (.lst (l.set i.toNat v)))else none
  |_=>none
 | .dct k,.str x,v=>match st[k]? with
  |some (.dct l)=>if l.length<=1000 then some (st.set k (.dct (Ai x v l)))else none
  |_=>none
 |_,_,_=>none
def nG(n:Nat)(i:Int):Option Nat:=if 0<=i then some (min i.toNat n)else none
def kg(l:List α)(lo hi:Option Int):Option (List α):=
 match(lo.map (nG l.length)).getD (some 0),(hi.map (nG l.length)).getD (some l.length)with
 |some a,some b=>some ((l.drop a).take (b-a))
 |_,_=>none
def mH(n:Int)(l:List α)(a:Int):List α:=(sliceRange (max 0 (min a l.length)) l.length n).filterMap (l[·]?)
def jj(st:St)(x:PV)(lo hi gV:Option Int):Option PV:=
 match gV with
 |none=>match x with
  | .str s=>(kg s lo hi).map .str
  | .list l=>(kg l lo hi).map .list
  | .lst k=>match gM st (.lst k)with
   |some l=>(kg l lo hi).map .list
   |none=>none
  |_=>none
 |some n=>match x with
  | .rng _ _=>none
  | .tup _=>none
  |x=>match gM st x with
   |some l=>match lo,hi with
    |none,none=>if n== -1 then some (.list l.reverse)else none
    |some a,none=>if 0<=a&&0<n&&n<=1000&&a<=1000 then some (.list (mH n l a))else none
    |_,_=>none
   |none=>none
def qf(s:List Nat)(c:Nat):Int:=match s.reverse.findIdx? (· ==c)with
 |some i=>(s.length:Int)-1-i
 |none=> -1
def q8(s:List Nat)(c:Nat)(p:Nat):Option Nat:=((s.drop p).findIdx? (· ==c)).map (p+ ·)
def jb(c:Nat):List Nat->List (List Nat)
 |[]=>[[]]
 |x::r=>if x==c then[]::jb c r else match jb c r with
  |[]=>[[x]]
  |p::ps=>(x::p)::ps
def qp(c:Nat)(s:List Nat):List Nat:=(s.reverse.dropWhile (· ==c)).reverse
def iV(sep:List Nat):List (List Nat)->List Nat
 |[]=>[]
 |[x]=>x
 |x::r=>x++sep++iV sep r
def o4(x:PV):Bool:=match x with
 | .rng _ _=>true
 |_=>false
def methP(st:St)(o:PV)(name:Str)(args:List PV):Option (PV×St):=
 match o,args with
 | .lst k,[]=>if name==("pop":Str)then match st[k]? with
   |some (.lst l)=>match l.getLast? with
    |some v=>some (v,st.set k (.lst l.dropLast))
    |none=>none
   |_=>none
  else none
 | .lst k,[v]=>if name==("append":Str)then match st[k]? with
   |some (.lst l)=>if iP l then some (.none,st.set k (.lst (l++[v])))else none
   |_=>none
  else none
 | .str s,[.str [c]]=>
  if name==("startswith":Str)then some (.bool (s.head?==some c),st)
  else if name==("endswith":Str)then some (.bool (s.getLast?==some c),st)
  else if name==("rfind":Str)then some (.int (qf s c),st)
  else if name==("rstrip":Str)then some (.str (qp c s),st)
  else if name==("split":Str)then if 256<=c|| !iP s then none else some (.list ((jb c s).map .str),st)
  else if name==("count":Str)then some (.int (s.count c),st)
  else none
 | .str s,[.str [c],.int p]=>
  if name==("index":Str)then
   if 0<=p then(q8 s c p.toNat).map fun(i:Nat)=>(PV.int (i:Int),st)else none
  else none
 | .str s,[x]=>
  if name==("join":Str)&& !o4 x then match gM st x with
   |some l=>match jI l with
    |some ps=>if iP (iV s ps)&&ps.length<=1000&&s.length<=10 then some (.str (iV s ps),st)else none
    |none=>none
   |none=>none
  else none
 | .cset l,[.str s]=>
  if name==("isdisjoint":Str)then some (.bool (s.all fun c=> !l.contains c),st)
  else if name==("issuperset":Str)then some (.bool (s.all fun c=>l.contains c),st)
  else none
 |_,_=>none
def pD(c:Nat):Option Nat:=
 if 48<=c&&c<=57 then some (c-48)else if 97<=c&&c<=102 then some (c-87)else if 65<=c&&c<=70 then some (c-55)else none
def lJ:Nat->List Nat->Option Nat
 |acc,[]=>some acc
 |acc,c::r=>match pD c with
  |some d=>lJ (acc*16+d) r
  |none=>none
def aaA:List Int->Option Int
 |[]=>none
 |a::l=>some (l.foldl max a)
def vR:PV->List PV->Option PV
 |a,[]=>some a
 |a,b::l=>match uA b a with
  |some true=>vR b l
  |some false=>vR a l
  |none=>none
def qN:PV->List PV->Option PV
 |a,[]=>some a
 |a,b::l=>match uA a b with
  |some true=>qN b l
  |some false=>qN a l
  |none=>none
def jf:List Str:=["len","range","list","sum","max","min","all","ord","chr","int","isinstance","issubclass","type","frozenset"]
def iR(st:St)(f:Str)(args:List PV):Option PV:=
 if f==("len":Str)then match args with
  |[.str s]=>some (.int s.length)
  |[.iset l]=>some (.int l.length)
  |[.rng _ _]=>none
  |[x]=>(gM st x).map fun l=>.int l.length
  |_=>none
 else if f==("range":Str)then match args with
  |[.int n]=>if -100000<=n&&n<=100000 then some (.rng 0 n)else none
  |[.int a,.int b]=>if 0<=a&&a<=100000&& -100000<=b&&b<=100000 then some (.rng a b)else none
  |_=>none
 else if f==("list":Str)then match args with
  |[.rng a b]=>some (.list (ng a b))
  |_=>none
 else if f==("sum":Str)then match args with
  |[.list l]=>(mD l).map fun ns=>.int ns.sum
  |_=>none
 else if f==("max":Str)then match args with
  |[.int a,.int b]=>some (.int (max a b))
  |[.list (a::l)]=>qN a l
  |_=>none
 else if f==("min":Str)then match args with
  |[.list (a::l)]=>vR a l
  |_=>none
 else if f==("all":Str)then match args with
  |[.list l]=>(kR l).map fun bs=>.bool (bs.all id)
  |_=>none
 else if f==("ord":Str)then match args with
  |[.str [c]]=>some (.int c)
  |_=>none
 else if f==("chr":Str)then match args with
  |[.int i]=>if 0<=i&&i<55296 then some (.str [i.toNat])else none
  |_=>none
 else if f==("int":Str)then match args with
  |[.str (c::s),.int 16]=>if s.length<=10 then(lJ 0 (c::s)).map fun(n:Nat)=>PV.int (n:Int)else none
  |_=>none
 else if f==("isinstance":Str)then match args with
  |[.str _,.typ t]=>if t=="bytes" then some (.bool false)else none
  |_=>none
 else if f==("issubclass":Str)then match args with
  |[.typ t,.tup [.typ u,.typ v]]=>if t=="str"&&u=="str"&&v=="bytes" then some (.bool true)else none
  |_=>none
 else if f==("type":Str)then match args with
  |[.str _]=>some (.typ "str")
  |_=>none
 else if f==("frozenset":Str)then match args with
  |[]=>some (.cset [])
  |_=>none
 else none
def iw(sc:Scope)(x:Str):Option NameKind:=sc.names.lookup x
def wQ:List Nat:=(List.range 32).filter (· !=9)++[127]
def ny:List Nat:=(Str.ofString "0123456789abcdefABCDEF").cps.toList
def mJ(n:Str):List Stmt->Option (Arguments×List Stmt×Scope)
 |[]=>none
 | .FunctionDef m a b _ _ _ sc _ _ _::r=>if m==n then some (a,b,sc)else mJ n r
 |_::r=>mJ n r
def fnOf(n:Str):Option (Arguments×List Stmt×Scope):=mJ n PySem.Challenge.pw_ik0206_01.main.body
def nQ(x:Str):Option PV:=
 if x==("TOML_WS":Str)then some (.cset [32,9])
 else if x==("ILLEGAL_LITERAL_STR_CHARS":Str)then some (.cset wQ)
 else if x==("HEXDIGIT_CHARS":Str)then some (.cset ny)
 else if x==("str":Str)then some (.typ "str")
 else if x==("bytes":Str)then some (.typ "bytes")
 else if x==("fspath":Str)then some (.fn "fspath")
 else none
def iY(x:Str):ie->Option PV
 |[]=>none
 |(y,v)::r=>if y==x then some v else iY x r
def Ah(x:Str)(v:PV):ie->ie
 |[]=>[(x,v)]
 |(y,u)::r=>if y==x then(y,v)::r else(y,u)::Ah x v r
def oZ(sc:Scope)(x:Str)(ρ:ie):Option PV:=
 match iY x ρ with
 |some v=>some v
 |none=>match iw sc x with
  |some .globalImplicit=>nQ x
  |_=>none
def kc(sc:Scope)(x:Str)(v:PV)(ρ:ie):Option ie:=
 match iw sc x with
 |some .local=>some (Ah x v ρ)
 |some .cell=>some (Ah x v ρ)
 |_=>none
def namesOf:List Expr->Option (List Str)
 |[]=>some []
 | .Name x _::r=>(namesOf r).map (x:: ·)
 |_::_=>none
def storeAll(sc:Scope):List Str->List PV->ie->Option ie
 |[],[],ρ=>some ρ
 |x::xs,v::vs,ρ=>(kc sc x v ρ).bind fun ρ=>storeAll sc xs vs ρ
 |_,_,_=>none
def i8(sc:Scope)(st:St):Expr->PV->ie->Option ie
 | .Name x _,v,ρ=>kc sc x v ρ
 | .Tuple es _ _,v,ρ=>match namesOf es,v with
  |some [x],.bset b=>storeAll sc [x] [.bool b] ρ
  |some xs,.tup l=>if xs.length==l.length then storeAll sc xs l ρ else none
  |_,_=>none
 |_,_,_=>none
def jx(e:Expr):Bool:=match e with
 | .Starred _ _=>true
 |_=>false
def ja(f:Expr->ie->St->Option (PV×St))(ρ:ie):List Expr->St->Option (List PV×St)
 |[],st=>some ([],st)
 |e::r,st=>if jx e then none else(f e ρ st).bind fun(v,st)=>(ja f ρ r st).map fun(vs,st)=>(v::vs,st)
def nC(f:Expr->ie->St->Option (PV×St))(ρ:ie):List Keyword->St->Option (List (Str×PV)×St)
 |[],st=>some ([],st)
 |⟨some n,e,_⟩::r,st=>(f e ρ st).bind fun(v,st)=>(nC f ρ r st).map fun(vs,st)=>((n,v)::vs,st)
 |_::_,_=>none
def pn(f:Expr->ie->St->Option (PV×St))(ρ:ie):Option Expr->St->Option (Option Int×St)
 |none,st=>some (none,st)
 |some e,st=>(f e ρ st).bind fun(v,st)=>match v with
  | .int i=>some (some i,st)
  |_=>none
def jJ(f:Expr->ie->St->Option (PV×St))(ρ:ie):PV->List CmpOp->List Expr->St->Option (Bool×St)
 |a,[op],[e],st=>(f e ρ st).bind fun(b,st)=>(iN st op a b).map fun r=>(r,st)
 |a,op::ops,e::es,st=>(f e ρ st).bind fun(b,st)=>(iN st op a b).bind fun r=>
   if r then jJ f ρ b ops es st else some (false,st)
 |_,_,_,_=>none
def pM(c:List PV->St->Option (PV×St))(put:PV->St->Option St)(fit:St->Bool):List PV->St->Option St
 |[],st=>some st
 |v::r,st=>(c [v] st).bind fun(x,st)=>(put x st).bind fun st=>if fit st then pM c put fit r st else none
def freeOf(sc:Scope):ie->ie
 |[]=>[]
 |(x,v)::r=>if iw sc x==some .free then(x,v)::freeOf sc r else freeOf sc r
def lX(t:Expr->ie->St->Option (Bool×St))(ρ:ie):List Expr->St->Option (Bool×St)
 |[],st=>some (true,st)
 |e::r,st=>(t e ρ st).bind fun(b,st)=>if b then lX t ρ r st else some (false,st)
def jl(r:pK)(sc:Scope)(put:PV->St->Option St)(elt target:Expr)(ifs:List Expr)(fit:St->Bool):List PV->ie->St->Option St
 |[],_,st=>some st
 |v::vs,ρ,st=>(i8 sc st target v ρ).bind fun ρ=>(lX (r.T sc) ρ ifs st).bind fun(b,st)=>
   if b then(r.E sc elt ρ st).bind fun(x,st)=>(put x st).bind fun st=>if fit st then jl r sc put elt target ifs fit vs ρ st else none
   else if fit st then jl r sc put elt target ifs fit vs ρ st else none
def putL(n:Nat)(x:PV)(st:St):Option St:=match st[n]? with
 |some (.lst l)=>if iP l then some (st.set n (.lst (l++[x])))else none
 |_=>none
def tO(n:Nat)(x:PV)(st:St):Option St:=match x,st[n]? with
 | .bool b,some (.bs none)=>some (st.set n (.bs (some b)))
 | .bool b,some (.bs (some c))=>if b==c then some st else none
 |_,_=>none
mutual
def below(n:Nat):PV->Bool
 | .tup l=>h_ n l
 | .list l=>h_ n l
 | .lst k=>decide (k<n)
 | .dct k=>decide (k<n)
 |_=>true
def h_(n:Nat):List PV->Bool
 |[]=>true
 |a::l=>below n a&&h_ n l
end
def iu(n:Nat):jv->Bool
 | .lst l=>h_ n l
 | .dct l=>h_ n (l.map (·.2))
 | .bs _=>true
def kj(f:PV->Option PV):List PV->Option (List PV)
 |[]=>some []
 |v::l=>(f v).bind fun x=>(kj f l).map (x:: ·)
def ia(st:St)(n:Nat):Nat->PV->Option PV
 |0,_=>none
 |fuel+1,v=>match v with
  | .tup l=>(kj (ia st n fuel) l).map .tup
  | .list l=>(kj (ia st n fuel) l).map .list
  | .lst k=>if k<n then some (.lst k)else match st[k]? with
   |some (.lst l)=>(kj (ia st n fuel) l).map .list
   |_=>none
  | .dct k=>if k<n then some (.dct k)else none
  |v=>some v
def finish(n:Nat)(st:St)(v:PV):Option (PV×St):=
 if n<=st.length&&(st.take n).all (iu n)then(ia st n 6 v).map fun v=>(v,st.take n)else none
def lC(x:Str):Bool:=x !=("__debug__":Str)&&x !=("__classdict__":Str)&&x !=("__name__":Str)
def Rb:NameKind->Bool
 | .globalExplicit=>false
 |_=>true
def oK:List (Str×NameKind)->Bool
 |[]=>true
 |(x,_)::r=>(r.lookup x).isNone&&oK r
def r7(sc:Scope):Bool:=sc.kind== .function&& !sc.isGenerator&& !sc.isCoroutine&&sc.names.all (fun x=>lC x.1&&Rb x.2)&&oK sc.names
mutual
def jS:PV->PV->Bool
 | .none,.none=>true
 | .bool a,.bool b=>a==b
 | .int a,.int b=>a==b
 | .str a,.str b=>a==b
 | .tup a,.tup b=>kT a b
 | .list a,.list b=>kT a b
 | .lst a,.lst b=>a==b
 | .dct a,.dct b=>a==b
 | .iset a,.iset b=>a==b
 | .cset a,.cset b=>a==b
 | .bset a,.bset b=>a==b
 | .fn a,.fn b=>a==b
 | .typ a,.typ b=>a==b
 | .rng a b,.rng c d=>a==c&&b==d
 |_,_=>false
def kT:List PV->List PV->Bool
 |[],[]=>true
 |a::l,b::m=>jS a b&&kT l m
 |_,_=>false
end
def qY:List (List Nat×PV)->List (List Nat×PV)->Bool
 |[],[]=>true
 |(a,v)::l,(b,u)::m=>a==b&&jS v u&&qY l m
 |_,_=>false
def oB:jv->jv->Bool
 | .lst a,.lst b=>kT a b
 | .dct a,.dct b=>qY a b
 | .bs a,.bs b=>a==b
 |_,_=>false
def QJ:St->St->Bool
 |[],[]=>true
 |a::l,b::m=>oB a b&&QJ l m
 |_,_=>false
def iM(x:PV)(st gV:St):Bool:=match x with
 | .lst k=>match st[k]?, gV[k]? with
  |some c,some c'=>oB c c'
  |_,_=>false
 |_=>true
def lK(sc iS:Scope):Bool:=iS.names.all fun x=>x.2 != .free||iw sc x.1==some .cell||iw sc x.1==some .free
def isTuple(e:Expr):Bool:=match e with
 | .Tuple _ _ _=>true
 |_=>false
def sN(e:Expr):Bool:=match e with
 | .SetComp _ _ _ _=>true
 | .DictComp _ _ _ _ _=>true
 |_=>false
def rR(o:Expr):Bool:=match o with
 | .Name _ _=>true
 | .Constant _ _ _=>true
 |_=>false
def jT(e:Expr):Bool:=match e with
 | .Set _ _ _=>true
 |_=>false
def lO(st:St)(x:PV):Bool:=match x with
 | .lst k=>match st[k]? with
  |some (.lst _)=>true
  |_=>false
 |_=>true
def iI(r:pK)(sc:Scope)(e:Expr)(ρ:ie)(st:St):Option (PV×St):=
 match e with
 | .Constant c _ _=>match c with
  | .none=>some (.none,st)
  | .bool b=>some (.bool b,st)
  | .int i=>some (.int i,st)
  | .str s=>if iP s.cps.toList then some (.str s.cps.toList,st)else none
  |_=>none
 | .Name x _=>if sc.names.lookup x==none then none else(oZ sc x ρ).map fun v=>(v,st)
 | .BinOp a op b _=>(r.E sc a ρ st).bind fun(x,st)=>(r.E sc b ρ st).bind fun(y,st)=>(jm st op x y).map fun v=>(v,st)
 | .UnaryOp .USub a _=>(r.E sc a ρ st).bind fun(x,st)=>match x with
  | .int i=>some (.int (-i),st)
  |_=>none
 | .UnaryOp .Not a _=>(r.E sc a ρ st).bind fun(x,st)=>(iT st x).map fun b=>(.bool !b,st)
 | .IfExp t a b _=>(r.T sc t ρ st).bind fun(c,st)=>if c then r.E sc a ρ st else r.E sc b ρ st
 | .BoolOp op es pos=>match es with
  |[a]=>r.E sc a ρ st
  |a::b::lT=>(r.E sc a ρ st).bind fun(x,st)=>(iT st x).bind fun t=>
   match op with
   | .And=>if t then r.E sc (.BoolOp op (b::lT) pos) ρ st else some (x,st)
   | .Or=>if t then some (x,st)else r.E sc (.BoolOp op (b::lT) pos) ρ st
  |[]=>none
 | .Compare a ops es _=>if lastMarks ops es||ops.length !=es.length then none else(r.E sc a ρ st).bind fun(x,st)=>(jJ (r.E sc) ρ x ops es st).map fun(b,st)=>(.bool b,st)
 | .List es _=>(ja (r.E sc) ρ es st).bind fun(vs,st)=>if iP vs then some (.lst st.length,st++[.lst vs])else none
 | .Tuple es _ _=>(ja (r.E sc) ρ es st).bind fun(vs,st)=>if iP vs then some (.tup vs,st)else none
 | .Set [a] 0 _=>if jx a then none else(r.E sc a ρ (st++[.bs none])).bind fun(x,gV)=>match x,gV[st.length]? with
  | .int i,some (.bs none)=>if st.length<=gV.length&&(gV.take st.length).all (iu st.length)then some (.iset [i],gV.take st.length)else none
  |_,_=>none
 | .Dict [] [] _=>some (.dct st.length,st++[.dct []])
 | .Subscript a (.Slice lo hi step _) _=>(r.E sc a ρ st).bind fun(x,st)=>(pn (r.E sc) ρ lo st).bind fun(l,st)=>
   (pn (r.E sc) ρ hi st).bind fun(h,st)=>(pn (r.E sc) ρ step st).bind fun(s,st)=>(jj st x l h s).map fun v=>(v,st)
 | .Subscript a i _=>(r.E sc a ρ st).bind fun(x,st)=>(r.E sc i ρ st).bind fun(y,st)=>(gZ st x y).map fun v=>(v,st)
 | .ListComp elt [⟨target,iter,ifs,0⟩] iS _=>if !r7 iS||jT iter|| !lK sc iS then none else(r.E sc iter ρ st).bind fun(x,st)=>(gM st x).bind fun l=>
   (jl r iS (putL st.length) elt target ifs (iM x st) l (freeOf iS ρ) (st++[.lst []])).bind fun gV=>finish st.length gV (.lst st.length)
 | .SetComp elt [⟨target,iter,[],0⟩] iS _=>if !r7 iS||jT iter|| !lK sc iS then none else(r.E sc iter ρ st).bind fun(x,st)=>(gM st x).bind fun l=>
   (jl r iS (tO st.length) elt target [] (iM x st) l (freeOf iS ρ) (st++[.bs none])).bind fun gV=>match gV[st.length]? with
    |some (.bs (some b))=>if st.length<=gV.length&&(gV.take st.length).all (iu st.length)then some (.bset b,gV.take st.length)else none
    |_=>none
 | .Call (.Attribute o name apos) args [] pos=>if !(rR o&&apos.endLine==pos.line&&args.length<20)then none else(r.E sc o ρ st).bind fun(x,st)=>if !lO st x then none else(ja (r.E sc) ρ args st).bind fun(vs,st)=>methP st x name vs
 | .Call (.Name f _) args kws _=>
  match iY f ρ,iw sc f with
  |none,some .globalImplicit=>
   match f==("tuple":Str),args,kws with
   |true,[.Call (.Name m _) [g,xs] [] _],[]=>
    if m==("map":Str)&&(iY m ρ).isNone&&iw sc m==some .globalImplicit&& !jx g&& !jx xs then
     (r.E sc g ρ st).bind fun(gv,st)=>(r.E sc xs ρ st).bind fun(x,st)=>match gv,x with
      | .fn n,.lst k=>match gM st (.lst k)with
       |some l=>(pM (fun a st=>r.C n a [] st) (putL st.length) (iM (.lst k) st) l (st++[.lst []])).bind fun gV=>(finish st.length gV (.lst st.length)).bind fun(w,jk)=>match w with
        | .list vs=>some (.tup vs,jk)
        |_=>none
       |none=>none
      |_,_=>none
    else none
   |_,_,_=>(ja (r.E sc) ρ args st).bind fun(vs,st)=>(nC (r.E sc) ρ kws st).bind fun(ks,st)=>
    if jf.contains f then(match ks with
     |[]=>(iR st f vs).map fun v=>(v,st)
     |_=>none)
    else if(fnOf f).isNone then none else r.C f vs ks st
  |_,_=>none
 |_=>none
def stepT(r:pK)(sc:Scope)(e:Expr)(ρ:ie)(st:St):Option (Bool×St):=
 match e with
 | .UnaryOp .Not a _=>(r.T sc a ρ st).map fun(b,st)=>(!b,st)
 | .BoolOp op es pos=>match es with
  |[]=>some (op== .And,st)
  |a::lT=>(r.T sc a ρ st).bind fun(b,st)=>match op,b with
   | .And,false=>some (false,st)
   | .Or,true=>some (true,st)
   |_,_=>r.T sc (.BoolOp op lT pos) ρ st
 | .Compare a ops es _=>if lastMarks ops es||ops.length !=es.length then none else(r.E sc a ρ st).bind fun(x,st)=>jJ (r.E sc) ρ x ops es st
 | .IfExp .. =>none
 |e=>(r.E sc e ρ st).bind fun(v,st)=>(iT st v).map fun b=>(b,st)
def gT(f:Stmt->ie->St->Option (iE×ie×St)):List Stmt->ie->St->Option (iE×ie×St)
 |[],ρ,st=>some (.next,ρ,st)
 |s::r,ρ,st=>(f s ρ st).bind fun(fl,ρ,st)=>match fl with
  | .next=>gT f r ρ st
  |fl=>some (fl,ρ,st)
def j_(body:ie->St->Option (iE×ie×St))(sc:Scope)(target:Expr)(fit:St->Bool):List PV->ie->St->Option (iE×ie×St)
 |[],ρ,st=>some (.next,ρ,st)
 |v::vs,ρ,st=>(i8 sc st target v ρ).bind fun ρ=>(body ρ st).bind fun(fl,ρ,st)=>match fl with
  | .ret v=>some (.ret v,ρ,st)
  | .brk=>some (.next,ρ,st)
  |_=>if fit st then j_ body sc target fit vs ρ st else none
def jR(test:ie->St->Option (Bool×St))(body:ie->St->Option (iE×ie×St)):Nat->ie->St->Option (iE×ie×St)
 |0,_,_=>none
 |n+1,ρ,st=>(test ρ st).bind fun(b,st)=>if b then(body ρ st).bind fun(fl,ρ,st)=>match fl with
   | .ret v=>some (.ret v,ρ,st)
   | .brk=>some (.next,ρ,st)
   |_=>jR test body n ρ st
  else some (.next,ρ,st)
def kG(r:pK)(sc:Scope)(s:Stmt)(ρ:ie)(st:St):Option (iE×ie×St):=
 match s with
 | .Pass _=>some (.next,ρ,st)
 | .Break _=>some (.brk,ρ,st)
 | .Continue _=>some (.cont,ρ,st)
 | .Return (some e) _=>(r.E sc e ρ st).map fun(v,st)=>(.ret v,ρ,st)
 | .Expr e _=>match e with
  | .Call .. =>(r.E sc e ρ st).bind fun(v,st)=>match v with
   | .none=>some (.next,ρ,st)
   | .str _=>some (.next,ρ,st)
   |_=>none
  |_=>none
 | .Assign [.Subscript a i _] e _=>match i with
  | .Slice .. =>none
  |i=>(r.E sc e ρ st).bind fun(v,st)=>(r.E sc a ρ st).bind fun(x,st)=>(r.E sc i ρ st).bind fun(y,st)=>(jr st x y v).map fun st=>(.next,ρ,st)
 | .Assign [t] e _=>if(isTuple t&&isTuple e)||(!isTuple t&&sN e)then none else(r.E sc e ρ st).bind fun(v,st)=>(i8 sc st t v ρ).map fun ρ=>(.next,ρ,st)
 | .AugAssign (.Name x _) .Add e _=>(iY x ρ).bind fun a=>(r.E sc e ρ st).bind fun(b,st)=>match a,b with
   | .int m,.int n=>(kc sc x (.int (m+n)) ρ).map fun ρ=>(.next,ρ,st)
   | .str m,.str n=>if iP (m++n)then(kc sc x (.str (m++n)) ρ).map fun ρ=>(.next,ρ,st)else none
   |_,_=>none
 | .If t a b _=>(r.T sc t ρ st).bind fun(c,st)=>if c then gT (r.S sc) a ρ st else gT (r.S sc) b ρ st
 | .While t body [] _=>jR (r.T sc t) (gT (r.S sc) body) 40 ρ st
 | .For target iter body [] _=>
  match iter with
  | .Call (.Name f _) [a] [] _=>
   match iY f ρ,iw sc f,f==("reversed":Str),f==("enumerate":Str)with
   |none,some .globalImplicit,true,_=>if jx a then none else(r.E sc a ρ st).bind fun(x,st)=>match x with
    | .rng p q=>j_ (gT (r.S sc) body) sc target (fun _=>true) (ng p q).reverse ρ st
    |_=>none
   |none,some .globalImplicit,_,true=>if jx a|| !isTuple target then none else(r.E sc a ρ st).bind fun(x,st)=>match x with
    | .list l=>j_ (gT (r.S sc) body) sc target (fun _=>true) ((List.zipWith (fun(i:Nat) v=>PV.tup [.int (i:Int),v]) (List.range l.length) l)) ρ st
    |_=>none
   |_,_,_,_=>(r.E sc iter ρ st).bind fun(x,st)=>(gM st x).bind fun l=>j_ (gT (r.S sc) body) sc target (iM x st) l ρ st
  |iter=>if jT iter then none else(r.E sc iter ρ st).bind fun(x,st)=>(gM st x).bind fun l=>j_ (gT (r.S sc) body) sc target (iM x st) l ρ st
 | .Try body (_::_) [] [] _=>gT (r.S sc) body ρ st
 |_=>none
def q6(a:Arguments)(args:List PV)(kws:List (Str×PV)):Option (List Str×List PV):=
 match a.posonlyargs,a.vararg,a.kwonlyargs,a.kwarg,a.defaults with
 |[],none,[],none,[]=>
  if kws.isEmpty&&a.args.length==args.length then some (a.args.map (·.arg),args)else none
 |[],some v,[],none,[]=>
  if kws.isEmpty&&a.args.length<=args.length&&iP args then some (a.args.map (·.arg)++[v.arg],args.take a.args.length++[.tup (args.drop a.args.length)])else none
 |[],none,ks,none,[]=>
  if a.args.length==args.length&&kws.map (·.1)==ks.map (·.arg)then some (a.args.map (·.arg)++kws.map (·.1),args++kws.map (·.2))else none
 |_,_,_,_,_=>none
def tR(r:pK)(f:Str)(args:List PV)(kws:List (Str×PV))(st:St):Option (PV×St):=
 (fnOf f).bind fun(a,body,sc)=>if !r7 sc|| !sc.names.all (fun x=>x.2 != .free)then none else(q6 a args kws).bind fun(xs,vs)=>
  (storeAll sc xs vs []).bind fun ρ=>(gT (r.S sc) body ρ st).bind fun(fl,_,gV)=>
   finish st.length gV (match fl with
    | .ret v=>v
    |_=>.none)
def TJ(r:pK):pK:=⟨iI r,stepT r,kG r,tR r⟩
def ev:Nat->pK
 |0=>⟨fun _ _ _ _=>none,fun _ _ _ _=>none,fun _ _ _ _=>none,fun _ _ _ _=>none⟩
 |n+1=>TJ (ev n)
def ki(T:String)(o:Obj)(vs:List Value):Prop:=∃n,o={cls:=.type T,dict:=none,data:=.seq vs.toArray n,slots:= #[]}/\vs.length<=sizeLine
def AF(T:String){prog:Program}{w:World}{K:Type}[DecidableEq K](knd:KeyKind prog w K)(o:Obj)(S:K->Bool)(n:Nat):Prop:=
 ∃es ep t,o={cls:=.type T,dict:=none,data:=.set es ep t,slots:= #[]}/\ElemsOf knd es.toList/\(∀k,S k=true↔ ∃e∈es.toList,knd.is k e.2=true)/\es.size=n/\t.fits es.size=true
def Ba(prog:Program)(w:World)(o:Obj)(l:List Int):Prop:=AF "set" (intKind prog w) o (fun i=>l.contains i) l.length/\l.length<=100/\l.Nodup
def DW(l:ah)(x:Str):Bool:=match x.cps.toList with
 |[c]=>l.contains c
 |_=>false
def GK(prog:Program)(w:World)(o:Obj)(l:ah):Prop:=∃n,n<=200/\AF "frozenset" (PySem.strKind prog w) o (DW l) n
def wC(w:World)(o:Obj)(b:Bool):Prop:=∃ep t,o={cls:=.type "set",dict:=none,data:=.set #[((if b then 1 else 0),.bool b)] ep t,slots:= #[]}/\t.fits 1=true/\(w.params.followText "set-order"||t.led)=true
def Eb(o:Obj)(a b:Int):Prop:=∃t u v,o={cls:=.type "range",dict:=none,data:=.fields #[.int a t,.int b u,.int 1 v],slots:= #[]}/\0<=a/\a<=100000/\ -100000<=b/\b<=100000
structure Cx where
 prog:Program
 w:World
 h₀:Heap
 mg:Str->Option Value
abbrev Cx.M(C:Cx):Model:=model C.prog C.w
mutual
def VR(C:Cx)(σ:List Addr)(h:Heap):PV->Value->Prop
 | .none,v=>v= .none
 | .bool b,v=>v= .bool b
 | .int i,v=>∃t,v= .int i t
 | .str l,v=>∃x t,v= .str x t/\x.cps.toList=l/\x.length<=sizeLine
 | .tup l,v=>∃a o vs,v= .ref a/\a∉σ/\h.get? a=some o/\ki "tuple" o vs/\iL C σ h l vs
 | .list l,v=>∃a o vs,v= .ref a/\a∉σ/\h.get? a=some o/\ki "list" o vs/\iL C σ h l vs
 | .lst k,v=>∃a,v= .ref a/\σ[k]? =some a
 | .dct k,v=>∃a,v= .ref a/\σ[k]? =some a
 | .iset l,v=>∃a o,v= .ref a/\a∉σ/\h.get? a=some o/\Ba C.prog C.w o l
 | .cset l,v=>∃a o,v= .ref a/\a∉σ/\h.get? a=some o/\GK C.prog C.w o l
 | .bset b,v=>∃a o,v= .ref a/\a∉σ/\h.get? a=some o/\wC C.w o b
 | .fn n,v=>C.mg n=some v
 | .typ t,v=>v= .type t
 | .rng a b,v=>∃x o,v= .ref x/\x∉σ/\h.get? x=some o/\Eb o a b
def iL(C:Cx)(σ:List Addr)(h:Heap):List PV->List Value->Prop
 |[],vs=>vs=[]
 |p::l,vs=>∃v r,vs=v::r/\VR C σ h p v/\iL C σ h l r
end
def kh(o:Obj):Prop:=(∃x n,o.data= .seq x n)\/(∃x e t,o.data= .set x e t)\/(o.cls= .type "range"/\∃f,o.data= .fields f)
def ki.val{T:String}{o:Obj}{vs:List Value}(h:ki T o vs):kh o:=by obtain⟨n,rfl,_⟩:=h;exact .inl ⟨_,_,rfl⟩
def AF.val{T:String}{prog:Program}{w:World}{K:Type}[DecidableEq K]{knd:KeyKind prog w K}{o:Obj}{S:K->Bool}{n:Nat}(h:AF T knd o S n):kh o:=by
 obtain⟨_,_,_,rfl,_⟩:=h;exact .inr (.inl ⟨_,_,_,rfl⟩)
def wC.val{w:World}{o:Obj}{b:Bool}(h:wC w o b):kh o:=by obtain⟨_,_,rfl,_⟩:=h;exact .inr (.inl ⟨_,_,_,rfl⟩)
def Eb.val{o:Obj}{a b:Int}(h:Eb o a b):kh o:=by obtain⟨_,_,_,rfl,_⟩:=h;exact .inr (.inr ⟨rfl,_,rfl⟩)
def kh.dict{o:Obj}(h:kh o){e:Array DictEntry}{n:Nat}(d:o.data= .dict e n):False:=by
 rcases h with⟨_,_,h⟩|⟨_,_,_,h⟩|⟨_,_,h⟩<;>rw[d]at h<;>cases h
def kh.cell{o:Obj}(h:kh o){c:Option Value}(d:o.data= .cell c):False:=by
 rcases h with⟨_,_,h⟩|⟨_,_,_,h⟩|⟨_,_,h⟩<;>rw[d]at h<;>cases h
structure sL(σ:List Addr)(h:Heap)(σ':List Addr)(h':Heap):Prop where
 pre:∃t,σ'=σ++t
 fresh:∀a,a∈σ'->a∉σ->h.get? a=none
 keep:∀b o,h.get? b=some o->b∉σ->kh o->h'.get? b=some o
def sL.notMem{σ σ':List Addr}{h h':Heap}(m:sL σ h σ' h'){a:Addr}{o:Obj}(hn:a∉σ)(ho:h.get? a=some o):a∉σ':=fun hm=>by
 rw[m.fresh a hm hn]at ho;cases ho
mutual
def VR.mono{C:Cx}{σ σ':List Addr}{h h':Heap}(m:sL σ h σ' h'):∀{p:PV}{v:Value},VR C σ h p v->VR C σ' h' p v
 | .none,_,x=>by rw[VR]at x |-; exact x
 | .bool b,_,x=>by rw[VR]at x |-; exact x
 | .int i,_,x=>by rw[VR]at x |-; exact x
 | .str l,_,x=>by rw[VR]at x |-; exact x
 | .tup l,_,x=>by
  rw[VR]at x|-;obtain⟨a,o,vs,rfl,hn,ho,so,r⟩:=x;exact⟨a,o,vs,rfl,m.notMem hn ho,m.keep a o ho hn so.val,so,iL.mono m r⟩
 | .list l,_,x=>by
  rw[VR]at x|-;obtain⟨a,o,vs,rfl,hn,ho,so,r⟩:=x;exact⟨a,o,vs,rfl,m.notMem hn ho,m.keep a o ho hn so.val,so,iL.mono m r⟩
 | .lst k,_,x=>by
  rw[VR]at x|-;obtain⟨a,rfl,ha⟩:=x;obtain⟨t,rfl⟩:=m.pre;exact⟨a,rfl,by rw[bk (aF.mp ha).1];exact ha⟩
 | .dct k,_,x=>by
  rw[VR]at x|-;obtain⟨a,rfl,ha⟩:=x;obtain⟨t,rfl⟩:=m.pre;exact⟨a,rfl,by rw[bk (aF.mp ha).1];exact ha⟩
 | .iset l,_,x=>by
  rw[VR]at x|-;obtain⟨a,o,rfl,hn,ho,so⟩:=x;exact⟨a,o,rfl,m.notMem hn ho,m.keep a o ho hn so.1.val,so⟩
 | .cset l,_,x=>by
  rw[VR]at x|-;obtain⟨a,o,rfl,hn,ho,so⟩:=x;exact⟨a,o,rfl,m.notMem hn ho,m.keep a o ho hn (let⟨_,_,z⟩:=so;z.val),so⟩
 | .bset l,_,x=>by
  rw[VR]at x|-;obtain⟨a,o,rfl,hn,ho,so⟩:=x;exact⟨a,o,rfl,m.notMem hn ho,m.keep a o ho hn so.val,so⟩
 | .fn n,_,x=>by rw[VR]at x |-; exact x
 | .typ t,_,x=>by rw[VR]at x |-; exact x
 | .rng a b,_,x=>by
  rw[VR]at x|-;obtain⟨a,o,rfl,hn,ho,so⟩:=x;exact⟨a,o,rfl,m.notMem hn ho,m.keep a o ho hn so.val,so⟩
def iL.mono{C:Cx}{σ σ':List Addr}{h h':Heap}(m:sL σ h σ' h'):∀{l:List PV}{vs:List Value},iL C σ h l vs->iL C σ' h' l vs
 |[],_,x=>by rw[iL]at x |-; exact x
 |_::_,_,x=>by
  rw[iL]at x|-;obtain⟨v,r,rfl,a,b⟩:=x;exact⟨v,r,rfl,VR.mono m a,iL.mono m b⟩
end
def iL.length{C:Cx}{σ:List Addr}{h:Heap}:∀{l:List PV}{vs:List Value},iL C σ h l vs->vs.length=l.length
 |[],_,x=>by rw[iL]at x;subst x;rfl
 |_::_,_,x=>by
  rw[iL]at x;obtain⟨v,r,rfl,_,b⟩:=x;simp[iL.length b]
def iL.get{C:Cx}{σ:List Addr}{h:Heap}:∀{l:List PV}{vs:List Value}{i:Nat}{p:PV},iL C σ h l vs->l[i]? =some p->∃v,vs[i]? =some v/\VR C σ h p v
 |[],_,_,_,_,e=>by simp at e
 |q::l,_,i,p,x,e=>by
  rw[iL]at x;obtain⟨v,r,rfl,a,b⟩:=x;cases i with
  |zero=>simp only[cO,aW]at e |-; subst e;exact⟨v,rfl,a⟩
  |succ i=>simp only[eu]at e |-; exact iL.get b e
def iL.at{C:Cx}{σ:List Addr}{h:Heap}:∀{l:List PV}{vs:List Value}{i:Nat}{v:Value},iL C σ h l vs->vs[i]? =some v->∃p,l[i]? =some p/\VR C σ h p v
 |[],_,_,_,x,e=>by rw[iL]at x;subst x;simp at e
 |q::l,_,i,p,x,e=>by
  rw[iL]at x;obtain⟨v,r,rfl,a,b⟩:=x;cases i with
  |zero=>simp only[cO,aW]at e |-; subst e;exact⟨_,rfl,a⟩
  |succ i=>simp only[eu]at e |-; exact iL.at b e
def iL.append{C:Cx}{σ:List Addr}{h:Heap}{m:List PV}{us:List Value}(y:iL C σ h m us):∀{l:List PV}{vs:List Value},iL C σ h l vs->iL C σ h (l++m) (vs++us)
 |[],_,x=>by rw[iL]at x;subst x;exact y
 |q::l,_,x=>by
  rw[iL]at x;obtain⟨v,r,rfl,a,b⟩:=x;show iL C σ h (q::(l++m)) (v::(r++us));rw[iL];exact⟨v,_,rfl,a,iL.append y b⟩
def iL.nil{C:Cx}{σ:List Addr}{h:Heap}:iL C σ h [] []:=by rw[iL]
def iL.cons{C:Cx}{σ:List Addr}{h:Heap}{p:PV}{v:Value}{l:List PV}{r:List Value}(a:VR C σ h p v)(b:iL C σ h l r):iL C σ h (p::l) (v::r):=by
 rw[iL];exact⟨v,r,rfl,a,b⟩
def iL.drop{C:Cx}{σ:List Addr}{h:Heap}:∀(n:Nat){l:List PV}{vs:List Value},iL C σ h l vs->iL C σ h (l.drop n) (vs.drop n)
 |0,_,_,x=>x
 |n+1,[],_,x=>by rw[iL]at x;subst x;exact iL.nil
 |n+1,q::l,_,x=>by
  rw[iL]at x;obtain⟨v,r,rfl,a,b⟩:=x;exact iL.drop n b
def iL.take{C:Cx}{σ:List Addr}{h:Heap}:∀(n:Nat){l:List PV}{vs:List Value},iL C σ h l vs->iL C σ h (l.take n) (vs.take n)
 |0,_,_,_=>by simp only[List.take_zero];exact iL.nil
 |n+1,[],_,x=>by rw[iL]at x;subst x;exact iL.nil
 |n+1,q::l,_,x=>by
  rw[iL]at x;obtain⟨v,r,rfl,a,b⟩:=x;exact iL.cons a (iL.take n b)
def iL.set{C:Cx}{σ:List Addr}{h:Heap}{p:PV}{v:Value}(y:VR C σ h p v):∀(n:Nat){l:List PV}{vs:List Value},iL C σ h l vs->iL C σ h (l.set n p) (vs.set n v)
 |_,[],_,x=>by rw[iL]at x;subst x;exact iL.nil
 |0,q::l,_,x=>by
  rw[iL]at x;obtain⟨u,r,rfl,a,b⟩:=x;exact iL.cons y b
 |n+1,q::l,_,x=>by
  rw[iL]at x;obtain⟨u,r,rfl,a,b⟩:=x;exact iL.cons a (iL.set y n b)
def iL.reverse{C:Cx}{σ:List Addr}{h:Heap}:∀{l:List PV}{vs:List Value},iL C σ h l vs->iL C σ h l.reverse vs.reverse
 |[],_,x=>by rw[iL]at x;subst x;exact iL.nil
 |q::l,_,x=>by
  rw[iL]at x;obtain⟨u,r,rfl,a,b⟩:=x;rw[List.reverse_cons,List.reverse_cons];exact iL.append (iL.cons a iL.nil) (iL.reverse b)
def jc(C:Cx)(σ:List Addr)(h:Heap):List (ah×PV)->List (Str×Value)->Prop
 |[],r=>r=[]
 |(k,p)::l,r=>∃x v r',r=(x,v)::r'/\x.cps.toList=k/\VR C σ h p v/\jc C σ h l r'
def jc.mono{C:Cx}{σ σ':List Addr}{h h':Heap}(m:sL σ h σ' h'):∀{l:List (ah×PV)}{r:List (Str×Value)},jc C σ h l r->jc C σ' h' l r
 |[],_,x=>by rw[jc]at x |-; exact x
 |(_,_)::_,_,x=>by
  rw[jc]at x|-;obtain⟨y,v,r',rfl,e,a,b⟩:=x;exact⟨y,v,r',rfl,e,VR.mono m a,jc.mono m b⟩
def wU(C:Cx)(σ:List Addr)(h:Heap)(a:Addr):jv->Prop
 | .lst l=>∃o vs,h.get? a=some o/\ki "list" o vs/\iL C σ h l vs
 | .dct l=>∃kvs,h.DictOf (PySem.strKind C.prog C.w) a kvs/\jc C σ h l kvs
 | .bs none=>∃led,h.get? a=some {cls:=.type "set",dict:=none,data:=.set #[] 0 (.fresh 0 0 led),slots:= #[]}/\(C.w.params.followText "set-order"||led)=true
 | .bs (some b)=>∃o,h.get? a=some o/\wC C.w o b
structure Ok(C:Cx)(σ:List Addr)(s:Shared)(st:St):Prop where
 base:∀b o,C.h₀.get? b=some o->s.heap.get? b=some o
 fresh0:∀a∈σ,C.h₀.get? a=none
 len:σ.length=st.length
 nodup:σ.Nodup
 cells:∀(k:Nat) a c,σ[k]? =some a->st[k]? =some c->wU C σ s.heap a c
structure iO(own:Addr->Prop)(σ:List Addr)(s:Shared)(σ':List Addr)(s':Shared):Prop where
 pre:∃t,σ'=σ++t
 fresh:∀a,a∈σ'->a∉σ->s.heap.get? a=none
 keep:∀b o,s.heap.get? b=some o->b∉σ->¬ own b->s'.heap.get? b=some o
 alive:∀a o,own a->s.heap.get? a=some o->¬ kh o/\∃o',s'.heap.get? a=some o'/\¬ kh o'
 gens:s'.gens=s.gens
 os:s'.os=s.os
def g_:Addr->Prop:=fun _=>False
def iO.refl{own:Addr->Prop}{σ:List Addr}{s:Shared}(yH:∀a o,own a->s.heap.get? a=some o->¬ kh o):iO own σ s σ s:=
 ⟨⟨[],by simp⟩,fun _ h h'=>absurd h h',fun _ _ e _ _=>e,fun a o ha e=>⟨yH a o ha e,o,e,yH a o ha e⟩,rfl,rfl⟩
def iO.rfl'{σ:List Addr}{s:Shared}:iO g_ σ s σ s:=iO.refl fun _ _ h=>h.elim
def iO.toks{own:Addr->Prop}{σ σ':List Addr}{s s':Shared}(x:iO own σ s σ' s')(t:Nat):iO own σ s σ' {s' with toks:=t}:=⟨x.pre,x.fresh,x.keep,x.alive,x.gens,x.os⟩
def iO.mem{own:Addr->Prop}{σ σ':List Addr}{s s':Shared}(x:iO own σ s σ' s'){a:Addr}(h:a∈σ):a∈σ':=by
 obtain⟨t,rfl⟩:=x.pre;exact bg _ h
def iO.trans{own:Addr->Prop}{σ jF j8:List Addr}{s s₁ jy:Shared}(x:iO own σ s jF s₁)(y:iO own jF s₁ j8 jy):iO own σ s j8 jy where
 pre:=by
  obtain⟨t,rfl⟩:=x.pre;obtain⟨u,rfl⟩:=y.pre;exact⟨t++u,by simp⟩
 fresh:=fun a h2 h0=>by
  by_cases h1:a∈jF
  ·exact x.fresh a h1 h0
  ·have e:=y.fresh a h2 h1;cases q:s.heap.get? a with
   |none=>rfl
   |some o=>
    by_cases ha:own a
    ·obtain⟨_,o',z,_⟩:=x.alive a o ha q;rw[e]at z;cases z
    ·rw[x.keep a o q h0 ha]at e;cases e
 keep:=fun b o e h0 hb=>by
  have e1:=x.keep b o e h0 hb;refine y.keep b o e1 (fun h1=> ?_) hb;rw[x.fresh b h1 h0]at e;cases e
 alive:=fun a o ha e=>by
  obtain⟨h1,o',z,_⟩:=x.alive a o ha e;obtain⟨_,r⟩:=y.alive a o' ha z;exact⟨h1,r⟩
 gens:=y.gens.trans x.gens
 os:=y.os.trans x.os
def iO.widen{own vQ:Addr->Prop}{σ σ':List Addr}{s s':Shared}(x:iO own σ s σ' s')(hn:∀a,vQ a->¬ own a->a∉σ)(hs:∀a,own a->vQ a)
  (yH:∀a o,vQ a->¬ own a->s.heap.get? a=some o->¬ kh o):iO vQ σ s σ' s':=
 ⟨x.pre,x.fresh,fun b o e h h'=>x.keep b o e h fun z=>h' (hs b z),fun a o ha e=>by
  by_cases h:own a
  ·exact x.alive a o h e
  ·exact⟨yH a o ha h e,o,x.keep a o e (hn a ha h) h,yH a o ha h e⟩,x.gens,x.os⟩
def iO.weaken{own:Addr->Prop}{σ σ':List Addr}{s s':Shared}(x:iO g_ σ s σ' s')(hn:∀a,own a->a∉σ)
  (yH:∀a o,own a->s.heap.get? a=some o->¬ kh o):iO own σ s σ' s':=x.widen (fun a h _=>hn a h) (fun _ h=>h.elim) fun a o h _ e=>yH a o h e
def iO.strip{own vQ:Addr->Prop}{σ σ':List Addr}{s s':Shared}(x:iO vQ σ s σ' s')(h:∀a,vQ a->¬ own a->s.heap.get? a=none)(hs:∀a,own a->vQ a):iO own σ s σ' s':=
 ⟨x.pre,x.fresh,fun b o e h1 h2=>x.keep b o e h1 fun z=>(by rw[h b z h2]at e;cases e),fun a o ha e=>x.alive a o (hs a ha) e,x.gens,x.os⟩
def iO.mono{own:Addr->Prop}{σ σ':List Addr}{s s':Shared}(x:iO own σ s σ' s'):sL σ s.heap σ' s'.heap:=
 ⟨x.pre,x.fresh,fun b o e h hv=>x.keep b o e h fun hb=>(x.alive b o hb e).1 hv⟩
def AH(h:Heap)(cd:Value):Prop:=∃c o vs,cd= .ref c/\h.get? c=some o/\o.data= .fields vs
def own(sc:Scope)(env:Env)(a:Addr):Prop:=a=env.locals\/∃x,iw sc x=some .cell/\env.cells.lookup x=some a
structure gP(C:Cx)(sc:Scope)(env:Env)(σ:List Addr)(h:Heap)(ρ:ie):Prop where
 kind:env.scope.kind= .function
 plain:∀x k,iw sc x=some k->lC x=true
 loc:∀x,iw sc x=some .local->env.kindOf x=some .local
 cel:∀x,iw sc x=some .cell->env.kindOf x=some .cell
 fre:∀x,iw sc x=some .free->env.kindOf x=some .free\/env.kindOf x=some .cell
 glo:∀x,iw sc x=some .globalImplicit->env.kindOf x=some .globalImplicit
 globals:env.globals=mainGlobals
 builtins:env.builtins=builtinsNs
 code:AH C.h₀ env.code
 ns:∃m,h.Ns env.locals m/\∀x v,iY x ρ=some v->iw sc x=some .local->∃val,m x=some val/\VR C σ h v val
 cells:∀x,(iw sc x=some .cell\/iw sc x=some .free)->∃c vo,env.cells.lookup x=some c/\h.IsCell c vo/\c∉σ/\∀v,iY x ρ=some v->∃val,vo=some val/\VR C σ h v val
 apart:∀x y c,iw sc x=some .cell->(iw sc y=some .cell\/iw sc y=some .free)->x≠y->env.cells.lookup x=some c->env.cells.lookup y≠some c
 dom:∀x v,iY x ρ=some v->iw sc x=some .local\/iw sc x=some .cell\/iw sc x=some .free
 newL:C.h₀.get? env.locals=none
 newC:∀x c,iw sc x=some .cell->env.cells.lookup x=some c->C.h₀.get? c=none
 notL:env.locals∉σ
section
variable{C:Cx}{sc:Scope}{env:Env}{σ σ':List Addr}{s s':Shared}{ρ:ie}{st gV:St}
def gP.ownData(F:gP C sc env σ s.heap ρ):∀a o,own sc env a->s.heap.get? a=some o->¬ kh o:=by
 rintro a o (rfl|⟨x,hk,hc⟩) e
 ·obtain⟨m,⟨o',es,ep,ho,hd,_⟩,_⟩:=F.ns;rw[ho]at e;cases e;exact fun v=>v.dict hd
 ·obtain⟨c,vo,h1,⟨o',ho,hd⟩,_⟩:=F.cells x (.inl hk);rw[hc]at h1;cases h1;rw[ho]at e;cases e;exact fun v=>v.cell hd
def gP.ownOut(F:gP C sc env σ s.heap ρ):∀a,own sc env a->a∉σ:=by
 rintro a (rfl|⟨x,hk,hc⟩)
 ·exact F.notL
 ·obtain⟨c,vo,h1,_,h2,_⟩:=F.cells x (.inl hk);rw[hc]at h1;cases h1;exact h2
def gP.weaken(F:gP C sc env σ s.heap ρ)(x:iO g_ σ s σ' s'):iO (own sc env) σ s σ' s':=x.weaken F.ownOut F.ownData
def gP.extO{vQ:Addr->Prop}(F:gP C sc env σ s.heap ρ)(x:iO vQ σ s σ' s')(ve:¬ vQ env.locals)(GV:∀x c,(iw sc x=some .cell\/iw sc x=some .free)->env.cells.lookup x=some c->¬ vQ c):gP C sc env σ' s'.heap ρ where
 kind:=F.kind
 plain:=F.plain
 loc:=F.loc
 cel:=F.cel
 fre:=F.fre
 glo:=F.glo
 globals:=F.globals
 builtins:=F.builtins
 code:=F.code
 ns:=by
  obtain⟨m,hn,hv⟩:=F.ns;exact⟨m,hn.at fun o e=>x.keep _ o e F.notL ve,fun y v h1 h2=>let⟨val,a,b⟩:=hv y v h1 h2;⟨val,a,b.mono x.mono⟩⟩
 cells:=fun y hy=>by
  obtain⟨c,vo,h1,⟨o,ho,hd⟩,h2,h3⟩:=F.cells y hy;have qF:=x.keep _ o ho h2 (GV y c hy h1);refine⟨c,vo,h1,⟨o,qF,hd⟩,(fun hm=>by rw[x.fresh c hm h2]at ho;cases ho),fun v hv=> ?_⟩;obtain⟨val,a,b⟩:=h3 v hv;exact⟨val,a,b.mono x.mono⟩
 apart:=F.apart
 dom:=F.dom
 newL:=F.newL
 newC:=F.newC
 notL:=fun hm=>by
  obtain⟨m,⟨o',es,ep,ho,hd,_⟩,_⟩:=F.ns;rw[x.fresh _ hm F.notL]at ho;cases ho
def gP.ext(F:gP C sc env σ s.heap ρ)(x:iO g_ σ s σ' s'):gP C sc env σ' s'.heap ρ:=F.extO x id fun _ _ _ _=>id
def gP.same(F:gP C sc env σ s.heap ρ)(h:s'.heap=s.heap):gP C sc env σ s'.heap ρ:=by rw[h];exact F
def Ok.toks(K:Ok C σ s st)(t:Nat):Ok C σ {s with toks:=t} st:=⟨K.base,K.fresh0,K.len,K.nodup,K.cells⟩
end
structure i9(A:Around)(n:Nat):Prop where
 hh:A.handled=none
 depth:A.depth+n+60<recursionLimit
 units:A.units+10*n+900<cLine
def i9.mono{A:Around}{n m:Nat}(R:i9 A n)(h:m<=n):i9 A m:=⟨R.hh,by have:=R.depth;omega,by have:=R.units;omega⟩
def i9.deeper{A:Around}{n:Nat}(R:i9 A (n+1))(env:Env):i9 (A.deeper env) n:=
 ⟨R.hh,by have:=R.depth;show A.depth+1+n+60<_;omega,by have:=R.units;show A.units+3+10*n+900<_;omega⟩
def i9.in1{A:Around}{n:Nat}(R:i9 A (n+1)):i9 A.in1 n:=
 ⟨R.hh,by have:=R.depth;show A.depth+n+60<_;omega,by have:=R.units;show A.units+1+10*n+900<_;omega⟩
def i9.u{A:Around}{n:Nat}(R:i9 A n):A.units+800<cLine:=by have:=R.units;omega
def i9.d{A:Around}{n:Nat}(R:i9 A n):A.depth+50<recursionLimit:=by have:=R.depth;omega
structure qe(C:Cx):Prop where
 g:C.h₀.Ns mainGlobals C.mg
 b:∃mb,C.h₀.Ns builtinsNs mb/\∀x:Str,x≠"__name__"->mb x=bootBuiltins x
 nolimit:C.h₀.NoLimit
 digits:∃mc,C.h₀.Ns cStatics mc/\mc "sys.int_max_str_digits"=none
 free:∀x∈jf++(["tuple","map","reversed","enumerate","str","bytes"]:List Str),C.mg x=none
 fns:∀n a body sc,fnOf n=some (a,body,sc)->∃f o pm cd doc dV kV,C.mg n=some (.ref f)/\C.h₀.get? f=some o/\
  o.data= .func {Calls.docDef n a body sc pm cd doc with defaults:=dV,kwdefaults:=kV}/\C.h₀.CodeRec cd n/\(a.defaults=[]->dV= .none)
 cs:∀x l,nQ x=some (.cset l)->∃v,C.mg x=some v/\∀σ,(∀a∈σ,C.h₀.get? a=none)->VR C σ C.h₀ (.cset l) v
 ws:C.mg "fspath"≠none
abbrev yJ(C:Cx)(n:Nat)(f:Scope->Expr->ie->St->Option (PV×St)):Prop:=
 ∀sc e ρ st v gV,f sc e ρ st=some (v,gV)->∀A env σ s(Q:aa) E,i9 A n->gP C sc env σ s.heap ρ->Ok C σ s st->
  (∀val σ' s',iO g_ σ s σ' s'->Ok C σ' s' gV->VR C σ' s'.heap v val->Q val s')->wpAny C.M A (eval e env) Q E s
abbrev Qm(C:Cx)(n:Nat)(f:Scope->Expr->ie->St->Option (Bool×St)):Prop:=
 ∀sc e ρ st b gV,f sc e ρ st=some (b,gV)->∀A env σ s(Q:Bool->Shared->Prop) E,i9 A n->gP C sc env σ s.heap ρ->Ok C σ s st->
  (∀σ' s',iO g_ σ s σ' s'->Ok C σ' s' gV->Q b s')->wpAny C.M A (isTrue e env (eval e env)) Q E s
def pS(C:Cx)(σ:List Addr)(h:Heap):iE->Flow->Prop
 | .next,f=>f= .next
 | .brk,f=>f= .brk
 | .cont,f=>f= .cont
 | .ret v,f=>∃val,f= .ret val/\VR C σ h v val
abbrev Qn(C:Cx)(n:Nat)(f:Scope->Stmt->ie->St->Option (iE×ie×St)):Prop:=
 ∀sc e ρ st fl ji gV,f sc e ρ st=some (fl,ji,gV)->∀A env σ s(Q:Flow->Shared->Prop) E,i9 A n->gP C sc env σ s.heap ρ->Ok C σ s st->
  (∀val σ' s',iO (own sc env) σ s σ' s'->Ok C σ' s' gV->gP C sc env σ' s'.heap ji->pS C σ' s'.heap fl val->Q val s')->wpAny C.M A (exec e env) Q E s
abbrev Qo(C:Cx)(n:Nat)(f:Str->List PV->List (Str×PV)->St->Option (PV×St)):Prop:=
 ∀name args kws st v gV,f name args kws st=some (v,gV)->∀A σ s vs us fv(Q:aa) E,i9 A n->Ok C σ s st->iL C σ s.heap args vs->iL C σ s.heap (kws.map (·.2)) us->
  C.mg name=some fv->(∀val σ' s',iO g_ σ s σ' s'->Ok C σ' s' gV->VR C σ' s'.heap v val->Q val s')->wpAny C.M A (call fv vs ((kws.map (·.1)).zip us)) Q E s
abbrev Tu(C:Cx)(n:Nat)(f:Scope->Expr->ie->St->Option (PV×St)):Prop:=
 ∀sc elt gens iS pos t tp spos ρ st v gV ji,f sc (.ListComp elt gens iS pos) ρ st=some (v,gV)->kc sc t v ρ=some ji->∀A env σ s(Q:Flow->Shared->Prop) E,i9 A n->gP C sc env σ s.heap ρ->Ok C σ s st->
  swapsWith (.ListComp elt gens iS pos) (some (.Name t tp)) spos.line env=pure true->
  (∀σ' s',iO (own sc env) σ s σ' s'->Ok C σ' s' gV->gP C sc env σ' s'.heap ji->Q .next s')->wpAny C.M A (exec (.Assign [.Name t tp] (.ListComp elt gens iS pos) spos) env) Q E s
structure nU(C:Cx)(n:Nat)(r:pK):Prop where
 A':Tu C n r.E
 E:yJ C n r.E
 T:Qm C n r.T
 S:Qn C n r.S
 C':Qo C n r.C
end
section
open PySem PyProof.Rows
structure iG(s s':Shared):Prop where
 keep:∀b o,s.heap.get? b=some o->s'.heap.get? b=some o
 gens:s'.gens=s.gens
 os:s'.os=s.os
section
variable{C:Cx}{sc:Scope}{env:Env}{σ σ':List Addr}{s s' s₁:Shared}{ρ:ie}{st gV:St}{A:Around}{n:Nat}{Q:aa}{E:aa}
def iG.toks(s:Shared)(t:Nat):iG s {s with toks:=t}:=⟨fun _ _ e=>e,rfl,rfl⟩
def iG.push(s:Shared)(o:Obj):iG s {s with heap:=s.heap.push o}:=⟨fun _ _ e=>aG o e,rfl,rfl⟩
def iG.trans{s s₁ jy:Shared}(x:iG s s₁)(y:iG s₁ jy):iG s jy:=⟨fun b o e=>y.keep b o (x.keep b o e),y.gens.trans x.gens,y.os.trans x.os⟩
def iG.rfl'{s:Shared}:iG s s:=⟨fun _ _ e=>e,rfl,rfl⟩
def iG.ext(g:iG s s'):iO g_ σ s σ s':=⟨⟨[],by simp⟩,fun _ h h'=>absurd h h',fun b o e _ _=>g.keep b o e,fun _ _ h=>h.elim,g.gens,g.os⟩
def wU.mono{a:Addr}{c:jv}{h h':Heap}(m:sL σ h σ' h')(ha:h'.get? a=h.get? a)(x:wU C σ h a c):wU C σ' h' a c:=by
 cases c with
 |lst l=>
  obtain⟨o,vs,ho,so,r⟩:=x;exact⟨o,vs,ha.trans ho,so,r.mono m⟩
 |dct l=>
  obtain⟨kvs,⟨o,es,ep,ho,r⟩,hp⟩:=x;exact⟨kvs,⟨o,es,ep,ha.trans ho,r⟩,hp.mono m⟩
 |bs o=>
  cases o with
  |none=>
   obtain⟨led,ho,hl⟩:=x;exact⟨led,ha.trans ho,hl⟩
  |some b=>
   obtain⟨o,ho,hb⟩:=x;exact⟨o,ha.trans ho,hb⟩
def Ok.grow(K:Ok C σ s st)(g:iG s s'):Ok C σ s' st where
 base:=fun b o e=>g.keep b o (K.base b o e)
 fresh0:=K.fresh0
 len:=K.len
 nodup:=K.nodup
 cells:=fun k a c ha hc=>by
  have x:=K.cells k a c ha hc;have:∃o,s.heap.get? a=some o:=by
   cases c with
   |lst l=>obtain⟨o,_,ho,_⟩:=x;exact⟨o,ho⟩
   |dct l=>obtain⟨_,⟨o,_,_,ho,_⟩,_⟩:=x;exact⟨o,ho⟩
   |bs c=>
    cases c with
    |none=>obtain⟨_,ho,_⟩:=x;exact⟨_,ho⟩
    |some b=>obtain⟨o,ho,_⟩:=x;exact⟨o,ho⟩
  obtain⟨o,ho⟩:=this;exact x.mono g.ext.mono ((g.keep a o ho).trans ho.symm)
def Ok.has(K:Ok C σ s st){a:Addr}(h:a∈σ):∃o,s.heap.get? a=some o/\((∃x n,o.data= .seq x n)\/(∃x n,o.data= .dict x n)\/∃x n t,o.data= .set x n t):=by
 obtain⟨k,hk⟩:=fj.mp h;have:k<st.length:=by rw[<-K.len];exact(aF.mp hk).1
 have x:=K.cells k a st[k] hk (aP this);generalize st[k]=c at x;cases c with
 |lst l=>obtain⟨o,_,ho,⟨n,rfl,_⟩,_⟩:=x;exact⟨_,ho,.inl ⟨_,_,rfl⟩⟩
 |dct l=>obtain⟨_,⟨o,es,ep,ho,_,hd,_⟩,_⟩:=x;exact⟨o,ho,.inr (.inl ⟨_,_,hd⟩)⟩
 |bs c=>
  cases c with
  |none=>obtain⟨_,ho,_⟩:=x;exact⟨_,ho,.inr (.inr ⟨_,_,_,rfl⟩)⟩
  |some b=>obtain⟨o,ho,_,_,rfl,_⟩:=x;exact⟨_,ho,.inr (.inr ⟨_,_,_,rfl⟩)⟩
def VR.grow{p:PV}{v:Value}(g:iG s s')(x:VR C σ s.heap p v):VR C σ s'.heap p v:=x.mono (g.ext (σ:=σ)).mono
def iL.grow{p:List PV}{v:List Value}(g:iG s s')(x:iL C σ s.heap p v):iL C σ s'.heap p v:=x.mono (g.ext (σ:=σ)).mono
def ic{p:PV}{v:Value}(K:Ok C σ s st)(g:iG s s')(x:VR C σ s'.heap p v)
  (h:∀val σ' s',iO g_ σ s σ' s'->Ok C σ' s' st->VR C σ' s'.heap p val->Q val s'):Q v s':=h v σ s' g.ext (K.grow g) x
def Ok.fresh_size(K:Ok C σ s st):s.heap.objs.size∉σ:=fun h=>by
 obtain⟨o,ho,_⟩:=K.has h;exact eN _ (bG ho)
def kB{h:Heap}(i:Int)(t:Tok):VR C σ h (.int i) (.int i t):=by rw[VR];exact⟨t,rfl⟩
def we{h:Heap}(b:Bool):VR C σ h (.bool b) (.bool b):=by rw[VR]
def pA{h:Heap}{l:ah}{x:Str}{t:Tok}(e:x.cps.toList=l)(hs:x.length<=sizeLine):VR C σ h (.str l) (.str x t):=by rw[VR];exact⟨x,t,rfl,e,hs⟩
def ig{h:Heap}{i:Int}{v:Value}(x:VR C σ h (.int i) v):∃t,v= .int i t:=by rw[VR]at x;exact x
def vm{h:Heap}{b:Bool}{v:Value}(x:VR C σ h (.bool b) v):v= .bool b:=by rw[VR]at x;exact x
def gW{h:Heap}{l:ah}{v:Value}(x:VR C σ h (.str l) v):∃x t,v= .str x t/\x.cps.toList=l/\x.length<=sizeLine:=by rw[VR]at x;exact x
def kM{h:Heap}{l:List PV}{v:Value}(x:VR C σ h (.tup l) v):∃a o vs,v= .ref a/\a∉σ/\h.get? a=some o/\ki "tuple" o vs/\iL C σ h l vs:=by rw[VR]at x;exact x
def jL{h:Heap}{l:List PV}{v:Value}(x:VR C σ h (.list l) v):∃a o vs,v= .ref a/\a∉σ/\h.get? a=some o/\ki "list" o vs/\iL C σ h l vs:=by rw[VR]at x;exact x
def Lh(s:Shared){o:Obj}(ho:o.isFreed=false):({s with heap:=s.heap.push o}:Shared).heap.get? s.heap.objs.size=some o:=aM _ ho
def uN{l:List PV}{vs:List Value}(K:Ok C σ s st)(x:iL C σ s.heap l vs)(hl:vs.length<=sizeLine):VR C σ (s.heap.push {cls:=.type "list",data:=.seq vs.toArray}) (.list l) (.ref s.heap.objs.size):=by
 rw[VR];exact⟨_,_,vs,rfl,K.fresh_size,aM _ rfl,⟨0,rfl,hl⟩,x.mono ((iG.push s _).ext (σ:=σ)).mono⟩
def uM{l:List PV}{vs:List Value}(K:Ok C σ s st)(x:iL C σ s.heap l vs)(hl:vs.length<=sizeLine):VR C σ (s.heap.push {cls:=.type "tuple",data:=.seq vs.toArray}) (.tup l) (.ref s.heap.objs.size):=by
 rw[VR];exact⟨_,_,vs,rfl,K.fresh_size,aM _ rfl,⟨0,rfl,hl⟩,x.mono ((iG.push s _).ext (σ:=σ)).mono⟩
def o_{x:Str}(h:lC x=true):(x==("__debug__":Str))=false/\(x==("__classdict__":Str))=false/\x≠"__name__":=by
 unfold lC at h;simp only[aA,bne_iff_ne,ne_eq]at h;exact⟨aO.mpr h.1.1,aO.mpr h.1.2,h.2⟩
def Il{x:Str}{p:PV}(T:qe C)(F:gP C sc env σ s.heap ρ)(K:Ok C σ s st)(hx:nQ x=some p)(UZ:x≠"__name__")
  (h:∀v,VR C σ s.heap p v->Q v s):wpAny C.M A (loadGlobal env x) Q E s:=by
 have hg:s.heap.Ns env.globals C.mg:=by rw[F.globals];exact T.g.keeps K.base
 obtain⟨mb,hb,U6⟩:=T.b;have vP:s.heap.Ns env.builtins mb:=by rw[F.builtins];exact hb.keeps K.base
 have hc:∀l,nQ x=some (.cset l)->wpAny C.M A (loadGlobal env x) Q E s:=fun l e=>by
  obtain⟨v,hv,hr⟩:=T.cs x l e;rw[e]at hx;cases hx;refine fK hg hv (h v ((hr σ K.fresh0).mono (σ':=σ) ⟨⟨[],by simp⟩,fun _ a b=>absurd a b,fun b o e _ _=>K.base b o e⟩))
 have I4:=hx;unfold nQ at hx
 repeat' split at hx
 case isTrue=>cases hx;exact hc _ I4
 case isTrue=>cases hx;exact hc _ I4
 case isTrue=>cases hx;exact hc _ I4
 case isTrue q=>
  cases hx;have e:=aR.mp q;subst e;exact d9 hg (T.free _ (by decide)) vP ((U6 _ UZ).trans (by decide+kernel)) (h (.type "str") (by rw[VR]))
 case isTrue q=>
  cases hx;have e:=aR.mp q;subst e;exact d9 hg (T.free _ (by decide)) vP ((U6 _ UZ).trans (by decide+kernel)) (h (.type "bytes") (by rw[VR]))
 case isTrue q=>
  cases hx;have e:=aR.mp q;subst e;cases hv:C.mg "fspath" with
  |none=>exact absurd hv T.ws
  |some v=>exact fK hg hv (h v (by rw[VR];exact hv))
 case isFalse=>cases hx
def Gh{x:Str}{p:PV}(T:qe C)(F:gP C sc env σ s.heap ρ)(K:Ok C σ s st)(hx:oZ sc x ρ=some p)(hp:lC x=true)
  (h:∀v,VR C σ s.heap p v->Q v s):wpAny C.M A (loadName env x) Q E s:=by
 obtain⟨hd,Z0,UZ⟩:=o_ hp;unfold oZ at hx;cases e:iY x ρ with
 |some v=>
  rw[e]at hx;cases hx;rcases F.dom x p e with k|k|k
  ·obtain⟨m,hn,hv⟩:=F.ns;obtain⟨val,hm,hr⟩:=hv x p e k;exact wpAny_loadName_local F.kind (F.loc x k) hn hm (h val hr)
  ·obtain⟨c,vo,hc,hi,_,hv⟩:=F.cells x (.inl k);obtain⟨val,rfl,hr⟩:=hv p e;exact wpAny_loadName_cell F.kind (F.cel x k) hc hi (h val hr)
  ·obtain⟨c,vo,hc,hi,_,hv⟩:=F.cells x (.inr k);obtain⟨val,rfl,hr⟩:=hv p e;rcases F.fre x k with q|q
   ·exact wpAny_loadName_free F.kind q hc hi (h val hr) Z0
   ·exact wpAny_loadName_cell F.kind q hc hi (h val hr)
 |none=>
  rw[e]at hx;cases k:iw sc x with
  |none=>rw[k]at hx;cases hx
  |some kd=>
   cases kd<;>rw[k]at hx<;>first|cases hx|skip
   rw[loadName_read F.kind (F.glo x k)];exact Il T F K hx UZ h
def KW{x:Str}{pos:Pos}{v:PV}{r:pK}(T:qe C)(F:gP C sc env σ s.heap ρ)(K:Ok C σ s st)(hx:iI r sc (.Name x pos) ρ st=some (v,gV))
  (h:∀val σ' s',iO g_ σ s σ' s'->Ok C σ' s' gV->VR C σ' s'.heap v val->Q val s'):wpAny C.M A (eval (.Name x pos) env) Q E s:=by
 unfold iI at hx;dsimp only at hx;split at hx
 ·cases hx
 ·rename_i hk;obtain⟨p,hp,e⟩:=aq.mp hx;cases e;have yD:lC x=true:=by
   cases q:iw sc x with
   |none=>exact absurd (by unfold iw at q;rw[q];rfl) hk
   |some k=>exact F.plain x k q
  exact wpAny_Name (Gh T F K hp yD fun val hv=>h val σ s iO.rfl' K hv) (o_ yD).1
def FG{h:Heap}:VR C σ h .none .none:=by rw[VR]
def jZ{α:Type}{l:List α}(h:iP l=true):l.length<=1000000:=by unfold iP yE at h;exact cJ h
def lU{n:Nat}(h:n<=1000000):n<=sizeLine:=by rw[dY];omega
def Bd{c:Const}{k:Nat}{pos:Pos}{v:PV}{r:pK}(K:Ok C σ s st)(hx:iI r sc (.Constant c k pos) ρ st=some (v,gV))
  (h:∀val σ' s',iO g_ σ s σ' s'->Ok C σ' s' gV->VR C σ' s'.heap v val->Q val s'):wpAny C.M A (eval (.Constant c k pos) env) Q E s:=by
 unfold iI at hx;rw[eval_Constant];cases c with
 |none=>cases hx;exact aj (h _ σ s iO.rfl' K FG)
 |bool b=>cases hx;exact aj (h _ σ s iO.rfl' K (we b))
 |int i=>cases hx;exact wpAny_mkInt (ic K (iG.toks s _) (kB i _) h)
 |str x=>
  dsimp only at hx;split at hx
  ·rename_i q;cases hx;exact wpAny_mkText (ic K (iG.toks s _) (pA rfl (lU (by have:=jZ q;simpa[Str.length]using this))) h)
  ·cases hx
 |float _|complex _ _|bytes _|ellipsis=>cases hx
def Ka{a:Int}(h:a.natAbs<2^62):Builtin.Int.intBits a<=64:=by
 unfold Builtin.Int.intBits;split
 ·omega
 ·rename_i q;have lq:a.natAbs≠0:=by simpa using q
  have:=(Nat.log2_lt lq).mpr h;omega
def bitNot_nonneg{b:Int}(h:0<=b):decide (0<=Builtin.bitNot b)=false:=by unfold Builtin.bitNot;exact bP (by omega)
def bitAnd_nn{a b:Int}(ha:0<=a)(hb:0<=b):Builtin.bitAnd a b=((a.toNat&&&b.toNat:Nat):Int):=by
 unfold Builtin.bitAnd;rw[aT ha,aT hb]
def bitNot_bitNot(a:Int):Builtin.bitNot (Builtin.bitNot a)=a:=by unfold Builtin.bitNot;omega
def L_{a b:Int}(ha:0<=a)(hb:0<=b):Builtin.bitOr a b=((a.toNat|||b.toNat:Nat):Int):=by
 unfold Builtin.bitOr Builtin.bitAnd;rw[bitNot_nonneg ha,bitNot_nonneg hb];dsimp only;rw[bitNot_bitNot,bitNot_bitNot,bitNot_bitNot]
def En(a:Int)(n:Nat):a>>>n=a.fdiv (2^n):=by
 rw[Int.shiftRight_eq_div_pow,Int.fdiv_eq_ediv_of_nonneg _ (by exact Int.pow_nonneg (by omega))]
 norm_cast
def qi(K:Ok C σ s st){i:Int}(h:∀val σ' s',iO g_ σ s σ' s'->Ok C σ' s' st->VR C σ' s'.heap (.int i) val->Q val s'):Q (.int i s.toks) {s with toks:=s.toks+1}:=
 ic K (iG.toks s _) (kB i _) h
def II{op:Operator}{a b:Int}{t u:Tok}{v:PV}(K:Ok C σ s st)(hx:jm st op (.int a) (.int b)=some v)
  (h:∀val σ' s',iO g_ σ s σ' s'->Ok C σ' s' st->VR C σ' s'.heap v val->Q val s'):wpAny C.M A (binaryOp op (.int a t) (.int b u)) Q E s:=by
 unfold jm at hx;cases op<;>dsimp only at hx<;>(try cases hx)
 case Add=>exact add_int (qi K h)
 case Sub=>exact sub_int' (qi K h)
 case Mult=>
  split at hx
  ·rename_i q;cases hx;rw[aA,aJ,aJ]at q;exact PyProof.Rows.mul_int (qi K h) (IntMulOk.of_left (Ka q.1))
  ·cases hx
 case Mod=>
  split at hx
  ·cases hx
  ·rename_i q;cases hx;exact mod_int' (by simpa using q) (qi K h)
 case FloorDiv=>
  split at hx
  ·cases hx
  ·rename_i q;cases hx;simp only[cH,aR,aJ,not_or]at q;exact PyProof.Rows.floordiv_int q.1 (qi K h) (.inl (_root_.PyProof.noPylong_small (by omega)))
 case Pow=>
  split at hx
  ·rename_i q;cases hx;simp only[aA,aJ]at q;obtain⟨⟨q1,q2⟩,q3⟩:=q;have hb:Builtin.Int.intBits a<=64:=Ka (by omega);exact PyProof.Rows.pow_int q1 (by
    have:(Builtin.Int.intBits a:Int)*b<=64*60:=Int.mul_le_mul (by omega) q2 q1 (by omega);omega) (qi K h)
  ·cases hx
 case RShift=>
  split at hx
  ·rename_i q;cases hx;simp only[aA,aJ]at q;rw[En]at h;exact PyProof.Rows.rshift_int q.1 (qi K h)
  ·cases hx
 case BitAnd=>
  split at hx
  ·rename_i q;cases hx;simp only[aA,aJ]at q;rw[<-bitAnd_nn q.1 q.2]at h;exact PyProof.Rows.and_int (qi K h)
  ·cases hx
 case BitOr=>
  split at hx
  ·rename_i q;cases hx;simp only[aA,aJ]at q;rw[<-L_ q.1 q.2]at h;exact PyProof.Rows.or_int (qi K h)
  ·cases hx
def IF{op:Operator}{a b:ah}{va vb:Value}{v:PV}(K:Ok C σ s st)(hx:jm st op (.str a) (.str b)=some v)(xa:VR C σ s.heap (.str a) va)(xb:VR C σ s.heap (.str b) vb)
  (h:∀val σ' s',iO g_ σ s σ' s'->Ok C σ' s' st->VR C σ' s'.heap v val->Q val s'):wpAny C.M A (binaryOp op va vb) Q E s:=by
 obtain⟨x,t,rfl,rfl,hs⟩:=gW xa;obtain⟨y,u,rfl,rfl,ht⟩:=gW xb;unfold jm at hx;cases op<;>dsimp only at hx<;>(try cases hx);split at hx
 ·rename_i q;cases hx;have hl:=jZ q;have e:x.length+y.length=(x.cps.toList++y.cps.toList).length:=by simp[Str.length]
  have vd:x.length+y.length<=sizeLine:=by rw[e];exact lU hl
  exact PyProof.Rows.add_str (fun t' tk=>ic K (iG.toks s _) (pA (by show(x.cps++y.cps).toList=_;simp) (by show(x.cps++y.cps).size<=_;simpa[Str.length]using vd)) h) vd
 ·cases hx
def JY(x:Str)(n:Int)(hn:0<=n):(Txt.mul x n).cps.toList=(List.replicate n.toNat x.cps.toList).flatten:=by
 unfold Txt.mul;split
 ·have:n.toNat=0:=by omega
  rw[this];rfl
 ·split
  ·rename_i q1 q;simp only[cH,aR]at q;rcases q with q|q
   ·subst q;simp
   ·have e:x.cps.toList=[]:=by
     have:x.cps.size=0:=q;simpa using this
    rw[e];simp
  ·have key:∀(k:Nat)(acc:Array Nat),((List.replicate k x.cps).foldl (· ++ ·) acc).toList=acc.toList++(List.replicate k x.cps.toList).flatten:=by
    intro k
    induction k with
    |zero=>intro acc;simp
    |succ k ih=>intro acc;rw[gz,c8,ih,gz,gc];simp
   have:=key n.toNat #[];simpa using this
def BC{op:Operator}{a:ah}{b:Int}{u:Tok}{va:Value}{v:PV}(K:Ok C σ s st)(hx:jm st op (.str a) (.int b)=some v)(xa:VR C σ s.heap (.str a) va)
  (h:∀val σ' s',iO g_ σ s σ' s'->Ok C σ' s' st->VR C σ' s'.heap v val->Q val s'):wpAny C.M A (binaryOp op va (.int b u)) Q E s:=by
 obtain⟨x,t,rfl,rfl,hs⟩:=gW xa;unfold jm at hx;cases op<;>dsimp only at hx<;>(try cases hx);split at hx
 ·rename_i q;cases hx;simp only[aA,aJ]at q;obtain⟨⟨q1,q2⟩,q3⟩:=q;have e:((List.replicate b.toNat x.cps.toList).flatten).length<=1000000:=by
   rw[List.length_flatten,List.map_replicate,List.sum_replicate_nat]
   calc b.toNat*x.cps.toList.length<=1000*1000:=Nat.mul_le_mul (by omega) q3
    _<=1000000:=by omega
  refine SB.mul (mulOk_of 1000 1000 (by simpa[Str.length]using q3) q2 (by omega) (by decide) (by decide)) fun t' k=> ?_;refine ic K (iG.toks s _) (pA (JY x b q1) (lU ?_)) h;have:(Txt.mul x b).length=(Txt.mul x b).cps.toList.length:=by simp[Str.length]
  rw[this,JY x b q1];exact e
 ·cases hx
def i7{p:PV}{l:List PV}{v:Value}(K:Ok C σ s st)(hc:gM st p=some l)(x:VR C σ s.heap p v)(hp:(∃k,p= .lst k)\/∃m,p= .list m):
  ∃a o vs,v= .ref a/\s.heap.get? a=some o/\ki "list" o vs/\iL C σ s.heap l vs:=by
 rcases hp with⟨k,rfl⟩|⟨m,rfl⟩
 ·rw[VR]at x;obtain⟨a,rfl,ha⟩:=x;unfold gM at hc;dsimp only at hc;split at hc
  ·rename_i m hm;cases hc;obtain⟨o,vs,ho,so,r⟩:=K.cells k a _ ha hm;exact⟨a,o,vs,rfl,ho,so,r⟩
  ·cases hc
 ·unfold gM at hc;cases hc;obtain⟨a,o,vs,rfl,_,ho,so,r⟩:=jL x;exact⟨a,o,vs,rfl,ho,so,r⟩
def ki.isList{o:Obj}{vs:List Value}{h:Heap}{a:Addr}(so:ki "list" o vs)(ho:h.get? a=some o):h.IsList a vs.toArray:=by
 obtain⟨n,rfl,_⟩:=so;exact⟨_,ho,rfl,n,rfl⟩
def ki.isTuple{o:Obj}{vs:List Value}{h:Heap}{a:Addr}(so:ki "tuple" o vs)(ho:h.get? a=some o):h.IsTuple a vs.toArray:=by
 obtain⟨n,rfl,_⟩:=so;exact⟨_,ho,rfl,n,rfl⟩
def Dy{x y:PV}{a b:List PV}{va vb:Value}(K:Ok C σ s st)(ha:gM st x=some a)(hb:gM st y=some b)(hs:iP (a++b)=true)(xa:VR C σ s.heap x va)(xb:VR C σ s.heap y vb)
  (ZC:(∃k,x= .lst k)\/∃m,x= .list m) (ZA:(∃k,y= .lst k)\/∃m,y= .list m)
  (h:∀val σ' s',iO g_ σ s σ' s'->Ok C σ' s' st->VR C σ' s'.heap (.list (a++b)) val->Q val s'):wpAny C.M A (binaryOp .Add va vb) Q E s:=by
 obtain⟨l,o,vs,rfl,ho,⟨n,rfl,_⟩,r⟩:=i7 K ha xa ZC;obtain⟨l2,o2,ws,rfl,v7,⟨n2,rfl,_⟩,r2⟩:=i7 K hb xb ZA;have e:vs.toArray++ws.toArray=(vs++ws).toArray:=by simp
 have hl:vs.length+ws.length<=sizeLine:=by
  have:=jZ hs;rw[aB,<-r.length,<-r2.length]at this;exact lU this
 refine concat_meets ⟨_,ho,rfl⟩ ⟨_,v7,rfl⟩ noFill_list_add seq_list_add PySem.F.slot_list_add PySem.F.entry_list_add (PySem.F.args_list_add_2 _ _) (list_addW l l2 vs.toArray ws.toArray n n2 none none #[] #[] (by simpa using hl)) ⟨ho,v7,?_⟩;rw[e];exact ic K (iG.push s _) (uN K (iL.append r2 r) (by simpa using hl)) h
def wB{α:Type}[DecidableEq α](a b:α):(a==b)=decide (a=b):=by
 by_cases h:a=b<;>simp[h]
def xg:∀(l m:ah),strLt l m=decide (l<m)
 |[],[]=>by simp[strLt]
 |[],_::_=>by simp[strLt]
 |_::_,[]=>by simp[strLt]
 |a::l,b::m=>by
  unfold strLt;split
  ·rename_i q;have e:=aR.mp q;subst e;rw[xg l m];simp[List.cons_lt_cons_iff]
  ·rename_i q;have:a≠b:=by simpa using q
   simp[List.cons_lt_cons_iff,this]
def rB{a b:PV}{va vb:Value}{r:Bool}{Q:Bool->Shared->Prop}{h:Heap}(hx:jY a b=some r)(xa:VR C σ h a va)(xb:VR C σ h b vb)(hq:Q r s):wpAny C.M A (eqBool va vb) Q E s:=by
 cases a<;>cases b<;>simp only[jY]at hx<;>(try cases hx)
 ·obtain⟨t,rfl⟩:=ig xa;obtain⟨u,rfl⟩:=ig xb;exact(intKind C.prog C.w).eqBool (intKind_is ..) (intKind_is ..) (by rw[<-wB];exact hq)
 ·obtain⟨x,t,rfl,rfl,_⟩:=gW xa;obtain⟨y,u,rfl,rfl,_⟩:=gW xb;exact(strKind C.prog C.w).eqBool (eY ..) (eY ..) (by rw[<-wB,<-toList_beq];exact hq)
def tY{a b:PV}{va vb:Value}{r:Bool}{h:Heap}(hx:mE a b=some r)(xa:VR C σ h a va)(xb:VR C σ h b vb)(hq:Q (.bool r) s):wpAny C.M A (richCompare .Lt va vb) Q E s:=by
 cases a<;>cases b<;>simp only[mE]at hx<;>(try cases hx)
 ·obtain⟨t,rfl⟩:=ig xa;obtain⟨u,rfl⟩:=ig xb;exact PyProof.Rows.lt_int hq
 ·obtain⟨x,t,rfl,rfl,_⟩:=gW xa;obtain⟨y,u,rfl,rfl,_⟩:=gW xb;rw[xg]at hq;exact PyProof.Rows.lt_str hq
def CT{l m:List PV}{xs ys:List Value}{a b:Addr}{o o':Obj}{r:Bool}{P:Fin->Shared->Prop}{h:Heap}(hx:iz l m=some r)(xa:iL C σ h l xs)(xb:iL C σ h m ys)
  (ho:s.heap.get? a=some o) (so:ki "tuple" o xs) (qF:s.heap.get? b=some o') (OF:ki "tuple" o' ys) (hp:P (.done (.ret (.bool r))) s):
  wpAny C.M A (Builtin.«tuple.__lt__» ⟨[.ref a,.ref b],[]⟩) P E s:=by
 obtain⟨n,rfl,_⟩:=so;obtain⟨n',rfl,_⟩:=OF;show wpAny _ _ (isInstance (.ref b) (.type "tuple") >>= _) _ _ s;refine ai (cA (T:="tuple") ⟨_,qF,rfl⟩ isSubtype_tuple_tuple ?_);simp only[dw,az,a_];refine ai (wpAny_tupleItemsOf ho rfl ?_);refine ai (wpAny_tupleItemsOf qF rfl ?_);refine ai ?_;refine wpAny_forIn_list _
  (fun rest q s'=>q.1=none/\s'=s/\∃l' m' Si Sh,rest=List.zip Si Sh/\iL C σ h l' Si/\iL C σ h m' Sh/\iz l' m'=some r/\(Si.length<Sh.length↔xs.length<ys.length))
  _ ?_ ?_ _ _ ⟨rfl,rfl,l,m,xs,ys,by simp,xa,xb,hx,Iff.rfl⟩
 ·rintro⟨u,v⟩ rest q s' ⟨hr,rfl,l',m',Si,Sh,hz,ha,hb,hl,iK⟩;cases l' with
  |nil=>rw[iL]at ha;subst ha;simp at hz
  |cons p l'=>
   cases m' with
   |nil=>rw[iL]at hb;subst hb;simp at hz
   |cons p' m'=>
    rw[iL]at ha hb;obtain⟨v1,r1,rfl,h1,ve⟩:=ha;obtain⟨v2,r2,rfl,h2,GV⟩:=hb;simp only[fP,dZ,d_]at hz;obtain⟨⟨rfl,rfl⟩,rfl⟩:=hz;unfold iz at hl;cases he:jY p p' with
    |none=>rw[he]at hl;cases hl
    |some e=>
     refine ai (rB he h1 h2 ?_);rw[he]at hl;cases e with
     |true=>
      simp only[dw,az,a_];exact aj ⟨rfl,rfl,l',m',r1,r2,rfl,ve,GV,hl,by simpa using iK⟩
     |false=>
      simp only[Bool.not_false,bY];refine ai (dD (ai (tY hl h1 h2 ?_)));exact ai (aj (aj (aj hp)))
 ·rintro⟨r1,r2⟩ s' ⟨hr,rfl,l',m',Si,Sh,hz,ha,hb,hl,iK⟩;simp only at hr;subst hr;refine aj ?_;have e:r=decide (xs.length<ys.length):=by
   cases l' with
   |nil=>
    rw[iL]at ha;subst ha;cases m' with
    |nil=>rw[iL]at hb;subst hb;simp only[iz,aW]at hl;subst hl;simpa using iK
    |cons _ _=>rw[iL]at hb;obtain⟨_,_,rfl,_⟩:=hb;simp only[iz,aW]at hl;subst hl;simpa using iK
   |cons _ _=>
    rw[iL]at ha;obtain⟨_,_,rfl,_⟩:=ha;cases m' with
    |nil=>rw[iL]at hb;subst hb;simp only[iz,aW]at hl;subst hl;simpa using iK
    |cons _ _=>rw[iL]at hb;obtain⟨_,_,rfl,_⟩:=hb;simp at hz
  show P (.done (.ret (.bool (decide (xs.toArray.size<ys.toArray.size))))) s';rw[cK,cK,<-e];exact hp
def Qx{l m:List PV}{va vb:Value}{r:Bool}{h:Heap}(hk:i9 A n)(hx:iz l m=some r)(xa:VR C σ s.heap (.tup l) va)(xb:VR C σ s.heap (.tup m) vb)(hq:Q (.bool r) s):wpAny C.M A (richCompare .Lt va vb) Q E s:=by
 obtain⟨a,o,xs,rfl,_,ho,so,ra⟩:=kM xa;obtain⟨b,o',ys,rfl,_,qF,OF,rb⟩:=kM xb;have hT:s.TypeIs (.ref a) "tuple":=by obtain⟨n,rfl,_⟩:=so;exact⟨_,ho,rfl⟩
 have Wc:s.TypeIs (.ref b) "tuple":=by obtain⟨n,rfl,_⟩:=OF;exact⟨_,qF,rfl⟩
 exact gf (op:=.Lt) hT Wc PySem.F.slot_tuple_lt
  (bW PySem.F.slot_tuple_lt hT PySem.F.entry_tuple_lt (CT hx ra rb ho so qF OF ⟨_,rfl,(fun e=>nomatch e),hq⟩) (PySem.F.args_tuple_lt_2 _ _)) (by have:=hk.u;omega)
end
end
section
open PySem PyProof.Rows
open PySem.AutoSeq1 (wpAny_loadPart')
section
variable{C:Cx}{sc:Scope}{env:Env}{σ σ':List Addr}{s s' s₁:Shared}{ρ:ie}{st gV:St}{A:Around}{n:Nat}{Q:aa}{E:aa}
def vL(a b:PV):jY a b=jY b a:=by
 cases a<;>cases b<;>simp only[jY]<;>rw[Bool.beq_comm]
def A3{a b:PV}{va vb:Value}{r:Bool}{h:Heap}(hx:mE b a=some r)(xa:VR C σ h a va)(xb:VR C σ h b vb)(hq:Q (.bool r) s):wpAny C.M A (richCompare .Gt va vb) Q E s:=by
 cases a<;>cases b<;>simp only[mE]at hx<;>(try cases hx)
 ·obtain⟨t,rfl⟩:=ig xa;obtain⟨u,rfl⟩:=ig xb;exact PyProof.Rows.gt_int hq
 ·obtain⟨x,t,rfl,rfl,_⟩:=gW xa;obtain⟨y,u,rfl,rfl,_⟩:=gW xb;rw[xg]at hq;exact wpAny_richCompare_same (op:=.Gt) (T:="str") (cW s x t) (cW s y u) PySem.F.slot_str_gt
   (bW PySem.F.slot_str_gt (cW s x t) PySem.F.entry_str_gt (show wpAny _ _ (ret (.bool (x.cps.toList>y.cps.toList))) _ _ s from aj ⟨_,rfl,by simp,hq⟩) (PySem.F.args_str_gt_2 _ _))
def NO(l b:Addr)(xs ys:List Value)(n n2:Nat)(r:Bool)(h0:Heap)(k:Nat):
  ∀i:Nat,xs.length-i=k->∀(lp mp:List PV),iL C σ h0 lp (xs.drop i)->iL C σ h0 mp (ys.drop i)->iz lp mp=some r->i<=xs.length->i<=ys.length->∀(A:Around)(R:Result->Shared->Prop)(s:Shared),
   s.heap.get? l=some {cls:=.type "list",dict:=none,data:=.seq xs.toArray n,slots:= #[]}->s.heap.get? b=some {cls:=.type "list",dict:=none,data:=.seq ys.toArray n2,slots:= #[]}->
   R (.ok (.ret (.bool r))) s->
   wpAny C.M A.in1 (Builtin.«list.__eq__.loop» ⟨[.ref l,.ref b,rawInt i,rawInt 0],[]⟩)
    (fun fin s'=>match fin with| .done f=>R (.ok f) s'| .again c'=>c'.quiet=true/\codeAny C.M A c' R s') (fun e s'=>R (.error e) s') s:=by
 induction k with
 |zero=>
  intro i hk lp mp ha hb hr Sz VQ A R s hl vP h;obtain⟨hp,g,d,tk,os⟩:=s;have e:i=xs.length:=by omega
  have hd:xs.drop i=[]:=by rw[e];simp
  rw[hd]at ha;have VI:lp=[]:=by
   cases lp with
   |nil=>rfl
   |cons _ _=>rw[iL]at ha;obtain⟨_,_,q,_⟩:=ha;cases q
  subst VI
  wp_walk using bA hl,bA vP
  have h1:xs.toArray[((i:Nat):Int).toNat]? =none:=by rw[bu,cF];exact dI (by omega)
  rw[h1];have Al:r=decide (xs.length<ys.length):=by
   have:=hb.length;rw[bH]at this;cases mp with
   |nil|cons _ _=>simp only[iz,aW]at hr;subst hr;simp at this;simp;omega
  cases ys.toArray[((i:Nat):Int).toNat]? <;>
  ·wp_walk using bA hl,bA vP
   rw[Al]at h;exact h
 |succ k ih=>
  intro i hk lp mp ha hb hr Sz VQ A R s hl vP h;obtain⟨hp,g,d,tk,os⟩:=s;have jQ:i<xs.length:=by omega
  have hd:=bq jQ;have h1:xs.toArray[((i:Nat):Int).toNat]? =some xs[i]:=by rw[bu,cF];exact aP jQ
  generalize xs[i]=x at hd h1;rw[hd]at ha
  wp_walk using bA hl,bA vP
  rw[h1];cases lp with
  |nil=>rw[iL]at ha;cases ha
  |cons p lp=>
   rw[iL]at ha;obtain⟨_,_,q,qQ,PJ⟩:=ha;obtain⟨rfl,rfl⟩:=gE q;by_cases BR:i<ys.length
   ·have BG:=bq BR;have h2:ys.toArray[((i:Nat):Int).toNat]? =some ys[i]:=by rw[bu,cF];exact aP BR
    generalize ys[i]=y at BG h2;rw[BG]at hb;rw[h2];cases mp with
    |nil=>rw[iL]at hb;cases hb
    |cons p' mp=>
     rw[iL]at hb;obtain⟨_,_,q,GU,Qj⟩:=hb;obtain⟨rfl,rfl⟩:=gE q;unfold iz at hr;have hc:((i:Int)+1)=((i+1:Nat):Int):=rfl;cases he:jY p p' with
     |none=>rw[he]at hr;cases hr
     |some e=>
      rw[he]at hr;refine ai (rB he qQ GU ?_);cases e with
      |true=>
       wp_walk
       rw[hc];exact⟨bD cP _,bx fL (by
        rw[aZ cP _];exact ih (i+1) (by omega) lp mp PJ Qj hr (by omega) (by omega) A R _ hl vP h)⟩
      |false=>
       wp_walk using bA hl,bA vP
       rw[h1,h2];dsimp only;refine ai (tY hr qQ GU ?_);exact aj h
   ·have h2:ys.toArray[((i:Nat):Int).toNat]? =none:=by rw[bu,cF];exact dI (by omega)
    have BG:ys.drop i=[]:=List.drop_eq_nil_of_le (by omega);rw[BG]at hb;rw[h2];have VE:mp=[]:=by
     cases mp with
     |nil=>rfl
     |cons _ _=>rw[iL]at hb;obtain⟨_,_,q,_⟩:=hb;cases q
    subst VE;simp only[iz,aW]at hr;subst hr
    wp_walk using bA hl,bA vP
    have Al:decide (xs.length<ys.length)=false:=by simp;omega
    rw[<-Al]at h;exact h
def Bl{lp mp:List PV}{xs ys:List Value}{a b:Addr}{n n2:Nat}{r:Bool}{h0:Heap}{A:Around}{R:Result->Shared->Prop}{s:Shared}(hr:iz lp mp=some r)(xa:iL C σ h0 lp xs)(xb:iL C σ h0 mp ys)
  (hl:s.heap.get? a=some {cls:=.type "list",dict:=none,data:=.seq xs.toArray n,slots:= #[]}) (hb:s.heap.get? b=some {cls:=.type "list",dict:=none,data:=.seq ys.toArray n2,slots:= #[]})
  (h:R (.ok (.ret (.bool r))) s):
  wpAny C.M A.in1 (Builtin.«list.__lt__» ⟨[.ref a,.ref b],[]⟩)
    (fun fin s'=>match fin with| .done f=>R (.ok f) s'| .again c'=>c'.quiet=true/\codeAny C.M A c' R s') (fun e s'=>R (.error e) s') s:=by
 obtain⟨hp,g,d,tk,os⟩:=s;have f3:=AutoSeq1.sub_list_list
 wp_walk using bA hl,bA hb
 exact⟨bD cP _,bx fL (by
  rw[aZ cP _];exact NO a b xs ys n n2 r h0 _ 0 rfl lp mp (by simpa using xa) (by simpa using xb) hr (by omega) (by omega) A R _ hl hb h)⟩
def NP(l b:Addr)(xs ys:List Value)(n n2:Nat)(r:Bool)(h0:Heap)(k:Nat):
  ∀i:Nat,xs.length-i=k->∀(lp mp:List PV),iL C σ h0 lp (xs.drop i)->iL C σ h0 mp (ys.drop i)->iz mp lp=some r->i<=xs.length->i<=ys.length->∀(A:Around)(R:Result->Shared->Prop)(s:Shared),
   s.heap.get? l=some {cls:=.type "list",dict:=none,data:=.seq xs.toArray n,slots:= #[]}->s.heap.get? b=some {cls:=.type "list",dict:=none,data:=.seq ys.toArray n2,slots:= #[]}->
   R (.ok (.ret (.bool r))) s->
   wpAny C.M A.in1 (Builtin.«list.__eq__.loop» ⟨[.ref l,.ref b,rawInt i,rawInt 4],[]⟩)
    (fun fin s'=>match fin with| .done f=>R (.ok f) s'| .again c'=>c'.quiet=true/\codeAny C.M A c' R s') (fun e s'=>R (.error e) s') s:=by
 induction k with
 |zero=>
  intro i hk lp mp ha hb hr Sz VQ A R s hl vP h;obtain⟨hp,g,d,tk,os⟩:=s;have e:i=xs.length:=by omega
  have hd:xs.drop i=[]:=by rw[e];simp
  rw[hd]at ha;have VI:lp=[]:=by
   cases lp with
   |nil=>rfl
   |cons _ _=>rw[iL]at ha;obtain⟨_,_,q,_⟩:=ha;cases q
  subst VI
  wp_walk using bA hl,bA vP
  have h1:xs.toArray[((i:Nat):Int).toNat]? =none:=by rw[bu,cF];exact dI (by omega)
  rw[h1];have Al:r=decide (ys.length<xs.length):=by
   have:=hb.length;rw[bH]at this;cases mp with
   |nil|cons _ _=>simp only[iz,aW]at hr;subst hr;simp at this;simp;omega
  cases ys.toArray[((i:Nat):Int).toNat]? <;>
  ·wp_walk using bA hl,bA vP
   rw[Al]at h;exact h
 |succ k ih=>
  intro i hk lp mp ha hb hr Sz VQ A R s hl vP h;obtain⟨hp,g,d,tk,os⟩:=s;have jQ:i<xs.length:=by omega
  have hd:=bq jQ;have h1:xs.toArray[((i:Nat):Int).toNat]? =some xs[i]:=by rw[bu,cF];exact aP jQ
  generalize xs[i]=x at hd h1;rw[hd]at ha
  wp_walk using bA hl,bA vP
  rw[h1];cases lp with
  |nil=>rw[iL]at ha;cases ha
  |cons p lp=>
   rw[iL]at ha;obtain⟨_,_,q,qQ,PJ⟩:=ha;obtain⟨rfl,rfl⟩:=gE q;by_cases BR:i<ys.length
   ·have BG:=bq BR;have h2:ys.toArray[((i:Nat):Int).toNat]? =some ys[i]:=by rw[bu,cF];exact aP BR
    generalize ys[i]=y at BG h2;rw[BG]at hb;rw[h2];cases mp with
    |nil=>rw[iL]at hb;cases hb
    |cons p' mp=>
     rw[iL]at hb;obtain⟨_,_,q,GU,Qj⟩:=hb;obtain⟨rfl,rfl⟩:=gE q;unfold iz at hr;have hc:((i:Int)+1)=((i+1:Nat):Int):=rfl;cases he:jY p p' with
     |none=>rw[vL,he]at hr;cases hr
     |some e=>
      rw[vL,he]at hr;refine ai (rB he qQ GU ?_);cases e with
      |true=>
       wp_walk
       rw[hc];exact⟨bD cP _,bx fL (by
        rw[aZ cP _];exact ih (i+1) (by omega) lp mp PJ Qj hr (by omega) (by omega) A R _ hl vP h)⟩
      |false=>
       wp_walk using bA hl,bA vP
       rw[h1,h2];dsimp only;refine ai (A3 hr qQ GU ?_);exact aj h
   ·have h2:ys.toArray[((i:Nat):Int).toNat]? =none:=by rw[bu,cF];exact dI (by omega)
    have BG:ys.drop i=[]:=List.drop_eq_nil_of_le (by omega);rw[BG]at hb;rw[h2];have VE:mp=[]:=by
     cases mp with
     |nil=>rfl
     |cons _ _=>rw[iL]at hb;obtain⟨_,_,q,_⟩:=hb;cases q
    subst VE;simp only[iz,aW]at hr;subst hr
    wp_walk using bA hl,bA vP
    have Al:decide (ys.length<xs.length)=true:=by simp;omega
    rw[<-Al]at h;exact h
def Bm{lp mp:List PV}{xs ys:List Value}{a b:Addr}{n n2:Nat}{r:Bool}{h0:Heap}{A:Around}{R:Result->Shared->Prop}{s:Shared}(hr:iz mp lp=some r)(xa:iL C σ h0 lp xs)(xb:iL C σ h0 mp ys)
  (hl:s.heap.get? a=some {cls:=.type "list",dict:=none,data:=.seq xs.toArray n,slots:= #[]}) (hb:s.heap.get? b=some {cls:=.type "list",dict:=none,data:=.seq ys.toArray n2,slots:= #[]})
  (h:R (.ok (.ret (.bool r))) s):
  wpAny C.M A.in1 (Builtin.«list.__gt__» ⟨[.ref a,.ref b],[]⟩)
    (fun fin s'=>match fin with| .done f=>R (.ok f) s'| .again c'=>c'.quiet=true/\codeAny C.M A c' R s') (fun e s'=>R (.error e) s') s:=by
 obtain⟨hp,g,d,tk,os⟩:=s;have f3:=AutoSeq1.sub_list_list
 wp_walk using bA hl,bA hb
 exact⟨bD cP _,bx fL (by
  rw[aZ cP _];exact NP a b xs ys n n2 r h0 _ 0 rfl lp mp (by simpa using xa) (by simpa using xb) hr (by omega) (by omega) A R _ hl hb h)⟩
end
end
section
open PySem PyProof.Rows
section
variable{C:Cx}{sc:Scope}{env:Env}{σ σ':List Addr}{s s' s₁:Shared}{ρ:ie}{st gV:St}{A:Around}{n:Nat}{Q:aa}{E:aa}
def zX{a b:PV}{va vb:Value}{r:Bool}{h:Heap}(hx:jY a b=some r)(xa:VR C σ h a va)(xb:VR C σ h b vb):SeqAt.EqAt A s va vb r:=by
 intro prog w E Q hq;cases a<;>cases b<;>simp only[jY]at hx<;>(try cases hx)
 ·obtain⟨t,rfl⟩:=ig xa;obtain⟨u,rfl⟩:=ig xb;exact(intKind prog w).eqBool (intKind_is ..) (intKind_is ..) (by rw[<-wB];exact hq)
 ·obtain⟨x,t,rfl,rfl,_⟩:=gW xa;obtain⟨y,u,rfl,rfl,_⟩:=gW xb;exact(strKind prog w).eqBool (eY ..) (eY ..) (by rw[<-wB,<-toList_beq];exact hq)
def B7:∀{l m:List PV}{rs:List Bool},qT l m=some rs->l.length=m.length->rs.length=l.length/\∀(j:Nat) p q,l[j]? =some p->m[j]? =some q->jY p q=some (rs.getD j true)
 |[],[],rs,h,_=>by simp only[qT,aW]at h;subst h;simp
 |[],_::_,_,_,hl=>by simp at hl
 |_::_,[],_,_,hl=>by simp at hl
 |a::l,b::m,rs,h,hl=>by
  unfold qT at h;split at h
  ·rename_i r rs' he hz;cases h;obtain⟨h1,h2⟩:=B7 hz (by simpa using hl);refine⟨by simp[h1],fun j p q hp hq=> ?_⟩;cases j with
   |zero=>simp only[cO,aW]at hp hq;subst hp hq;exact he
   |succ j=>simpa using h2 j p q (by simpa using hp) (by simpa using hq)
  ·cases h
def rE(rs:List Bool):(List.range rs.length).all (fun j=>rs.getD j true)=rs.all id:=by
 rw[Bool.eq_iff_iff,b9,b9];constructor
 ·intro h x hx;obtain⟨i,hi,rfl⟩:=List.getElem_of_mem hx;have:=h i (bK.mpr hi);simpa[hi]using this
 ·intro h i hi;have hi':=bK.mp hi;have:=h rs[i] (gu hi');simpa[hi']using this
def zB{p:PV}{l:List PV}{v:Value}(K:Ok C σ s st)(hc:seen st p=some (.list l))(x:VR C σ s.heap p v):∃a o vs,v= .ref a/\s.heap.get? a=some o/\ki "list" o vs/\iL C σ s.heap l vs:=by
 cases p<;>simp only[seen,aW,PV.list.injEq,reduceCtorEq]at hc
 ·subst hc;exact i7 K rfl x (.inr ⟨_,rfl⟩)
 ·rename_i k;refine i7 (p:=.lst k) K ?_ x (.inl ⟨_,rfl⟩);unfold gM;dsimp only;split at hc
  ·cases hc;rfl
  ·cases hc
def rV{p q:PV}(hc:seen st p=some q)(hq:(∃i,q= .int i)\/∃i,q= .str i):p=q:=by
 cases p<;>simp only[seen,aW]at hc<;>first|exact hc|skip
 split at hc
 ·cases hc;rcases hq with⟨_,h⟩|⟨_,h⟩<;>cases h
 ·cases hc
def Gz{a b:PV}{va vb:Value}{r:Bool}{h:Heap}(hx:jY a b=some r)(xa:VR C σ h a va)(xb:VR C σ h b vb)(hq:Q (.bool r) s):wpAny C.M A (compareOp .Eq va vb) Q E s:=by
 cases a<;>cases b<;>simp only[jY]at hx<;>(try cases hx)
 ·obtain⟨t,rfl⟩:=ig xa;obtain⟨u,rfl⟩:=ig xb;exact PyProof.Rows.eq_int hq
 ·obtain⟨x,t,rfl,rfl,_⟩:=gW xa;obtain⟨y,u,rfl,rfl,_⟩:=gW xb;rw[toList_beq]at hq;exact PyProof.Rows.eq_str hq
def NF{a b:PV}{va vb:Value}{r:Bool}{h:Heap}(hx:jY a b=some r)(xa:VR C σ h a va)(xb:VR C σ h b vb)(hq:Q (.bool !r) s):wpAny C.M A (compareOp .NotEq va vb) Q E s:=by
 cases a<;>cases b<;>simp only[jY]at hx<;>(try cases hx)
 ·obtain⟨t,rfl⟩:=ig xa;obtain⟨u,rfl⟩:=ig xb;exact PyProof.Rows.ne_int hq
 ·obtain⟨x,t,rfl,rfl,_⟩:=gW xa;obtain⟨y,u,rfl,rfl,_⟩:=gW xb;rw[toList_beq]at hq;exact PyProof.Rows.ne_str hq
def Rp{x y:PV}{va vb:Value}{r:Bool}(hk:i9 A n)(K:Ok C σ s st)(hx:iN st .Eq x y=some r)(xa:VR C σ s.heap x va)(xb:VR C σ s.heap y vb)(hq:Q (.bool r) s):wpAny C.M A (compareOp .Eq va vb) Q E s:=by
 unfold iN at hx;dsimp only at hx;split at hx
 ·rename_i a b ha hb;unfold Jg at hx;split at hx
  ·rename_i i j;have:=rV ha (.inl ⟨_,rfl⟩);subst this;have:=rV hb (.inl ⟨_,rfl⟩);subst this;exact Gz (a:=.int i) (b:=.int j) hx xa xb hq
  ·have:=rV ha (.inr ⟨_,rfl⟩);subst this;have:=rV hb (.inr ⟨_,rfl⟩);subst this;rename_i i j;exact Gz (a:=.str i) (b:=.str j) hx xa xb hq
  ·rename_i l m;split at hx
   ·rename_i hl;obtain⟨rs,hz,rfl⟩:=aq.mp hx;obtain⟨l1,o1,xs,rfl,E6,YY,r1⟩:=zB K ha xa;obtain⟨l2,o2,ys,rfl,v7,YX,r2⟩:=zB K hb xb;obtain⟨iK,ON⟩:=B7 hz (by simpa using hl);have e1:=r1.length;have e2:=r2.length;have vd:l.length=m.length:=by simpa using hl
    refine SeqAt.eq_listAt (e:=fun j=>rs.getD j true) (YY.isList E6) (YX.isList v7) (by simp[e1,e2,vd]) (by have:=hk.u;omega) (fun j h1 h2=> ?_) ?_
    ·obtain⟨p,hp,vp⟩:=r1.at (i:=j) (v:=xs[j]'(by simpa using h1)) (aP _);obtain⟨q,Zx,vq⟩:=r2.at (i:=j) (v:=ys[j]'(by simpa using h2)) (aP _);simpa using zX (ON j p q hp Zx) vp vq
    ·have:xs.toArray.size=rs.length:=by simp[e1,iK]
     rw[this,rE];exact hq
   ·cases hx
  ·cases hx
 ·cases hx
def uO:∀{l:List PV}{ps:List (ah)},jI l=some ps->l=ps.map .str
 |[],ps,h=>by simp only[jI,aW]at h;subst h;rfl
 |a::l,ps,h=>by
  cases a<;>simp only[jI]at h<;>(try cases h);obtain⟨qs,hq,rfl⟩:=aq.mp h;rw[uO hq];rfl
def zk:∀{l:List PV}{ps:List Int},mD l=some ps->l=ps.map .int
 |[],ps,h=>by simp only[mD,aW]at h;subst h;rfl
 |a::l,ps,h=>by
  cases a<;>simp only[mD]at h<;>(try cases h);obtain⟨qs,hq,rfl⟩:=aq.mp h;rw[zk hq];rfl
def xH:∀{l:List PV}{ps:List Bool},kR l=some ps->l=ps.map .bool
 |[],ps,h=>by simp only[kR,aW]at h;subst h;rfl
 |a::l,ps,h=>by
  cases a<;>simp only[kR]at h<;>(try cases h);obtain⟨qs,hq,rfl⟩:=aq.mp h;rw[xH hq];rfl
def Gp{a:ah}{ps:List (ah)}{l:Addr}{o:Obj}{vs:List Value}{va:Value}(ho:s.heap.get? l=some o)(so:ki "list" o vs)(r:iL C σ s.heap (ps.map .str) vs)
  (xa:VR C σ s.heap (.str a) va) (hq:Q (.bool (ps.contains a)) s):wpAny C.M A (compareOp .In va (.ref l)) Q E s:=by
 obtain⟨x,t,rfl,rfl,_⟩:=gW xa;refine SeqAt.in_listAt (fun y=>match y with| .str z _=>z.cps.toList==x.cps.toList|_=>false) (so.isList ho) (fun y hy=> ?_) ?_
 ·rw[List.mem_toArray]at hy;obtain⟨i,hi⟩:=fj.mp hy;obtain⟨p,hp,vp⟩:=r.at hi;rw[br]at hp;obtain⟨q,_,rfl⟩:=aq.mp hp;obtain⟨z,u,rfl,rfl,_⟩:=gW vp;exact zX (a:=.str z.cps.toList) (b:=.str x.cps.toList) rfl vp xa
 ·have key:∀{ps:List (ah)}{vs:List Value},iL C σ s.heap (ps.map .str) vs->vs.any (fun y=>match y with| .str z _=>z.cps.toList==x.cps.toList|_=>false)=ps.contains x.cps.toList:=by
   intro ps
   induction ps with
   |nil=>intro vs r;rw[eL,iL]at r;subst r;rfl
   |cons p ps ih=>
    intro vs r;rw[aL,iL]at r;obtain⟨v,r',rfl,h1,h2⟩:=r;obtain⟨z,u,rfl,rfl,_⟩:=gW h1;rw[List.any_cons,ih h2,List.contains_cons];congr 1;exact Bool.beq_comm
  rw[List.any_toArray,key r];exact hq
def Oj{op:CmpOp}{x y:PV}{va vb:Value}{r:Bool}(hk:i9 A n)(K:Ok C σ s st)(hx:iN st op x y=some r)(xa:VR C σ s.heap x va)(xb:VR C σ s.heap y vb)
  (nO:∀c l,x= .str [c]->y= .cset l->op= .In->wpAny C.M A (compareOp .In va vb) Q E s)
  (h:∀s',iO g_ σ s σ s'->Ok C σ s' st->Q (.bool r) s'):wpAny C.M A (compareOp op va vb) Q E s:=by
 have hq:Q (.bool r) s:=h s iO.rfl' K;cases op with
 |Eq=>exact Rp hk K hx xa xb hq
 |NotEq=>
  unfold iN at hx;obtain⟨b,hb,rfl⟩:=aq.mp hx;exact NF hb xa xb hq
 |Lt=>
  unfold iN at hx;dsimp only at hx;split at hx
  ·exact Qx (h:=s.heap) hk hx xa xb hq
  ·exact tY hx xa xb hq
 |Gt=>
  unfold iN at hx;dsimp only at hx;split at hx<;>cases hx;obtain⟨t,rfl⟩:=ig xa;obtain⟨u,rfl⟩:=ig xb;exact PyProof.Rows.gt_int hq
 |LtE=>
  unfold iN at hx;dsimp only at hx;split at hx<;>cases hx;obtain⟨t,rfl⟩:=ig xa;obtain⟨u,rfl⟩:=ig xb;exact PyProof.Rows.le_int hq
 |GtE=>
  unfold iN at hx;dsimp only at hx;split at hx<;>cases hx;obtain⟨t,rfl⟩:=ig xa;obtain⟨u,rfl⟩:=ig xb;exact PyProof.Rows.ge_int hq
 |In=>
  unfold iN at hx;dsimp only at hx;split at hx
  ·exact nO _ _ rfl rfl rfl
  ·split at hx
   ·rename_i l hl;obtain⟨ps,hp,rfl⟩:=aq.mp hx;have e:=uO hp;obtain⟨b,o,vs,rfl,ho,so,rr⟩:=i7 K hl xb (.inl ⟨_,rfl⟩);subst e;exact Gp ho so rr xa hq
   ·cases hx
  ·obtain⟨ps,hp,rfl⟩:=aq.mp hx;have e:=uO hp;obtain⟨b,o,vs,rfl,_,ho,so,rr⟩:=jL xb;subst e;exact Gp ho so rr xa hq
  ·cases hx
 |Is|IsNot|NotIn=>unfold iN at hx;cases hx
def mQ{k:Nat}(h:k<=sizeLine):(k:Int)<2^63:=by rw[dY]at h;omega
def qD{p:PV}{l:List PV}{v:Value}(K:Ok C σ s st)(hc:gM st p=some l)(x:VR C σ s.heap p v)(hp:∀a b,p≠ .rng a b):
  ∃a o vs T,(T="list"\/T="tuple")/\v= .ref a/\s.heap.get? a=some o/\ki T o vs/\iL C σ s.heap l vs/\vs.length<=sizeLine:=by
 cases p<;>first|(simp only[gM,reduceCtorEq]at hc;done)|skip
 ·unfold gM at hc;cases hc;obtain⟨a,o,vs,rfl,_,ho,so,r⟩:=kM x;obtain⟨_,_,hl⟩:=id so;exact⟨a,o,vs,"tuple",.inr rfl,rfl,ho,so,r,hl⟩
 ·obtain⟨a,o,vs,rfl,ho,so,r⟩:=i7 K hc x (.inr ⟨_,rfl⟩);obtain⟨_,_,hl⟩:=id so;exact⟨a,o,vs,"list",.inl rfl,rfl,ho,so,r,hl⟩
 ·obtain⟨a,o,vs,rfl,ho,so,r⟩:=i7 K hc x (.inl ⟨_,rfl⟩);obtain⟨_,_,hl⟩:=id so;exact⟨a,o,vs,"list",.inl rfl,rfl,ho,so,r,hl⟩
 ·exact absurd rfl (hp _ _)
def ki.isTup{o:Obj}{vs:List Value}{h:Heap}{a:Addr}(so:ki "tuple" o vs)(ho:h.get? a=some o):IsTup h a vs.toArray:=by
 obtain⟨n,rfl,_⟩:=so;exact⟨_,ho,rfl,n,rfl⟩
def rA{α β:Type}{l:List α}{m:List β}(h:m.length=l.length):(!m.toArray.isEmpty)=(!l.isEmpty):=by
 cases l<;>cases m<;>simp_all
def oE{p:PV}{v:Value}{b:Bool}{Q:Bool->Shared->Prop}(K:Ok C σ s st)(hx:iT st p=some b)(x:VR C σ s.heap p v)
  (h:∀s',iG s s'->Q b s'):wpAny C.M A (truthy v) Q E s:=by
 cases p<;>first|(simp only[iT,reduceCtorEq]at hx;done)|skip
 ·simp only[iT,aW]at hx;subst hx;have:=vm x;subst this;exact dO (h _ iG.rfl')
 ·simp only[iT,aW]at hx;subst hx;obtain⟨t,rfl⟩:=ig x;exact PyProof.Rows.truthy_int (h _ iG.rfl')
 ·simp only[iT,aW]at hx;subst hx;obtain⟨y,t,rfl,rfl,hl⟩:=gW x;refine PySem.P.truthy_str (by have:=mQ hl;omega) ?_;have e:((y.length:Int) !=0)= !y.cps.toList.isEmpty:=by
   have:y.length=y.cps.toList.length:=by simp[Str.length]
   rw[this];cases y.cps.toList<;>simp[bne];omega
  rw[e];exact h _ (iG.toks s _)
 ·simp only[iT,aW]at hx;subst hx;obtain⟨a,o,vs,rfl,_,ho,so,r⟩:=kM x;have hl:vs.length<=sizeLine:=by obtain⟨_,_,hl⟩:=so;exact hl
  refine PyProof.Rows.truthy_tuple (so.isTup ho) (by simpa using mQ hl) ?_;rw[rA r.length];exact h _ (iG.toks s _)
 ·simp only[iT,aW]at hx;subst hx;obtain⟨a,o,vs,rfl,_,ho,so,r⟩:=jL x;have hl:vs.length<=sizeLine:=by obtain⟨_,_,hl⟩:=so;exact hl
  refine wpAny_truthy_list (so.isList ho) (by simpa using mQ hl) ?_;rw[rA r.length];exact h _ (iG.toks s _)
 ·unfold iT at hx;dsimp only at hx;split at hx
  ·rename_i l vd;cases hx;obtain⟨a,o,vs,rfl,ho,so,r⟩:=i7 K (by unfold gM;dsimp only;rw[vd]) x (.inl ⟨_,rfl⟩);have hl:vs.length<=sizeLine:=by obtain⟨_,_,hl⟩:=so;exact hl
   refine wpAny_truthy_list (so.isList ho) (by simpa using mQ hl) ?_;rw[rA r.length];exact h _ (iG.toks s _)
  ·cases hx
def Ok.growH(K:Ok C σ s st)(g:iG s s'):iO g_ σ s σ s'/\Ok C σ s' st:=⟨g.ext,K.grow g⟩
def xy{α:Type}{l:List α}{i:Int}{x:α}(h:idx l i=some x):∃j,seqIndex? i l.length=some j/\l[j]? =some x/\(0<=i->j=i.toNat)/\i<l.length/\ -(l.length:Int)<=i:=by
 unfold idx at h;unfold seqIndex?;split at h
 ·rename_i h0;have jQ:=(aF.mp h).1;refine⟨i.toNat,?_,h,fun _=>rfl,by omega,by omega⟩;have e:(if i<0 then i+(l.length:Int)else i)=i:=aD (by omega);simp only[e];rw[aQ (by rw[aA,aJ,aJ];omega)]
 ·split at h
  ·rename_i h0 h1;have jQ:=(aF.mp h).1;refine⟨(i+l.length).toNat,?_,h,fun q=>by omega,by omega,by omega⟩;have e:(if i<0 then i+(l.length:Int)else i)=i+l.length:=aQ (by omega);simp only[e];rw[aQ (by rw[aA,aJ,aJ];omega)]
  ·cases h
def De{p:PV}{l:List PV}{i:Int}{u:Tok}{v:Value}{q:PV}(K:Ok C σ s st)(hc:gM st p=some l)(hp:∀a b,p≠ .rng a b)(hi:idx l i=some q)(x:VR C σ s.heap p v)
  (h:∀val,VR C σ s.heap q val->Q val s):∃a T id,v= .ref a/\s.TypeIs v T/\typeLookup (.type T) "__getitem__"=pure (some (.builtin id))/\wpAny C.M A (getItem v (.int i u)) Q E s:=by
 obtain⟨j,hj,hq,Sx,jQ,ZR⟩:=xy hi;obtain⟨a,o,vs,T,hT,rfl,ho,so,r,hl⟩:=qD K hc x hp;obtain⟨w',hw,vw⟩:=r.get hq;have iK:=r.length;rcases hT with rfl|rfl
 ·refine⟨a,"list",_,rfl,?_,list_getitem_lookup,?_⟩
  ·obtain⟨_,rfl,_⟩:=so;exact⟨_,ho,rfl⟩
  ·by_cases h0:0<=i
   ·have e:=Sx h0;subst e;exact wpAny_getItem_list (so.isList ho) h0 (by have:=mQ hl;omega) (by simpa using hw) (h _ vw)
   ·have U0:(i+l.length).toNat=j:=by
     unfold seqIndex? at hj;have e:(if i<0 then i+(l.length:Int)else i)=i+l.length:=aQ (by omega);simp only[e]at hj;split at hj
     ·exact bX hj
     ·cases hj
    refine wpAny_getItem_list_neg (so.isList ho) (by omega) (by simp[iK];omega) (by have:=mQ hl;omega) (x:=w') ?_ (h _ vw);have:(i+(vs.toArray.size:Int)).toNat=j:=by rw[<-U0];simp[iK]
    rw[this];simpa using hw
 ·refine⟨a,"tuple",_,rfl,?_,slot_tuple_getitem.lookup,?_⟩
  ·obtain⟨_,rfl,_⟩:=so;exact⟨_,ho,rfl⟩
  ·exact PyProof.Rows.getItem_tuple (so.isTup ho) (by have:=mQ hl;omega) (by have:=mQ hl;omega) (by simpa[iK]using hj) (by simpa using hw) (h _ vw)
def yt{l:List PV}{p:PV}{i:Int}{v:PV}(h:gZ st p (.int i)=some v)(hs:∀t,p≠ .str t):∃l,gM st p=some l/\idx l i=some v/\∀a b,p≠ .rng a b:=by
 cases p<;>simp only[gZ,reduceCtorEq]at h<;>(try cases h)<;>(try exact absurd rfl (hs _))
 all_goals
  split at h
  ·rename_i l hl;exact⟨l,hl,h,fun _ _ q=>by cases q⟩
  ·cases h
def QB{x:Str}{i:Int}{c:Nat}(h:idx x.cps.toList i=some c):(seqIndex? i x.length).bind (x.cps[·]?)=some c:=by
 obtain⟨j,hj,hc,_⟩:=xy h;have:x.cps.toList.length=x.length:=by simp[Str.length]
 rw[this]at hj;rw[hj];simpa using hc
def LH{value slice:Expr}{p:PV}{i:Int}{u:Tok}{v:Value}{q:PV}(K:Ok C σ s st)(hx:gZ st p (.int i)=some q)(x:VR C σ s.heap p v)
  (hs:∀o,subscripted slice false o (.int i u)=operate [o,.int i u] (getItem o (.int i u)))
  (h:∀val σ' s',iO g_ σ s σ' s'->Ok C σ' s' st->VR C σ' s'.heap q val->Q val s'):wpAny C.M A (subscriptTail value slice v (.int i u)) Q E s:=by
 by_cases kD:∃t,p= .str t
 ·obtain⟨t,rfl⟩:=kD;obtain⟨y,tk,rfl,rfl,hl⟩:=gW x;simp only[gZ]at hx;obtain⟨c,hc,rfl⟩:=aq.mp hx;obtain⟨j,hj,_,_,jQ,ZR⟩:=xy hc;have e:y.cps.toList.length=y.length:=by simp[Str.length]
  have h63:=mQ hl;refine tail_any (cW s y tk) PySem.F.slot_str_getitem.lookup (PyProof.Rows.getItem_str (by simp;omega) (QB hc) ?_) (hs _);exact ic K (iG.toks s _) (pA rfl (by show 1<=sizeLine;decide)) h
 ·obtain⟨l,hc,hi,hp⟩:=yt (l:=[]) hx (fun t e=>kD ⟨t,e⟩);obtain⟨a,T,id,rfl,hT,hl,hw⟩:=De (A:=A) (E:=E) (u:=u) K hc hp hi x (fun val vr=>h val σ s iO.rfl' K vr);exact tail_any hT hl hw (hs _)
def yg{k:Nat}{i:Int}{a:Nat}(h:nG k i=some a):clipAt k i=a:=by
 unfold nG at h;split at h
 ·rename_i h0;cases h;have:i=(i.toNat:Int):=by omega
  rw[this,clipAt_nat,bu]
 ·cases h
def zz{α:Type}{l:List α}{lo hi:Option Int}{r:List α}(h:kg l lo hi=some r):r=(l.drop (lo.elim 0 (clipAt l.length))).take (hi.elim l.length (clipAt l.length)-lo.elim 0 (clipAt l.length)):=by
 unfold kg at h;split at h
 ·rename_i a b ha hb;cases h;have e1:lo.elim 0 (clipAt l.length)=a:=by
   cases lo with
   |none=>simpa using ha
   |some i=>exact yg (by simpa using ha)
  have e2:hi.elim l.length (clipAt l.length)=b:=by
   cases hi with
   |none=>simpa using hb
   |some i=>exact yg (by simpa using hb)
  rw[e1,e2]
 ·cases h
inductive ow:Option Int->Value->Prop
 |nil:ow none .none
 |one (i:Int) (t:Tok):ow (some i) (.int i t)
def ow.isPart{o:Option Int}{v:Value}(h:ow o v):IsPart v o:=by cases h<;>constructor
def ow.tok{o:Option Int}{v:Value}(h:ow o v):∃p:Option (Int×Tok),v=partValue p/\p.map (·.1)=o:=by
 cases h with
 |nil=>exact⟨none,rfl,rfl⟩
 |one i t=>exact⟨some (i,t),rfl,rfl⟩
def se(lo hi:Option Int)(n:Nat):Builtin.Str.strSliceIndices lo hi 1 n=(List.range (hi.elim n (clipAt n)-lo.elim 0 (clipAt n))).map (lo.elim 0 (clipAt n)+ ·):=by
 have e:Builtin.Str.strSliceIndices lo hi 1 n=sliceRange (lo.elim 0 (clipAt n):Nat) (hi.elim n (clipAt n):Nat) 1:=by
  cases lo<;>cases hi<;>simp[Builtin.Str.strSliceIndices,clipAt_cast]
 rw[e,sliceRange_one]
def rt(x:Str)(lo hi:Option Int):(Builtin.Str.strSliceIndices lo hi 1 x.length).filterMap (x.cps[·]?)=(x.cps.toList.drop (lo.elim 0 (clipAt x.length))).take (hi.elim x.length (clipAt x.length)-lo.elim 0 (clipAt x.length)):=by
 rw[se,pick_run]
def IA(n:Nat)(i:Int):clipAt n i<=n:=by unfold clipAt;omega
def yM{a:ah}{lo hi:Option Int}{r:ah}{v vl vu:Value}{sl:Addr}(K:Ok C σ s st)(hx:kg a lo hi=some r)(x:VR C σ s.heap (.str a) v)(pl:ow lo vl)(pu:ow hi vu)
  (hs:s.heap.get? sl=some {cls:=.type "slice",data:=.fields #[vl,vu,.none]})
  (h:∀val σ' s',iO g_ σ s σ' s'->Ok C σ' s' st->VR C σ' s'.heap (.str r) val->Q val s'):wpAny C.M A (getItem v (.ref sl)) Q E s:=by
 obtain⟨y,t,rfl,rfl,hl⟩:=gW x;obtain⟨p1,rfl,e1⟩:=pl.tok;obtain⟨p2,rfl,e2⟩:=pu.tok;refine wpAny_getItem_str_slice (l:=p1) (u:=p2) (st:=none) ⟨_,hs,rfl,rfl⟩ rfl ?_;have e:y.cps.toList.length=y.length:=by simp[Str.length]
 have hr:=zz hx;rw[e]at hr;subst e1 e2;unfold sliceMade slicePicked;simp only[eF,eS];generalize p1.map (·.1)=lo at*;generalize p2.map (·.1)=hi at*;have hb:hi.elim y.length (clipAt y.length)<=y.length:=by
  cases hi with
  |none=>exact aV _
  |some i=>exact IA _ _
 have UX:r.length<=y.length:=by rw[hr,bI,bH,e];omega
 refine post_val_or_str ⟨?_,fun t' k=>ic K (iG.toks s _) (pA ?_ ?_) h⟩
 ·split
  ·exact hl
  ·show(List.toArray _).size<=_;rw[cK,rt,<-hr];exact dB UX hl
 ·split
  ·rename_i q;simp only[bJ,gF,aR]at q;rw[se,aH,di]at q;rw[hr];by_cases h0:y.length=0
   ·have:y.cps.toList=[]:=cQ.mp (by omega);rw[this];simp
   ·have hd:lo.elim 0 (clipAt y.length)=0:=by omega
    rw[hd,List.drop_zero];exact(bT (by omega)).symm
  ·show(List.toArray _).toList=r;rw[rt,hr]
 ·split
  ·exact hl
  ·show(List.toArray _).size<=_;rw[cK,rt,<-hr];exact dB UX hl
def iL.places{l:List PV}{vs:List Value}{h:Heap}(x:iL C σ h l vs):∀js:ah,iL C σ h (js.filterMap (l[·]?)) (js.filterMap (vs[·]?))
 |[]=>iL.nil
 |j::js=>by
  have ih:=iL.places x js;rw[eK,eK];cases e:l[j]? with
  |none=>
   have:vs[j]? =none:=by
    rw[List.getElem?_eq_none_iff]at e|-;rw[x.length];exact e
   rw[this];exact ih
  |some p=>
   obtain⟨v,hv,r⟩:=x.get e;rw[hv];exact iL.cons r ih
def yl{α:Type}(l:List α):(List.range l.length).reverse.filterMap (l[·]?)=l.reverse:=by
 rw[List.filterMap_reverse,List.filterMap_getElem?_range_length]
def vW(n:Nat):sliceRange ((n:Int)-1) (-1) (-1)=(List.range n).reverse:=by
 unfold sliceRange;rw[aD (by omega)];by_cases h:n=0
 ·subst h;rfl
 ·rw[aQ (by omega)];have e:((n:Int)-1- -1- -1-1) / (- -1)=n:=by
   rw[show(- -1:Int)=1 by rfl,Int.ediv_one];omega
  show List.map _ (List.range (((n:Int)-1- -1- -1-1) / (- -1)).toNat)=_;rw[e,bu];apply List.ext_getElem
  ·simp
  ·intro i h1 h2;simp at h1 h2|-;omega
def yk{p:PV}{l r:List PV}{lo hi stp:Option Int}{v vl vu vk:Value}{sl:Addr}(K:Ok C σ s st)(hc:gM st p=some l)(hp:(∃k,p= .lst k)\/∃m,p= .list m)(x:VR C σ s.heap p v)
  (pl:ow lo vl) (pu:ow hi vu) (pk:ow stp vk) (h0:stp≠some 0) (hr:∀vs:List Value,vs.length=l.length->∃js:ah,r=js.filterMap (l[·]?)/\(slicePick vs.toArray lo hi stp).toList=js.filterMap (vs[·]?))
  (hs:s.heap.get? sl=some {cls:=.type "slice",data:=.fields #[vl,vu,vk]})
  (h:∀val σ' s',iO g_ σ s σ' s'->Ok C σ' s' st->VR C σ' s'.heap (.list r) val->Q val s'):∃a,v= .ref a/\s.TypeIs v "list"/\wpAny C.M A (getItem v (.ref sl)) Q E s:=by
 obtain⟨a,o,vs,rfl,ho,so,rr⟩:=i7 K hc x hp;have hl:vs.length<=sizeLine:=by obtain⟨_,_,hl⟩:=so;exact hl
 refine⟨a,rfl,?_,?_⟩
 ·obtain⟨_,rfl,_⟩:=so;exact⟨_,ho,rfl⟩
 ·refine wpAny_getItem_list_slice (so.isList ho) ⟨_,hs,rfl,rfl⟩ pl.isPart pu.isPart pk.isPart h0 ?_ (by simpa using hl);obtain⟨js,e1,e2⟩:=hr vs rr.length;have e3:slicePick vs.toArray lo hi stp=(js.filterMap (vs[·]?)).toArray:=by rw[<-e2]
  have BF:(js.filterMap (vs[·]?)).length<=sizeLine:=by
   have:=slicePick_size_le vs.toArray lo hi stp;rw[e3,cK,cK]at this;exact dB this hl
  rw[e3];subst e1;exact ic K (iG.push s _) (uN K (rr.places js) BF) h
def xW{l r:List PV}{lo hi:Option Int}(h:kg l lo hi=some r)(vs:List Value)(e:vs.length=l.length):
  ∃js:ah,r=js.filterMap (l[·]?)/\(slicePick vs.toArray lo hi none).toList=js.filterMap (vs[·]?):=by
 refine⟨(List.range (hi.elim l.length (clipAt l.length)-lo.elim 0 (clipAt l.length))).map (lo.elim 0 (clipAt l.length)+ ·),?_,?_⟩
 ·have:=pick_run l.toArray (lo.elim 0 (clipAt l.length)) (hi.elim l.length (clipAt l.length)-lo.elim 0 (clipAt l.length));simp only[cF]at this;rw[this,zz h]
 ·have:=pick_run vs.toArray (lo.elim 0 (clipAt l.length)) (hi.elim l.length (clipAt l.length)-lo.elim 0 (clipAt l.length));simp only[cF]at this;rw[this,slicePick_plain];simp[e]
def Lk{l:List PV}(vs:List Value)(e:vs.length=l.length):
  ∃js:ah,l.reverse=js.filterMap (l[·]?)/\(slicePick vs.toArray none none (some (-1))).toList=js.filterMap (vs[·]?):=by
 refine⟨(List.range l.length).reverse,(yl l).symm,?_⟩;unfold slicePick sliceBounds;simp only[eU,show ¬ ((-1:Int)>0) by decide,a_,cK,e];rw[vW];simp
def Ll{l:List PV}{a m:Int}(ha:0<=a)(hm:0<m)(vs:List Value)(e:vs.length=l.length):
  ∃js:ah,mH m l a=js.filterMap (l[·]?)/\(slicePick vs.toArray (some a) none (some m)).toList=js.filterMap (vs[·]?):=by
 refine⟨_,rfl,?_⟩;unfold slicePick sliceBounds;have h1:m>0:=hm;have h2:¬ a<0:=by omega
 simp only[eU,h1,bY,cK,e,h2,a_];simp
def HC{value:Expr}{lo' hi' step':Option Expr}{pp:Pos}{p q:PV}{lo hi stp:Option Int}{v vl vu vk:Value}(K:Ok C σ s st)(hx:jj st p lo hi stp=some q)(x:VR C σ s.heap p v)
  (pl:ow lo vl) (pu:ow hi vu) (pk:ow stp vk) (YJ:step'=none↔stp=none)
  (h:∀val σ' s',iO g_ σ s σ' s'->Ok C σ' s' st->VR C σ' s'.heap q val->Q val s'):
  wpAny C.M A (subscriptTail value (.Slice lo' hi' step' pp) v (.ref s.heap.objs.size)) Q E {s with heap:=s.heap.push {cls:=.type "slice",data:=.fields #[vl,vu,vk]}}:=by
 have hs:({s with heap:=s.heap.push {cls:=.type "slice",data:=.fields #[vl,vu,vk]}}:Shared).heap.get? s.heap.objs.size=some {cls:=.type "slice",data:=.fields #[vl,vu,vk]}:=Lh s rfl;have g:=iG.push s {cls:=.type "slice",data:=.fields #[vl,vu,vk]};have MM:∃ops,subscripted (.Slice lo' hi' step' pp) false v (.ref s.heap.objs.size)=operate ops (getItem v (.ref s.heap.objs.size)):=by
  cases step' with
  |none=>exact⟨_,rfl⟩
  |some _=>exact⟨_,rfl⟩
 obtain⟨ops,MM⟩:=MM;have h':∀val σ' s',iO g_ σ {s with heap:=s.heap.push {cls:=.type "slice",data:=.fields #[vl,vu,vk]}} σ' s'->Ok C σ' s' st->VR C σ' s'.heap q val->Q val s':=
  fun val σ' s' X K' V=>h val σ' s' (g.ext.trans X) K' V
 have lst:∀{l r:List PV},gM st p=some l->((∃k,p= .lst k)\/∃m,p= .list m)->stp≠some 0->q= .list r->
   (∀vs:List Value,vs.length=l.length->∃js:ah,r=js.filterMap (l[·]?)/\(slicePick vs.toArray lo hi stp).toList=js.filterMap (vs[·]?))->
   wpAny C.M A (subscriptTail value (.Slice lo' hi' step' pp) v (.ref s.heap.objs.size)) Q E {s with heap:=s.heap.push {cls:=.type "slice",data:=.fields #[vl,vu,vk]}}:=by
  intro l r hc hp h0 hq hr;subst hq;obtain⟨a,rfl,hT,hw⟩:=yk (A:=A) (E:=E) (K.grow g) hc hp (x.grow g) pl pu pk h0 hr hs h';exact tail_any hT list_getitem_lookup hw MM
 unfold jj at hx;split at hx
 ·cases pk;split at hx
  ·obtain⟨r,hr,rfl⟩:=aq.mp hx;obtain⟨y,t,rfl,_,_⟩:=gW x;exact tail_any (cW _ y t) PySem.F.slot_str_getitem.lookup (yM (K.grow g) hr (x.grow g) pl pu hs h') MM
  ·obtain⟨r,hr,rfl⟩:=aq.mp hx;exact lst (l:=_) rfl (.inr ⟨_,rfl⟩) (by simp) rfl (xW hr)
  ·split at hx
   ·rename_i l hl;obtain⟨r,hr,rfl⟩:=aq.mp hx;exact lst hl (.inl ⟨_,rfl⟩) (by simp) rfl (xW hr)
   ·cases hx
  ·cases hx
 ·rename_i m;split at hx
  ·cases hx
  ·cases hx
  ·rename_i Ss VD;split at hx
   ·rename_i l hl;have hp:(∃k,p= .lst k)\/∃m,p= .list m:=by
     cases p<;>first|exact .inl ⟨_,rfl⟩|exact .inr ⟨_,rfl⟩|(simp only[gM,reduceCtorEq]at hl;done)|skip
     ·exact absurd rfl (VD _)
     ·exact absurd rfl (Ss _ _)
    split at hx
    ·split at hx
     ·rename_i q1;cases hx;have:=aR.mp q1;subst this;exact lst hl hp (by simp) rfl Lk
     ·cases hx
    ·split at hx
     ·rename_i q1;cases hx;simp only[aA,aJ]at q1;exact lst hl hp (by simp;omega) rfl (Ll q1.1.1.1 q1.1.1.2)
     ·cases hx
    ·cases hx
   ·cases hx
end
end
section
open PySem PyProof.Rows
open Builtin Builtin.Str StrLaws
def DP(c:Nat):(⟨#[c]⟩:Str).length=1:=rfl
def nB(x:Str):x.length=x.cps.toList.length:=by simp[Str.length]
def Au(x:Str)(c i:Nat):subAt x ⟨#[c]⟩ i=(x.cps.toList[i]? ==some c):=by
 have h:= @subAt_one x c i;rw[DP]at h;cases e:subAt x ⟨#[c]⟩ i with
 |true=>
  have hl:i+1<=x.length:=by
   have:=subAt_size e;rw[DP]at this;omega
  have:=h.mp ⟨hl,e⟩;simp[this]
 |false=>
  cases q:x.cps.toList[i]? ==some c with
  |false=>rfl
  |true=>
   have:=(h.mpr (aR.mp q)).2;rw[e]at this;cases this
def CW(x:Str)(c:Nat):Txt.startswith x ⟨#[c]⟩=(x.cps.toList.head?==some c):=by
 unfold Txt.startswith;rw[Au,DP,nB];cases x.cps.toList<;>simp
def Iq(x:Str)(c:Nat):Txt.endswith x ⟨#[c]⟩=(x.cps.toList.getLast?==some c):=by
 unfold Txt.endswith;rw[Au,DP,nB,List.getLast?_eq_getElem?];by_cases h:x.cps.toList.length=0
 ·have:x.cps.toList=[]:=cQ.mp h;rw[this];simp
 ·have:decide (0+1<=x.cps.toList.length)=true:=aT (by omega);rw[this];rfl
def QS(x:Str)(c:Nat):Txt.rfind x ⟨#[c]⟩=qf x.cps.toList c:=by
 unfold Txt.rfind qf;have Ea:∀i,At x ⟨#[c]⟩ x.length i↔x.cps.toList[i]? =some c:=fun i=>subAt_one x c i;rcases last_spec x ⟨#[c]⟩with⟨e,h⟩|⟨i,e,h1,h2⟩
 ·rw[e];have:x.cps.toList.reverse.findIdx? (· ==c)=none:=by
   rw[List.findIdx?_eq_none_iff];intro y hy;obtain⟨i,hi⟩:=fj.mp (fM.mp hy);cases q:y==c with
   |false=>rfl
   |true=>exact absurd ((Ea i).mpr (by rw[hi,aR.mp q])) (h i)
  rw[this]
 ·rw[e];have hi:=(Ea i).mp h1;have jQ:=(aF.mp hi).1;have:x.cps.toList.reverse.findIdx? (· ==c)=some (x.cps.toList.length-1-i):=by
   rw[dM];refine⟨by rw[cN];omega,?_,?_⟩
   ·rw[List.getElem_reverse];have e2:x.cps.toList.length-1-(x.cps.toList.length-1-i)=i:=by omega
    simp only[e2];have:=(aF.mp hi).2;simp[this]
   ·intro j hj;rw[List.getElem_reverse];intro q;have hk:i<x.cps.toList.length-1-j:=by
     have:j<x.cps.toList.length-1-i:=by assumption
     omega
    refine h2 _ hk ((Ea _).mpr ?_);rw[aP (by omega)];exact dm some (aR.mp q)
  rw[this];show(i:Int)=(x.cps.toList.length:Int)-1-((x.cps.toList.length-1-i:Nat):Int);omega
def placesOf(c:Nat)(l:ah)(i:Nat):ah:=(List.range' i (l.length-i)).filter fun j=>l[j]? ==some c
def xq(x:Str)(c limit:Nat):∀(l:ah)(acc:Array Nat)(free:Nat),(∀i∈l,free<=i)->l.Pairwise (· < ·)->acc.size+(l.filter fun j=>x.cps.toList[j]? ==some c).length<=limit->
  (forIn l (acc,free) (occBody x ⟨#[c]⟩ x.length limit)).run.fst.toList=acc.toList++l.filter fun j=>x.cps.toList[j]? ==some c
 |[],acc,free,_,_,_=>by simp
 |a::l,acc,free,hf,hp,hl=>by
  rw[b8];unfold occBody;have wF:=eZ.mp hp;have ha:=hf a (aU ..);have ZU:∀i∈l,free<=i:=fun i hi=>hf i (ay _ hi);rw[Au,DP];cases q:x.cps.toList[a]? ==some c with
  |true=>
   rw[ck (by simpa using q)]at hl|-;rw[aE]at hl;have jQ:=(aF.mp (aR.mp q)).1;rw[aQ ⟨⟨⟨by show acc.size<limit;omega,ha⟩,by rw[nB];omega⟩,rfl⟩];have:=xq x c limit l (acc.push a) (a+1) (fun i hi=>by have:=wF.1 i hi;omega) wF.2 (by rw[Array.size_push];omega);show(forIn l (acc.push a,a+1) (occBody x ⟨#[c]⟩ x.length limit)).run.fst.toList=_;rw[this];simp
  |false=>
   rw[cu (by simpa using q)]at hl|-;rw[aD (by simp)];exact xq x c limit l acc free ZU wF.2 hl
def mY(x:Str)(c lo:Nat):(List.range' lo (x.length+1-lo)).filter (fun j=>x.cps.toList[j]? ==some c)=placesOf c x.cps.toList lo:=by
 unfold placesOf;rw[nB];by_cases h:lo<=x.cps.toList.length
 ·have e:x.cps.toList.length+1-lo=(x.cps.toList.length-lo)+1:=by omega
  rw[e,List.range'_concat,e7];have:lo+1*(x.cps.toList.length-lo)=x.cps.toList.length:=by omega
  rw[this];simp
 ·have e1:x.cps.toList.length+1-lo=0:=by omega
  have e2:x.cps.toList.length-lo=0:=by omega
  rw[e1,e2]
def ry(x:Str)(c lo limit:Nat)(h:(placesOf c x.cps.toList lo).length<=limit):occurrences x ⟨#[c]⟩ lo x.length limit=placesOf c x.cps.toList lo:=by
 rw[occ_eq,xq x c limit _ #[] lo (fun i hi=>(List.mem_range'_1.mp hi).1) (List.pairwise_lt_range') (by rw[mY];simpa using h),mY];simp
def rW(c:Nat)(l:ah)(i:Nat):(placesOf c l i).length<=l.length:=by
 unfold placesOf;refine dB (fZ _ _) ?_;rw[List.length_range'];omega
def C5(c a:Nat)(l:ah)(i:Nat):placesOf c (a::l) (i+1)=(placesOf c l i).map (· +1):=by
 unfold placesOf;rw[aE];have e:l.length+1-(i+1)=l.length-i:=by omega
 rw[e];have:List.range' (i+1) (l.length-i)=(List.range' i (l.length-i)).map (· +1):=by
  rw[List.range'_eq_map_range,List.range'_eq_map_range,bw];apply dh;intro k _;simp only[Function.comp];omega
 rw[this,List.filter_map];congr 1
def vz(c a:Nat)(l:ah):placesOf c (a::l) 0=(if a==c then[0]else[])++(placesOf c l 0).map (· +1):=by
 have h1:=C5 c a l 0;unfold placesOf at h1|-;rw[aE]at h1|-;simp only[fq,bz]at h1|-;have e:List.range' 0 (l.length+1)=0::List.range' 1 l.length:=by rw[List.range'_succ]
 rw[e,List.filter_cons];have ve:List.filter (fun j=>(a::l)[j]? ==some c) (List.range' 1 l.length)=List.map (fun x=>x+1) (List.filter (fun j=>l[j]? ==some c) (List.range' 0 l.length)):=by
  have e2:l.length+1-1=l.length:=by omega
  rw[e2]at h1;exact h1
 rw[ve];simp only[cO];by_cases q:a=c
 ·subst q;simp
 ·have:(a==c)=false:=aO.mpr q;simp[this,q]
def Rq(x:Str)(c:Nat):Txt.count x ⟨#[c]⟩=(x.cps.toList.count c:Nat):=by
 unfold Txt.count;rw[ry x c 0 _ (by rw[nB];exact gg (rW ..))];congr 1
 induction x.cps.toList with
 |nil=>rfl
 |cons a l ih=>
  rw[vz,aB,aH,ih,List.count_cons];by_cases q:a=c
  ·subst q;simp;omega
  ·have:(a==c)=false:=aO.mpr q;simp[this]
def pR(l:ah):Nat->ah->List (ah)
 |a,[]=>[l.drop a]
 |a,j::r=>(l.drop a).take (j-a)::pR l (j+1) r
def rC(x:Nat)(l:ah):∀(r:ah)(a:Nat),pR (x::l) (a+1) (r.map (· +1))=pR l a r
 |[],a=>rfl
 |j::r,a=>by
  rw[aL,pR,pR,rC x l r (j+1)];have:j+1-(a+1)=j-a:=by omega
  rw[this];rfl
def uR(c:Nat):∀l:ah,pR l 0 (placesOf c l 0)=jb c l
 |[]=>rfl
 |a::l=>by
  rw[vz];have ih:=uR c l;unfold jb;by_cases q:a=c
  ·subst q;simp only[bJ,bY,f7];rw[pR,rC,ih];rfl
  ·have hq:(a==c)=false:=aO.mpr q;simp only[hq,az,a_,aS];rw[<-ih];cases placesOf c l 0 with
   |nil=>rfl
   |cons j r=>
    rw[aL,pR,pR,rC];rfl
def strKind_pos(x:Str):1<=Builtin.Str.strKind x:=by
 unfold Builtin.Str.strKind;split
 ·exact aV _
 ·split<;>omega
def CV{c:Nat}(h:c<256):Builtin.Str.strKind ⟨#[c]⟩=1:=by
 unfold Builtin.Str.strKind;rw[aQ (by simpa using h)]
def zH(x:Str):∀(cuts:ah)(a:Nat),(partsFrom x 1 a cuts).map (·.cps.toList)=pR x.cps.toList a cuts
 |[],a=>by
  unfold partsFrom pR;rw[aL,eL,strSub_toList,nB];congr 1;exact bT (by rw[bH];omega)
 |j::r,a=>by
  unfold partsFrom pR;rw[aL,strSub_toList,zH x r (j+1)]
def QK(x:Str)(c:Nat)(hc:c<256):(Txt.split x ⟨#[c]⟩).map (·.cps.toList)=jb c x.cps.toList:=by
 unfold Txt.split;rw[ry x c 0 _ (by rw[nB];exact gg (rW ..)),CV hc,DP];have hk:=strKind_pos x;have oW:decide (Builtin.Str.strKind x<1)=false:=bP (by omega);rw[oW,Bool.or_false];split
 ·rename_i h;have:x.cps.toList=[]:=cQ.mp (by rw[<-nB];simpa using h);simp[this,jb]
 ·split
  ·rename_i h;have hn:placesOf c x.cps.toList 0=[]:=List.isEmpty_iff.mp h;rw[<-uR,hn];simp[pR]
  ·rw[partsBetween_eq,zH,uR]
def O4(sep:Str):∀parts:List Str,(Str.join sep parts).cps.toList=iV sep.cps.toList (parts.map (·.cps.toList))
 |[]=>rfl
 |[x]=>rfl
 |x::y::r=>by
  have ih:=O4 sep (y::r);show((x++sep)++Str.join sep (y::r)).cps.toList=_;show((x.cps++sep.cps)++(Str.join sep (y::r)).cps).toList=_;rw[gA,gA,ih];rfl
section
variable{C:Cx}{sc:Scope}{env:Env}{σ σ':List Addr}{s s' s₁:Shared}{ρ:ie}{st gV:St}{A:Around}{n:Nat}{Q:aa}{E:aa}
def k_{e:Expr}{r:List Expr}{env:Env}(h:jx e=false):starEach (e::r) env=(false,eval e env)::starEach r env:=by
 cases e<;>first|rfl|(simp[jx]at h)
def lE{f:Expr->ie->St->Option (PV×St)}:∀{es:List Expr}{st gV:St}{vs:List PV},ja f ρ es st=some (vs,gV)->starEach es env=es.map (fun e=>(false,eval e env))
 |[],_,_,_,_=>rfl
 |e::r,st,gV,vs,h=>by
  unfold ja at h;split at h
  ·cases h
  ·rename_i hs;rw[k_ (by simpa using hs),aL];obtain⟨⟨v,s1⟩,h1,h2⟩:=ak.mp h;obtain⟨⟨us,s2⟩,h3,h4⟩:=aq.mp h2;rw[lE h3]
def uU(es:List Expr):(es.map (fun e=>(false,eval e env))).any (·.1)=false:=by
 induction es with
 |nil=>rfl
 |cons a l ih=>rw[aL,List.any_cons,ih];rfl
def oH(pos:Pos)(es:List Expr):backTo pos (es.map (fun e=>(false,eval e env)))=es.map (fun e=>(false,eval e env)):=by
 unfold backTo;rw[bw];rfl
def nA{g:Scope->Expr->ie->St->Option (PV×St)}(R:yJ C n g):∀(es:List Expr)(st gV:St)(vs:List PV)(σ:List Addr)(s:Shared)(Q:List Value->Shared->Prop),
  ja (g sc) ρ es st=some (vs,gV)->i9 A n->gP C sc env σ s.heap ρ->Ok C σ s st->
  (∀vals σ' s',iO g_ σ s σ' s'->Ok C σ' s' gV->iL C σ' s'.heap vs vals->Q vals s')->wpAny C.M A (spliced (es.map (fun e=>(false,eval e env)))) Q E s
 |[],st,gV,vs,σ,s,Q,hx,_,_,K,h=>by
  cases hx;exact gh (h _ σ s iO.rfl' K iL.nil)
 |e::r,st,gV,vs,σ,s,Q,hx,hr,F,K,h=>by
  unfold ja at hx;split at hx
  ·cases hx
  ·obtain⟨⟨v,s1⟩,h1,h2⟩:=ak.mp hx;obtain⟨⟨us,s2⟩,h3,h4⟩:=aq.mp h2;cases h4;rw[aL];refine e8 (R sc e ρ st v s1 h1 A env σ s _ E hr F K fun val jh t1 X1 K1 V1=> ?_);refine nA R r s1 _ us jh t1 _ h3 hr (F.ext X1) K1 fun vals pg t2 X2 K2 V2=> ?_;exact h _ pg t2 (X1.trans X2) K2 (iL.cons (V1.mono X2.mono) V2)
def xD{g:Scope->Expr->ie->St->Option (PV×St)}(R:yJ C n g){f:Value}{es:List Expr}{vs:List PV}{Q:Args->Shared->Prop}
  (hx:ja (g sc) ρ es st=some (vs,gV)) (hr:i9 A n) (F:gP C sc env σ s.heap ρ) (K:Ok C σ s st)
  (h:∀vals σ' s',iO g_ σ s σ' s'->Ok C σ' s' gV->iL C σ' s'.heap vs vals->Q ⟨vals,[]⟩ s'):wpAny C.M A (evalArgs f true (es.map (fun e=>(false,eval e env))) []) Q E s:=by
 cases es with
 |nil=>
  cases hx;exact PySem.evalArgs_none (h _ σ s iO.rfl' K iL.nil)
 |cons e r=>
  have:=nA (A:=A) (E:=E) (env:=env) R (e::r) st gV vs σ s (fun vs s'=>Q ⟨vs,[]⟩ s') hx hr F K h;rw[aL]at this|-;exact fu this
def IC{g:Scope->Expr->ie->St->Option (PV×St)}(R:yJ C n g){id:String}{pos:Pos}{first:List Value}{es:List Expr}{vs:List PV}
  (hx:ja (g sc) ρ es st=some (vs,gV)) (hr:i9 A n) (F:gP C sc env σ s.heap ρ) (K:Ok C σ s st)
  (h:∀vals σ' s',iO g_ σ s σ' s'->Ok C σ' s' gV->iL C σ' s'.heap vs vals->wpAny C.M A (call (.builtin id) (first++vals)) Q E s'):
  wpAny C.M A (callWith pos (.builtin id) first (backTo pos (starEach es env)) []) Q E s:=by
 rw[lE hx,oH];exact fQ (uU es) (xD R hx hr F K fun vals σ' s' X K' V=>h vals σ' s' X K' V)
def uW{α:Type}{l:List α}(h:l.Nodup){i j:Nat}(hi:i<l.length)(hj:j<l.length)(e:l[i]=l[j]):i=j:=by
 have hp:=List.pairwise_iff_getElem.mp h;rcases Nat.lt_trichotomy i j with q|q|q
 ·exact absurd e (hp i j hi hj q)
 ·exact q
 ·exact absurd e.symm (hp j i hj hi q)
def Ok.set{k:Nat}{a:Addr}{c c':jv}{h':Heap}(K:Ok C σ s st)(ha:σ[k]? =some a)(hk:st[k]? =some c)(hs:Heap.SameBut a s.heap h')(hc:wU C σ h' a c'):
  Ok C σ {s with heap:=h'} (st.set k c')/\iO g_ σ s σ {s with heap:=h'}:=by
 have hm:a∈σ:=bL ha;have X:iO g_ σ s σ {s with heap:=h'}:=⟨⟨[],by simp⟩,fun _ p q=>absurd p q,fun b o e hb _=>(hs.2 b (fun q=>hb (q▸hm))).trans e,fun _ _ q=>q.elim,rfl,rfl⟩;refine⟨⟨fun b o e=>(hs.2 b fun q=> ?_).trans (K.base b o e),K.fresh0,by rw[cB];exact K.len,K.nodup,fun j b d hb hd=> ?_⟩,X⟩
 ·have:=K.fresh0 a hm;rw[q]at e;rw[e]at this;cases this
 ·by_cases hj:j=k
  ·subst hj;rw[ha]at hb;cases hb;have jQ:=(aF.mp hk).1;rw[List.getElem?_set_self jQ]at hd;cases hd;exact hc
  ·rw[List.getElem?_set_ne (fun q=>hj q.symm)]at hd;have x:=K.cells j b d hb hd;refine x.mono X.mono (hs.2 b fun q=>hj ?_);subst q;have h1:=(aF.mp hb);have h2:=(aF.mp ha);exact(uW K.nodup h1.1 h2.1 (h1.2.trans h2.2.symm))
def Ok.setList{k:Nat}{a:Addr}{l l':List PV}{vs vs':List Value}{o:Obj}(K:Ok C σ s st)(ha:σ[k]? =some a)(hk:st[k]? =some (.lst l))(ho:s.heap.get? a=some o)(so:ki "list" o vs)
  (f:Array Value->Array Value) (hf:f vs.toArray=vs'.toArray) (V:iL C σ s.heap l' vs') (hl:vs'.length<=sizeLine):
  Ok C σ {s with heap:=s.heap.update a (Obj.mapSeq f)} (st.set k (.lst l'))/\iO g_ σ s σ {s with heap:=s.heap.update a (Obj.mapSeq f)}:=by
 have hm:a∈σ:=bL ha;have hs:=dF s.heap a (Obj.mapSeq f);have m:sL σ s.heap σ (s.heap.update a (Obj.mapSeq f)):=⟨⟨[],by simp⟩,fun _ p q=>absurd p q,fun b o e hb _=>(hs.2 b (fun q=>hb (q▸hm))).trans e⟩;obtain⟨nn,rfl,_⟩:=so;refine K.set ha hk hs ⟨_,vs',PySem.IsL.update ho f,⟨if(f vs.toArray).size==vs.toArray.size then nn else nn+1,by rw[hf],hl⟩,V.mono m⟩
end
def HV(x:Str)(c:Nat):∀(l:ah)(free:Nat),(∀i∈l,free<=i)->l.Pairwise (· < ·)->
  (forIn l ((#[]:Array Nat),free) (occBody x ⟨#[c]⟩ x.length 1)).run.fst.toList=(l.filter fun j=>x.cps.toList[j]? ==some c).take 1:=by
 have full:∀(l:ah)(acc:Array Nat)(free:Nat),1<=acc.size->(forIn l (acc,free) (occBody x ⟨#[c]⟩ x.length 1)).run.fst.toList=acc.toList:=by
  intro l
  induction l with
  |nil=>intro acc free _;simp
  |cons a l ih=>
   intro acc free hs;rw[b8];unfold occBody;rw[aD (fun q=>by have:acc.size<1:=q.1.1.1;omega)];exact ih acc free hs
 intro l
 induction l with
 |nil=>intro free _ _;simp
 |cons a l ih=>
  intro free hf hp;rw[b8];unfold occBody;have wF:=eZ.mp hp;have ha:=hf a (aU ..);rw[Au,DP];cases q:x.cps.toList[a]? ==some c with
  |true=>
   rw[ck (by simpa using q)];have jQ:=(aF.mp (aR.mp q)).1;rw[aQ ⟨⟨⟨by show 0<1;omega,ha⟩,by rw[nB];omega⟩,rfl⟩];have:=full l (#[].push a) (a+1) (by simp);show(forIn l (#[].push a,a+1) (occBody x ⟨#[c]⟩ x.length 1)).run.fst.toList=_;rw[this];simp
  |false=>
   rw[cu (by simpa using q)];rw[aD (by simp)];exact ih free (fun i hi=>hf i (ay _ hi)) wF.2
def HW(x:Str)(c lo:Nat):occurrences x ⟨#[c]⟩ lo x.length 1=(placesOf c x.cps.toList lo).take 1:=by
 rw[occ_eq,HV x c _ lo (fun i hi=>(List.mem_range'_1.mp hi).1) (List.pairwise_lt_range'),mY]
def Bp{l:ah}{c p i:Nat}(h:q8 l c p=some i):∃r,placesOf c l p=i::r:=by
 unfold q8 at h;obtain⟨j,hj,rfl⟩:=aq.mp h;rw[dM]at hj;obtain⟨jQ,hc,Jk⟩:=hj;rw[bH]at jQ;unfold placesOf;have e:l.length-p=j+(l.length-p-j):=by omega
 have e2:l.length-p-j=(l.length-p-j-1)+1:=by omega
 rw[e,<-List.range'_append,e7,Nat.one_mul];have h1:(List.range' p j).filter (fun x=>l[x]? ==some c)=[]:=by
  rw[dP];intro x hx;have I4:=List.mem_range'_1.mp hx;have:=Jk (x-p) (by omega);rw[List.getElem_drop]at this;have e3:p+(x-p)=x:=by omega
  simp only[e3]at this;rw[aP (by omega)];simpa using this
 rw[h1,e2,List.range'_succ,aS,ck]
 ·exact⟨_,rfl⟩
 ·rw[List.getElem_drop]at hc;rw[aP (by omega)];simpa using hc
def HU{x:Str}{c p i:Nat}(h:q8 x.cps.toList c p=some i):occurrences x ⟨#[c]⟩ p x.length 1=[i]:=by
 obtain⟨r,hr⟩:=Bp h;rw[HW,hr];rfl
def rK(x y:Str)(i:Int)(t u v:Tok)(k:Nat)(r:ah)(h:occurrences x y (fromIndex x.length i) x.length 1=k::r):Gives («str.index» ⟨[.str x t,.str y u,.int i v],[]⟩) (.int k):=by
 show Gives (match occurrences x y (fromIndex x.length i) (min x.length x.length) 1 with|k::_=>retInt k|[]=>(do rule "str.index.not-found";raiseError "ValueError" "substring not found")) _;rw[Nat.min_self,h];exact .of_eq rfl
def FP(x:Str)(c:Nat):(Txt.rstripChars x ⟨#[c]⟩).cps.toList=qp c x.cps.toList:=by
 unfold Txt.rstripChars Txt.stripBy stripSame stripped stripLo stripHi qp;simp only[az,a_,bY,List.drop_zero];have hc:∀l:ah,l.takeWhile (fun d=>(#[c]:Array Nat).contains d)=l.takeWhile (· ==c):=by
  intro l;congr 1;funext d;simp[Array.contains,eq_comm]
 have iK:(x.cps.toList.reverse.takeWhile (· ==c)).length+(x.cps.toList.reverse.dropWhile (· ==c)).length=x.cps.toList.length:=by
  have:=dm List.length (List.takeWhile_append_dropWhile (p:=(· ==c)) (l:=x.cps.toList.reverse));rw[aB,cN]at this;exact this
 have Td:(fun d=>(#[c]:Array Nat).contains d)=(· ==c):=by funext d;simp[Array.contains,eq_comm]
 have qG:(x.cps.toList.reverse.dropWhile (· ==c)).reverse=x.cps.toList.take (x.cps.toList.length-(x.cps.toList.reverse.takeWhile (· ==c)).length):=by
  have h2:x.cps.toList=(x.cps.toList.reverse.dropWhile (· ==c)).reverse++(x.cps.toList.reverse.takeWhile (· ==c)).reverse:=by
   rw[<-List.reverse_append,List.takeWhile_append_dropWhile,gk]
  have h3:x.cps.toList.length-(x.cps.toList.reverse.takeWhile (· ==c)).length=(x.cps.toList.reverse.dropWhile (· ==c)).reverse.length:=by
   rw[cN];omega
  rw[h3]
  conv=>rhs;rw[h2]
  simp
 split
 ·rename_i q;simp only[aA,aR,bJ,true_and]at q;have q':x.cps.toList.length-(x.cps.toList.reverse.takeWhile (· ==c)).length=x.cps.toList.length:=by
   rw[<-nB,<-Td];exact q
  rw[qG,q',d8]
 ·rw[strSub_toList,List.drop_zero,fq,qG];rw[<-nB,<-Td]
def Fl:PV->String
 | .lst _=>"list"
 | .str _=>"str"
 | .cset _=>"frozenset"
 |_=>""
section
variable{C:Cx}{sc:Scope}{env:Env}{σ σ':List Addr}{s s' s₁:Shared}{ρ:ie}{st gV:St}{A:Around}{n:Nat}{Q:aa}{E:aa}
def Bo(x:Str)(c:Nat):(partsBetween x (occurrences x ⟨#[c]⟩ 0 x.length (x.length+1)) (⟨#[c]⟩:Str).length).length<=x.length+1:=by
 rw[length_partsBetween,ry x c 0 _ (by rw[nB];exact gg (rW ..))];have:=rW c x.cps.toList 0;rw[nB];omega
def B9{h:Heap}:∀(l:List (Str×Tok)),(∀p∈l,p.1.length<=sizeLine)->iL C σ h ((l.map (·.1.cps.toList)).map .str) (strValues l)
 |[],_=>iL.nil
 |(x,t)::r,hl=>iL.cons (pA rfl (hl _ (aU ..))) (B9 r fun p hp=>hl p (ay _ hp))
def qt(c:Nat):∀(l:ah),∀p∈jb c l,p.length<=l.length
 |[],p,hp=>by simp[jb]at hp;subst hp;exact aV _
 |a::l,p,hp=>by
  unfold jb at hp;split at hp
  ·rcases aY.mp hp with rfl|h
   ·exact dH _
   ·exact gg (qt c l p h)
  ·split at hp
   ·rw[aK.mp hp];simp
   ·rename_i q qs e;rcases aY.mp hp with rfl|h
    ·have:=qt c l q (by rw[e];exact aU ..);rw[aE,aE];omega
    ·exact gg (qt c l p (by rw[e];exact ay _ h))
def yK{x:Str}{t u:Tok}{c:Nat}(hc:c<256)(K:Ok C σ s st)(hx:x.length<=sizeLine)(h1:x.length+1<=sizeLine)
  (h:∀val σ' s',iO g_ σ s σ' s'->Ok C σ' s' st->VR C σ' s'.heap (.list ((jb c x.cps.toList).map .str)) val->Q val s'):
  wpAny C.M A (call (.builtin "str.split") [.str x t,.str ⟨#[c]⟩ u]) Q E s:=by
 have hn:=Bo x c;have fin:∀(l:List (Str×Tok))(k:Nat),l.map (·.1)=Txt.split x ⟨#[c]⟩->l.length<=x.length+1->
   Q (.ref s.heap.objs.size) {s with heap:=s.heap.push {cls:=.type "list",data:=.seq (strValues l).toArray},toks:=k}:=by
  intro l k hl iK;have e1:l.map (·.1.cps.toList)=jb c x.cps.toList:=by
   rw[<-QK x c hc,<-hl,bw];rfl
  have ni:∀p∈l,p.1.length<=sizeLine:=fun p hp=>by
   have:p.1.cps.toList∈jb c x.cps.toList:=by rw[<-e1];exact b_.mpr ⟨p,hp,rfl⟩
   have:=qt c _ _ this;rw[nB]at hx |-; omega
  have V:=B9 (C:=C) (σ:=σ) (h:=s.heap) l ni;rw[e1]at V;have hk:(strValues l).length<=sizeLine:=by
   have:(strValues l).length=l.length:=by simp[strValues]
   rw[this];omega
  exact ic K (iG.trans (iG.push s _) (iG.toks _ k)) (uN K V hk) h
 cases ve:(decide (x.length<(⟨#[c]⟩:Str).length)||decide (Builtin.Str.strKind x<Builtin.Str.strKind ⟨#[c]⟩))
 ·cases hf:(occurrences x ⟨#[c]⟩ 0 x.length (x.length+1)).isEmpty
  ·refine call_meets F.slot_str_split (cW _ _ _) F.entry_str_split (F.args_str_split_2 _ _) (meets_str_split_sep x ⟨#[c]⟩ t u ve rfl hf hx (by omega)) ?_;show wants Q E _ {s with toks:=_,heap:=s.heap.push {cls:=.type "list",data:=.seq (strsFrom s.toks (partsBetween x (occurrences x ⟨#[c]⟩ 0 x.length (x.length+1)) (⟨#[c]⟩:Str).length)).toArray}};rw[strsFrom_eq];refine fin (numbered s.toks _) _ ((numbered_texts _ _).trans ((aD (ne_true_of_eq_false ve)).trans (aD (ne_true_of_eq_false hf))).symm) ?_;have:(numbered s.toks (partsBetween x (occurrences x ⟨#[c]⟩ 0 x.length (x.length+1)) (⟨#[c]⟩:Str).length)).length=(partsBetween x (occurrences x ⟨#[c]⟩ 0 x.length (x.length+1)) (⟨#[c]⟩:Str).length).length:=by
    rw[<-aH (·.1),numbered_texts]
   rw[this];exact hn
  ·exact call_meets F.slot_str_split (cW _ _ _) F.entry_str_split (F.args_str_split_2 _ _) (meets_str_split_not_found x ⟨#[c]⟩ t u ve rfl hf)
    (fin [(x,t)] s.toks ((aD (ne_true_of_eq_false ve)).trans (aQ hf)).symm (by simp))
 ·exact call_meets F.slot_str_split (cW _ _ _) F.entry_str_split (F.args_str_split_2 _ _) (meets_str_split_cannot_occur x ⟨#[c]⟩ t u ve)
   (fin [(x,t)] s.toks (aQ ve).symm (by simp))
def zh{h:Heap}:∀{l:List PV}{ps:List (ah)}{vs:List Value},jI l=some ps->iL C σ h l vs->∃tl:List (Str×Tok),vs=strValues tl/\tl.map (·.1.cps.toList)=ps
 |[],ps,vs,e,x=>by
  rw[iL]at x;subst x;cases e;exact⟨[],rfl,rfl⟩
 |p::l,ps,vs,e,x=>by
  rw[iL]at x;obtain⟨v,r,rfl,a,b⟩:=x;cases p<;>first|(simp only[jI,reduceCtorEq]at e;done)|skip
  simp only[jI]at e;obtain⟨qs,hq,rfl⟩:=aq.mp e;obtain⟨y,t,rfl,rfl,_⟩:=gW a;obtain⟨tl,rfl,rfl⟩:=zh hq b;exact⟨(y,t)::tl,rfl,rfl⟩
def CD(k:Nat):∀(l:List Str)(a:Nat),l.foldl (fun n(p:Str)=>n+p.length+k) a=a+(l.map (·.length)).sum+k*l.length
 |[],a=>by simp
 |x::l,a=>by
  rw[c8,CD k l,aL,c_,aE,Nat.mul_succ];omega
def zO(sep:ah):∀l:List (ah),(l.map (·.length)).sum<=(iV sep l).length
 |[]=>aV _
 |[x]=>by simp[iV]
 |x::y::r=>by
  have ih:=zO sep (y::r);rw[aL,c_];show _<=(x++sep++iV sep (y::r)).length;rw[aB,aB];omega
def Bc{x:Str}{t:Tok}{p:PV}{l:List PV}{ps:List (ah)}{v:Value}(K:Ok C σ s st)(hc:gM st p=some l)(ht:jI l=some ps)(hs:iP (iV x.cps.toList ps)=true)(hp:ps.length<=1000)(hx:x.cps.toList.length<=10)
  (hr:∀a b,p≠ .rng a b) (y:VR C σ s.heap p v)
  (h:∀val σ' s',iO g_ σ s σ' s'->Ok C σ' s' st->VR C σ' s'.heap (.str (iV x.cps.toList ps)) val->Q val s'):
  wpAny C.M A (call (.builtin "str.join") [.str x t,v]) Q E s:=by
 obtain⟨a,o,vs,T,hT,rfl,ho,so,V,_⟩:=qD K hc y hr;obtain⟨tl,rfl,DK⟩:=zh ht V;have hj:(Txt.join x (tl.map (·.1))).cps.toList=iV x.cps.toList ps:=by
  show(glued x (tl.map (·.1))).cps.toList=_;rw[StrLaws.glued_eq_join,O4,bw,<-DK];rfl
 have iK:=jZ hs;have vO:tooLong ((tl.map (·.1)).toArray.foldl (fun n(p:Str)=>n+p.length+x.length) 0)=false:=by
  rw[List.foldl_toArray,CD];have h1:=zO x.cps.toList ps;have h2:((tl.map (·.1)).map (·.length)).sum=(ps.map (·.length)).sum:=by
   rw[<-DK,bw,bw];congr 1
  have h3:(tl.map (·.1)).length<=1000:=by rw[aH,<-aH (·.1.cps.toList),DK];exact hp
  have h4:x.length<=10:=by rw[nB];exact hx
  have h5:x.length*(tl.map (·.1)).length<=10*1000:=Nat.mul_le_mul h4 h3;unfold tooLong;rw[ez,dY];omega
 have fin:∀t' k,Q (.str (Txt.join x (tl.map (·.1))) t') {s with toks:=k}:=fun t' k=>
  ic K (iG.toks s k) (pA hj (by rw[nB,hj];exact lU iK)) h
 rcases hT with rfl|rfl
 ·exact call_meets F.slot_str_join (cW _ _ _) F.entry_str_join (F.args_str_join_2 _ _) (meets_str_join_list x t a tl vO) ⟨so.isList ho,post_join tl ⟨joinFit_length vO,fin⟩⟩
 ·exact call_meets F.slot_str_join (cW _ _ _) F.entry_str_join (F.args_str_join_2 _ _) (meets_str_join_tuple x t a tl vO) ⟨(by obtain⟨n,rfl,_⟩:=so;exact⟨_,n,ho,rfl,rfl⟩),post_join tl ⟨joinFit_length vO,fin⟩⟩
def MethAt(C:Cx)(o:PV)(name:Str)(args:List PV)(st gV:St)(v:PV)(id:String):Prop:=
 Slot (Fl o) name id/\typeOf (.builtin id)=pure (.type "method_descriptor")/\
  ∀(A:Around)(σ:List Addr)(s:Shared)(ov:Value)(vals:List Value)(Q:aa)(E:aa),A.handled=none->Ok C σ s st->VR C σ s.heap o ov->iL C σ s.heap args vals->
   (∀val σ' s',iO g_ σ s σ' s'->Ok C σ' s' gV->VR C σ' s'.heap v val->Q val s')->wpAny C.M A (call (.builtin id) ([ov]++vals)) Q E s
def j4{h:Heap}{p:PV}{vs:List Value}(x:iL C σ h [p] vs):∃v,vs=[v]/\VR C σ h p v:=by
 rw[iL]at x;obtain⟨v,r,rfl,a,b⟩:=x;rw[iL]at b;subst b;exact⟨v,rfl,a⟩
def qo{h:Heap}{p q:PV}{vs:List Value}(x:iL C σ h [p,q] vs):∃v u,vs=[v,u]/\VR C σ h p v/\VR C σ h q u:=by
 rw[iL]at x;obtain⟨v,r,rfl,a,b⟩:=x;obtain⟨u,rfl,c⟩:=j4 b;exact⟨v,u,rfl,a,c⟩
def B_{h:Heap}{vs:List Value}(x:iL C σ h [] vs):vs=[]:=by rw[iL]at x;exact x
def one_sign{y:Str}{c:Nat}(h:y.cps.toList=[c]):y=⟨#[c]⟩:=by
 obtain⟨a⟩:=y;congr 1;exact eV.mp h
def Ok.listAt{k:Nat}{l:List PV}{v:Value}(K:Ok C σ s st)(hk:st[k]? =some (.lst l))(x:VR C σ s.heap (.lst k) v):
  ∃a n vs,v= .ref a/\σ[k]? =some a/\s.heap.get? a=some {cls:=.type "list",dict:=none,data:=.seq vs.toArray n,slots:= #[]}/\vs.length<=sizeLine/\iL C σ s.heap l vs:=by
 rw[VR]at x;obtain⟨a,rfl,ha⟩:=x;obtain⟨o,vs,ho,⟨n,rfl,hl⟩,V⟩:=K.cells k a _ ha hk;exact⟨a,n,vs,rfl,ha,ho,hl,V⟩
def Lu{k:Nat}{v:PV}(hx:methP st (.lst k) "pop" []=some (v,gV)):MethAt C (.lst k) "pop" [] st gV v "list.pop":=by
 refine⟨PySem.F.slot_list_pop,PySem.F.type_list_pop,fun A σ s ov vals Q E hh K x y h=> ?_⟩;unfold methP at hx;simp only[bJ,bY]at hx;split at hx
 ·rename_i l hk;split at hx
  ·rename_i u hu;cases hx;obtain⟨a,n,vs,rfl,ha,ho,hl,V⟩:=K.listAt hk x;have:=B_ y;subst this;have lq:l≠[]:=fun q=>by rw[q]at hu;cases hu
   have uB:0<l.length:=List.length_pos_iff.mpr lq;have iK:=V.length;rw[List.getLast?_eq_getElem?]at hu;obtain⟨w',hw,vw⟩:=V.get hu;rw[<-iK]at hw;have hy:vs.toArray[vs.toArray.size-1]? =some w':=by simpa using hw
   refine call_meets PySem.F.slot_list_pop ⟨_,ho,rfl⟩ PySem.F.entry_list_pop (PySem.F.args_list_pop_1 _) (PySem.MeetsSeq.list_pop_last a vs.toArray n w' hy (by simpa using hl)) ⟨ho,?_⟩;have V':iL C σ s.heap l.dropLast vs.dropLast:=by
    rw[f9,f9,iK];exact V.take _
   have hf:vs.toArray.eraseIdxIfInBounds (vs.toArray.size-1)=vs.dropLast.toArray:=by
    have e:vs=vs.dropLast++[w']:=by
     have Qc:vs≠[]:=fun q=>by rw[q]at iK;simp at iK;omega
     have h2:=c9 Qc;have h3:vs.getLast Qc=w':=by
      have:vs.getLast?=some w':=by rw[List.getLast?_eq_getElem?];exact hw
      rw[List.getLast?_eq_some_getLast Qc]at this;exact bX this
     rw[h3]at h2;exact h2.symm
    have e2:vs.toArray.size-1=vs.dropLast.length:=by simp
    rw[e2]
    conv=>lhs;rw[e]
    rw[show(vs.dropLast++[w']).dropLast.length=vs.dropLast.length by simp];have:=PySem.W.kl_erase vs.dropLast [] w';rw[cI]at this;exact this
   obtain⟨K',X⟩:=K.setList ha hk ho ⟨n,rfl,hl⟩ (fun xs=>xs.eraseIdxIfInBounds (vs.toArray.size-1)) hf V' (by rw[List.length_dropLast];omega);exact h _ σ _ X K' (vw.mono X.mono)
  ·cases hx
 ·cases hx
def vC{k:Nat}{p v:PV}(hx:methP st (.lst k) "append" [p]=some (v,gV)):MethAt C (.lst k) "append" [p] st gV v "list.append":=by
 refine⟨PySem.F.slot_list_append,PySem.F.type_list_append,fun A σ s ov vals Q E hh K x y h=> ?_⟩;unfold methP at hx;simp only[bJ,bY]at hx;split at hx
 ·rename_i l hk;split at hx
  ·rename_i hs;cases hx;obtain⟨a,n,vs,rfl,ha,ho,hl,V⟩:=K.listAt hk x;obtain⟨u,rfl,vu⟩:=j4 y;have My:=jZ hs;have iK:=V.length;refine call_meets PySem.F.slot_list_append ⟨_,ho,rfl⟩ PySem.F.entry_list_append (PySem.F.args_list_append_2 _ _) (PySem.list_append a vs.toArray n u (by simpa using hl)) ⟨ho,?_⟩;obtain⟨K',X⟩:=K.setList (l':=l++[p]) (vs':=vs++[u]) ha hk ho ⟨n,rfl,hl⟩ (fun xs=>xs.push u) (by simp) (iL.append (iL.cons vu iL.nil) V) (by
    rw[aB,cy,iK];rw[dY];omega)
   exact h _ σ _ X K' FG
  ·cases hx
 ·cases hx
def H6{l:ah}{c:Nat}{name:Str}{v:PV}(hx:methP st (.str l) name [.str [c]]=some (v,gV)):∃id,MethAt C (.str l) name [.str [c]] st gV v id:=by
 have start:∀{A:Around}{σ:List Addr}{s:Shared}{ov:Value}{vals:List Value},VR C σ s.heap (.str l) ov->iL C σ s.heap [.str [c]] vals->
   ∃x t u,ov= .str x t/\x.cps.toList=l/\x.length<=sizeLine/\vals=[.str ⟨#[c]⟩ u]:=by
  intro A σ s ov vals x y;obtain⟨a,t,rfl,e,hl⟩:=gW x;obtain⟨v2,rfl,b⟩:=j4 y;obtain⟨z,u,rfl,e2,_⟩:=gW b;rw[one_sign e2];exact⟨a,t,u,rfl,e,hl,rfl⟩
 unfold methP at hx;dsimp only at hx
 repeat' split at hx
 ·rename_i q;have q:=aR.mp q;subst q;cases hx;refine⟨"str.startswith",PySem.F.slot_str_startswith,PySem.F.type_str_startswith,fun A σ s ov vals Q E hh K x y h=> ?_⟩;obtain⟨a,t,u,rfl,rfl,hl,rfl⟩:=start (A:=A) x y;refine call_gives PySem.F.slot_str_startswith (cW _ _ _) PySem.F.entry_str_startswith (PySem.F.args_str_startswith_2 _ _) (gives_str_startswith a ⟨#[c]⟩ t u) ?_;exact ic K iG.rfl' (by rw[VR];exact dm Value.bool (CW a c)) h
 ·rename_i q;have q:=aR.mp q;subst q;cases hx;refine⟨"str.endswith",PySem.F.slot_str_endswith,PySem.F.type_str_endswith,fun A σ s ov vals Q E hh K x y h=> ?_⟩;obtain⟨a,t,u,rfl,rfl,hl,rfl⟩:=start (A:=A) x y;refine call_gives PySem.F.slot_str_endswith (cW _ _ _) PySem.F.entry_str_endswith (PySem.F.args_str_endswith_2 _ _) (gives_str_endswith a ⟨#[c]⟩ t u) ?_;exact ic K iG.rfl' (by rw[VR];exact dm Value.bool (Iq a c)) h
 ·rename_i q;have q:=aR.mp q;subst q;cases hx;refine⟨"str.rfind",PySem.F.slot_str_rfind,PySem.F.type_str_rfind,fun A σ s ov vals Q E hh K x y h=> ?_⟩;obtain⟨a,t,u,rfl,rfl,hl,rfl⟩:=start (A:=A) x y;refine call_gives PySem.F.slot_str_rfind (cW _ _ _) PySem.F.entry_str_rfind (PySem.F.args_str_rfind_2 _ _) (gives_str_rfind a ⟨#[c]⟩ t u) ?_;exact ic K (iG.toks s _) (by rw[<-QS];exact kB _ _) h
 ·rename_i q;have q:=aR.mp q;subst q;cases hx;refine⟨"str.rstrip",PySem.F.slot_str_rstrip,PySem.F.type_str_rstrip,fun A σ s ov vals Q E hh K x y h=> ?_⟩;obtain⟨a,t,u,rfl,rfl,hl,rfl⟩:=start (A:=A) x y;refine call_gives PySem.F.slot_str_rstrip (cW _ _ _) PySem.F.entry_str_rstrip (PySem.F.args_str_rstrip_2 _ _) (gives_str_rstrip_chars a ⟨#[c]⟩ t u) ?_;refine post_val_or_made (fun _=>fits_stripped _ _ _ hl) fun t' k=> ?_;refine ic K (iG.toks s _) (pA (FP a c) ?_) h;show(Txt.rstripChars a ⟨#[c]⟩).length<=_;rw[nB,FP];rw[nB]at hl;refine dB ?_ hl;unfold qp;rw[cN];refine dB (List.Sublist.length_le (List.dropWhile_sublist _)) ?_;rw[cN];exact aV _
 ·cases hx
 ·rename_i q hc;have q:=aR.mp q;subst q;cases hx;simp only[cH,aJ,cC,not_or,eB]at hc;refine⟨"str.split",PySem.F.slot_str_split,PySem.F.type_str_split,fun A σ s ov vals Q E hh K x y h=> ?_⟩;obtain⟨a,t,u,rfl,rfl,hl,rfl⟩:=start (A:=A) x y;have hs:=jZ hc.2;exact yK (by omega) K hl (by rw[nB,dY];omega) h
 ·rename_i q;have q:=aR.mp q;subst q;cases hx;refine⟨"str.count",PySem.F.slot_str_count,PySem.F.type_str_count,fun A σ s ov vals Q E hh K x y h=> ?_⟩;obtain⟨a,t,u,rfl,rfl,hl,rfl⟩:=start (A:=A) x y;refine call_gives PySem.F.slot_str_count (cW _ _ _) PySem.F.entry_str_count (PySem.F.args_str_count_2 _ _) (gives_str_count a ⟨#[c]⟩ t u) ?_;refine ic K (iG.toks s _) ?_ h;have:=Rq a c;unfold Txt.count at this;rw[<-this];exact kB _ _
 ·cases hx
def EC{l:ah}{c:Nat}{i:Int}{name:Str}{v:PV}(hx:methP st (.str l) name [.str [c],.int i]=some (v,gV)):∃id,MethAt C (.str l) name [.str [c],.int i] st gV v id:=by
 unfold methP at hx;dsimp only at hx
 repeat' split at hx
 ·rename_i q h0;have q:=aR.mp q;subst q;obtain⟨k,hk,e⟩:=aq.mp hx;cases e;refine⟨"str.index",PySem.F.slot_str_index,PySem.F.type_str_index,fun A σ s ov vals Q E hh K x y h=> ?_⟩;obtain⟨a,t,rfl,rfl,hl⟩:=gW x;obtain⟨v1,v2,rfl,b1,b2⟩:=qo y;obtain⟨z,u,rfl,e2,_⟩:=gW b1;obtain⟨u2,rfl⟩:=ig b2;rw[one_sign e2];have hi:fromIndex a.length i=i.toNat:=by
   unfold fromIndex;rw[aD (by omega)];omega
  refine call_gives PySem.F.slot_str_index (cW _ _ _) PySem.F.entry_str_index (PySem.F.args_str_index_3 _ _ _) (rK a ⟨#[c]⟩ i t u u2 k [] (by rw[hi];exact HU hk)) ?_;exact ic K (iG.toks s _) (kB _ _) h
 all_goals cases hx
def H8{l:ah}{p:PV}{name:Str}{v:PV}(hx:methP st (.str l) name [p]=some (v,gV))(hn:∀c,p≠ .str [c]):∃id,MethAt C (.str l) name [p] st gV v id:=by
 have Py:(if name==("join":Str)&& !o4 p then match gM st p with
   |some m=>match jI m with
    |some ps=>if iP (iV l ps)&&ps.length<=1000&&l.length<=10 then some (PV.str (iV l ps),st)else none
    |none=>none
   |none=>none
  else none)=some (v,gV):=by
  rw[<-hx];cases p<;>try rfl
  rename_i ws;cases ws with
  |nil=>rfl
  |cons a r=>cases r with
   |nil=>exact absurd rfl (hn a)
   |cons b r'=>rfl
 repeat' split at Py
 ·rename_i q _ m hm _ ps Zz hq;rw[aA]at q;have hp:∀a b,p≠ .rng a b:=fun a b e=>by rw[e]at q;exact absurd q.2 (by simp[o4])
  have q:=aR.mp q.1;subst q;cases Py;simp only[aA,aJ]at hq;refine⟨"str.join",PySem.F.slot_str_join,PySem.F.type_str_join,fun A σ s ov vals Q E hh K x y h=> ?_⟩;obtain⟨a,t,rfl,rfl,hl⟩:=gW x;obtain⟨v1,rfl,b1⟩:=j4 y;exact Bc K hm Zz hq.1.1 hq.1.2 hq.2 hp b1 h
 all_goals cases Py
end
end
section
open PySem PyProof.Rows
open Builtin StrLaws
namespace FZ
def slot_isdisjoint:Slot "frozenset" "isdisjoint" "frozenset.isdisjoint":=
 .of (owner:="frozenset") (n:="isdisjoint") (by rw[bQ,bh];kernel_rfl) (by decide+kernel) (by decide+kernel) (by decide+kernel)
  (by first|exact .inl (by decide+kernel)|exact .inr (by decide+kernel)) (by rw[bE];kernel_rfl)
def type_isdisjoint:typeOf (.builtin "frozenset.isdisjoint")=pure (.type "method_descriptor"):=by show builtinType _=_;rw[builtinType_eq_fast];kernel_rfl
def entry_isdisjoint:entryFor table "frozenset.isdisjoint"=some Builtin.«frozenset.isdisjoint»:=dc (by kernel_rfl)
def args_isdisjoint(a b:Value):argsOk "frozenset.isdisjoint" ⟨[a,b],[]⟩:=by
 unfold argsOk;rw[fF (id:="frozenset.isdisjoint") (n:=['t','n','i','o','j','s','i','d','s','i']) (o:=['t','e','s','n','e','z','o','r','f']) (by kernel_rfl) PySem.W.FB.owner_frozenset];kernel_rfl
def slot_issuperset:Slot "frozenset" "issuperset" "frozenset.issuperset":=
 .of (owner:="frozenset") (n:="issuperset") (by rw[bQ,bh];kernel_rfl) (by decide+kernel) (by decide+kernel) (by decide+kernel)
  (by first|exact .inl (by decide+kernel)|exact .inr (by decide+kernel)) (by rw[bE];kernel_rfl)
def type_issuperset:typeOf (.builtin "frozenset.issuperset")=pure (.type "method_descriptor"):=by show builtinType _=_;rw[builtinType_eq_fast];kernel_rfl
def entry_issuperset:entryFor table "frozenset.issuperset"=some Builtin.«frozenset.issuperset»:=dc (by kernel_rfl)
def args_issuperset(a b:Value):argsOk "frozenset.issuperset" ⟨[a,b],[]⟩:=by
 unfold argsOk;rw[fF (id:="frozenset.issuperset") (n:=['t','e','s','r','e','p','u','s','s','i']) (o:=['t','e','s','n','e','z','o','r','f']) (by kernel_rfl) PySem.W.FB.owner_frozenset];kernel_rfl
def plain_isdisjoint_loop:plainId "frozenset.isdisjoint.loop"=true:=by decide+kernel
def entry_isdisjoint_loop:entryFor table "frozenset.isdisjoint.loop"=some Builtin.«frozenset.isdisjoint.loop»:=dc (by kernel_rfl)
def plain_issuperset_loop:plainId "frozenset.issuperset.loop"=true:=by decide+kernel
def entry_issuperset_loop:entryFor table "frozenset.issuperset.loop"=some Builtin.«frozenset.issuperset.loop»:=dc (by kernel_rfl)
def sub_str_set:isSubtype (.type "str") (.type "set")=pure false:=by rw[bE];kernel_rfl
def sub_str_frozenset:isSubtype (.type "str") (.type "frozenset")=pure false:=by rw[bE];kernel_rfl
def plainAttrs_frozenset:PlainAttrs "frozenset":=
 ⟨⟨"object.__getattribute__",by rw[bQ,bh];kernel_rfl,by decide+kernel⟩,by rw[bQ,bh];kernel_rfl⟩
end FZ
section
variable{prog:Program}{w:World}{A:Around}{E:aa}{s:Shared}{I a:Addr}{n:Nat}{P:Nat->Value->Prop}{St:Nat->Heap->Prop}{fp wr:List Addr}{S:Str->Bool}{R:Result->Shared->Prop}
def oO{x:Str}{t:Tok}{es:Array (Int×Value)}{ep:Nat}{tb:SetTable}{o:Obj}{Q:Bool->Shared->Prop}(ho:s.heap.get? a=some o)(hd:o.data= .set es ep tb)
  (DF:ElemsOf (PySem.strKind prog w) es.toList) (ni:∀k,S k=true↔ ∃e∈es.toList,(PySem.strKind prog w).is k e.2=true) (hb:es.size<scanBound) (hf:tb.fits es.size=true)
  (h:Q (S x) {s with toks:=s.toks+1}):wpAny (model prog w) A (setContains a (.str x t)) Q E s:=by
 unfold setContains;refine aX ?_;refine ai ((PySem.strKind prog w).pyHash (k:=x) (eY ..) ?_);refine ai (PySem.W.setFind_any (s:={s with toks:=s.toks+1}) (eY ..) rfl ho hd DF ni hb hf fun r hr=> ?_);refine aj ?_;rw[hr];exact h
def vY{x:Str}(W:Walks prog w A.in1 I fp wr x.cps.size (SignAt x) St){es:Array (Int×Value)}{ep:Nat}{tb:SetTable}{o:Obj}(ha:a∉wr)(hd:o.data= .set es ep tb)
  (DF:ElemsOf (PySem.strKind prog w) es.toList) (ni:∀k,S k=true↔ ∃e∈es.toList,(PySem.strKind prog w).is k e.2=true) (hb:es.size<scanBound) (hf:tb.fits es.size=true):
  ∀(k i:Nat)(s:Shared),x.cps.size-i=k->i<=x.cps.size->s.heap.get? a=some o->St i s.heap->
  (∀h' tk,(∀b o,b∉wr->s.heap.get? b=some o->h'.get? b=some o)->R (.ok (.ret (.bool ((x.cps.toList.drop i).all fun c=> !S ⟨#[c]⟩)))) {s with heap:=h',toks:=tk})->
  codeAny (model prog w) A (.builtin "frozenset.isdisjoint.loop" ⟨[.ref a,.ref I],[]⟩) R s:=by
 intro k
 induction k with
 |zero=>
  intro i s hk hi ho kD hR;have qR:i=x.cps.size:=by omega
  subst qR;refine bx FZ.entry_isdisjoint_loop ?_;rw[aZ FZ.plain_isdisjoint_loop _];show wpAny _ A.in1 (pyNext (.ref I) >>= _) _ _ s;refine ai (W.done s _ _ kD fun h' tk oW=> ?_);have:=hR h' tk oW;rw[dQ (by simp)]at this;exact aj this
 |succ k ih=>
  intro i s hk hi ho kD hR;have jQ:i<x.cps.size:=by omega
  refine bx FZ.entry_isdisjoint_loop ?_;rw[aZ FZ.plain_isdisjoint_loop _];show wpAny _ A.in1 (pyNext (.ref I) >>= _) _ _ s;refine ai (W.item i s _ _ jQ kD fun v h' tk hP sG oW=> ?_);obtain⟨c,u,hc,rfl⟩:=hP;have qG:x.cps.toList.drop i=c::x.cps.toList.drop (i+1):=by
   have:x.cps.toList[i]? =some c:=by simpa using hc
   rw[bq (aF.mp this).1,(aF.mp this).2]
  refine ai (aX (oO (s:={s with heap:=h',toks:=tk}) (oW _ _ ha ho) hd DF ni hb hf ?_));cases hS:S ⟨#[c]⟩with
  |true=>
   have:=hR h' (tk+1) oW;rw[qG,fG,hS,dw,Bool.false_and]at this;exact aj this
  |false=>
   refine aj ⟨bD FZ.plain_isdisjoint_loop _,ih (i+1) _ (by omega) jQ (oW _ _ ha ho) sG fun E9 PR Qg=> ?_⟩;have:=hR E9 PR fun b o SJ e=>Qg b o SJ (oW b o SJ e);rw[qG,fG,hS,Bool.not_false,gF]at this;exact this
def vX{x:Str}(W:Walks prog w A.in1 I fp wr x.cps.size (SignAt x) St){es:Array (Int×Value)}{ep:Nat}{tb:SetTable}{o:Obj}(ha:a∉wr)(hd:o.data= .set es ep tb)
  (DF:ElemsOf (PySem.strKind prog w) es.toList) (ni:∀k,S k=true↔ ∃e∈es.toList,(PySem.strKind prog w).is k e.2=true) (hb:es.size<scanBound) (hf:tb.fits es.size=true):
  ∀(k i:Nat)(s:Shared),x.cps.size-i=k->i<=x.cps.size->s.heap.get? a=some o->St i s.heap->
  (∀h' tk,(∀b o,b∉wr->s.heap.get? b=some o->h'.get? b=some o)->R (.ok (.ret (.bool ((x.cps.toList.drop i).all fun c=>S ⟨#[c]⟩)))) {s with heap:=h',toks:=tk})->
  codeAny (model prog w) A (.builtin "frozenset.issuperset.loop" ⟨[.ref a,.ref I],[]⟩) R s:=by
 intro k
 induction k with
 |zero=>
  intro i s hk hi ho kD hR;have qR:i=x.cps.size:=by omega
  subst qR;refine bx FZ.entry_issuperset_loop ?_;rw[aZ FZ.plain_issuperset_loop _];show wpAny _ A.in1 (pyNext (.ref I) >>= _) _ _ s;refine ai (W.done s _ _ kD fun h' tk oW=> ?_);have:=hR h' tk oW;rw[dQ (by simp)]at this;exact aj this
 |succ k ih=>
  intro i s hk hi ho kD hR;have jQ:i<x.cps.size:=by omega
  refine bx FZ.entry_issuperset_loop ?_;rw[aZ FZ.plain_issuperset_loop _];show wpAny _ A.in1 (pyNext (.ref I) >>= _) _ _ s;refine ai (W.item i s _ _ jQ kD fun v h' tk hP sG oW=> ?_);obtain⟨c,u,hc,rfl⟩:=hP;have qG:x.cps.toList.drop i=c::x.cps.toList.drop (i+1):=by
   have:x.cps.toList[i]? =some c:=by simpa using hc
   rw[bq (aF.mp this).1,(aF.mp this).2]
  refine ai (aX (oO (s:={s with heap:=h',toks:=tk}) (oW _ _ ha ho) hd DF ni hb hf ?_));cases hS:S ⟨#[c]⟩with
  |false=>
   have:=hR h' (tk+1) oW;rw[qG,fG,hS,Bool.false_and]at this;exact aj this
  |true=>
   refine aj ⟨bD FZ.plain_issuperset_loop _,ih (i+1) _ (by omega) jQ (oW _ _ ha ho) sG fun E9 PR Qg=> ?_⟩;have:=hR E9 PR fun b o SJ e=>Qg b o SJ (oW b o SJ e);rw[qG,fG,hS,gF]at this;exact this
end
def iG.walked(s:Shared)(o:Obj){h':Heap}{tk:Nat}(hk:∀b o',b∉[s.heap.objs.size]->(s.heap.push o).get? b=some o'->h'.get? b=some o'):iG s {s with heap:=h',toks:=tk}:=
 ⟨fun b o' e=>hk b o' (by simp only[aK];exact dK (bG e)) (aG _ e),rfl,rfl⟩
section
variable{C:Cx}{σ:List Addr}{s:Shared}{st:St}{A:Around}{E:aa}
def yp{x:Str}{t:Tok}{l:ah}{v:Value}{Q:aa}(hh:A.handled=none)(K:Ok C σ s st)(V:VR C σ s.heap (.cset l) v)
  (h:∀val σ' s',iO g_ σ s σ' s'->Ok C σ' s' st->VR C σ' s'.heap (.bool (x.cps.toList.all fun c=> !l.contains c)) val->Q val s'):
  wpAny C.M A (call (.builtin "frozenset.isdisjoint") [v,.str x t]) Q E s:=by
 rw[VR]at V;obtain⟨a,o,rfl,hn,ho,k,hk,es,ep,tb,rfl,DF,ni,qM,hf⟩:=V;have hT:s.TypeIs (.ref a) "frozenset":=⟨_,ho,rfl⟩;refine wpAny_call (gm FZ.slot_isdisjoint.plain FZ.entry_isdisjoint (FZ.slot_isdisjoint.check _ _ _ _ _ _ _ _ hT (FZ.args_isdisjoint _ _) ?_));unfold Builtin.«frozenset.isdisjoint» Builtin.Frozenset.oneOther;simp only[gy];unfold Builtin.Frozenset.addrOf;refine ai (ai (aj (aj ?_)));dsimp only;have lq:(Value.str x t==Value.ref a)=false:=rfl;rw[lq];refine fW rfl ?_;refine ai (fS (T:="str") rfl ?_);refine fW (by decide) ?_;refine ai (wpAny_pyIter_str fun o' St hW hSt=> ?_);refine aj ⟨bD FZ.plain_isdisjoint_loop _,vY (S:=DW l) (hW A.in1 hh) (a:=a) (by simp;exact dK (bG ho)) rfl DF ni (by rw[qM];exact Nat.lt_of_le_of_lt hk (by decide)) hf _ 0 _ rfl (dH _) (aG _ ho) hSt fun h' tk oW=> ?_⟩;exact ic K (iG.walked s o' oW) (by rw[VR];rfl) h
def yo{x:Str}{t:Tok}{l:ah}{v:Value}{Q:aa}(hh:A.handled=none)(K:Ok C σ s st)(V:VR C σ s.heap (.cset l) v)
  (h:∀val σ' s',iO g_ σ s σ' s'->Ok C σ' s' st->VR C σ' s'.heap (.bool (x.cps.toList.all fun c=>l.contains c)) val->Q val s'):
  wpAny C.M A (call (.builtin "frozenset.issuperset") [v,.str x t]) Q E s:=by
 rw[VR]at V;obtain⟨a,o,rfl,hn,ho,k,hk,es,ep,tb,rfl,DF,ni,qM,hf⟩:=V;have hT:s.TypeIs (.ref a) "frozenset":=⟨_,ho,rfl⟩;refine wpAny_call (gm FZ.slot_issuperset.plain FZ.entry_issuperset (FZ.slot_issuperset.check _ _ _ _ _ _ _ _ hT (FZ.args_issuperset _ _) ?_));unfold Builtin.«frozenset.issuperset» Builtin.Frozenset.oneOther;simp only[gy];unfold Builtin.Frozenset.addrOf;refine ai (ai (aj (aj ?_)));dsimp only;refine ai ?_;unfold Builtin.Frozenset.isAnySet;refine ai (wpAny_isInstance_val (T:="str") rfl FZ.sub_str_set ?_);show wpAny _ _ (isInstance (Value.str x t) (Value.type "frozenset")) _ _ _;refine wpAny_isInstance_val (T:="str") rfl FZ.sub_str_frozenset ?_;refine fW rfl ?_;refine ai (wpAny_pyIter_str fun o' St hW hSt=> ?_);refine aj ⟨bD FZ.plain_issuperset_loop _,vX (S:=DW l) (hW A.in1 hh) (a:=a) (by simp;exact dK (bG ho)) rfl DF ni (by rw[qM];exact Nat.lt_of_le_of_lt hk (by decide)) hf _ 0 _ rfl (dH _) (aG _ ho) hSt fun h' tk oW=> ?_⟩;exact ic K (iG.walked s o' oW) (by rw[VR];rfl) h
def H_{l:ah}{p:PV}{name:Str}{v:PV}{gV:St}(hx:methP st (.cset l) name [p]=some (v,gV)):∃id,MethAt C (.cset l) name [p] st gV v id:=by
 unfold methP at hx;cases p<;>first|(simp only[reduceCtorEq]at hx;done)|skip
 dsimp only at hx
 repeat' split at hx
 ·rename_i q;have q:=aR.mp q;subst q;cases hx;refine⟨_,FZ.slot_isdisjoint,FZ.type_isdisjoint,fun A σ s ov vals Q E hh K x y h=> ?_⟩;obtain⟨u,rfl,b⟩:=j4 y;obtain⟨z,t,rfl,rfl,_⟩:=gW b;exact yp hh K x h
 ·rename_i q;have q:=aR.mp q;subst q;cases hx;refine⟨_,FZ.slot_issuperset,FZ.type_issuperset,fun A σ s ov vals Q E hh K x y h=> ?_⟩;obtain⟨u,rfl,b⟩:=j4 y;obtain⟨z,t,rfl,rfl,_⟩:=gW b;exact yo hh K x h
 ·cases hx
def Ls{o:PV}{name:Str}{args:List PV}{v:PV}{gV:St}(hx:methP st o name args=some (v,gV)):∃id,MethAt C o name args st gV v id:=by
 cases o<;>first|(simp only[methP,reduceCtorEq]at hx;done)|skip
 case lst k=>
  rcases args with _|⟨p,_|⟨q,r⟩⟩
  ·have hn:name="pop":=by
    unfold methP at hx;dsimp only at hx;split at hx
    ·rename_i q;exact aR.mp q
    ·cases hx
   subst hn;exact⟨_,Lu hx⟩
  ·have hn:name="append":=by
    unfold methP at hx;dsimp only at hx;split at hx
    ·rename_i q;exact aR.mp q
    ·cases hx
   subst hn;exact⟨_,vC hx⟩
  ·simp only[methP,reduceCtorEq]at hx
 case cset l=>
  rcases args with _|⟨p,_|⟨q,r⟩⟩
  ·simp only[methP,reduceCtorEq]at hx
  ·exact H_ hx
  ·simp only[methP,reduceCtorEq]at hx
 case str l=>
  rcases args with _|⟨p,_|⟨q,_|⟨r,r'⟩⟩⟩
  ·simp only[methP,reduceCtorEq]at hx
  ·by_cases hc:∃c,p= .str [c]
   ·obtain⟨c,rfl⟩:=hc;exact H6 hx
   ·exact H8 hx fun c e=>hc ⟨c,e⟩
  ·by_cases hc:∃c i,p= .str [c]/\q= .int i
   ·obtain⟨c,i,rfl,rfl⟩:=hc;exact EC hx
   ·exfalso;unfold methP at hx;cases p<;>first|(simp only[reduceCtorEq]at hx;done)|skip
    rename_i w;rcases w with _|⟨c,_|⟨d,w⟩⟩<;>first|(simp only[reduceCtorEq]at hx;done)|skip
    cases q<;>first|(simp only[reduceCtorEq]at hx;done)|skip
    exact hc ⟨_,_,rfl,rfl⟩
  ·unfold methP at hx;cases p<;>first|(simp only[reduceCtorEq]at hx;done)|skip
   try(rename_i w;rcases w with _|⟨c,_|⟨d,w⟩⟩<;>simp only[reduceCtorEq]at hx)
end
end
section
open PySem PyProof.Rows
structure j5(o:Obj):Prop where
 val:¬ kh o
 dict:∀e n,o.data≠ .dict e n
 cell:∀c,o.data≠ .cell c
def j5.of{n:String}{fs:Array Value}{o:Obj}(hc:o.cls= .type n)(hd:o.data= .fields fs)(hn:n≠"range"):j5 o:=
 ⟨by
  rintro(⟨_,_,h⟩|⟨_,_,_,h⟩|⟨h,_⟩)
  ·rw[hd]at h;cases h
  ·rw[hd]at h;cases h
  ·rw[hc]at h;cases h;exact hn rfl,
  fun _ _ h=>(by rw[hd]at h;cases h),fun _ h=>(by rw[hd]at h;cases h)⟩
structure tH(W:Addr->Prop)(s s':Shared):Prop where
 keep:∀b o,¬ W b->s.heap.get? b=some o->s'.heap.get? b=some o
 gens:s'.gens=s.gens
 os:s'.os=s.os
section
variable{C:Cx}{sc:Scope}{env:Env}{jU σ σ':List Addr}{jo s s' s₁:Shared}{ρ:ie}{st gV:St}{A:Around}{n:Nat}{W:Addr->Prop}
def tH.refl:tH W s s:=⟨fun _ _ _ e=>e,rfl,rfl⟩
def tH.trans(x:tH W s s₁)(y:tH W s₁ s'):tH W s s':=⟨fun b o h e=>y.keep b o h (x.keep b o h e),y.gens.trans x.gens,y.os.trans x.os⟩
def iG.raw(g:iG s s'):tH W s s':=⟨fun b o _ e=>g.keep b o e,g.gens,g.os⟩
def qH(W:Addr->Prop)(s:Shared):Prop:=∀a,W a->∃o,s.heap.get? a=some o/\j5 o
def tH.mono(x:tH W s s')(hW:qH W s):sL σ s.heap σ s'.heap:=
 ⟨⟨[],by simp⟩,fun _ a b=>absurd a b,fun b o e _ hv=>x.keep b o (fun hb=>by
  obtain⟨o',h1,h2⟩:=hW b hb;rw[e]at h1;cases h1;exact h2.val hv) e⟩
def Ok.raw(K:Ok C σ s st)(x:tH W s s')(hW:qH W s)(h0:∀a,W a->C.h₀.get? a=none)(yY:∀a,W a->a∉σ):Ok C σ s' st where
 base:=fun b o e=>x.keep b o (fun hb=>by rw[h0 b hb]at e;cases e) (K.base b o e)
 fresh0:=K.fresh0
 len:=K.len
 nodup:=K.nodup
 cells:=fun k a c ha hc=>by
  have y:=K.cells k a c ha hc;obtain⟨o,ho,_⟩:=K.has (bL ha);exact y.mono (x.mono hW) ((x.keep a o (fun hb=>yY a hb (bL ha)) ho).trans ho.symm)
def gP.raw(F:gP C sc env σ s.heap ρ)(x:tH W s s')(hW:qH W s):gP C sc env σ s'.heap ρ where
 kind:=F.kind
 plain:=F.plain
 loc:=F.loc
 cel:=F.cel
 fre:=F.fre
 glo:=F.glo
 globals:=F.globals
 builtins:=F.builtins
 code:=F.code
 ns:=by
  obtain⟨m,hn,hv⟩:=F.ns;refine⟨m,hn.at fun o e=>x.keep _ o (fun hb=> ?_) e,fun y v h1 h2=>let⟨val,a,b⟩:=hv y v h1 h2;⟨val,a,b.mono (x.mono hW)⟩⟩;obtain⟨o',h1,h2⟩:=hW _ hb;obtain⟨o2,es,ep,h3,h4,_⟩:=hn;rw[h3]at h1;cases h1;exact h2.dict _ _ h4
 cells:=fun y hy=>by
  obtain⟨c,vo,h1,⟨o,ho,hd⟩,h2,h3⟩:=F.cells y hy;refine⟨c,vo,h1,⟨o,x.keep _ o (fun hb=> ?_) ho,hd⟩,h2,fun v hv=>let⟨val,a,b⟩:=h3 v hv;⟨val,a,b.mono (x.mono hW)⟩⟩;obtain⟨o',ve,GV⟩:=hW _ hb;rw[ho]at ve;cases ve;exact GV.cell _ hd
 apart:=F.apart
 dom:=F.dom
 newL:=F.newL
 newC:=F.newC
 notL:=F.notL
def gP.notW(F:gP C sc env σ s.heap ρ)(hW:qH W s):∀a,W a->¬ own sc env a:=by
 rintro a ha (rfl|⟨x,hk,hc⟩)
 ·obtain⟨o',h1,h2⟩:=hW _ ha;obtain⟨m,⟨o2,es,ep,h3,h4,_⟩,_⟩:=F.ns;rw[h3]at h1;cases h1;exact h2.dict _ _ h4
 ·obtain⟨o',h1,h2⟩:=hW _ ha;obtain⟨c,vo,h3,⟨o,ho,hd⟩,_⟩:=F.cells x (.inl hk);rw[hc]at h3;cases h3;rw[ho]at h1;cases h1;exact h2.cell _ hd
def iO.raw{own:Addr->Prop}(x:iO own jU jo σ s)(y:tH W s s')(h0:∀a,W a->jo.heap.get? a=none):iO own jU jo σ s':=
 ⟨x.pre,x.fresh,fun b o e h1 h2=>y.keep b o (fun hb=>by rw[h0 b hb]at e;cases e) (x.keep b o e h1 h2),fun a o ha e=>by
  obtain⟨h1,o',h2,h3⟩:=x.alive a o ha e;exact⟨h1,o',y.keep a o' (fun hb=>by rw[h0 a hb]at e;cases e) h2,h3⟩,y.gens.trans x.gens,y.os.trans x.os⟩
end
structure MW(C:Cx)(l:List PV)(I:Addr)(W:Addr->Prop)(kq:St->Prop)(lM:Nat->List Addr->Shared->Prop)(lH:Nat->Value->List Addr->Shared->Prop):Prop where
 objs:∀i σ s,lM i σ s->qH W s
 objsM:∀i v σ s,lH i v σ s->qH W s
 keep:∀(own:Addr->Prop) i σ s σ' s',iO own σ s σ' s'->(∀a,W a->¬ own a/\a∉σ)->lM i σ s->lM i σ' s'
 item:∀(A:Around) i σ s st(Q:Option Value->Shared->Prop)(E:aa),A.handled=none->i<l.length->Ok C σ s st->kq st->lM i σ s->
  (∀v q s',l[i]? =some q->VR C σ s'.heap q v->lH (i+1) v σ s'->tH W s s'->Q (some v) s')->wpAny C.M A (pyNext (.ref I)) Q E s
 done:∀(A:Around) σ s st(Q:Option Value->Shared->Prop)(E:aa),A.handled=none->Ok C σ s st->kq st->lM l.length σ s->
  (∀s',tH W s s'->Q none s')->wpAny C.M A (pyNext (.ref I)) Q E s
 self:∀(A:Around) i σ s(Q:aa)(E:aa),lM i σ s->Q (.ref I) s->wpAny C.M A (pyIter (.ref I)) Q E s
 go:∀(A:Around) es k pos i v σ s(Q:Unit->Shared->Prop)(E:aa),lH i v σ s->(∀s',lM i σ s'->tH W s s'->Q () s')->wpAny C.M A (letOwnedTupleGo (.Tuple es k pos) (.ref I) v) Q E s
def Vl(lM:Nat->List Addr->Shared->Prop)(lH:Nat->Value->List Addr->Shared->Prop):Prop:=∀i v σ s,lH i v σ s->lM i σ s
def sZ{C:Cx}{A:Around}{I:Addr}{n:String}{fs:Array Value}{o:Obj}{s:Shared}{es:List Expr}{k:Nat}{pos:Pos}{v:Value}{Q:Unit->Shared->Prop}{E:aa}
  (ho:s.heap.get? I=some o) (hc:o.cls= .type n) (hd:o.data= .fields fs)
  (hn:["enumerate","zip","dict_itemiterator","dict_reverseitemiterator","odict_iterator","itertools.zip_longest","itertools.pairwise"].contains n=false) (h:Q () s):
  wpAny C.M A (letOwnedTupleGo (.Tuple es k pos) (.ref I) v) Q E s:=by
 unfold letOwnedTupleGo;cases v<;>first|exact aj h|skip
 refine ai (wpAny_load ho ?_);rw[hc,hd];dsimp only;rw[hn];exact aj h
section
variable{C:Cx}
def pY{σ σ':List Addr}{s s':Shared}{own W:Addr->Prop}{I:Addr}{o:Obj}(x:iO own σ s σ' s')(hW:∀a,W a->¬ own a/\a∉σ)(hI:W I)(ho:s.heap.get? I=some o):s'.heap.get? I=some o:=
 x.keep I o ho (hW I hI).2 (hW I hI).1
def MW.list{p:PV}{l:List PV}{I a:Addr}(hp:(∃k,p= .lst k)\/∃m,p= .list m):
  MW C l I (· =I) (fun st=>gM st p=some l) (fun i σ s=>s.heap.IsListIter I a i/\VR C σ s.heap p (.ref a)) (fun i _ σ s=>s.heap.IsListIter I a i/\VR C σ s.heap p (.ref a)) where
 objs:=fun i σ s h b hb=>by
  obtain⟨⟨o,ho,hc,hd⟩,_⟩:=h;exact⟨o,by rw[hb];exact ho,j5.of hc hd (by decide)⟩
 objsM:=fun i _ σ s h b hb=>by
  obtain⟨⟨o,ho,hc,hd⟩,_⟩:=h;exact⟨o,by rw[hb];exact ho,j5.of hc hd (by decide)⟩
 keep:=fun own i σ s σ' s' x hW h=>by
  obtain⟨⟨o,ho,hc,hd⟩,V⟩:=h;exact⟨⟨o,pY x hW rfl ho,hc,hd⟩,V.mono x.mono⟩
 item:=fun A i σ s st Q E hh hi K hc h hQ=>by
  obtain⟨oS,V⟩:=h;obtain⟨a',o,vs,e,ho,so,r⟩:=i7 K hc V hp;cases e;obtain⟨q,hq⟩:∃q,l[i]? =some q:=⟨l[i],aP hi⟩;obtain⟨v,hv,vr⟩:=r.get hq;refine wpAny_pyNext_list_item oS (so.isList ho) (x:=v) (by simpa using hv) fun h' DU hs=> ?_;have R:tH (· =I) s {s with heap:=h'}:=⟨fun b o hb e=>(hs.2 b hb).trans e,rfl,rfl⟩;have hI:qH (· =I) s:=fun b hb=>by
   obtain⟨o,ho,hc,hd⟩:=oS;exact⟨o,by rw[hb];exact ho,j5.of hc hd (by decide)⟩
  exact hQ v q _ hq (vr.mono (R.mono hI)) ⟨DU,V.mono (R.mono hI)⟩ R
 done:=fun A σ s st Q E hh K hc h hQ=>by
  obtain⟨oS,V⟩:=h;obtain⟨a',o,vs,e,ho,so,r⟩:=i7 K hc V hp;cases e;refine wpAny_pyNext_list_end hh oS (so.isList ho) (by simp[r.length]) fun h' hs=>hQ _ ⟨fun b o hb e=>hs b o hb e,rfl,rfl⟩
 self:=fun A i σ s Q E h hQ=>wpAny_pyIter_listiter h.1 hQ
 go:=fun A es k pos i v σ s Q E h hQ=>by
  obtain⟨⟨o,ho,hc,hd⟩,V⟩:=h;exact sZ ho hc hd (by decide) (hQ s ⟨⟨o,ho,hc,hd⟩,V⟩ tH.refl)
def MW.tuple{l:List PV}{I a:Addr}:
  MW C l I (· =I) (fun _=>True) (fun i σ s=>s.heap.IsTupleIter I a i/\VR C σ s.heap (.tup l) (.ref a)) (fun i _ σ s=>s.heap.IsTupleIter I a i/\VR C σ s.heap (.tup l) (.ref a)) where
 objs:=fun i σ s h b hb=>by
  obtain⟨⟨o,ho,hc,hd⟩,_⟩:=h;exact⟨o,by rw[hb];exact ho,j5.of hc hd (by decide)⟩
 objsM:=fun i _ σ s h b hb=>by
  obtain⟨⟨o,ho,hc,hd⟩,_⟩:=h;exact⟨o,by rw[hb];exact ho,j5.of hc hd (by decide)⟩
 keep:=fun own i σ s σ' s' x hW h=>by
  obtain⟨⟨o,ho,hc,hd⟩,V⟩:=h;exact⟨⟨o,pY x hW rfl ho,hc,hd⟩,V.mono x.mono⟩
 item:=fun A i σ s st Q E hh hi K hc h hQ=>by
  obtain⟨oS,V⟩:=h;obtain⟨a',o,vs,e,_,ho,so,r⟩:=kM V;cases e;obtain⟨q,hq⟩:∃q,l[i]? =some q:=⟨l[i],aP hi⟩;obtain⟨v,hv,vr⟩:=r.get hq;refine wpAny_pyNext_tuple_item oS (so.isTuple ho) (x:=v) (by simpa using hv) fun h' DU hs=> ?_;have R:tH (· =I) s {s with heap:=h'}:=⟨fun b o hb e=>(hs.2 b hb).trans e,rfl,rfl⟩;have hI:qH (· =I) s:=fun b hb=>by
   obtain⟨o,ho,hc,hd⟩:=oS;exact⟨o,by rw[hb];exact ho,j5.of hc hd (by decide)⟩
  exact hQ v q _ hq (vr.mono (R.mono hI)) ⟨DU,V.mono (R.mono hI)⟩ R
 done:=fun A σ s st Q E hh K hc h hQ=>by
  obtain⟨oS,V⟩:=h;obtain⟨a',o,vs,e,_,ho,so,r⟩:=kM V;cases e;refine wpAny_pyNext_tuple_end hh oS (so.isTuple ho) (by simp[r.length]) fun h' hs=>hQ _ ⟨fun b o hb e=>hs b o hb e,rfl,rfl⟩
 self:=fun A i σ s Q E h hQ=>wpAny_pyIter_tupleiter h.1 hQ
 go:=fun A es k pos i v σ s Q E h hQ=>by
  obtain⟨⟨o,ho,hc,hd⟩,V⟩:=h;exact sZ ho hc hd (by decide) (hQ s ⟨⟨o,ho,hc,hd⟩,V⟩ tH.refl)
def pG{h:Heap}{I:Addr}{x y z:Int}(hr:IsRangeIter h I x y z):∃o,h.get? I=some o/\∃fs,o.cls= .type "range_iterator"/\o.data= .fields fs:=⟨_,hr,_,rfl,rfl⟩
def tQ(a c:Int)(n:Nat):List PV:=(List.range n).map fun(i:Nat)=>PV.int (a+(i:Int)*c)
def Hx{a c:Int}{n i:Nat}(h:i<n):(tQ a c n)[i]? =some (.int (a+(i:Int)*c)):=by
 unfold tQ;rw[br,fJ h];rfl
def zw{a c:Int}{n:Nat}:(tQ a c n).length=n:=by simp[tQ]
def MW.range{I:Addr}(a c:Int)(n:Nat):
  MW C (tQ a c n) I (· =I) (fun _=>True) (fun i σ s=>IsRangeIter s.heap I (a+(i:Int)*c) ((n:Int)-(i:Int)) c) (fun i _ σ s=>IsRangeIter s.heap I (a+(i:Int)*c) ((n:Int)-(i:Int)) c) where
 objs:=fun i σ s h b hb=>by
  obtain⟨o,ho,fs,hc,hd⟩:=pG h;exact⟨o,by rw[hb];exact ho,j5.of hc hd (by decide)⟩
 objsM:=fun i _ σ s h b hb=>by
  obtain⟨o,ho,fs,hc,hd⟩:=pG h;exact⟨o,by rw[hb];exact ho,j5.of hc hd (by decide)⟩
 keep:=fun own i σ s σ' s' x hW h=>pY x hW rfl h
 item:=fun A i σ s st Q E hh hi K hc h hQ=>by
  rw[zw]at hi;refine wpAny_pyNext_range_item h (by omega) fun h' DU hs=> ?_;have e1:a+((i+1:Nat):Int)*c=a+(i:Int)*c+c:=by push_cast;rw[Int.add_mul,Int.one_mul,Int.add_assoc]
  have e2:(n:Int)-((i+1:Nat):Int)=(n:Int)-(i:Int)-1:=by push_cast;omega
  refine hQ _ _ _ (Hx hi) (kB _ _) ?_ ⟨fun b o hb e=>(hs.2 b hb).trans e,rfl,rfl⟩;rw[e1,e2];exact DU
 done:=fun A σ s st Q E hh K hc h hQ=>by
  rw[zw]at h;exact wpAny_pyNext_range_end hh h (by omega) fun h' hs=>hQ _ ⟨fun b o hb e=>hs b o hb e,rfl,rfl⟩
 self:=fun A i σ s Q E h hQ=>fT h hQ
 go:=fun A es k pos i v σ s Q E h hQ=>by
  obtain⟨o,ho,fs,hc,hd⟩:=pG h;exact sZ ho hc hd (by decide) (hQ s h tH.refl)
end
end
section
open PySem PyProof.Rows
open Builtin
section
variable{C:Cx}{sc:Scope}{env:Env}{σ σ':List Addr}{s s' s₁:Shared}{ρ:ie}{st gV:St}{A:Around}{n:Nat}{Q:aa}{E:aa}
def mP(C:Cx)(A:Around)(fv:Value)(args:List PV)(st:St)(v:PV):Prop:=
 ∀(σ:List Addr)(s:Shared)(vals:List Value)(Q:aa)(E:aa),Ok C σ s st->iL C σ s.heap args vals->
  (∀val σ' s',iO g_ σ s σ' s'->Ok C σ' s' st->VR C σ' s'.heap v val->Q val s')->wpAny C.M A (call fv vals) Q E s
def sP{h:Heap}{a b:Int}{v:Value}(x:VR C σ h (.rng a b) v):∃r t u w,v= .ref r/\r∉σ/\IsRange h r a b 1 t u w/\0<=a/\a<=100000/\ -100000<=b/\b<=100000:=by
 rw[VR]at x;obtain⟨r,o,rfl,hn,ho,t,u,w,rfl,hb⟩:=x;exact⟨r,t,u,w,rfl,hn,ho,hb⟩
def Uu{args:List PV}{v:PV}(hx:iR st "len" args=some v):mP C A (.builtin "len") args st v:=by
 intro σ s vals Q E K V h;unfold iR at hx;simp only[bJ,bY]at hx;have seq:∀{x:PV}{l:List PV}{val:Value},gM st x=some l->(∀a b,x≠ .rng a b)->VR C σ s.heap x val->v= .int l.length->wpAny C.M A (call (.builtin "len") [val]) Q E s:=by
  intro x l val hc hr hv he;subst he;obtain⟨a,o,vs,T,hT,rfl,ho,so,r,hl⟩:=qD K hc hv hr;have e:(vs.toArray.size:Int)=l.length:=by simp[r.length]
  rcases hT with rfl|rfl
  ·refine PyProof.Rows.len_list (so.isList ho) (by simpa using mQ hl) ?_;rw[e];exact ic K (iG.toks s _) (kB _ _) h
  ·refine PyProof.Rows.len_tuple (so.isTup ho) (by simpa using mQ hl) ?_;rw[e];exact ic K (iG.toks s _) (kB _ _) h
 split at hx
 ·cases hx;obtain⟨w,rfl,x⟩:=j4 V;obtain⟨y,t,rfl,rfl,hl⟩:=gW x;refine PySem.P.len_str (by have:=mQ hl;omega) ?_;rw[nB];exact ic K (iG.toks s _) (kB _ _) h
 ·cases hx;obtain⟨w,rfl,x⟩:=j4 V;rw[VR]at x;obtain⟨a,o,rfl,hn,ho,⟨es,ep,t,rfl,DF,ni,qM,hf⟩,hl⟩:=x;refine PySem.call_len_set ho ⟨rfl,rfl,rfl⟩ rfl hf (by omega) ?_;rw[qM];exact ic K (iG.toks s _) (kB _ _) h
 ·cases hx
 ·rename_i x hr1 hr2 Zw;obtain⟨w,rfl,xv⟩:=j4 V;obtain⟨l,hc,rfl⟩:=aq.mp hx;exact seq hc Zw xv rfl
 ·cases hx
def Ov{args:List PV}{v:PV}(hx:iR st "range" args=some v):mP C A (.type "range") args st v:=by
 intro σ s vals Q E K V h;unfold iR at hx;rw[aD (by decide),aQ (by decide)]at hx;have made:∀(a b:Int)(t u w:Tok)(k:Nat),0<=a->a<=100000-> -100000<=b->b<=100000->v= .rng a b->
   Q (.ref s.heap.objs.size) {s with heap:=s.heap.push {cls:=.type "range",data:=.fields #[.int a t,.int b u,.int 1 w]},toks:=k}:=by
  intro a b t u w k h1 h2 h3 h4 hv;subst hv;refine ic K (iG.trans (iG.push s _) (iG.toks _ k)) ?_ h;rw[VR];exact⟨_,_,rfl,K.fresh_size,aM _ rfl,t,u,w,rfl,h1,h2,h3,h4⟩
 split at hx
 ·split at hx
  ·rename_i q;cases hx;simp only[aA,aJ]at q;obtain⟨w,rfl,x⟩:=j4 V;obtain⟨t,rfl⟩:=ig x;exact PySem.call_range_1 (made 0 _ _ _ _ _ (by omega) (by omega) q.1 q.2 rfl)
  ·cases hx
 ·split at hx
  ·rename_i q;cases hx;simp only[aA,aJ]at q;obtain⟨w1,w2,rfl,x,y⟩:=qo V;obtain⟨t,rfl⟩:=ig x;obtain⟨u,rfl⟩:=ig y;exact PySem.call_range_2 (made _ _ _ _ _ _ q.1.1.1 q.1.1.2 q.1.2 q.2 rfl)
  ·cases hx
 ·cases hx
def items_int{h:Heap}{a:Int}{n:Nat}{acc:Array Value}(hi:ItemsOf (fun i v=>∃t,v= .int (a+(i:Int)*1) t) acc n):iL C σ h ((List.range n).map fun(i:Nat)=>PV.int (a+(i:Int))) acc.toList:=by
 obtain⟨hs,hv⟩:=hi;have key:∀(l:List Value)(k:Nat),(∀(j:Nat)(v:Value),l[j]? =some v->∃t,v=Value.int (a+((k+j:Nat):Int)*1) t)->iL C σ h ((List.range' k l.length).map fun(i:Nat)=>PV.int (a+(i:Int))) l:=by
  intro l
  induction l with
  |nil=>intro k _;exact iL.nil
  |cons x r ih=>
   intro k hj;rw[aE,List.range'_succ,aL];obtain⟨t,rfl⟩:=hj 0 x rfl;refine iL.cons ?_ (ih (k+1) fun j v e=> ?_)
   ·have:a+((k+0:Nat):Int)*1=a+(k:Int):=by omega
    rw[this];exact kB _ _
   ·have:=hj (j+1) v (by simpa using e);rw[show k+1+j=k+(j+1) by omega];exact this
 have:=key acc.toList 0 fun j v e=>by
  have:=hv j v (by simpa using e);rw[bz];exact this
 rw[bf,hs,<-List.range_eq_range']at this;exact this
def RC(hh:A.handled=none){args:List PV}{v:PV}(hx:iR st "list" args=some v):mP C A (.type "list") args st v:=by
 intro σ s vals Q E K V h;unfold iR at hx;rw[aD (by decide),aD (by decide),aQ (by decide)]at hx;split at hx
 ·rename_i a b;cases hx;obtain⟨w,rfl,x⟩:=j4 V;obtain⟨r,t,u,w,rfl,hn,hr,h1,h2,h3,h4⟩:=sP x;have qM:Builtin.Range.rangeSize a b 1=((b-a).toNat:Int):=by rw[rangeSize_one];split<;>omega
  refine PySem.call_list_range hh hr (small_one (by omega) (by omega) (by omega) (by omega)) qM (by omega) fun h' tk acc c' hk hS hi=> ?_;have g:iG s {s with heap:=h',toks:=tk}:=⟨hk,rfl,rfl⟩;have VV:=items_int (C:=C) (σ:=σ) (h:=h') hi;refine ic K g ?_ h;rw[VR];refine⟨_,_,acc.toList,rfl,K.fresh_size,hS,⟨c',rfl,?_⟩,VV⟩;rw[VV.length,aH,di,dY];omega
 ·cases hx
def C0(ns:List Int)(val:Nat->Int)(h:∀i,i<ns.length->ns[i]? =some (val i)):∀k,k<=ns.length->preSum val k=(ns.take k).sum:=by
 intro k
 induction k with
 |zero=>intro _;simp[preSum]
 |succ k ih=>
  intro hk;have e:=h k (by omega);rw[preSum,ih (by omega),List.take_add_one,e];simp
def Ku{h:Heap}{ns:List Int}{vs:List Value}(V:iL C σ h (ns.map .int) vs):∀(i:Nat)(v:Value),vs[i]? =some v->∃t,v=Value.int (ns.getD i 0) t:=by
 intro i v hv;obtain⟨p,hp,vr⟩:=V.at hv;rw[br]at hp;obtain⟨m,hm,rfl⟩:=aq.mp hp;obtain⟨t,rfl⟩:=ig vr;exact⟨t,by rw[bF,hm];rfl⟩
def Us(hh:A.handled=none){args:List PV}{v:PV}(hx:iR st "sum" args=some v):mP C A (.builtin "sum") args st v:=by
 intro σ s vals Q E K V h;unfold iR at hx;rw[aD (by decide),aD (by decide),aD (by decide),aQ (by decide)]at hx;split at hx
 ·rename_i l;obtain⟨ns,OJ,rfl⟩:=aq.mp hx;rw[zk OJ]at V;obtain⟨w,rfl,x⟩:=j4 V;obtain⟨a,o,vs,rfl,hn,ho,so,r⟩:=jL x;refine PySem.call_sum_walkG (fy (so.isList ho) ?_);refine⟨s.heap.objs.size,[s.heap.objs.size,a],[s.heap.objs.size],vs.toArray.size,_,_,(fun i=>ns.getD i 0),rfl,Walks.list (A:=A.in1) hh s.heap.objs.size a (dK (bG ho)) vs.toArray,?_,?_,?_,?_⟩
  ·exact⟨⟨_,aM _ rfl,rfl,rfl⟩,(so.isList ho).push _⟩
  ·intro b hb;show b<(s.heap.push _).objs.size;rw[bM];rcases aY.mp hb with rfl|hb
   ·exact Nat.lt_succ_self _
   ·rw[aK.mp hb];exact Nat.lt_succ_of_lt (bG ho)
  ·intro i v hv;exact Ku r i v (by simpa using hv)
  ·intro h' tk t' hk;have e:preSum (fun i=>ns.getD i 0) vs.toArray.size=ns.sum:=by
    have iK:vs.toArray.size=ns.length:=by simp[r.length]
    rw[iK,C0 ns _ (fun i hi=>by rw[bF,aP hi];rfl) ns.length (aV _),d8]
   rw[e];exact ic K (iG.walked s _ hk) (kB _ _) h
 ·cases hx
def Ux(hh:A.handled=none){args:List PV}{v:PV}(hx:iR st "all" args=some v):mP C A (.builtin "all") args st v:=by
 intro σ s vals Q E K V h;unfold iR at hx;rw[aD (by decide),aD (by decide),aD (by decide),aD (by decide),aD (by decide),aD (by decide),aQ (by decide)]at hx;split at hx
 ·rename_i l;obtain⟨bs,V7,rfl⟩:=aq.mp hx;rw[xH V7]at V;obtain⟨w,rfl,x⟩:=j4 V;obtain⟨a,o,vs,rfl,hn,ho,so,r⟩:=jL x;refine PySem.call_all_walk (fy (so.isList ho) ?_);refine⟨s.heap.objs.size,[s.heap.objs.size,a],[s.heap.objs.size],vs.toArray.size,_,_,(fun i=>bs.getD i true),rfl,Walks.list (A:=A.in1) hh s.heap.objs.size a (dK (bG ho)) vs.toArray,?_,?_,?_⟩
  ·exact⟨⟨_,aM _ rfl,rfl,rfl⟩,(so.isList ho).push _⟩
  ·intro i v s' Q' E' hv hq;obtain⟨p,hp,vr⟩:=r.at (i:=i) (v:=v) (by simpa using hv);rw[br]at hp;obtain⟨m,hm,rfl⟩:=aq.mp hp;have:=vm vr;subst this;refine dO ?_;have e:bs.getD i true=m:=by rw[bF,hm];rfl
   rw[<-e];exact hq
  ·intro h' tk hk;have e:(List.range vs.toArray.size).all (fun i=>bs.getD i true)=bs.all id:=by
    have iK:vs.toArray.size=bs.length:=by simp[r.length]
    rw[iK,rE]
   rw[e];exact ic K (iG.walked s _ hk) (by rw[VR]) h
 ·cases hx
def Ut{args:List PV}{v:PV}(hx:iR st "ord" args=some v):mP C A (.builtin "ord") args st v:=by
 intro σ s vals Q E K V h;unfold iR at hx;rw[aD (by decide),aD (by decide),aD (by decide),aD (by decide),aD (by decide),aD (by decide),aD (by decide),aQ (by decide)]at hx;split at hx
 ·cases hx;obtain⟨w,rfl,x⟩:=j4 V;obtain⟨y,t,rfl,e,hl⟩:=gW x;rw[one_sign e];exact PySem.P.ord_of_char (ic K (iG.toks s _) (kB _ _) h)
 ·cases hx
def Uw{args:List PV}{v:PV}(hx:iR st "chr" args=some v):mP C A (.builtin "chr") args st v:=by
 intro σ s vals Q E K V h;unfold iR at hx;rw[aD (by decide),aD (by decide),aD (by decide),aD (by decide),aD (by decide),aD (by decide),aD (by decide),aD (by decide),aQ (by decide)]at hx;split at hx
 ·split at hx
  ·rename_i q;cases hx;simp only[aA,aJ]at q;obtain⟨w,rfl,x⟩:=j4 V;obtain⟨t,rfl⟩:=ig x;exact PyProof.Rows.chr_of_range q.1 (by omega) (ic K (iG.toks s _) (pA rfl (by show 1<=sizeLine;decide)) h)
  ·cases hx
 ·cases hx
def BD{args:List PV}{v:PV}(hx:iR st "isinstance" args=some v):mP C A (.builtin "isinstance") args st v:=by
 intro σ s vals Q E K V h;unfold iR at hx;rw[aD (by decide),aD (by decide),aD (by decide),aD (by decide),aD (by decide),aD (by decide),aD (by decide),aD (by decide),aD (by decide),aD (by decide),aQ (by decide)]at hx;split at hx
 ·split at hx
  ·rename_i q;cases hx;obtain⟨w1,w2,rfl,x,y⟩:=qo V;obtain⟨z,t,rfl,e,hl⟩:=gW x;rw[VR]at y;subst y;rw[aR.mp q];exact PySem.IsiPair.str_bytes (ic K (iG.toks s _) (by rw[VR]) h)
  ·cases hx
 ·cases hx
def Ry{args:List PV}{v:PV}(hx:iR st "type" args=some v):mP C A (.type "type") args st v:=by
 intro σ s vals Q E K V h;unfold iR at hx;rw[aD (by decide),aD (by decide),aD (by decide),aD (by decide),aD (by decide),aD (by decide),aD (by decide),aD (by decide),aD (by decide),aD (by decide),aD (by decide),aD (by decide),aQ (by decide)]at hx;split at hx
 ·cases hx;obtain⟨w,rfl,x⟩:=j4 V;obtain⟨z,t,rfl,e,hl⟩:=gW x;exact PySem.call_type_of (cW s z t) (by decide) (ic K iG.rfl' (by rw[VR]) h)
 ·cases hx
end
def i9.in1'{A:Around}{n:Nat}(R:i9 A n):A.in1.handled=none/\A.in1.units+700<cLine:=⟨R.hh,by have:=R.units;show A.units+1+700<_;omega⟩
section
variable{C:Cx}{sc:Scope}{env:Env}{σ σ':List Addr}{s s' s₁:Shared}{ρ:ie}{st gV:St}{A:Around}{n:Nat}{Q:aa}{E:aa}
def Q9{p q:PV}{va vb:Value}{r:Bool}(hk:A.handled=none/\A.units+700<cLine)(hx:uA p q=some r)(xa:VR C σ s.heap p va)(xb:VR C σ s.heap q vb)(hq:Q (.bool r) s):wpAny C.M A (richCompare .Lt va vb) Q E s:=by
 unfold uA at hx;split at hx
 ·exact tY (a:=.int _) (b:=.int _) hx xa xb hq
 ·exact tY (a:=.str _) (b:=.str _) hx xa xb hq
 ·obtain⟨a,o,xs,rfl,_,ho,so,ra⟩:=jL xa;obtain⟨b,o',ys,rfl,_,qF,OF,rb⟩:=jL xb;obtain⟨n1,rfl,_⟩:=so;obtain⟨n2,rfl,_⟩:=OF;exact gf (op:=.Lt) ⟨_,ho,rfl⟩ ⟨_,qF,rfl⟩ PySem.F.slot_list_lt
   (wpAny_call (gm PySem.F.slot_list_lt.plain PySem.F.entry_list_lt (PySem.F.slot_list_lt.check _ _ _ _ _ _ _ _ ⟨_,ho,rfl⟩ (PySem.F.args_list_lt_2 _ _) (Bl (R:=wants (fun v s'=>v≠ .notImplemented/\Q v s') E) hx ra rb ho qF ⟨(fun e=>nomatch e),hq⟩)))) (by have:=hk.2;omega)
 ·cases hx
def Rj{p q:PV}{va vb:Value}{r:Bool}(hk:A.handled=none/\A.units+700<cLine)(hx:uA q p=some r)(xa:VR C σ s.heap p va)(xb:VR C σ s.heap q vb)(hq:Q (.bool r) s):wpAny C.M A (richCompare .Gt va vb) Q E s:=by
 unfold uA at hx;split at hx
 ·exact A3 (a:=.int _) (b:=.int _) hx xa xb hq
 ·exact A3 (a:=.str _) (b:=.str _) hx xa xb hq
 ·obtain⟨a,o,xs,rfl,_,ho,so,ra⟩:=jL xa;obtain⟨b,o',ys,rfl,_,qF,OF,rb⟩:=jL xb;obtain⟨n1,rfl,_⟩:=so;obtain⟨n2,rfl,_⟩:=OF;exact gf (op:=.Gt) ⟨_,ho,rfl⟩ ⟨_,qF,rfl⟩ PySem.F.slot_list_gt
   (wpAny_call (gm PySem.F.slot_list_gt.plain PySem.F.entry_list_gt (PySem.F.slot_list_gt.check _ _ _ _ _ _ _ _ ⟨_,ho,rfl⟩ (PySem.F.args_list_gt_2 _ _) (Bm (R:=wants (fun v s'=>v≠ .notImplemented/\Q v s') E) hx ra rb ho qF ⟨(fun e=>nomatch e),hq⟩)))) (by have:=hk.2;omega)
 ·cases hx
def Lq{R:Result->Shared->Prop}{s0:Shared}{I S:Addr}{fp wr:List Addr}{l:List PV}{vs:List Value}{St:Nat->Heap->Prop}{res:PV}(hr:i9 A n)(W:Walks C.prog C.w A.in1 I fp wr vs.length (fun i v=>vs[i]? =some v) St)
  (hw:∀b∈wr,s0.heap.get? b=none) (We:s0.heap.get? S=none) (hSf:S∉fp) (VV:iL C σ s0.heap l vs):
  ∀(k j:Nat)(s:Shared)(best:PV)(vb:Value)(c:Nat),vs.length-(j+1)=k->j+1<=vs.length->St (j+1) s.heap->iG s0 s->VR C σ s0.heap best vb->vR best (l.drop (j+1))=some res->
  s.heap.get? S=some {cls:=.type "list",dict:=none,data:=.seq #[vb,vb] c,slots:= #[]}->(∀v s',iG s0 s'->VR C σ s0.heap res v->R (.ok (.ret v)) s')->
  codeAny C.M A (.builtin "min.loop" ⟨[.ref I,.none,.ref S],[]⟩) R s:=by
 have MF:S∉wr:=fun h=>hSf (W.sub _ h);have nq:(toString "min"++toString ".loop":String)="min.loop":=by decide
 have iK:=VV.length;have gw:∀{s₁:Shared}{h':Heap}{tk:Nat},iG s0 s₁->(∀b o,b∉wr->s₁.heap.get? b=some o->h'.get? b=some o)->iG s0 {s₁ with heap:=h',toks:=tk}:=fun g hk=>
  ⟨fun b o e=>hk b o (fun hb=>by rw[hw b hb]at e;cases e) (g.keep b o e),g.gens,g.os⟩
 have gS:∀{s₁:Shared}{f:Obj->Obj},iG s0 s₁->iG s0 {s₁ with heap:=s₁.heap.update S f}:=fun g=>
  ⟨fun b o e=>(cX _ _ (fun q:S=b=>by rw[<-q,We]at e;cases e)).trans (g.keep b o e),g.gens,g.os⟩
 intro k
 induction k with
 |zero=>
  intro j s best vb c hk hj kD g I8 j7 hS hR;have qR:j+1=vs.length:=by omega
  rw[dQ (by omega)]at j7;simp only[vR,aW]at j7;subst j7;refine bx PySem.F.entry_min_loop ?_;rw[aZ cY _];show wpAny _ A.in1 (seqItems? (.ref S) >>= _) _ _ s;refine ai (ee hS rfl ?_);show wpAny _ A.in1 (tryCatch (pyNext (.ref I)) _ >>= _) _ _ s;refine ai (eg (W.done s _ _ (qR▸kD) fun h' tk oW=> ?_));have Ae:=oW S _ MF hS;show wpAny _ A.in1 (updateSeq S (fun _=> #[]) >>= _) _ _ _;refine ai ?_;refine d7 Ae rfl (ai (ek (aj ?_)));exact hR vb _ (gS (gw g oW)) I8
 |succ k ih=>
  intro j s best vb c hk hj kD g I8 j7 hS hR;have jQ:j+1<vs.length:=by omega
  have qG:l.drop (j+1)=l[j+1]'(by omega)::l.drop (j+2):=bq (by omega);rw[qG]at j7;refine bx PySem.F.entry_min_loop ?_;rw[aZ cY _];show wpAny _ A.in1 (seqItems? (.ref S) >>= _) _ _ s;refine ai (ee hS rfl ?_);show wpAny _ A.in1 (tryCatch (pyNext (.ref I)) _ >>= _) _ _ s;refine ai (eg (W.item (j+1) s _ _ jQ kD fun v h' tk hP sG oW=> ?_));have Ae:=oW S _ MF hS;have g':=gw (tk:=tk) g oW;obtain⟨p,hp,vp⟩:=VV.at hP;have wF:l[j+1]'(by omega)=p:=by
   rw[aP (by omega)]at hp;exact bX hp
  rw[wF]at j7;unfold vR at j7;have cmp:∃r,uA p best=some r/\vR (if r then p else best) (l.drop (j+2))=some res:=by
   split at j7
   ·rename_i q;exact⟨true,q,j7⟩
   ·rename_i q;exact⟨false,q,j7⟩
   ·cases j7
  obtain⟨r,Qi,j7⟩:=cmp;show wpAny _ A.in1 (tryCatch (holding [v,v] (richCompare .Lt v vb >>= _)) _ >>= _) _ _ _;refine ai (eg (aX (ai (Q9 hr.in1' Qi (vp.grow g') (I8.grow g') ?_))));refine ai (aX (dO ?_));refine ai (ek (aj ?_));cases r with
  |true=>
   simp only[bY]at j7|-;refine ai ?_;refine d7 Ae rfl (ai (ek ?_));rw[nq];exact aj ⟨bD cY _,ih (j+1) _ p v _ (by omega) jQ (W.frame _ _ _ sG fun b SK o e=>(cX _ _ (fun h:S=b=>hSf (by rw[h];exact SK))).trans e) (gS g') vp j7 (cG _ Ae rfl) hR⟩
  |false=>
   simp only[az,a_]at j7|-;refine ai (ek ?_)
   first
    |(rw[nq];exact aj ⟨bD cY _,ih (j+1) _ best vb _ (by omega) jQ sG g' I8 j7 Ae hR⟩)
    |(refine ai (ek ?_);rw[nq];exact aj ⟨bD cY _,ih (j+1) _ best vb _ (by omega) jQ sG g' I8 j7 Ae hR⟩)
def Rz{l:List PV}{a:PV}{v:PV}(hr:i9 A n)(hx:vR a l=some v):mP C A (.builtin "min") [.list (a::l)] st v:=by
 intro σ s vals Q E K V h;have nq:(toString "min"++toString ".loop":String)="min.loop":=by decide
 obtain⟨w,rfl,x⟩:=j4 V;obtain⟨ad,o,vs,rfl,hn,ho,so,VV⟩:=jL x;refine call_function_tree PySem.F.kind_min PySem.F.plain_min PySem.F.entry_min (PySem.F.args_min1 _) ?_;show wpAny _ A.in1 (Builtin.Builtins.bindParams "min" ["key","default"] 0 ⟨[],[]⟩ >>= _) _ _ s;refine ai (bC (show Builtin.Builtins.bindParams "min" ["key","default"] 0 ⟨[],[]⟩=pure [none,none]from rfl) ?_);refine ai (aj ?_);refine ai (fy (so.isList ho) ?_);refine ai (bS ?_);rw[nq];have iK:=VV.length;have W:Walks C.prog C.w A.in1 s.heap.objs.size [s.heap.objs.size,ad] [s.heap.objs.size] vs.length (fun i v=>vs[i]? =some v) (fun i h=>h.IsListIter s.heap.objs.size ad i/\h.IsList ad vs.toArray):=by
  have W0:=Walks.list (prog:=C.prog) (w:=C.w) (A:=A.in1) hr.hh s.heap.objs.size ad (dK (bG ho)) vs.toArray;have e:(fun(i:Nat)(v:Value)=>vs.toArray[i]? =some v)=fun i v=>vs[i]? =some v:=by funext i v;simp
  rw[e,cK]at W0;exact W0
 have qM:(s.heap.push ({cls:=.type "list_iterator",data:=.fields #[.ref ad,.int 0 0]}:Obj)).objs.size=s.heap.objs.size+1:=bM ..;have kD:∀o,(fun(i:Nat)(h:Heap)=>h.IsListIter s.heap.objs.size ad i/\h.IsList ad vs.toArray) 0 ((s.heap.push {cls:=.type "list_iterator",data:=.fields #[.ref ad,.int 0 0]}).push o):=fun o=>
  ⟨⟨_,aG _ (aM _ rfl),rfl,rfl⟩,((so.isList ho).push _).push _⟩
 have tX:∀a,s.heap.objs.size<=a->s.heap.get? a=none:=fun a ha=>by
  cases e:s.heap.get? a with
  |none=>rfl
  |some o'=>exact absurd (bG e) (Nat.not_lt.mpr ha)
 generalize hH:(s.heap.push ({cls:=.type "list_iterator",data:=.fields #[.ref ad,.int 0 0]}:Obj))=H at qM kD|-;have g0:∀o,iG s {s with heap:=H.push o}:=fun o=>by rw[<-hH];exact(iG.push s _).trans (iG.push {s with heap:=s.heap.push _} o)
 refine aj ⟨bD cY _,?_⟩;have hS:(H.push ({cls:=.type "list",data:=.seq #[]}:Obj)).get? H.objs.size=some {cls:=.type "list",data:=.seq #[]}:=aM _ rfl;have hSf:H.objs.size∉[s.heap.objs.size,ad]:=by
  rw[qM];intro hm;rcases aY.mp hm with q|hm
  ·omega
  ·have:=bG ho;have q:=aK.mp hm;rw[<-q]at this;exact absurd (Nat.lt_of_succ_lt this) (eN _)
 have MF:H.objs.size∉[s.heap.objs.size]:=fun h=>hSf (aY.mpr (.inl (aK.mp h)));have uB:0<vs.length:=by rw[iK];simp
 refine bx PySem.F.entry_min_loop ?_;rw[aZ cY _];show wpAny _ A.in1 (seqItems? (.ref H.objs.size) >>= _) _ _ _;refine ai (ee hS rfl ?_);show wpAny _ A.in1 (tryCatch (pyNext (.ref s.heap.objs.size)) _ >>= _) _ _ _;refine ai (eg (W.item 0 _ _ _ uB (kD _) fun v0 h' tk hP sG oW=> ?_));have Ae:=oW H.objs.size _ MF hS;obtain⟨p,hp,vp⟩:=VV.at (i:=0) (v:=v0) hP;cases hp;show wpAny _ A.in1 (updateSeq H.objs.size (fun _=> #[v0,v0]) >>= _) _ _ _;refine ai ?_;refine d7 Ae rfl ?_;rw[nq];have g1:iG s {s with heap:=h',toks:=tk}:=⟨fun b o e=>oW b o (by simp only[aK];exact dK (bG e)) ((g0 _).keep b o e),rfl,rfl⟩;have jQ:∀{b o},s.heap.get? b=some o->H.objs.size≠b:=fun e q=>by have:=bG e;rw[<-q,qM]at this;exact absurd (Nat.lt_of_succ_lt this) (eN _)
 refine aj ⟨bD cY _,Lq (s0:=s) hr W (fun b hb=>by rw[aK.mp hb];exact tX _ (aV _)) (tX _ (by omega)) hSf VV _ 0 _ _ v0 _ rfl (Nat.succ_le_of_lt uB) (W.frame _ _ _ sG fun b hb o e=>(cX _ _ (fun q:H.objs.size=b=>hSf (by rw[q];exact hb))).trans e) ?_ vp (by simpa using hx) (cG _ Ae rfl) fun v' s' g' Vo=> ?_⟩
 ·exact⟨fun b o e=>(cX _ _ (jQ e)).trans (g1.keep b o e),rfl,rfl⟩
 ·exact ic K g' (Vo.grow g') h
def Lw{R:Result->Shared->Prop}{s0:Shared}{I S:Addr}{fp wr:List Addr}{l:List PV}{vs:List Value}{St:Nat->Heap->Prop}{res:PV}(hr:i9 A n)(W:Walks C.prog C.w A.in1 I fp wr vs.length (fun i v=>vs[i]? =some v) St)
  (hw:∀b∈wr,s0.heap.get? b=none) (We:s0.heap.get? S=none) (hSf:S∉fp) (VV:iL C σ s0.heap l vs):
  ∀(k j:Nat)(s:Shared)(best:PV)(vb:Value)(c:Nat),vs.length-(j+1)=k->j+1<=vs.length->St (j+1) s.heap->iG s0 s->VR C σ s0.heap best vb->qN best (l.drop (j+1))=some res->
  s.heap.get? S=some {cls:=.type "list",dict:=none,data:=.seq #[vb,vb] c,slots:= #[]}->(∀v s',iG s0 s'->VR C σ s0.heap res v->R (.ok (.ret v)) s')->
  codeAny C.M A (.builtin "max.loop" ⟨[.ref I,.none,.ref S],[]⟩) R s:=by
 have MF:S∉wr:=fun h=>hSf (W.sub _ h);have nq:(toString "max"++toString ".loop":String)="max.loop":=by decide
 have iK:=VV.length;have gw:∀{s₁:Shared}{h':Heap}{tk:Nat},iG s0 s₁->(∀b o,b∉wr->s₁.heap.get? b=some o->h'.get? b=some o)->iG s0 {s₁ with heap:=h',toks:=tk}:=fun g hk=>
  ⟨fun b o e=>hk b o (fun hb=>by rw[hw b hb]at e;cases e) (g.keep b o e),g.gens,g.os⟩
 have gS:∀{s₁:Shared}{f:Obj->Obj},iG s0 s₁->iG s0 {s₁ with heap:=s₁.heap.update S f}:=fun g=>
  ⟨fun b o e=>(cX _ _ (fun q:S=b=>by rw[<-q,We]at e;cases e)).trans (g.keep b o e),g.gens,g.os⟩
 intro k
 induction k with
 |zero=>
  intro j s best vb c hk hj kD g I8 j7 hS hR;have qR:j+1=vs.length:=by omega
  rw[dQ (by omega)]at j7;simp only[qN,aW]at j7;subst j7;refine bx PySem.F.entry_max_loop ?_;rw[aZ cZ _];show wpAny _ A.in1 (seqItems? (.ref S) >>= _) _ _ s;refine ai (ee hS rfl ?_);show wpAny _ A.in1 (tryCatch (pyNext (.ref I)) _ >>= _) _ _ s;refine ai (eg (W.done s _ _ (qR▸kD) fun h' tk oW=> ?_));have Ae:=oW S _ MF hS;show wpAny _ A.in1 (updateSeq S (fun _=> #[]) >>= _) _ _ _;refine ai ?_;refine d7 Ae rfl (ai (ek (aj ?_)));exact hR vb _ (gS (gw g oW)) I8
 |succ k ih=>
  intro j s best vb c hk hj kD g I8 j7 hS hR;have jQ:j+1<vs.length:=by omega
  have qG:l.drop (j+1)=l[j+1]'(by omega)::l.drop (j+2):=bq (by omega);rw[qG]at j7;refine bx PySem.F.entry_max_loop ?_;rw[aZ cZ _];show wpAny _ A.in1 (seqItems? (.ref S) >>= _) _ _ s;refine ai (ee hS rfl ?_);show wpAny _ A.in1 (tryCatch (pyNext (.ref I)) _ >>= _) _ _ s;refine ai (eg (W.item (j+1) s _ _ jQ kD fun v h' tk hP sG oW=> ?_));have Ae:=oW S _ MF hS;have g':=gw (tk:=tk) g oW;obtain⟨p,hp,vp⟩:=VV.at hP;have wF:l[j+1]'(by omega)=p:=by
   rw[aP (by omega)]at hp;exact bX hp
  rw[wF]at j7;unfold qN at j7;have cmp:∃r,uA best p=some r/\qN (if r then p else best) (l.drop (j+2))=some res:=by
   split at j7
   ·rename_i q;exact⟨true,q,j7⟩
   ·rename_i q;exact⟨false,q,j7⟩
   ·cases j7
  obtain⟨r,Qi,j7⟩:=cmp;show wpAny _ A.in1 (tryCatch (holding [v,v] (richCompare .Gt v vb >>= _)) _ >>= _) _ _ _;refine ai (eg (aX (ai (Rj hr.in1' Qi (vp.grow g') (I8.grow g') ?_))));refine ai (aX (dO ?_));refine ai (ek (aj ?_));cases r with
  |true=>
   simp only[bY]at j7|-;refine ai ?_;refine d7 Ae rfl (ai (ek ?_));rw[nq];exact aj ⟨bD cZ _,ih (j+1) _ p v _ (by omega) jQ (W.frame _ _ _ sG fun b SK o e=>(cX _ _ (fun h:S=b=>hSf (by rw[h];exact SK))).trans e) (gS g') vp j7 (cG _ Ae rfl) hR⟩
  |false=>
   simp only[az,a_]at j7|-;refine ai (ek ?_)
   first
    |(rw[nq];exact aj ⟨bD cZ _,ih (j+1) _ best vb _ (by omega) jQ sG g' I8 j7 Ae hR⟩)
    |(refine ai (ek ?_);rw[nq];exact aj ⟨bD cZ _,ih (j+1) _ best vb _ (by omega) jQ sG g' I8 j7 Ae hR⟩)
def RB{l:List PV}{a:PV}{v:PV}(hr:i9 A n)(hx:qN a l=some v):mP C A (.builtin "max") [.list (a::l)] st v:=by
 intro σ s vals Q E K V h;have nq:(toString "max"++toString ".loop":String)="max.loop":=by decide
 obtain⟨w,rfl,x⟩:=j4 V;obtain⟨ad,o,vs,rfl,hn,ho,so,VV⟩:=jL x;refine call_function_tree PySem.F.kind_max PySem.F.plain_max PySem.F.entry_max (PySem.F.args_max1 _) ?_;show wpAny _ A.in1 (Builtin.Builtins.bindParams "max" ["key","default"] 0 ⟨[],[]⟩ >>= _) _ _ s;refine ai (bC (show Builtin.Builtins.bindParams "max" ["key","default"] 0 ⟨[],[]⟩=pure [none,none]from rfl) ?_);refine ai (aj ?_);refine ai (fy (so.isList ho) ?_);refine ai (bS ?_);rw[nq];have iK:=VV.length;have W:Walks C.prog C.w A.in1 s.heap.objs.size [s.heap.objs.size,ad] [s.heap.objs.size] vs.length (fun i v=>vs[i]? =some v) (fun i h=>h.IsListIter s.heap.objs.size ad i/\h.IsList ad vs.toArray):=by
  have W0:=Walks.list (prog:=C.prog) (w:=C.w) (A:=A.in1) hr.hh s.heap.objs.size ad (dK (bG ho)) vs.toArray;have e:(fun(i:Nat)(v:Value)=>vs.toArray[i]? =some v)=fun i v=>vs[i]? =some v:=by funext i v;simp
  rw[e,cK]at W0;exact W0
 have qM:(s.heap.push ({cls:=.type "list_iterator",data:=.fields #[.ref ad,.int 0 0]}:Obj)).objs.size=s.heap.objs.size+1:=bM ..;have kD:∀o,(fun(i:Nat)(h:Heap)=>h.IsListIter s.heap.objs.size ad i/\h.IsList ad vs.toArray) 0 ((s.heap.push {cls:=.type "list_iterator",data:=.fields #[.ref ad,.int 0 0]}).push o):=fun o=>
  ⟨⟨_,aG _ (aM _ rfl),rfl,rfl⟩,((so.isList ho).push _).push _⟩
 have tX:∀a,s.heap.objs.size<=a->s.heap.get? a=none:=fun a ha=>by
  cases e:s.heap.get? a with
  |none=>rfl
  |some o'=>exact absurd (bG e) (Nat.not_lt.mpr ha)
 generalize hH:(s.heap.push ({cls:=.type "list_iterator",data:=.fields #[.ref ad,.int 0 0]}:Obj))=H at qM kD|-;have g0:∀o,iG s {s with heap:=H.push o}:=fun o=>by rw[<-hH];exact(iG.push s _).trans (iG.push {s with heap:=s.heap.push _} o)
 refine aj ⟨bD cZ _,?_⟩;have hS:(H.push ({cls:=.type "list",data:=.seq #[]}:Obj)).get? H.objs.size=some {cls:=.type "list",data:=.seq #[]}:=aM _ rfl;have hSf:H.objs.size∉[s.heap.objs.size,ad]:=by
  rw[qM];intro hm;rcases aY.mp hm with q|hm
  ·omega
  ·have:=bG ho;have q:=aK.mp hm;rw[<-q]at this;exact absurd (Nat.lt_of_succ_lt this) (eN _)
 have MF:H.objs.size∉[s.heap.objs.size]:=fun h=>hSf (aY.mpr (.inl (aK.mp h)));have uB:0<vs.length:=by rw[iK];simp
 refine bx PySem.F.entry_max_loop ?_;rw[aZ cZ _];show wpAny _ A.in1 (seqItems? (.ref H.objs.size) >>= _) _ _ _;refine ai (ee hS rfl ?_);show wpAny _ A.in1 (tryCatch (pyNext (.ref s.heap.objs.size)) _ >>= _) _ _ _;refine ai (eg (W.item 0 _ _ _ uB (kD _) fun v0 h' tk hP sG oW=> ?_));have Ae:=oW H.objs.size _ MF hS;obtain⟨p,hp,vp⟩:=VV.at (i:=0) (v:=v0) hP;cases hp;show wpAny _ A.in1 (updateSeq H.objs.size (fun _=> #[v0,v0]) >>= _) _ _ _;refine ai ?_;refine d7 Ae rfl ?_;rw[nq];have g1:iG s {s with heap:=h',toks:=tk}:=⟨fun b o e=>oW b o (by simp only[aK];exact dK (bG e)) ((g0 _).keep b o e),rfl,rfl⟩;have jQ:∀{b o},s.heap.get? b=some o->H.objs.size≠b:=fun e q=>by have:=bG e;rw[<-q,qM]at this;exact absurd (Nat.lt_of_succ_lt this) (eN _)
 refine aj ⟨bD cZ _,Lw (s0:=s) hr W (fun b hb=>by rw[aK.mp hb];exact tX _ (aV _)) (tX _ (by omega)) hSf VV _ 0 _ _ v0 _ rfl (Nat.succ_le_of_lt uB) (W.frame _ _ _ sG fun b hb o e=>(cX _ _ (fun q:H.objs.size=b=>hSf (by rw[q];exact hb))).trans e) ?_ vp (by simpa using hx) (cG _ Ae rfl) fun v' s' g' Vo=> ?_⟩
 ·exact⟨fun b o e=>(cX _ _ (jQ e)).trans (g1.keep b o e),rfl,rfl⟩
 ·exact ic K g' (Vo.grow g') h
end
end
section
open PySem PyProof.Rows
open Builtin NumText
def lD{c d:Nat}(h:pD c=some d):c<128/\c≠0/\c≠95/\c≠45/\c≠43/\¬ (c=120\/c=88)/\blank c=false/\d<16/\digit? c=some d:=by
 have hc:c<128:=by
  unfold pD at h;by_cases q:c<128
  ·exact q
  ·exfalso;have h1:(decide (48<=c)&&decide (c<=57))=false:=by simp;omega
   have h2:(decide (97<=c)&&decide (c<=102))=false:=by simp;omega
   have h3:(decide (65<=c)&&decide (c<=70))=false:=by simp;omega
   rw[h1,h2,h3]at h;simp at h
 have all:∀c:_root_.Fin 128,(match pD c.val with
   |none=>true
   |some d=>c.val !=0&&c.val !=95&&c.val !=45&&c.val !=43&&c.val !=120&&c.val !=88&& !blank c.val&&decide (d<16)&&digit? c.val==some d)=true:=by decide+kernel
 have:=all ⟨c,hc⟩;dsimp only at this;rw[h]at this;simp only[aA,bne_iff_ne,ne_eq,cC,aJ,aR]at this;obtain⟨⟨⟨⟨⟨⟨⟨⟨a1,a2⟩,a3⟩,a4⟩,a5⟩,a6⟩,a7⟩,a8⟩,a9⟩:=this;exact⟨hc,a1,a2,a3,a4,fun q=>q.elim a5 a6,a7,a8,a9⟩
def CE:∀(l:ah)(acc:Nat)(ds:Array Nat)(b:Bool)(n:Nat),lJ acc l=some n->ds.foldl (fun a d=>a*16+d) 0=acc->
  ∃SQ:Array Nat,l.foldlM (NumText.step 16) (ds,b)=some (SQ,if l.isEmpty then b else true)/\SQ.foldl (fun a d=>a*16+d) 0=n/\SQ.size=ds.size+l.length
 |[],acc,ds,b,n,h,hd=>by
  simp only[lJ,aW]at h;subst h;exact⟨ds,rfl,hd,rfl⟩
 |c::r,acc,ds,b,n,h,hd=>by
  unfold lJ at h;split at h
  ·rename_i d hv;obtain⟨h1,h2,h3,h4,h5,h6,h7,h8,h9⟩:=lD hv;obtain⟨SQ,e1,e2,e3⟩:=CE r (acc*16+d) (ds.push d) true n h (by rw[Array.foldl_push,hd]);refine⟨SQ,?_,e2,by rw[e3,Array.size_push,aE];omega⟩;rw[List.foldlM_cons];have hs:NumText.step 16 (ds,b) c=some (ds.push d,true):=by
    unfold NumText.step;rw[aD (by simpa using h3),h9];dsimp only;rw[aQ h8]
   rw[hs];show List.foldlM (NumText.step 16) (ds.push d,true) r=_;rw[e1];simp
  ·cases h
def EW{l:ah}{n:Nat}(h:lJ 0 l=some n)(hl:l≠[]):∃ds:Array Nat,digits? 16 l=some ds/\ds.foldl (fun a d=>a*16+d) 0=n/\ds.size=l.length:=by
 obtain⟨ds,e1,e2,e3⟩:=CE l 0 #[] false n h rfl;refine⟨ds,?_,e2,by simpa using e3⟩;have lq:l.isEmpty=false:=by cases l<;>simp_all
 rw[lq]at e1;unfold digits?;rw[e1];rfl
def A2:∀{l:ah}{acc n:Nat},lJ acc l=some n->∀c∈l,∃d,pD c=some d
 |[],_,_,_,_,hc=>by cases hc
 |a::r,acc,n,h,c,hc=>by
  unfold lJ at h;split at h
  ·rename_i d hv;rcases aY.mp hc with rfl|hc
   ·exact⟨d,hv⟩
   ·exact A2 h c hc
  ·cases h
def sC{l:ah}(h:∀c∈l,∃d,pD c=some d):l.dropWhile blank=l:=by
 cases l with
 |nil=>rfl
 |cons a r=>
  obtain⟨d,hd⟩:=h a (aU ..);obtain⟨_,_,_,_,_,_,h7,_⟩:=lD hd;rw[List.dropWhile_cons,h7];rfl
def KX{a:Nat}{r:ah}(h1:a≠45)(h2:a≠43):sign (a::r)=(false,a::r):=by
 unfold sign;split
 ·rename_i q;cases q;exact absurd rfl h1
 ·rename_i q;cases q;exact absurd rfl h2
 ·rfl
def IL{l:ah}(nP:∀c∈l,∃d,pD c=some d):based 16 l=(16,false,l):=by
 unfold based;cases hp:prefix? l with
 |none=>simp
 |some p=>
  have:p≠16:=by
   unfold prefix? at hp;split at hp
   ·rename_i c r;obtain⟨d,hd⟩:=nP c (by simp);obtain⟨_,_,_,_,_,h6,_⟩:=lD hd;rw[aD (by simpa using h6)]at hp;split at hp
    ·cases hp;decide
    ·split at hp
     ·cases hp;decide
     ·cases hp
   ·cases hp
  have:(16==0||16==p)=false:=by simp;omega
  dsimp only;rw[this];rfl
def Le{l:ah}{n:Nat}(h:lJ 0 l=some n)(hl:l≠[]):(int_private%"readNumeral") 0 16 l=(int_private%"Numeral.value") (n:Int):=by
 have nP:=A2 h;obtain⟨ds,e1,e2,e3⟩:=EW h hl;obtain⟨a,r,rfl⟩:=List.exists_cons_of_ne_nil hl;obtain⟨d,hd⟩:=nP a (aU ..);obtain⟨h1,h2,h3,h4,h5,h6,h7,h8,h9⟩:=lD hd;rw[readNumeral_eq,sC nP,KX h4 h5];dsimp only;rw[IL nP];dsimp only;rw[sC (l:=(a::r).reverse) fun c hc=>nP c (fM.mp hc),gk,e1];unfold judge;dsimp only;rw[aD (by simp),aD (by simp),e2];simp
namespace KH
def typeCall_int_2(a b:Value):checkTypeCall "int" ⟨[a,b],[]⟩=pure ():=by kernel_rfl
def newCall_int_2(a b:Value):checkBuiltinCall "int.__new__" ⟨[.type "int",a,b],[]⟩=pure ():=by kernel_rfl
end KH
def G7{M:Model}{A:Around}{E:aa}{s:Shared}{Q:aa}{v:Value}{text:ah}{n:Int}
  (hs:(text.takeWhile (· !=0)).length<=640) (hr:(int_private%"readNumeral") 0 16 (text.takeWhile (· !=0))=(int_private%"Numeral.value") n)
  (ha:((text.takeWhile (· !=0)).length==text.length)=true) (h:Q (.int n s.toks) {s with toks:=s.toks+1}):
  wpAny M A ((int_private%"intFromText") v text 16) Q E s:=by
 obtain⟨hp,g,d,tk,os⟩:=s
 repeat (any_goals(first
  |assumption
  |(with_reducible refine wpAny_ite_true (aT hs) ?_)
  |(with_reducible refine wpAny_ite_true (aT ha) ?_)
  |wp_step))
 all_goals(try rw[hr])
 all_goals(try dsimp only)
 repeat (any_goals(first
  |assumption
  |(with_reducible refine wpAny_ite_true (aT hs) ?_)
  |(with_reducible refine wpAny_ite_true (aT ha) ?_)
  |wp_step))
structure Hid(p:Prop):Prop where
 out:p
def Dc{x:PySem.Str}{u w:Tok}{n:Nat}(hl:x.cps.toList.length<=640)(lq:x.cps.toList≠[])(hn:lJ 0 x.cps.toList=some n):Gives (Builtin.«int.__new__» ⟨[.type "int",.str x u,.int 16 w],[]⟩) (.int n):=
 .of_wp fun M A E s Q h=>by
  have nP:=A2 hn;have zc:x.cps.toList.takeWhile (· !=0)=x.cps.toList:=by
   have:∀l:ah,(∀c∈l,∃d,pD c=some d)->l.takeWhile (· !=0)=l:=by
    intro l
    induction l with
    |nil=>intro _;rfl
    |cons a r ih=>
     intro hl;obtain⟨d,hd⟩:=hl a (aU ..);have h0:(a !=0)=true:=by simpa using(lD hd).2.1
     rw[List.takeWhile_cons,h0,ih fun c hc=>hl c (ay _ hc)];rfl
   exact this _ nP
  have Th:x.cps.all (· <128)=true:=by
   rw[<-Array.all_toList,b9];intro c hc;obtain⟨d,hd⟩:=nP c hc;simpa using(lD hd).1
  have hk:=Hid.mk (And.intro Th (And.intro (And.intro hl (Le hn lq)) zc));clear Th hl lq hn zc nP;obtain⟨hp,g,d,tk,os⟩:=s;have f1:=PySem.F.conv_sub_int;have f2:=PySem.F.madeHere_int
  repeat (any_goals(first
   |assumption
   |((with_reducible show wpAny _ _ ((int_private%"intFromText") _ _ _) _ _ _);rw[aQ hk.out.1];refine G7 (n:=(n:Int)) (by rw[hk.out.2.2];exact hk.out.2.1.1) (by rw[hk.out.2.2];exact hk.out.2.1.2) (by rw[hk.out.2.2];simp) ?_)
   |wp_step))
  all_goals first|exact⟨_,rfl,h⟩|skip
section
variable{C:Cx}{sc:Scope}{env:Env}{σ σ':List Addr}{s s' s₁:Shared}{ρ:ie}{st gV:St}{A:Around}{n:Nat}{Q:aa}{E:aa}
def Uv{args:List PV}{v:PV}(hx:iR st "int" args=some v):mP C A (.type "int") args st v:=by
 intro σ s vals Q E K V h;unfold iR at hx;rw[aD (by decide),aD (by decide),aD (by decide),aD (by decide),aD (by decide),aD (by decide),aD (by decide),aD (by decide),aD (by decide),aQ (by decide)]at hx;split at hx
 ·split at hx
  ·rename_i iK;obtain⟨m,hm,rfl⟩:=aq.mp hx;obtain⟨w1,w2,rfl,x,y⟩:=qo V;obtain⟨z,t,rfl,e,hl⟩:=gW x;obtain⟨u,rfl⟩:=ig y;rw[<-e]at hm;refine callType_new PySem.F.called_int PySem.F.newNe_int (KH.typeCall_int_2 _ _) (KH.newCall_int_2 _ _) (fun obj=>PySem.F.args_object_init_3 obj _ _) PySem.F.entry_int_new
    (Dc (by rw[e,aE];omega) (by rw[e];simp) hm).meets ?_
   exact⟨rfl,ic K (iG.toks s _) (kB _ _) h⟩
  ·cases hx
 ·cases hx
end
end
section
open PySem PyProof.Rows
open Builtin
section
variable{C:Cx}{sc:Scope}{env:Env}{σ σ':List Addr}{s s' s₁:Shared}{ρ:ie}{st gV:St}{A:Around}{n:Nat}{Q:aa}{E:aa}
namespace KI
def sub_str_str:isSubtype (.type "str") (.type "str")=pure true:=by rw[bE];kernel_rfl
def sub_tuple_tuple:isSubtype (.type "tuple") (.type "tuple")=pure true:=by rw[bE];kernel_rfl
def UC:typeOf (.type "str")=pure (.type "type"):=rfl
def sub_type_type:isSubtype (.type "type") (.type "type")=pure true:=by rw[bE];kernel_rfl
end KI
def yR{dep:Int}{tk:Tok}{P:Fin->Shared->Prop}(hq:P (.done (.ret (.bool true))) s):wpAny C.M A (Builtin.«issubclass.nested» ⟨[.type "str",.type "str",.int dep tk],[]⟩) P E s:=by
 obtain⟨h,g,d,t,os⟩:=s;have f1:=KI.sub_str_str
 repeat (any_goals(first|assumption|wp_step))
namespace KI
def kind_issub_nested:builtinKind "issubclass.nested"=none:=by decide+kernel
def plain_issub_nested:plainId "issubclass.nested"=true:=by decide+kernel
def args_issub_nested(a b c:Value):argsOk "issubclass.nested" ⟨[a,b,c],[]⟩:=by unfold argsOk;kernel_rfl
end KI
def C_{tp:Addr}{c:Value}{o:Obj}{tk:Tok}{P:Fin->Shared->Prop}(ho:s.heap.get? tp=some o)(so:ki "tuple" o [.type "str",c])(hq:P (.done (.ret (.bool true))) s):
  wpAny C.M A (Builtin.«issubclass.nested» ⟨[.type "str",.ref tp,.int 0 tk],[]⟩) P E s:=by
 obtain⟨k,rfl,_⟩:=so;have hT:s.TypeIs (.ref tp) "tuple":=⟨_,ho,rfl⟩;unfold Builtin.«issubclass.nested»;refine ai (fS hT ?_);refine fW (by decide) ?_;unfold Builtins.unionMembers;refine ai (ai (fS hT (fW (by decide) (aj ?_))));refine ai (cA hT KI.sub_tuple_tuple ?_);refine wpAny_ite_true (by decide) ?_;refine fW (by decide) ?_;refine ai (ee ho rfl ?_);refine ai ?_;refine wpAny_arrayLoop ?_;simp only[eU,List.toList_toArray,b8];refine ai (ai (call_function_meets KI.kind_issub_nested KI.plain_issub_nested PySem.F.entry_issubclass_nested (KI.args_issub_nested _ _ _) (fun prog w A R s'(h':R (.ok (.ret (.bool true))) s')=>yR (C:=⟨prog,w,default,fun _=>none⟩) h') ?_));refine ai (m:=truthy (.bool true)) (aj ?_);exact ai (aj (aj (aj (aj hq))))
def Ow{args:List PV}{v:PV}(hx:iR st "issubclass" args=some v):mP C A (.builtin "issubclass") args st v:=by
 intro σ s vals Q E K V h;unfold iR at hx;rw[aD (by decide),aD (by decide),aD (by decide),aD (by decide),aD (by decide),aD (by decide),aD (by decide),aD (by decide),aD (by decide),aD (by decide),aD (by decide),aQ (by decide)]at hx;split at hx
 ·split at hx
  ·rename_i q;cases hx;simp only[aA,aR]at q;obtain⟨⟨rfl,rfl⟩,rfl⟩:=q;obtain⟨w1,w2,rfl,x,y⟩:=qo V;rw[VR]at x;subst x;obtain⟨a,o,vs,rfl,hn,ho,so,r⟩:=kM y;obtain⟨u1,u2,rfl,r1,r2⟩:=qo r;rw[VR]at r1;subst r1;exact call_function_tree PySem.F.kind_issubclass PySem.F.plain_issubclass PySem.F.entry_issubclass (PySem.F.args_issubclass_2 _ _)
    (issubclass_outer (prog:=C.prog) (w:=C.w) (A:=A) (R:=wants Q E) (C_ (C:=C) ho so (ic K iG.rfl' (by rw[VR]) h)))
  ·cases hx
 ·cases hx
def RA(hh:A.handled=none){a b:Int}:mP C A (.builtin "max") [.int a,.int b] st (.int (max a b)):=by
 intro σ s vals Q E K V h;obtain⟨w1,w2,rfl,x,y⟩:=qo V;obtain⟨t,rfl⟩:=ig x;obtain⟨u,rfl⟩:=ig y;refine PySem.max_two_ints hh fun h' tk hk=> ?_;have g:iG s {s with heap:=h',toks:=tk}:=⟨hk,rfl,rfl⟩;by_cases q:b>a
 ·rw[aQ q];have:max a b=b:=by omega
  exact ic K g (by rw[this];exact kB _ _) h
 ·rw[aD q];have:max a b=a:=by omega
  exact ic K g (by rw[this];exact kB _ _) h
end
namespace FZ
def sq:mroOf (.type "frozenset")=pure [.type "frozenset",.type "object"]:=by rw[mroOf_type];kernel_rfl
def EI:typeLookup (.type "frozenset") "__new__"=pure (some (.builtin "frozenset.__new__")):=by rw[bQ,bh];kernel_rfl
def lookup_init:typeLookup (.type "frozenset") "__init__"=pure (some (.builtin "object.__init__")):=by rw[bQ,bh];kernel_rfl
def HA:Slot "frozenset" "__init__" "object.__init__":=
 .of (owner:="object") (n:="__init__") (by rw[bQ,bh];kernel_rfl) (by decide+kernel) (by decide+kernel) (by decide+kernel)
  (by first|exact .inl (by decide+kernel)|exact .inr (by decide+kernel)) (by rw[bE];kernel_rfl)
def sub_self:isSubtype (.type "frozenset") (.type "frozenset")=pure true:=by rw[bE];kernel_rfl
def called:TypeCalled "frozenset" "frozenset.__new__" "object.__init__":=
 ⟨by decide+kernel,by decide+kernel,⟨_,_,sq⟩,madeBy_type sq EI (by decide+kernel),by decide+kernel,sub_self,HA⟩
def typeCall_0:checkTypeCall "frozenset" ⟨[],[]⟩=pure ():=by kernel_rfl
def newCall_0:checkBuiltinCall "frozenset.__new__" ⟨[.type "frozenset"],[]⟩=pure ():=by kernel_rfl
def RK(a:Value):checkTypeCall "frozenset" ⟨[a],[]⟩=pure ():=by kernel_rfl
def Se(a:Value):checkBuiltinCall "frozenset.__new__" ⟨[.type "frozenset",a],[]⟩=pure ():=by kernel_rfl
def entry_new:entryFor table "frozenset.__new__"=some Builtin.«frozenset.__new__»:=dc (by kernel_rfl)
def newNe:(some "frozenset.__new__" !=some "object.__new__")=true:=by decide+kernel
def args_init_1(a:Value):argsOk "object.__init__" ⟨[a],[]⟩:=by
 unfold argsOk;rw[fF (id:="object.__init__") (n:=['_','_','t','i','n','i','_','_']) (o:=['t','c','e','j','b','o']) (by kernel_rfl) PySem.F.owner_object];kernel_rfl
end FZ
section
variable{C:Cx}{sc:Scope}{env:Env}{σ σ':List Addr}{s s' s₁:Shared}{ρ:ie}{st gV:St}{A:Around}{n:Nat}{Q:aa}{E:aa}
def rJ:Meets (Builtin.«frozenset.__new__» ⟨[.type "frozenset"],[]⟩) (fun _ R s=>∀led:Bool,
  R (.ok (.ret (.ref s.heap.objs.size))) {s with heap:=s.heap.push {cls:=.type "frozenset",dict:=none,data:=.set #[] 0 (.fresh 0 0 led)}}):=
 .of_wp fun prog w A R s h=>by
  unfold Builtin.«frozenset.__new__» Builtin.Frozenset.newClass;have W4:=FZ.sub_self;have f1:=FZ.lookup_init;obtain⟨hp,g,d,tk,os⟩:=s;dsimp only
  wp_walk
  refine cR (aj ?_);dsimp only;simp only[newObj];refine ai (wpAny_alloc (aj ?_));exact aj ⟨_,rfl,h _⟩
def DA{args:List PV}{v:PV}(hx:iR st "frozenset" args=some v):mP C A (.type "frozenset") args st v:=by
 intro σ s vals Q E K V h;unfold iR at hx;rw[aD (by decide),aD (by decide),aD (by decide),aD (by decide),aD (by decide),aD (by decide),aD (by decide),aD (by decide),aD (by decide),aD (by decide),aD (by decide),aD (by decide),aD (by decide),aQ (by decide)]at hx;split at hx
 ·cases hx;have:=B_ V;subst this;refine callType_new FZ.called FZ.newNe FZ.typeCall_0 FZ.newCall_0 (fun obj=>FZ.args_init_1 obj) FZ.entry_new rJ fun led=> ?_;refine⟨⟨_,aM _ rfl,rfl⟩,?_⟩;refine ic K (iG.push s _) ?_ h;rw[VR];refine⟨_,_,rfl,K.fresh_size,aM _ rfl,0,by omega,#[],0,_,rfl,fun e he=>by simp at he,fun k=> ?_,rfl,rfl⟩;unfold DW;split<;>simp
 ·cases hx
def CM:List (Str×Value):=[("len",.builtin "len"),("range",.type "range"),("list",.type "list"),("sum",.builtin "sum"),("max",.builtin "max"),("min",.builtin "min"),("all",.builtin "all"),
 ("ord",.builtin "ord"),("chr",.builtin "chr"),("int",.type "int"),("isinstance",.builtin "isinstance"),("issubclass",.builtin "issubclass"),("type",.type "type"),("frozenset",.type "frozenset")]
def w5(f:Str):Option Value:=(CM.find? fun p=>p.1==f).map (·.2)
def ID{f:Str}{fv:Value}(h:w5 f=some fv):(∃id,fv= .builtin id)\/∃T,fv= .type T:=by
 unfold w5 at h;obtain⟨p,hp,rfl⟩:=aq.mp h;have hm:=List.mem_of_find?_eq_some hp;unfold CM at hm;simp only[aY,fN,or_false]at hm;rcases hm with rfl|rfl|rfl|rfl|rfl|rfl|rfl|rfl|rfl|rfl|rfl|rfl|rfl|rfl<;>first|exact .inl ⟨_,rfl⟩|exact .inr ⟨_,rfl⟩
def EY{f:Str}{args:List PV}{v:PV}(hr:i9 A n)(hx:iR st f args=some v):∃fv,w5 f=some fv/\bootBuiltins f=some fv/\f∈jf/\mP C A fv args st v:=by
 have mem:∀{g:Str}{fv:Value},w5 g=some fv->bootBuiltins g=some fv->g∈jf->mP C A fv args st v->∃fv,w5 g=some fv/\bootBuiltins g=some fv/\g∈jf/\mP C A fv args st v:=
  fun h1 h2 h3 h4=>⟨_,h1,h2,h3,h4⟩
 by_cases h1:f="len"
 ·subst h1;exact mem rfl (by decide+kernel) (by decide) (Uu hx)
 by_cases h2:f="range"
 ·subst h2;exact mem rfl (by decide+kernel) (by decide) (Ov hx)
 by_cases h3:f="list"
 ·subst h3;exact mem rfl (by decide+kernel) (by decide) (RC hr.hh hx)
 by_cases h4:f="sum"
 ·subst h4;exact mem rfl (by decide+kernel) (by decide) (Us hr.hh hx)
 by_cases h5:f="max"
 ·subst h5;refine mem rfl (by decide+kernel) (by decide) ?_;unfold iR at hx;rw[aD (by decide),aD (by decide),aD (by decide),aD (by decide),aQ (by decide)]at hx;split at hx
  ·cases hx;exact RA hr.hh
  ·exact RB hr hx
  ·cases hx
 by_cases h6:f="min"
 ·subst h6;refine mem rfl (by decide+kernel) (by decide) ?_;unfold iR at hx;rw[aD (by decide),aD (by decide),aD (by decide),aD (by decide),aD (by decide),aQ (by decide)]at hx;split at hx
  ·exact Rz hr hx
  ·cases hx
 by_cases h7:f="all"
 ·subst h7;exact mem rfl (by decide+kernel) (by decide) (Ux hr.hh hx)
 by_cases h8:f="ord"
 ·subst h8;exact mem rfl (by decide+kernel) (by decide) (Ut hx)
 by_cases h9:f="chr"
 ·subst h9;exact mem rfl (by decide+kernel) (by decide) (Uw hx)
 by_cases R_:f="int"
 ·subst R_;exact mem rfl (by decide+kernel) (by decide) (Uv hx)
 by_cases R9:f="isinstance"
 ·subst R9;exact mem rfl (by decide+kernel) (by decide) (BD hx)
 by_cases y9:f="issubclass"
 ·subst y9;exact mem rfl (by decide+kernel) (by decide) (Ow hx)
 by_cases Ve:f="type"
 ·subst Ve;exact mem rfl (by decide+kernel) (by decide) (Ry hx)
 by_cases Vd:f="frozenset"
 ·subst Vd;exact mem rfl (by decide+kernel) (by decide) (DA hx)
 exfalso;unfold iR at hx;rw[aD (by simpa using h1),aD (by simpa using h2),aD (by simpa using h3),aD (by simpa using h4),aD (by simpa using h5),aD (by simpa using h6),aD (by simpa using h7),aD (by simpa using h8),aD (by simpa using h9),aD (by simpa using R_),aD (by simpa using R9),aD (by simpa using y9),aD (by simpa using Ve),aD (by simpa using Vd)]at hx;cases hx
end
structure Fy(C:Cx):Prop where
 bor:∀(A:Around)(σ:List Addr)(s:Shared)(st:St)(a b:List Int)(va vb:Value)(Q:aa)(E:aa),A.handled=none->Ok C σ s st->VR C σ s.heap (.iset a) va->VR C σ s.heap (.iset b) vb->
  a≠[]->a.length<=20->b.length<=20->(∀val σ' s',iO g_ σ s σ' s'->Ok C σ' s' st->VR C σ' s'.heap (.iset (lP a b)) val->Q val s')->wpAny C.M A (binaryOp .BitOr va vb) Q E s
 xor:∀(A:Around)(σ:List Addr)(s:Shared)(st:St)(a b:List Int)(va vb:Value)(Q:aa)(E:aa),A.handled=none->Ok C σ s st->VR C σ s.heap (.iset a) va->VR C σ s.heap (.iset b) vb->
  a.length<=20->b.length<=20->(∀val σ' s',iO g_ σ s σ' s'->Ok C σ' s' st->VR C σ' s'.heap (.iset (lz a b)) val->Q val s')->wpAny C.M A (binaryOp .BitXor va vb) Q E s
section
variable{C:Cx}{sc:Scope}{env:Env}{σ σ':List Addr}{s s' s₁:Shared}{ρ:ie}{st gV:St}{A:Around}{n:Nat}{Q:aa}{E:aa}
def NV{c:Nat}{l:ah}{va vb:Value}(K:Ok C σ s st)(xa:VR C σ s.heap (.str [c]) va)(xb:VR C σ s.heap (.cset l) vb)
  (h:∀s',iO g_ σ s σ s'->Ok C σ s' st->Q (.bool (l.contains c)) s'):wpAny C.M A (compareOp .In va vb) Q E s:=by
 obtain⟨x,t,rfl,e,_⟩:=gW xa;have:=one_sign e;subst this;rw[VR]at xb;obtain⟨a,o,rfl,hn,ho,k,hk,es,ep,tb,rfl,DF,ni,qM,hf⟩:=xb;have hT:s.TypeIs (.ref a) "frozenset":=⟨_,ho,rfl⟩;show wpAny _ _ (do return .bool (<-contains (.ref a) (.str ⟨#[c]⟩ t))) Q E s;refine ai ?_;unfold contains
 try with_reducible refine aX ?_
 refine ai (fm hT e9.lookup ?_);show wpAny _ _ (if(some (Value.builtin "frozenset.__contains__")==some Value.none)=true then _ else _) _ E s;rw[aD (by rw[beq_builtin_none];exact cL)];refine ai (wpAny_callSpecialUnlessNone?_slot (name:=Str.ofString "__contains__") hT e9
  (bW e9 hT PySem.W.FB.entry_frozenset_contains ?_ (PySem.W.FB.args_frozenset_contains_2 _ _)))
 unfold Builtin.«frozenset.__contains__» Builtin.Frozenset.oneOther;simp only[gy,bind_assoc];unfold Builtin.Frozenset.addrOf Builtin.Frozenset.withSetAsKey;refine ai (aj ?_)
 try dsimp only
 refine ai (aj ?_)
 try dsimp only
 refine ai (eg ?_);refine oO (S:=DW l) ho rfl DF ni (by rw[qM];exact Nat.lt_of_le_of_lt hk (by decide)) hf ?_;show wpAny _ _ (ret _) _ _ _;have g:=iG.toks s (s.toks+1);exact aj ⟨_,rfl,dO (aj (h _ g.ext (K.grow g)))⟩
def wz{op:CmpOp}{x y:PV}{va vb:Value}{r:Bool}(hk:i9 A n)(K:Ok C σ s st)(hx:iN st op x y=some r)(xa:VR C σ s.heap x va)(xb:VR C σ s.heap y vb)
  (h:∀s',iO g_ σ s σ s'->Ok C σ s' st->Q (.bool r) s'):wpAny C.M A (compareOp op va vb) Q E s:=by
 refine Oj hk K hx xa xb (fun c l e1 e2 e3=> ?_) h;subst e1 e2 e3;refine NV K xa xb fun s' X K'=> ?_;have:r=l.contains c:=by
  unfold iN at hx;simp only[aW]at hx;exact hx.symm
 subst this;exact h s' X K'
def IG{op:Operator}{x y:PV}{va vb:Value}{v:PV}(I:Fy C)(hk:i9 A n)(K:Ok C σ s st)(hx:jm st op x y=some v)(xa:VR C σ s.heap x va)(xb:VR C σ s.heap y vb)
  (h:∀val σ' s',iO g_ σ s σ' s'->Ok C σ' s' st->VR C σ' s'.heap v val->Q val s'):wpAny C.M A (binaryOp op va vb) Q E s:=by
 by_cases h1:∃a b,x= .int a/\y= .int b
 ·obtain⟨a,b,rfl,rfl⟩:=h1;obtain⟨t,rfl⟩:=ig xa;obtain⟨u,rfl⟩:=ig xb;exact II K hx h
 by_cases h2:∃a b,x= .str a/\y= .str b
 ·obtain⟨a,b,rfl,rfl⟩:=h2;exact IF K hx xa xb h
 by_cases h3:∃a b,x= .str a/\y= .int b
 ·obtain⟨a,b,rfl,rfl⟩:=h3;obtain⟨u,rfl⟩:=ig xb;exact BC K hx xa h
 by_cases h4:∃a b,x= .iset a/\y= .iset b
 ·obtain⟨a,b,rfl,rfl⟩:=h4;unfold jm at hx;dsimp only at hx;split at hx
  ·rename_i q;simp only[aA,aJ]at q;split at hx
   ·split at hx
    ·cases hx
    ·rename_i lq;cases hx;exact I.bor A σ s st a b va vb Q E hk.hh K xa xb (fun e=>lq (by rw[e];rfl)) q.1 q.2 h
   ·cases hx;exact I.xor A σ s st a b va vb Q E hk.hh K xa xb q.1 q.2 h
   ·cases hx
  ·cases hx
 have key:op= .Add/\∃a b,gM st x=some a/\gM st y=some b/\(pQ x&&pQ y)=true/\iP (a++b)=true/\v= .list (a++b):=by
  unfold jm at hx;split at hx
  ·exact absurd ⟨_,_,rfl,rfl⟩ h1
  ·exact absurd ⟨_,_,rfl,rfl⟩ h2
  ·exact absurd ⟨_,_,rfl,rfl⟩ h3
  ·exact absurd ⟨_,_,rfl,rfl⟩ h4
  ·split at hx
   ·split at hx
    ·rename_i a b ha hb;split at hx
     ·rename_i q;cases hx;rw[aA]at q;exact⟨rfl,a,b,ha,hb,q.1,q.2,rfl⟩
     ·cases hx
    ·cases hx
   ·cases hx
 obtain⟨rfl,a,b,ha,hb,hq,hs,rfl⟩:=key;rw[aA]at hq;have ls:∀{z:PV},pQ z=true->(∃k,z= .lst k)\/∃m,z= .list m:=by
  intro z hz;cases z<;>first|exact .inl ⟨_,rfl⟩|exact .inr ⟨_,rfl⟩|(simp[pQ]at hz)
 exact Dy K ha hb hs xa xb (ls hq.1) (ls hq.2) h
def Sd{p:PV}{v:Value}{b:Bool}{Q:Bool->Shared->Prop}(K:Ok C σ s st)(hx:iT st p=some b)(x:VR C σ s.heap p v)
  (h:∀s',iG s s'->Q b s'):wpAny C.M A (truthy v) Q E s:=oE K hx x h
def z_{g:Scope->Expr->ie->St->Option (PV×St)}(S:yJ C n g)(hr:i9 A n):∀(ops:List CmpOp)(es:List Expr)(pos:Pos)(x:PV)(xv:Value)(st gV:St)(σ:List Addr)(s:Shared)(b:Bool)(Q:aa),ops.length=es.length->
  jJ (g sc) ρ x ops es st=some (b,gV)->gP C sc env σ s.heap ρ->Ok C σ s st->VR C σ s.heap x xv->
  (∀σ' s',iO g_ σ s σ' s'->Ok C σ' s' gV->Q (.bool b) s')->wpAny C.M A (compareChain pos xv ops (evalEach es env)) Q E s
 |[],_,_,_,_,_,_,_,_,_,_,_,hx,_,_,_,_=>by unfold jJ at hx;cases hx
 |[op],[],_,_,_,_,_,_,_,_,_,hl,_,_,_,_,_=>by simp at hl
 |[op],[e],pos,x,xv,st,gV,σ,s,b,Q,_,hx,F,K,V,h=>by
  unfold jJ at hx;obtain⟨⟨y,s1⟩,h1,h2⟩:=ak.mp hx;obtain⟨r,h3,h4⟩:=aq.mp h2;cases h4;refine chain_last (S sc e ρ st y _ h1 A env σ s _ E hr F K fun yv jh t1 X1 K1 V1=> ?_);exact wz hr K1 h3 (V.mono X1.mono) V1 fun t2 X2 K2=>h jh t2 (X1.trans X2) K2
 |[op],e::e'::es,_,_,_,_,_,_,_,_,_,hl,_,_,_,_,_=>by simp at hl
 |op::GR::ops,[],_,_,_,_,_,_,_,_,_,hl,_,_,_,_,_=>by simp at hl
 |op::GR::ops,[e],_,_,_,_,_,_,_,_,_,hl,_,_,_,_,_=>by simp at hl
 |op::GR::ops,e::e'::es,pos,x,xv,st,gV,σ,s,b,Q,hl,hx,F,K,V,h=>by
  unfold jJ at hx;obtain⟨⟨y,s1⟩,h1,h2⟩:=ak.mp hx;obtain⟨r,h3,h4⟩:=ak.mp h2;refine chain_link (S sc e ρ st y _ h1 A env σ s _ E hr F K fun yv jh t1 X1 K1 V1=> ?_);refine wz hr K1 h3 (V.mono X1.mono) V1 fun t2 X2 K2=> ?_;refine dO ?_;cases r with
  |false=>
   simp only[az,a_,aW,d_]at h4|-;obtain⟨rfl,rfl⟩:=h4;exact h jh t2 (X1.trans X2) K2
  |true=>
   simp only[bY]at h4|-;exact z_ S hr (GR::ops) (e'::es) pos y yv s1 gV jh t2 b Q (by simpa using hl) h4 ((F.ext X1).ext X2) K2 (V1.mono X2.mono) fun σ' s' X3 K3=>h σ' s' ((X1.trans X2).trans X3) K3
end
section
variable{C:Cx}{sc:Scope}{env:Env}{σ σ':List Addr}{s s' s₁:Shared}{ρ:ie}{st gV:St}{A:Around}{n:Nat}{Q:aa}{E:aa}{r:pK}{v:PV}
def MY{a b:Expr}{op:Operator}{pos:Pos}(S:nU C n r)(I:Fy C)(hr:i9 A n)(F:gP C sc env σ s.heap ρ)(K:Ok C σ s st)
  (hx:((r.E sc a ρ st).bind fun(x,st)=>(r.E sc b ρ st).bind fun(y,st)=>(jm st op x y).map fun v=>(v,st))=some (v,gV))
  (h:∀val σ' s',iO g_ σ s σ' s'->Ok C σ' s' gV->VR C σ' s'.heap v val->Q val s'):wpAny C.M A (eval (.BinOp a op b pos) env) Q E s:=by
 obtain⟨⟨x,s1⟩,h1,hx⟩:=ak.mp hx;obtain⟨⟨y,s2⟩,h2,hx⟩:=ak.mp hx;obtain⟨w,h3,hx⟩:=aq.mp hx;cases hx;refine wpAny_BinOp (S.E sc a ρ _ _ _ h1 A env σ s _ E hr F K fun xv jh t1 X1 K1 V1=> ?_);refine S.E sc b ρ _ _ _ h2 A env jh t1 _ E hr (F.ext X1) K1 fun yv pg t2 X2 K2 V2=> ?_;exact IG I hr K2 h3 (V1.mono X2.mono) V2 fun val sE t3 X3 K3 V3=>h val sE t3 ((X1.trans X2).trans X3) K3 V3
def Qq{a:Expr}{pos:Pos}(S:nU C n r)(hr:i9 A n)(F:gP C sc env σ s.heap ρ)(K:Ok C σ s st)
  (hx:((r.E sc a ρ st).bind fun(x,st)=>match x with
   | .int i=>some (PV.int (-i),st)
   |_=>none)=some (v,gV))
  (h:∀val σ' s',iO g_ σ s σ' s'->Ok C σ' s' gV->VR C σ' s'.heap v val->Q val s'):wpAny C.M A (eval (.UnaryOp .USub a pos) env) Q E s:=by
 obtain⟨⟨x,s1⟩,h1,hx⟩:=ak.mp hx;dsimp only at hx;split at hx
 ·cases hx;refine UnaryOp_ (S.E sc a ρ _ _ _ h1 A env σ s _ E hr F K fun xv jh t1 X1 K1 V1=> ?_);obtain⟨t,rfl⟩:=ig V1;exact PyProof.Rows.neg_int (ic K1 (iG.toks t1 _) (kB _ _) fun val sE t3 X3 K3 V3=>h val sE t3 (X1.trans X3) K3 V3)
 ·cases hx
def Tw{a:Expr}{pos:Pos}(S:nU C n r)(hr:i9 A n)(F:gP C sc env σ s.heap ρ)(K:Ok C σ s st)
  (hx:((r.E sc a ρ st).bind fun(x,st)=>(iT st x).map fun b=>(PV.bool !b,st))=some (v,gV))
  (h:∀val σ' s',iO g_ σ s σ' s'->Ok C σ' s' gV->VR C σ' s'.heap v val->Q val s'):wpAny C.M A (eval (.UnaryOp .Not a pos) env) Q E s:=by
 obtain⟨⟨x,s1⟩,h1,hx⟩:=ak.mp hx;obtain⟨b,h2,hx⟩:=aq.mp hx;cases hx;refine UnaryOp_ (S.E sc a ρ _ _ _ h1 A env σ s _ E hr F K fun xv jh t1 X1 K1 V1=> ?_);exact not_of (oE K1 h2 V1 fun t2 g=>ic K1 g (we _) fun val sE t3 X3 K3 V3=>h val sE t3 (X1.trans X3) K3 V3)
def MX{t a b:Expr}{pos:Pos}(S:nU C n r)(hr:i9 A n)(F:gP C sc env σ s.heap ρ)(K:Ok C σ s st)
  (hx:((r.T sc t ρ st).bind fun(c,st)=>if c then r.E sc a ρ st else r.E sc b ρ st)=some (v,gV))
  (h:∀val σ' s',iO g_ σ s σ' s'->Ok C σ' s' gV->VR C σ' s'.heap v val->Q val s'):wpAny C.M A (eval (.IfExp t a b pos) env) Q E s:=by
 obtain⟨⟨c,s1⟩,h1,hx⟩:=ak.mp hx;refine IfExp_ (S.T sc t ρ _ _ _ h1 A env σ s _ E hr F K fun jh t1 X1 K1=> ?_);cases c with
 |true=>exact S.E sc a ρ _ _ _ hx A env jh t1 _ E hr (F.ext X1) K1 fun val pg t2 X2 K2 V2=>h val pg t2 (X1.trans X2) K2 V2
 |false=>exact S.E sc b ρ _ _ _ hx A env jh t1 _ E hr (F.ext X1) K1 fun val pg t2 X2 K2 V2=>h val pg t2 (X1.trans X2) K2 V2
def Kq{op:BoolOp}{es:List Expr}{pos:Pos}(S:nU C n r)(hr:i9 A n)(F:gP C sc env σ s.heap ρ)(K:Ok C σ s st)
  (hx:iI r sc (.BoolOp op es pos) ρ st=some (v,gV))
  (h:∀val σ' s',iO g_ σ s σ' s'->Ok C σ' s' gV->VR C σ' s'.heap v val->Q val s'):wpAny C.M A (eval (.BoolOp op es pos) env) Q E s:=by
 unfold iI at hx;dsimp only at hx;split at hx
 ·exact BoolOp_one (S.E sc _ ρ _ _ _ hx A env σ s _ E hr F K h)
 ·rename_i a b lT _;obtain⟨⟨x,s1⟩,h1,hx⟩:=ak.mp hx;obtain⟨t,h2,hx⟩:=ak.mp hx;cases op with
  |And=>
   refine BoolOp_and (S.E sc _ ρ _ _ _ h1 A env σ s _ E hr F K fun xv jh t1 X1 K1 V1=> ?_);refine oE K1 h2 V1 fun t2 g=> ?_;cases t with
   |true=>
    simp only[bY]at hx|-;exact S.E sc _ ρ _ _ _ hx A env jh t2 _ E hr ((F.ext X1).ext g.ext) (K1.grow g) fun val sE t3 X3 K3 V3=>h val sE t3 ((X1.trans g.ext).trans X3) K3 V3
   |false=>
    simp only[az,a_]at hx|-;cases hx;exact h _ jh t2 (X1.trans g.ext) (K1.grow g) (V1.grow g)
  |Or=>
   refine BoolOp_or (S.E sc _ ρ _ _ _ h1 A env σ s _ E hr F K fun xv jh t1 X1 K1 V1=> ?_);refine oE K1 h2 V1 fun t2 g=> ?_;cases t with
   |false=>
    simp only[az,a_]at hx|-;exact S.E sc _ ρ _ _ _ hx A env jh t2 _ E hr ((F.ext X1).ext g.ext) (K1.grow g) fun val sE t3 X3 K3 V3=>h val sE t3 ((X1.trans g.ext).trans X3) K3 V3
   |true=>
    simp only[bY]at hx|-;cases hx;exact h _ jh t2 (X1.trans g.ext) (K1.grow g) (V1.grow g)
 ·cases hx
def G6{a:Expr}{ops:List CmpOp}{es:List Expr}{pos:Pos}(S:nU C n r)(hr:i9 A n)(F:gP C sc env σ s.heap ρ)(K:Ok C σ s st)
  (hx:iI r sc (.Compare a ops es pos) ρ st=some (v,gV))
  (h:∀val σ' s',iO g_ σ s σ' s'->Ok C σ' s' gV->VR C σ' s'.heap v val->Q val s'):wpAny C.M A (eval (.Compare a ops es pos) env) Q E s:=by
 unfold iI at hx;dsimp only at hx;split at hx
 ·cases hx
 ·rename_i q;simp only[cH,bne_iff_ne,ne_eq,not_or,fO,Decidable.not_not]at q;obtain⟨⟨x,s1⟩,h1,hx⟩:=ak.mp hx;obtain⟨⟨b,s2⟩,h2,hx⟩:=aq.mp hx;cases hx;show wpAny C.M A (do compareChain pos (<-eval a env) ops (markedEach ops es (evalEach es env))) Q E s;rw[markedEach_of_false _ _ _ q.1];refine ai (S.E sc a ρ _ _ _ h1 A env σ s _ E hr F K fun xv jh t1 X1 K1 V1=> ?_);exact z_ S.E hr ops es pos x xv _ _ jh t1 b Q q.2 h2 (F.ext X1) K1 V1 fun pg t2 X2 K2=>h _ pg t2 (X1.trans X2) K2 (we _)
def MU{es:List Expr}{k:Nat}{pos:Pos}(S:nU C n r)(hr:i9 A n)(F:gP C sc env σ s.heap ρ)(K:Ok C σ s st)
  (hx:((ja (r.E sc) ρ es st).bind fun(vs,st)=>if iP vs then some (PV.tup vs,st)else none)=some (v,gV))
  (h:∀val σ' s',iO g_ σ s σ' s'->Ok C σ' s' gV->VR C σ' s'.heap v val->Q val s'):wpAny C.M A (eval (.Tuple es k pos) env) Q E s:=by
 obtain⟨⟨vs,s1⟩,h1,hx⟩:=ak.mp hx;dsimp only at hx;split at hx
 ·rename_i q;cases hx;refine wpAny_Tuple ?_;rw[lE h1,oH];refine nA S.E es st _ vs σ s _ h1 hr F K fun vals jh t1 X1 K1 V1=> ?_;have hl:vals.length<=sizeLine:=by rw[V1.length];exact lU (jZ q)
  exact⟨hl,ic K1 (iG.push t1 _) (uM K1 V1 hl) fun val sE t3 X3 K3 V3=>h val sE t3 (X1.trans X3) K3 V3⟩
 ·cases hx
def Ok.new{c:jv}{o:Obj}(K:Ok C σ s st)(ho:o.isFreed=false)(hc:wU C (σ++[s.heap.objs.size]) (s.heap.push o) s.heap.objs.size c):
  Ok C (σ++[s.heap.objs.size]) {s with heap:=s.heap.push o} (st++[c])/\iO g_ σ s (σ++[s.heap.objs.size]) {s with heap:=s.heap.push o}:=by
 have fresh:s.heap.get? s.heap.objs.size=none:=by
  cases e:s.heap.get? s.heap.objs.size with
  |none=>rfl
  |some o'=>exact absurd (bG e) (eN _)
 have X:iO g_ σ s (σ++[s.heap.objs.size]) {s with heap:=s.heap.push o}:=
  ⟨⟨_,rfl⟩,fun a h1 h2=>by
   rcases bl.mp h1 with h1|h1
   ·exact absurd h1 h2
   ·rw[aK.mp h1];exact fresh,fun b o' e _ _=>aG o e,fun _ _ q=>q.elim,rfl,rfl⟩
 refine⟨⟨fun b o' e=>aG o (K.base b o' e),fun a ha=> ?_,by rw[aB,aB,K.len];rfl,?_,fun k a d ha hd=> ?_⟩,X⟩
 ·rcases bl.mp ha with ha|ha
  ·exact K.fresh0 a ha
  ·rw[aK.mp ha];cases e:C.h₀.get? s.heap.objs.size with
   |none=>rfl
   |some o'=>rw[K.base _ o' e]at fresh;cases fresh
 ·exact cD.mpr ⟨K.nodup,by simp,fun a ha b hb=>by
   rw[aK.mp hb];exact fun q=>K.fresh_size (q▸ha)⟩
 ·by_cases hk:k<σ.length
  ·rw[bk hk]at ha;rw[bk (by rw[<-K.len];exact hk)]at hd;obtain⟨o',qF,_⟩:=K.has (bL ha);exact(K.cells k a d ha hd).mono X.mono ((aG o qF).trans qF.symm)
  ·have oW:k=σ.length:=by
    have:=(aF.mp ha).1;rw[aB,cy]at this;omega
   subst oW;rw[bO (aV _)]at ha;rw[K.len,bO (aV _)]at hd;simp only[Nat.sub_self,cO,aW]at ha hd;subst ha hd;exact hc
def Qs{es:List Expr}{pos:Pos}(S:nU C n r)(hr:i9 A n)(F:gP C sc env σ s.heap ρ)(K:Ok C σ s st)
  (hx:((ja (r.E sc) ρ es st).bind fun(vs,st)=>if iP vs then some (PV.lst st.length,st++[jv.lst vs])else none)=some (v,gV))
  (h:∀val σ' s',iO g_ σ s σ' s'->Ok C σ' s' gV->VR C σ' s'.heap v val->Q val s'):wpAny C.M A (eval (.List es pos) env) Q E s:=by
 obtain⟨⟨vs,s1⟩,h1,hx⟩:=ak.mp hx;dsimp only at hx;split at hx
 ·rename_i q;cases hx;refine wpAny_List ?_;rw[lE h1,oH];refine nA S.E es st _ vs σ s _ h1 hr F K fun vals jh t1 X1 K1 V1=> ?_;have hl:vals.length<=sizeLine:=by rw[V1.length];exact lU (jZ q)
  have m:sL jh t1.heap (jh++[t1.heap.objs.size]) (t1.heap.push {cls:=.type "list",data:=.seq vals.toArray}):=
   ⟨⟨_,rfl⟩,fun a h1 h2=>by
    rcases bl.mp h1 with h1|h1
    ·exact absurd h1 h2
    ·rw[aK.mp h1];cases e:t1.heap.get? t1.heap.objs.size with
     |none=>rfl
     |some o'=>exact absurd (bG e) (eN _),fun b o' e _ _=>aG _ e⟩
  obtain⟨K2,X2⟩:=K1.new (c:=.lst vs) (o:={cls:=.type "list",data:=.seq vals.toArray}) rfl ⟨_,vals,aM _ rfl,⟨0,rfl,hl⟩,V1.mono m⟩;refine⟨hl,h _ _ _ (X1.trans X2) K2 ?_⟩;rw[VR];refine⟨_,rfl,?_⟩;rw[<-K1.len,bO (aV _)];simp
 ·cases hx
def Qu{pos:Pos}(K:Ok C σ s st)
  (h:∀val σ' s',iO g_ σ s σ' s'->Ok C σ' s' (st++[jv.dct []])->VR C σ' s'.heap (.dct st.length) val->Q val s'):wpAny C.M A (eval (.Dict [] [] pos) env) Q E s:=by
 rw[eval_Dict_empty];refine ai (cg ?_);refine bS ?_;obtain⟨K2,X2⟩:=K.new (c:=.dct []) (o:={cls:=.type "dict",data:=.dict #[]}) rfl ⟨[],Heap.DictOf.new _,by rw[jc]⟩;refine h _ _ _ X2 K2 ?_;rw[VR];refine⟨_,rfl,?_⟩;rw[<-K.len,bO (aV _)];simp
def AV{g:Scope->Expr->ie->St->Option (PV×St)}(S:yJ C n g)(hr:i9 A n){e:Option Expr}{o:Option Int}(F:gP C sc env σ s.heap ρ)(K:Ok C σ s st)
  (hx:pn (g sc) ρ e st=some (o,gV)) (h:∀val σ' s',iO g_ σ s σ' s'->Ok C σ' s' gV->ow o val->(e=none↔o=none)->Q val s'):wpAny C.M A (valueOrNone (evalOpt e env)) Q E s:=by
 cases e with
 |none=>
  unfold pn at hx;cases hx;exact aj (h _ σ s iO.rfl' K .nil ⟨fun _=>rfl,fun _=>rfl⟩)
 |some e=>
  unfold pn at hx;obtain⟨⟨x,s1⟩,h1,hx⟩:=ak.mp hx;dsimp only at hx;split at hx
  ·cases hx;refine S sc e ρ _ _ _ h1 A env σ s _ E hr F K fun xv jh t1 X1 K1 V1=> ?_;obtain⟨t,rfl⟩:=ig V1;exact h _ jh t1 X1 K1 (.one _ _) ⟨fun q=>(by cases q),fun q=>(by cases q)⟩
  ·cases hx
def MV{a:Expr}{lo hi step:Option Expr}{pp pos:Pos}(S:nU C n r)(hr:i9 A n)(F:gP C sc env σ s.heap ρ)(K:Ok C σ s st)
  (hx:((r.E sc a ρ st).bind fun(x,st)=>(pn (r.E sc) ρ lo st).bind fun(l,st)=>
   (pn (r.E sc) ρ hi st).bind fun(h,st)=>(pn (r.E sc) ρ step st).bind fun(s,st)=>(jj st x l h s).map fun v=>(v,st))=some (v,gV))
  (h:∀val σ' s',iO g_ σ s σ' s'->Ok C σ' s' gV->VR C σ' s'.heap v val->Q val s'):wpAny C.M A (eval (.Subscript a (.Slice lo hi step pp) pos) env) Q E s:=by
 obtain⟨⟨x,s1⟩,h1,hx⟩:=ak.mp hx;obtain⟨⟨l,s2⟩,h2,hx⟩:=ak.mp hx;obtain⟨⟨u,s3⟩,h3,hx⟩:=ak.mp hx;obtain⟨⟨k,s4⟩,h4,hx⟩:=ak.mp hx;obtain⟨w,h5,hx⟩:=aq.mp hx;cases hx;refine Subscript_ (S.E sc a ρ _ _ _ h1 A env σ s _ E hr F K fun xv jh t1 X1 K1 V1=> ?_);show wpAny C.M A (do
  let l<-valueOrNone (evalOpt lo env);let u<-holding [l] (valueOrNone (evalOpt hi env));let s<-holding [l,u] (valueOrNone (evalOpt step env))
  newFields "slice" [l,u,s]) _ E t1
 have F1:=F.ext X1;refine ai (AV S.E hr F1 K1 h2 fun lv pg t2 X2 K2 P2 _=> ?_);have F2:=F1.ext X2;refine ai (aX (AV S.E hr F2 K2 h3 fun uv sE t3 X3 K3 P3 _=> ?_));have F3:=F2.ext X3;refine ai (aX (AV S.E hr F3 K3 h4 fun kv σ4 t4 X4 K4 P4 i4=> ?_));refine bS ?_;have V4:=((V1.mono X2.mono).mono X3.mono).mono X4.mono;exact HC (value:=a) (lo':=lo) (hi':=hi) (step':=step) (pp:=pp) K4 h5 V4 P2 P3 P4 i4 fun val Vm t5 X5 K5 V5=>h val Vm t5 (((((X1.trans X2).trans X3).trans X4)).trans X5) K5 V5
def xX{h:Heap}{k:Str}:∀{l:List (ah×PV)}{kvs:List (Str×Value)}{p:PV},jc C σ h l kvs->m8 k.cps.toList l=some p->∃u,valueAt kvs k=some u/\VR C σ h p u
 |[],_,_,_,e=>by simp[m8]at e
 |(a,q)::l,kvs,p,x,e=>by
  rw[jc]at x;obtain⟨y,u,r',rfl,ey,hv,hr⟩:=x;unfold m8 at e;rw[List.find?_cons]at e;unfold valueAt;rw[List.find?_cons];by_cases hk:y=k
  ·subst hk;have:(a==y.cps.toList)=true:=by simp[ey]
   dsimp only at e;rw[this]at e;simp only[au,aW]at e;subst e;simp only[decide_true,au];exact⟨u,rfl,hv⟩
  ·have:(a==k.cps.toList)=false:=by
    rw[<-ey];apply aO.mpr;intro q';apply hk;obtain⟨c1⟩:=y;obtain⟨c2⟩:=k;congr 1;exact eV.mp q'
   dsimp only at e;rw[this]at e;simp only[hk,decide_false];exact xX hr e
def Ok.dictAt{k:Nat}{l:List (ah×PV)}{u:Value}(K:Ok C σ s st)(hk:st[k]? =some (.dct l))(x:VR C σ s.heap (.dct k) u):
  ∃a kvs,u= .ref a/\σ[k]? =some a/\s.heap.DictOf (PySem.strKind C.prog C.w) a kvs/\jc C σ s.heap l kvs:=by
 rw[VR]at x;obtain⟨a,rfl,ha⟩:=x;obtain⟨kvs,hd,hp⟩:=K.cells k a _ ha hk;exact⟨a,kvs,rfl,ha,hd,hp⟩
def tF:typeLookup (.type "dict") "__getitem__"=pure (some (.builtin "dict.__getitem__")):=slot_dict_getitem.lookup
def N3{value slice:Expr}{p i q:PV}{pv iv:Value}(K:Ok C σ s st)(hx:gZ st p i=some q)(x:VR C σ s.heap p pv)(y:VR C σ s.heap i iv)
  (hs:∀o i,subscripted slice false o i=operate [o,i] (getItem o i))
  (h:∀val σ' s',iO g_ σ s σ' s'->Ok C σ' s' st->VR C σ' s'.heap q val->Q val s'):wpAny C.M A (subscriptTail value slice pv iv) Q E s:=by
 by_cases hi:∃j,i= .int j
 ·obtain⟨j,rfl⟩:=hi;obtain⟨u,rfl⟩:=ig y;exact LH K hx x (fun o=>hs o _) h
 ·have:∃k z,p= .dct k/\i= .str z:=by
   unfold gZ at hx;split at hx
   ·exact absurd ⟨_,rfl⟩ hi
   ·exact⟨_,_,rfl,rfl⟩
   ·exact absurd ⟨_,rfl⟩ hi
   ·cases hx
  obtain⟨k,z,rfl,rfl⟩:=this;unfold gZ at hx;dsimp only at hx;split at hx
  ·rename_i l hk;obtain⟨a,kvs,rfl,ha,hd,hp⟩:=K.dictAt hk x;obtain⟨w,t,rfl,rfl,_⟩:=gW y;obtain⟨u,hu,vu⟩:=xX hp hx;refine tail_any hd.typeIs tF (wpAny_getItem_of (k:=w) (eY ..) hd.mapOf hu ?_) (hs _ _);exact ic K (iG.toks s _) (vu.grow (iG.toks s _)) h
  ·cases hx
def Hv{i:Expr}(hi:∀a b c d,i≠ .Slice a b c d):∀o j,subscripted i false o j=operate [o,j] (getItem o j):=by
 intro o j;cases i<;>first|rfl|exact absurd rfl (hi _ _ _ _)
def Qt{a i:Expr}{pos:Pos}(S:nU C n r)(hr:i9 A n)(F:gP C sc env σ s.heap ρ)(K:Ok C σ s st)(hi:∀a b c d,i≠ .Slice a b c d)
  (hx:((r.E sc a ρ st).bind fun(x,st)=>(r.E sc i ρ st).bind fun(y,st)=>(gZ st x y).map fun v=>(v,st))=some (v,gV))
  (h:∀val σ' s',iO g_ σ s σ' s'->Ok C σ' s' gV->VR C σ' s'.heap v val->Q val s'):wpAny C.M A (eval (.Subscript a i pos) env) Q E s:=by
 obtain⟨⟨x,s1⟩,h1,hx⟩:=ak.mp hx;obtain⟨⟨y,s2⟩,h2,hx⟩:=ak.mp hx;obtain⟨w,h3,hx⟩:=aq.mp hx;cases hx;refine Subscript_ (S.E sc a ρ _ _ _ h1 A env σ s _ E hr F K fun xv jh t1 X1 K1 V1=> ?_);refine S.E sc i ρ _ _ _ h2 A env jh t1 _ E hr (F.ext X1) K1 fun yv pg t2 X2 K2 V2=> ?_;exact N3 K2 h3 (V1.mono X2.mono) V2 (Hv hi) fun val sE t3 X3 K3 V3=>h val sE t3 ((X1.trans X2).trans X3) K3 V3
def Ex{o:Expr}{name:Str}(h:rR o=true):attributeBase o name env (eval o env)=eval o env:=by
 cases o<;>first|rfl|(simp[rR]at h)
def Hf{x:PV}{xv:Value}(K:Ok C σ s st)(hs:lO st x=true)(V:VR C σ s.heap x xv)(hk:x= .lst k\/(∃l,x= .str l)\/∃l,x= .cset l):
  s.TypeIs xv (Fl x)/\PlainAttrs (Fl x)/\∀a,xv= .ref a->∃ob,s.heap.get? a=some ob/\ob.dict=none:=by
 rcases hk with rfl|⟨l,rfl⟩|⟨l,rfl⟩
 ·unfold lO at hs;dsimp only at hs;split at hs
  ·rename_i l hl;obtain⟨a,m,vs,rfl,ha,ho,_⟩:=K.listAt hl V;exact⟨⟨_,ho,rfl⟩,PySem.F.plainAttrs_list,fun b e=>by cases e;exact⟨_,ho,rfl⟩⟩
  ·cases hs
 ·obtain⟨y,t,rfl,_⟩:=gW V;exact⟨cW s y t,PySem.F.plainAttrs_str,fun _ e=>nomatch e⟩
 ·rw[VR]at V;obtain⟨a,o,rfl,_,ho,k,_,es,ep,tb,rfl,_⟩:=V;exact⟨⟨_,ho,rfl⟩,FZ.plainAttrs_frozenset,fun b e=>by cases e;exact⟨_,ho,rfl⟩⟩
def Kp{o:Expr}{name:Str}{apos pos:Pos}{args:List Expr}(S:nU C n r)(hr:i9 A n)(F:gP C sc env σ s.heap ρ)(K:Ok C σ s st)
  (hx:(if !(rR o&&apos.endLine==pos.line&&args.length<20)then none else(r.E sc o ρ st).bind fun(x,st)=>if !lO st x then none else(ja (r.E sc) ρ args st).bind fun(vs,st)=>methP st x name vs)=some (v,gV))
  (h:∀val σ' s',iO g_ σ s σ' s'->Ok C σ' s' gV->VR C σ' s'.heap v val->Q val s'):wpAny C.M A (eval (.Call (.Attribute o name apos) args [] pos) env) Q E s:=by
 split at hx
 ·cases hx
 ·rename_i q;simp only[cC,eB,aA,aJ]at q;obtain⟨⟨x,s1⟩,h1,hx⟩:=ak.mp hx;dsimp only at hx;split at hx
  ·cases hx
  ·rename_i kD;simp only[cC,eB]at kD;obtain⟨⟨vs,s2⟩,h2,hx⟩:=ak.mp hx;dsimp only at hx;obtain⟨id,T8,T7,JF⟩:=Ls (C:=C) hx;have Ug:(∃k,x= .lst k)\/(∃l,x= .str l)\/∃l,x= .cset l:=by
    cases x<;>first|exact .inl ⟨_,rfl⟩|exact .inr (.inl ⟨_,rfl⟩)|exact .inr (.inr ⟨_,rfl⟩)|(simp only[methP,reduceCtorEq]at hx;done)
   have kX:=lE (env:=env) h2;refine wpAny_Call_method_lateS (Ex q.1.1) ?_ q.1.2 ?_
   ·rw[kX,oH];simp only[aA,aJ,List.all_map,bB];refine⟨⟨by simp[Function.comp],rfl⟩,?_⟩;have:=q.2;simp only[gy,bY];omega
   ·refine S.E sc o ρ _ _ _ h1 A env σ s _ E hr F K fun xv jh t1 X1 K1 V1=> ?_;obtain⟨k,hk⟩:∃k,x= .lst k\/(∃l,x= .str l)\/∃l,x= .cset l:=by
     rcases Ug with⟨k,e⟩|e
     ·exact⟨k,.inl e⟩
     ·exact⟨0,.inr e⟩
    obtain⟨hT,hP,hD⟩:=Hf K1 kD V1 hk;refine⟨Fl x,id,hP,T8,T7,hT,hD,?_⟩;refine IC S.E h2 hr (F.ext X1) K1 fun vals pg t2 X2 K2 V2=> ?_;exact JF A pg t2 xv vals Q E hr.hh K2 (V1.mono X2.mono) V2 fun val sE t3 X3 K3 V3=>h val sE t3 ((X1.trans X2).trans X3) K3 V3
def AY{g:Scope->Expr->ie->St->Option (PV×St)}(S:yJ C n g)(hr:i9 A n){pos:Pos}:∀(kws:List Keyword)(st gV:St)(ks:List (Str×PV))(σ:List Addr)(s:Shared)(Q:List Value->Shared->Prop),
  nC (g sc) ρ kws st=some (ks,gV)->gP C sc env σ s.heap ρ->Ok C σ s st->
  (∀us σ' s',iO g_ σ s σ' s'->Ok C σ' s' gV->iL C σ' s'.heap (ks.map (·.2)) us->Q us s')->wpAny C.M A (evalAll ((backToKw pos (keywordEach kws env)).map (·.2))) Q E s
 |[],st,gV,ks,σ,s,Q,hx,F,K,h=>by
  unfold nC at hx;cases hx;exact wpAny_evalAll_nil (h _ σ s iO.rfl' K iL.nil)
 |⟨some x,e,p⟩::kws,st,gV,ks,σ,s,Q,hx,F,K,h=>by
  unfold nC at hx;obtain⟨⟨u,s1⟩,h1,hx⟩:=ak.mp hx;obtain⟨⟨us,s2⟩,h2,hx⟩:=aq.mp hx;cases hx;show wpAny C.M A (evalAll ((do let v<-eval e env;standAt pos;pure v)::(backToKw pos (keywordEach kws env)).map (·.2))) Q E s;refine wpAny_evalAll_cons (ai (S sc e ρ _ _ _ h1 A env σ s _ E hr F K fun xv jh t1 X1 K1 V1=>ai (cg (aj ?_))));refine AY S hr kws s1 _ us jh t1 _ h2 (F.ext X1) K1 fun vals pg t2 X2 K2 V2=> ?_;exact h _ pg t2 (X1.trans X2) K2 (iL.cons (V1.mono X2.mono) V2)
 |⟨none,e,p⟩::kws,st,gV,ks,σ,s,Q,hx,F,K,h=>by
  unfold nC at hx;cases hx
def zN{g:Expr->ie->St->Option (PV×St)}{pos:Pos}:∀{kws:List Keyword}{st gV:St}{ks:List (Str×PV)},nC g ρ kws st=some (ks,gV)->
  (backToKw pos (keywordEach kws env)).all (·.1.isSome)=true/\(backToKw pos (keywordEach kws env)).filterMap (·.1)=ks.map (·.1)
 |[],_,_,_,h=>by
  unfold nC at h;cases h;exact⟨rfl,rfl⟩
 |⟨some x,e,p⟩::kws,_,_,_,h=>by
  unfold nC at h;obtain⟨⟨u,s1⟩,h1,h⟩:=ak.mp h;obtain⟨⟨us,s2⟩,h2,h⟩:=aq.mp h;cases h;obtain⟨e1,e2⟩:=zN h2;show(((some x).isSome&&(backToKw pos (keywordEach kws env)).all (·.1.isSome))=true)/\(x::(backToKw pos (keywordEach kws env)).filterMap (·.1))=_;rw[e1,e2];exact⟨rfl,rfl⟩
 |⟨none,e,p⟩::kws,_,_,_,h=>by
  unfold nC at h;cases h
def E2{g:Scope->Expr->ie->St->Option (PV×St)}(S:yJ C n g)(hr:i9 A n){f:Value}{pos:Pos}{es:List Expr}{kws:List Keyword}{vs:List PV}{ks:List (Str×PV)}{st1:St}{Q:Args->Shared->Prop}
  (h1:ja (g sc) ρ es st=some (vs,st1)) (h2:nC (g sc) ρ kws st1=some (ks,gV)) (F:gP C sc env σ s.heap ρ) (K:Ok C σ s st)
  (h:∀vals us σ' s',iO g_ σ s σ' s'->Ok C σ' s' gV->iL C σ' s'.heap vs vals->iL C σ' s'.heap (ks.map (·.2)) us->Q ⟨vals,(ks.map (·.1)).zip us⟩ s'):
  wpAny C.M A (evalArgs f true (es.map (fun e=>(false,eval e env))) (backToKw pos (keywordEach kws env))) Q E s:=by
 obtain⟨e1,e2⟩:=zN (env:=env) (pos:=pos) h2;cases es with
 |nil=>
  unfold ja at h1;cases h1;refine evalArgs_kw_nil e1 ?_;rw[e2];exact AY S hr kws _ _ ks σ s _ h2 F K fun us σ' s' X K' V=>h [] us σ' s' X K' iL.nil V
 |cons e rest=>
  refine evalArgs_kw e1 ?_;rw[e2];refine nA S (e::rest) st st1 vs σ s _ h1 hr F K fun vals jh t1 X1 K1 V1=> ?_;exact AY S hr kws _ _ ks jh t1 _ h2 (F.ext X1) K1 fun us pg t2 X2 K2 V2=>h vals us pg t2 (X1.trans X2) K2 (V1.mono X2.mono) V2
def Fj{x:Str}{pos:Pos}(F:gP C sc env σ s.heap ρ)(hk:iw sc x=some .globalImplicit)(h:wpAny C.M A (loadGlobal env x) Q E s):wpAny C.M A (eval (.Name x pos) env) Q E s:=by
 refine wpAny_Name ?_ (o_ (F.plain x _ hk)).1;rw[loadName_read F.kind (F.glo x hk)];exact h
def t9{x:Str}{fv:Value}(T:qe C)(F:gP C sc env σ s.heap ρ)(K:Ok C σ s st)(hk:iw sc x=some .globalImplicit)(hn:C.mg x=none)(hb:bootBuiltins x=some fv)(h:Q fv s):wpAny C.M A (loadGlobal env x) Q E s:=by
 have hg:s.heap.Ns env.globals C.mg:=by rw[F.globals];exact T.g.keeps K.base
 obtain⟨mb,Z2,U6⟩:=T.b;have vP:s.heap.Ns env.builtins mb:=by rw[F.builtins];exact Z2.keeps K.base
 exact d9 hg hn vP ((U6 _ (o_ (F.plain x _ hk)).2.2).trans hb) h
def Q_{x:Str}{fv:Value}(T:qe C)(F:gP C sc env σ s.heap ρ)(K:Ok C σ s st)(hn:C.mg x=some fv)(h:Q fv s):wpAny C.M A (loadGlobal env x) Q E s:=by
 have hg:s.heap.Ns env.globals C.mg:=by rw[F.globals];exact T.g.keeps K.base
 exact fK hg hn h
def Ke(C:Cx):Prop:=∀(n:Nat)(r:pK),nU C n r->∀(A:Around)(σ:List Addr)(s:Shared)(st st1 gV:St)(nm:Str)(k:Nat)(l vs:List PV)(fv xv:Value)(Q:aa)(E:aa),i9 A (n+1)->Ok C σ s st->
 C.mg nm=some fv->VR C σ s.heap (.lst k) xv->gM st (.lst k)=some l->pM (fun a st=>r.C nm a [] st) (putL st.length) (iM (.lst k) st) l (st++[.lst []])=some st1->finish st.length st1 (.lst st.length)=some (.list vs,gV)->
 (∀val σ' s',iO g_ σ s σ' s'->Ok C σ' s' gV->VR C σ' s'.heap (.tup vs) val->Q val s')->
 wpAny C.M A (call (.type "map") [fv,xv]) (fun mv s₁=>wpAny C.M A (call (.type "tuple") [mv]) Q E s₁) E s
def IB{f:Str}{args:List Expr}{kws:List Keyword}{np pos:Pos}(T:qe C)(S:nU C n r)(hr:i9 A n)(F:gP C sc env σ s.heap ρ)(K:Ok C σ s st)(hk:iw sc f=some .globalImplicit)
  (hx:((ja (r.E sc) ρ args st).bind fun(vs,st)=>(nC (r.E sc) ρ kws st).bind fun(ks,st)=>
    if jf.contains f then(match ks with
     |[]=>(iR st f vs).map fun v=>(v,st)
     |_=>none)
    else if(fnOf f).isNone then none else r.C f vs ks st)=some (v,gV))
  (h:∀val σ' s',iO g_ σ s σ' s'->Ok C σ' s' gV->VR C σ' s'.heap v val->Q val s'):wpAny C.M A (eval (.Call (.Name f np) args kws pos) env) Q E s:=by
 obtain⟨⟨vs,s1⟩,h1,hx⟩:=ak.mp hx;obtain⟨⟨ks,s2⟩,h2,hx⟩:=ak.mp hx;have kX:=lE (env:=env) h1;rw[dW,kX,oH];refine ai (Fj F hk ?_);dsimp only at hx;split at hx
 ·rename_i hb;split at hx
  ·obtain⟨w,h3,hx⟩:=aq.mp hx;cases hx;obtain⟨fv,U5,JG,ni,JF⟩:=EY (C:=C) hr h3;have ou:=T.free f (bg _ ni);refine t9 T F K hk ou JG ?_;have ZL:kws=[]:=by
    cases kws with
    |nil=>rfl
    |cons q qs=>
     obtain⟨x,e,p⟩:=q;cases x with
     |none=>unfold nC at h2;cases h2
     |some x=>
      unfold nC at h2;obtain⟨⟨u,s3⟩,_,h2⟩:=ak.mp h2;obtain⟨⟨us,s4⟩,_,h2⟩:=aq.mp h2;cases h2
   subst ZL;unfold nC at h2;cases h2;have go:∀vals σ' s',iO g_ σ s σ' s'->Ok C σ' s' _->iL C σ' s'.heap vs vals->wpAny C.M A (call fv ([]++vals)) Q E s':=fun vals jh t1 X1 K1 V1=>
    JF jh t1 vals Q E K1 V1 fun val sE t3 X3 K3 V3=>h val sE t3 (X1.trans X3) K3 V3
   show wpAny C.M A (callWith pos fv [] (args.map (fun e=>(false,eval e env))) []) Q E s;have ZS:=ID U5;rcases ZS with⟨id,rfl⟩|⟨T',rfl⟩
   ·exact fQ (uU args) (xD S.E h1 hr F K fun vals σ' s' X K' V=>go vals σ' s' X K' V)
   ·exact PySem.callWith_type (uU args) (xD S.E h1 hr F K fun vals σ' s' X K' V=>go vals σ' s' X K' V)
  ·cases hx
 ·split at hx
  ·cases hx
  ·rename_i SA;obtain⟨⟨a,body,iS⟩,hf⟩:∃q,fnOf f=some q:=by
    cases e:fnOf f with
    |none=>rw[e]at SA;simp at SA
    |some q=>exact⟨q,rfl⟩
   obtain⟨fa,o,pm,cd,doc,dV,kV,wG,ho,hd,_⟩:=T.fns f a body iS hf;refine Q_ T F K wG ?_;refine callWith_function_kw (o:=o) (fd:={Calls.docDef f a body iS pm cd doc with defaults:=dV,kwdefaults:=kV}) (E2 S.E hr h1 h2 F K fun vals us jh t1 X1 K1 V1 V2=> ?_);refine⟨⟨K1.base _ _ ho,hd⟩,?_⟩;exact S.C' f vs ks _ v gV hx A jh t1 vals us (.ref fa) Q E hr K1 V1 V2 wG fun val sE t3 X3 K3 V3=>h val sE t3 (X1.trans X3) K3 V3
end
section
variable{C:Cx}{sc:Scope}{env:Env}{σ σ':List Addr}{s s' s₁:Shared}{ρ:ie}{st gV:St}{A:Around}{n:Nat}{E:aa}{r:pK}{v:PV}
def Cb{g:Scope->Expr->ie->St->Option (PV×St)}(S:yJ C n g)(hr:i9 A n):∀(ops:List CmpOp)(es:List Expr)(pos:Pos)(x:PV)(xv:Value)(st gV:St)(σ:List Addr)(s:Shared)(b:Bool)(Q:Bool->Shared->Prop),ops.length=es.length->
  jJ (g sc) ρ x ops es st=some (b,gV)->gP C sc env σ s.heap ρ->Ok C σ s st->VR C σ s.heap x xv->
  (∀σ' s',iO g_ σ s σ' s'->Ok C σ' s' gV->Q b s')->wpAny C.M A (testChain pos xv ops (evalEach es env)) Q E s
 |[],_,_,_,_,_,_,_,_,_,_,_,hx,_,_,_,_=>by unfold jJ at hx;cases hx
 |[op],[],_,_,_,_,_,_,_,_,_,hl,_,_,_,_,_=>by simp at hl
 |[op],[e],pos,x,xv,st,gV,σ,s,b,Q,_,hx,F,K,V,h=>by
  unfold jJ at hx;obtain⟨⟨y,s1⟩,h1,h2⟩:=ak.mp hx;obtain⟨r,h3,h4⟩:=aq.mp h2;cases h4;refine test_last (S sc e ρ st y _ h1 A env σ s _ E hr F K fun yv jh t1 X1 K1 V1=> ?_);exact wz hr K1 h3 (V.mono X1.mono) V1 fun t2 X2 K2=>dO (h jh t2 (X1.trans X2) K2)
 |[op],e::e'::es,_,_,_,_,_,_,_,_,_,hl,_,_,_,_,_=>by simp at hl
 |op::GR::ops,[],_,_,_,_,_,_,_,_,_,hl,_,_,_,_,_=>by simp at hl
 |op::GR::ops,[e],_,_,_,_,_,_,_,_,_,hl,_,_,_,_,_=>by simp at hl
 |op::GR::ops,e::e'::es,pos,x,xv,st,gV,σ,s,b,Q,hl,hx,F,K,V,h=>by
  unfold jJ at hx;obtain⟨⟨y,s1⟩,h1,h2⟩:=ak.mp hx;obtain⟨r,h3,h4⟩:=ak.mp h2;refine test_link (S sc e ρ st y _ h1 A env σ s _ E hr F K fun yv jh t1 X1 K1 V1=> ?_);refine wz hr K1 h3 (V.mono X1.mono) V1 fun t2 X2 K2=> ?_;refine dO ?_;cases r with
  |false=>
   simp only[az,a_,aW,d_]at h4|-;obtain⟨rfl,rfl⟩:=h4;exact h jh t2 (X1.trans X2) K2
  |true=>
   simp only[bY]at h4|-;exact Cb S hr (GR::ops) (e'::es) pos y yv s1 gV jh t2 b Q (by simpa using hl) h4 ((F.ext X1).ext X2) K2 (V1.mono X2.mono) fun σ' s' X3 K3=>h σ' s' ((X1.trans X2).trans X3) K3
def Nb{e:Expr}{b:Bool}{Q:Bool->Shared->Prop}(S:nU C n r)(hr:i9 A n)(F:gP C sc env σ s.heap ρ)(K:Ok C σ s st)
  (he:isTrue e env (eval e env)=(do let v<-eval e env;standAt e.pos;holding [v] (truthy v)))
  (hx:((r.E sc e ρ st).bind fun(v,st)=>(iT st v).map fun b=>(b,st))=some (b,gV))
  (h:∀σ' s',iO g_ σ s σ' s'->Ok C σ' s' gV->Q b s'):wpAny C.M A (isTrue e env (eval e env)) Q E s:=by
 obtain⟨⟨x,s1⟩,h1,hx⟩:=ak.mp hx;obtain⟨c,h2,hx⟩:=aq.mp hx;cases hx;refine isTrue_plain (S.E sc e ρ _ _ _ h1 A env σ s _ E hr F K fun xv jh t1 X1 K1 V1=> ?_) he;exact oE K1 h2 V1 fun t2 g=>h jh t2 (X1.trans g.ext) (K1.grow g)
def QC(S:nU C n r):Qm C n (stepT r):=by
 intro sc e ρ st b gV hx A env σ s Q E hr F K h;have other:(∀x p,e≠ .UnaryOp .Not x p)->(∀op es p,e≠ .BoolOp op es p)->(∀a ops es p,e≠ .Compare a ops es p)->(∀a c d p,e≠ .IfExp a c d p)->
   ((r.E sc e ρ st).bind fun(v,st)=>(iT st v).map fun b=>(b,st))=some (b,gV)->wpAny C.M A (isTrue e env (eval e env)) Q E s:=by
  intro n1 n2 n3 n4 hx;refine Nb S hr F K ?_ hx h;cases e with
  |UnaryOp op x p=>cases op<;>first|rfl|exact absurd rfl (n1 _ _)
  |BoolOp op es p=>exact absurd rfl (n2 _ _ _)
  |Compare a ops es p=>exact absurd rfl (n3 _ _ _ _)
  |IfExp a c d p=>exact absurd rfl (n4 _ _ _ _)
  |_=>rfl
 unfold stepT at hx;split at hx
 ·rename_i a pos;obtain⟨⟨c,s1⟩,h1,hx⟩:=aq.mp hx;cases hx;exact isTrue_not (S.T sc a ρ _ _ _ h1 A env σ s _ E hr F K fun jh t1 X1 K1=>h jh t1 X1 K1)
 ·rename_i op es pos;split at hx
  ·cases hx;cases op with
   |And=>exact isTrue_and_nil (h σ s iO.rfl' K)
   |Or=>exact isTrue_or_nil (h σ s iO.rfl' K)
  ·rename_i a lT;obtain⟨⟨c,s1⟩,h1,hx⟩:=ak.mp hx;have rest:∀{op:BoolOp}(whole:Sem Value){jh t1},r.T sc (.BoolOp op lT pos) ρ s1=some (b,gV)->iO g_ σ s jh t1->Ok C jh t1 s1->wpAny C.M A (isTrue (.BoolOp op lT pos) env whole) Q E t1:=by
    intro op whole jh t1 hx X1 K1;have:=S.T sc _ ρ _ _ _ hx A env jh t1 Q E hr (F.ext X1) K1 fun pg t2 X2 K2=>h pg t2 (X1.trans X2) K2;exact this
   cases op with
   |And=>
    refine isTrue_and (S.T sc a ρ _ _ _ h1 A env σ s _ E hr F K fun jh t1 X1 K1=> ?_);cases c with
    |true=>exact rest _ hx X1 K1
    |false=>
     cases hx;exact h jh t1 X1 K1
   |Or=>
    refine isTrue_or (S.T sc a ρ _ _ _ h1 A env σ s _ E hr F K fun jh t1 X1 K1=> ?_);cases c with
    |false=>exact rest _ hx X1 K1
    |true=>
     cases hx;exact h jh t1 X1 K1
 ·rename_i a ops es pos;split at hx
  ·cases hx
  ·rename_i q;simp only[cH,bne_iff_ne,ne_eq,not_or,fO,Decidable.not_not]at q;obtain⟨⟨x,s1⟩,h1,hx⟩:=ak.mp hx;show wpAny C.M A (do testChain pos (<-eval a env) ops (markedEach ops es (evalEach es env))) Q E s;rw[markedEach_of_false _ _ _ q.1];refine ai (S.E sc a ρ _ _ _ h1 A env σ s _ E hr F K fun xv jh t1 X1 K1 V1=> ?_);exact Cb S.E hr ops es pos x xv _ _ jh t1 b Q q.2 hx (F.ext X1) K1 V1 fun pg t2 X2 K2=>h pg t2 (X1.trans X2) K2
 ·cases hx
 ·rename_i n1 n2 n3 n4;exact other (fun x p q=>n1 _ _ q) (fun op es p q=>n2 _ _ _ q) (fun a ops es p q=>n3 _ _ _ _ q) (fun a c d p q=>n4 _ _ _ _ q) hx
end
def nv{x y:Str}{v:PV}:∀{ρ:ie},iY y (Ah x v ρ)=if x=y then some v else iY y ρ
 |[]=>by
  unfold Ah iY iY;by_cases h:x=y
  ·simp[h]
  ·have:(x==y)=false:=aO.mpr h;simp[h,this,iY]
 |(z,u)::r=>by
  unfold Ah;by_cases hz:z=x
  ·subst hz;rw[aQ (bJ z)];unfold iY;by_cases h:z=y
   ·simp[h]
   ·have:(z==y)=false:=aO.mpr h;simp only[this,az,a_,h]
  ·rw[aD (by simpa using hz)];unfold iY;by_cases h:z=y
   ·subst h;have:¬ x=z:=fun e=>hz e.symm;simp[this]
   ·have:(z==y)=false:=aO.mpr h;simp only[this,az,a_];exact nv
section
variable{C:Cx}{sc:Scope}{env:Env}{σ σ':List Addr}{s s' s₁:Shared}{ρ ji:ie}{st gV:St}{A:Around}{n:Nat}{E:aa}{r:pK}{v:PV}
def gP.hp(F:gP C sc env σ s.heap ρ):(env.scope.kind== .class||(env.scope.kind== .module&&env.locals !=env.globals))=false:=by rw[F.kind];rfl
def xY{a:Addr}(F:gP C sc env σ s.heap ρ)(ha:own sc env a){h':Heap}(hs:Heap.SameBut a s.heap h')(hn:∃o,h'.get? a=some o/\¬ kh o)(tk:Nat):iO (own sc env) σ s σ {s with heap:=h',toks:=tk}:=
 ⟨⟨[],by simp⟩,fun _ p q=>absurd p q,fun b o e _ hb=>(hs.2 b (fun q=>hb (q▸ha))).trans e,fun b o hb e=>⟨F.ownData b o hb e,by
  by_cases q:b=a
  ·subst q;exact hn
  ·exact⟨o,(hs.2 b q).trans e,F.ownData b o hb e⟩⟩,rfl,rfl⟩
def Ok.own{a:Addr}(K:Ok C σ s st)(F:gP C sc env σ s.heap ρ)(ha:own sc env a)(h0:C.h₀.get? a=none){h':Heap}(hs:Heap.SameBut a s.heap h')(tk:Nat):Ok C σ {s with heap:=h',toks:=tk} st where
 base:=fun b o e=>(hs.2 b (fun q=>by rw[q,h0]at e;cases e)).trans (K.base b o e)
 fresh0:=K.fresh0
 len:=K.len
 nodup:=K.nodup
 cells:=fun k b c hb hc=>by
  have y:=K.cells k b c hb hc;have m:sL σ s.heap σ h':=⟨⟨[],by simp⟩,fun _ p q=>absurd p q,fun d o e _ hv=>(hs.2 d (fun q=>F.ownData d o (q▸ha) e hv)).trans e⟩;exact y.mono m (hs.2 b (fun q=>F.ownOut a ha (q▸bL hb)))
def RL(F:gP C sc env σ s.heap ρ){x:Str}{k:NameKind}(h:iw sc x=some k):lC x=true:=F.plain x k h
def mS{x:Str}{val:Value}{Q:Unit->Shared->Prop}(F:gP C sc env σ s.heap ρ)(K:Ok C σ s st)(hx:kc sc x v ρ=some ji)(V:VR C σ s.heap v val)
  (h:∀s',iO (own sc env) σ s σ s'->Ok C σ s' st->gP C sc env σ s'.heap ji->Q () s'):wpAny C.M A (storeName env x val) Q E s:=by
 unfold kc at hx;split at hx
 ·rename_i hk;cases hx;obtain⟨m,hn,hv⟩:=F.ns;refine wpAny_storeName_local (F.loc x hk) hn (fun h' I5 hs=> ?_) F.hp;have ha:own sc env env.locals:=.inl rfl;have X:iO (own sc env) σ s σ {s with heap:=h',toks:=s.toks+1}:=xY F ha hs (by
   obtain⟨o,es,ep,ho,hd,_⟩:=I5;exact⟨o,ho,fun z=>z.dict hd⟩) _
  refine h _ X (K.own F ha F.newL hs _) ?_;exact{
   kind:=F.kind,plain:=F.plain,loc:=F.loc,cel:=F.cel,fre:=F.fre,glo:=F.glo,globals:=F.globals,builtins:=F.builtins,code:=F.code
   ns:=⟨_,I5,fun y u hy Sv=>by
    rw[nv]at hy;dsimp only;by_cases q:x=y
    ·subst q;rw[aQ rfl]at hy;cases hy;rw[aQ rfl];exact⟨val,rfl,V.mono X.mono⟩
    ·rw[aD q]at hy;rw[aD (fun e=>q e.symm)];obtain⟨w,h1,h2⟩:=hv y u hy Sv;exact⟨w,h1,h2.mono X.mono⟩⟩
   cells:=fun y hy=>by
    obtain⟨c,vo,h1,⟨o,ho,hd⟩,h2,h3⟩:=F.cells y hy;have lq:c≠env.locals:=fun q=>by
     obtain⟨o2,es,ep,v7,BG,_⟩:=hn;rw[q,v7]at ho;cases ho;rw[BG]at hd;cases hd
    refine⟨c,vo,h1,⟨o,(hs.2 c lq).trans ho,hd⟩,h2,fun u hu=> ?_⟩;rw[nv]at hu;by_cases q:x=y
    ·subst q;rcases hy with hy|hy<;>(rw[hk]at hy;cases hy)
    ·rw[aD q]at hu;obtain⟨w,a,b⟩:=h3 u hu;exact⟨w,a,b.mono X.mono⟩
   apart:=F.apart
   dom:=fun y u hy=>by
    rw[nv]at hy;by_cases q:x=y
    ·subst q;exact .inl hk
    ·rw[aD q]at hy;exact F.dom y u hy
   newL:=F.newL,newC:=F.newC,notL:=F.notL}
 ·rename_i hk;cases hx;obtain⟨c,vo,hc,hi,Xk,hcv⟩:=F.cells x (.inl hk);refine wpAny_storeName_cell F.kind (F.cel x hk) hc hi fun h' hi' hs=> ?_;have ha:own sc env c:=.inr ⟨x,hk,hc⟩;have X:iO (own sc env) σ s σ {s with heap:=h',toks:=s.toks}:=xY F ha hs (by
   obtain⟨o,ho,hd⟩:=hi';exact⟨o,ho,fun z=>z.cell hd⟩) _
  have Z9:env.locals≠c:=fun q=>by
   obtain⟨m,⟨o2,es,ep,v7,BG,_⟩,_⟩:=F.ns;obtain⟨o,ho,hd⟩:=hi;rw[<-q,v7]at ho;cases ho;rw[BG]at hd;cases hd
  refine h {s with heap:=h',toks:=s.toks} X (K.own F ha (F.newC x c hk hc) hs _) ?_;exact{
   kind:=F.kind,plain:=F.plain,loc:=F.loc,cel:=F.cel,fre:=F.fre,glo:=F.glo,globals:=F.globals,builtins:=F.builtins,code:=F.code
   ns:=by
    obtain⟨m,hn,hv⟩:=F.ns;refine⟨m,hn.sameBut hs Z9,fun y u hy Sv=> ?_⟩;rw[nv]at hy;by_cases q:x=y
    ·subst q;rw[hk]at Sv;cases Sv
    ·rw[aD q]at hy;obtain⟨w,h1,h2⟩:=hv y u hy Sv;exact⟨w,h1,h2.mono X.mono⟩
   cells:=fun y hy=>by
    by_cases q:x=y
    ·subst q;refine⟨c,some val,hc,hi',Xk,fun u hu=> ?_⟩;rw[nv,aQ rfl]at hu;cases hu;exact⟨val,rfl,V.mono X.mono⟩
    ·obtain⟨d,wo,h1,⟨o,ho,hd⟩,h2,h3⟩:=F.cells y hy;have lq:d≠c:=fun e=>F.apart x y c hk hy q hc (by rw[h1,e]);refine⟨d,wo,h1,⟨o,(hs.2 d lq).trans ho,hd⟩,h2,fun u hu=> ?_⟩;rw[nv,aD q]at hu;obtain⟨w,a,b⟩:=h3 u hu;exact⟨w,a,b.mono X.mono⟩
   apart:=F.apart
   dom:=fun y u hy=>by
    rw[nv]at hy;by_cases q:x=y
    ·subst q;exact .inr (.inl hk)
    ·rw[aD q]at hy;exact F.dom y u hy
   newL:=F.newL,newC:=F.newC,notL:=F.notL}
 ·cases hx
def mZ:∀{es:List Expr}{xs:List Str},namesOf es=some xs->(assignEach es env).length=xs.length/\(assignEach es env).findIdx? (·.1)=none/\xs.length=es.length
 |[],xs,h=>by unfold namesOf at h;cases h;exact⟨rfl,rfl,rfl⟩
 |e::r,xs,h=>by
  unfold namesOf at h;split at h
  ·rename_i DM;cases DM
  ·rename_i x p r' DM;cases DM;obtain⟨ys,hy,rfl⟩:=aq.mp h;obtain⟨e1,e2,e3⟩:=mZ hy;refine⟨?_,?_,by simp[e3]⟩
   ·show((false,assign (.Name x p) env)::assignEach r env).length=_;simp[e1]
   ·show((false,assign (.Name x p) env)::assignEach r env).findIdx? (·.1)=none;rw[fU];simp[e2]
  ·cases h
def xN:∀(es:List Expr)(xs:List Str)(vs:List PV)(vals:List Value)(ρ ji:ie)(s:Shared)(Q:Unit->Shared->Prop),namesOf es=some xs->storeAll sc xs vs ρ=some ji->gP C sc env σ s.heap ρ->Ok C σ s st->iL C σ s.heap vs vals->
  (∀s',iO (own sc env) σ s σ s'->Ok C σ s' st->gP C sc env σ s'.heap ji->Q () s')->wpAny C.M A (assignInOrder ((assignEach es env).map (·.2)) vals) Q E s
 |[],xs,vs,vals,ρ,ji,s,Q,hn,hx,F,K,V,h=>by
  unfold namesOf at hn;cases hn;cases vs with
  |nil=>
   unfold storeAll at hx;cases hx;rw[iL]at V;subst V;exact aj (h s (iO.refl F.ownData) K F)
  |cons _ _=>unfold storeAll at hx;cases hx
 |e::r,xs,vs,vals,ρ,ji,s,Q,hn,hx,F,K,V,h=>by
  unfold namesOf at hn;split at hn
  ·rename_i DM;cases DM
  ·rename_i x p r' DM;cases DM;obtain⟨ys,hy,rfl⟩:=aq.mp hn;cases vs with
   |nil=>unfold storeAll at hx;cases hx
   |cons w ws=>
    unfold storeAll at hx;obtain⟨kJ,h1,h2⟩:=ak.mp hx;rw[iL]at V;obtain⟨val,rest,rfl,V1,V2⟩:=V;show wpAny C.M A (do holding rest (assign (.Name x p) env val);assignInOrder ((assignEach r env).map (·.2)) rest) Q E s;refine ai (aX (fC (mS F K h1 V1 fun s1 X1 K1 F1=> ?_)));exact xN r ys ws rest kJ ji s1 Q hy h2 F1 K1 (V2.mono X1.mono) fun s2 X2 K2 F2=>h s2 (X1.trans X2) K2 F2
  ·cases hn
def nN(C:Cx):Prop:=∀(A:Around)(σ:List Addr)(s:Shared)(st:St)(env:Env)(x:Str)(p pos:Pos)(k:Nat)(b:Bool)(v:Value)(Q:Unit->Shared->Prop)(E:aa),A.handled=none->Ok C σ s st->VR C σ s.heap (.bset b) v->
 (∀s',iG s s'->wpAny C.M A (assign (.Name x p) env (.bool b)) Q E s')->wpAny C.M A (assign (.Tuple [.Name x p] k pos) env v) Q E s
def qA{t:Expr}{val:Value}{Q:Unit->Shared->Prop}(U:nN C)(hh:A.handled=none)(F:gP C sc env σ s.heap ρ)(K:Ok C σ s st)(hx:i8 sc st t v ρ=some ji)(V:VR C σ s.heap v val)
  (h:∀s',iO (own sc env) σ s σ s'->Ok C σ s' st->gP C sc env σ s'.heap ji->Q () s'):wpAny C.M A (assign t env val) Q E s:=by
 unfold i8 at hx;split at hx
 ·exact fC (mS F K hx V h)
 ·rename_i es k pos;split at hx
  ·rename_i x b hn;have VU:∃p,es=[.Name x p]:=by
    cases es with
    |nil=>unfold namesOf at hn;cases hn
    |cons e r=>
     unfold namesOf at hn;split at hn
     ·rename_i DM;cases DM
     ·rename_i y p r' DM;cases DM;obtain⟨ys,hy,e⟩:=aq.mp hn;cases e;cases r with
      |nil=>exact⟨p,rfl⟩
      |cons e' r''=>
       have:=(mZ (env:=env) hy).2.2;simp at this
     ·cases hn
   obtain⟨p,rfl⟩:=VU;unfold storeAll at hx;obtain⟨kJ,h1,h2⟩:=ak.mp hx;unfold storeAll at h2;cases h2;refine U A σ s st env x p pos k b val Q E hh K V fun s1 g=> ?_;refine fC (mS (F.ext g.ext) (K.grow g) h1 (we b) fun s2 X2 K2 F2=>h s2 ?_ K2 F2);exact(F.weaken g.ext).trans X2
  ·rename_i _ _ xs l OJ;split at hx
   ·rename_i q;obtain⟨a,o,vs,rfl,I5,ho,so,r⟩:=kM V;obtain⟨e1,e2,e3⟩:=mZ (env:=env) OJ;refine wpAny_assign_Tuple hh (so.isTuple ho) (by rw[e1];simpa[r.length]using q) e2 fun h' hs=> ?_;have g:iG s {s with heap:=h'}:=⟨fun b o e=>hs b o (dK (bG e)) e,rfl,rfl⟩;exact xN es xs l _ ρ ji _ Q OJ hx (F.ext g.ext) (K.grow g) (r.grow g) fun s2 X2 K2 F2=>h s2 ((F.weaken g.ext).trans X2) K2 F2
   ·cases hx
  ·cases hx
 ·cases hx
end
def jE:∀(names:List (Str×NameKind))(n:Nat)(acc:List (Str×Addr)),cellsFrom n names acc=cellsFrom n names []++acc
 |[],_,_=>rfl
 |(x,k)::r,n,acc=>by
  unfold cellsFrom;split
  ·rw[jE r (n+1) ((x,n)::acc),jE r (n+1) [(x,n)]];simp
  ·exact jE r n acc
def pH:∀(names:List (Str×NameKind))(n:Nat)(x:Str)(c:Addr),(x,c)∈cellsFrom n names []->(x,NameKind.cell)∈names
 |[],_,_,_,h=>by cases h
 |(y,k)::r,n,x,c,h=>by
  unfold cellsFrom at h;split at h
  ·rename_i hk;rw[jE]at h;rcases bl.mp h with h|h
   ·exact ay _ (pH r _ x c h)
   ·have e:=aK.mp h;cases e;rw[aR.mp hk];exact aU ..
  ·exact ay _ (pH r _ x c h)
def pI:∀(names:List (Str×NameKind))(n:Nat)(x:Str),(x,NameKind.cell)∈names->∃c,(x,c)∈cellsFrom n names []
 |(y,k)::r,n,x,h=>by
  unfold cellsFrom;rcases aY.mp h with e|h
  ·cases e;rw[aQ (bJ _),jE];exact⟨n,cM _ (aK.mpr rfl)⟩
  ·split
   ·obtain⟨c,hc⟩:=pI r (n+1) x h;rw[jE];exact⟨c,bg _ hc⟩
   ·exact pI r n x h
def oM{α:Type}:∀{l:List (Str×α)}{x:Str}{k:α},(x,k)∈l->∃k',l.lookup x=some k'
 |(y,u)::r,x,k,h=>by
  rw[cS];cases e:x==y with
  |true=>exact⟨u,rfl⟩
  |false=>
   rcases aY.mp h with q|h
   ·cases q;simp at e
   ·exact oM h
def vD{α:Type}:∀{l:List (Str×α)}{x:Str},(∀k,(x,k)∉l)->l.lookup x=none
 |[],_,_=>rfl
 |(y,u)::r,x,h=>by
  rw[cS];have:(x==y)=false:=aO.mpr fun q=>h u (by rw[q];exact aU ..);rw[this];exact vD fun k hk=>h k (ay _ hk)
def qy{α:Type}:∀(l m:List (Str×α))(x:Str),(l++m).lookup x=(l.lookup x).or (m.lookup x)
 |[],m,x=>by simp
 |(y,u)::r,m,x=>by
  rw[eW,cS,cS];cases x==y with
  |true=>rfl
  |false=>exact qy r m x
def sV:∀{l:List (Str×NameKind)}{x:Str}{k k':NameKind},oK l=true->l.lookup x=some k->(x,k')∈l->k=k'
 |(y,u)::r,x,k,k',hn,hl,hm=>by
  unfold oK at hn;rw[aA,fk]at hn;rw[cS]at hl;cases e:x==y with
  |true=>
   rw[e]at hl;cases hl;have Px:=aR.mp e;subst Px;rcases aY.mp hm with q|hm
   ·cases q;rfl
   ·obtain⟨k'',hk⟩:=oM hm;rw[hn.1]at hk;cases hk
  |false=>
   rw[e]at hl;rcases aY.mp hm with q|hm
   ·cases q;simp at e
   ·exact sV hn.2 hl hm
structure G4(sc:Scope):Prop where
 kind:sc.kind= .function
 gen:sc.isGenerator=false
 co:sc.isCoroutine=false
 plain:∀x k,iw sc x=some k->lC x=true
 nodup:oK sc.names=true
def xm{sc:Scope}(h:r7 sc=true):G4 sc:=by
 unfold r7 at h;simp only[aA,aR,cC,b9]at h;obtain⟨⟨⟨⟨h1,h2⟩,h3⟩,h4⟩,h5⟩:=h;exact⟨h1,h2,h3,fun x k hk=>(h4 (x,k) (mem_of_lookup hk)).1,h5⟩
def bindAll(env:Env)(binds:List (Str×Value)):Sem Env:=do
 for (name,v) in binds do storeName env name v
 return env
section
variable{C:Cx}{σ σ':List Addr}{s s' s₁:Shared}{ρ ji:ie}{st gV:St}{A:Around}{n:Nat}{E:aa}{r:pK}{v:PV}
def Ok.newAddr(K:Ok C σ s st){a:Addr}(h:s.heap.get? a=none):a∉σ/\C.h₀.get? a=none:=
 ⟨fun hm=>(by obtain⟨o,ho,_⟩:=K.has hm;rw[h]at ho;cases ho),by
  cases e:C.h₀.get? a with
  |none=>rfl
  |some o=>rw[K.base a o e]at h;cases h⟩
def kI{h:Heap}{a:Addr}(ha:h.objs.size<=a):h.get? a=none:=by
 cases e:h.get? a with
 |none=>rfl
 |some o'=>exact absurd (bG e) (Nat.not_lt.mpr ha)
def sX{scope:Scope}{closure:List (Str×Addr)}{binds:List (Str×Value)}{qual:Str}{func:Option Addr}{code:Value}{around:Option Env}{builtins:Addr}{BK:ie}{xs:List Str}{vs:List PV}{vals:List Value}{Q:Env->Shared->Prop}
  (tL:G4 scope) (K:Ok C σ s st) (hb:(match around with|some o=>o.builtins|none=>builtins)=builtinsNs)
  (Un:AH C.h₀ (match around with|some o=>o.code|none=>code))
  (BH:∀x,iw scope x=some .free->∃c vo,closure.lookup x=some c/\s.heap.IsCell c vo/\c∉σ/\∀v,iY x BK=some v->∃val,vo=some val/\VR C σ s.heap v val)
  (Qh:∀x v,iY x BK=some v->iw scope x=some .free) (Rh:binds=xs.zip vals) (kD:storeAll scope xs vs BK=some ρ) (V:iL C σ s.heap vs vals)
  (h:∀env s',env=newEnv scope s.heap.objs.size mainGlobals (cellsFrom (s.heap.objs.size+1) scope.names closure) qual func code around builtins->
   iO g_ σ s σ s'->Ok C σ s' st->gP C scope env σ s'.heap ρ->(∀a,own scope env a->s.heap.get? a=none)->Q env s'):
  wpAny C.M A (newFunctionEnv scope mainGlobals closure binds qual func code around builtins) Q E s:=by
 unfold newFunctionEnv;refine ai (wpAny_alloc ?_);refine ai (wpAny_layCells _ (fun name kind cells=>by cases ZK:kind==NameKind.cell<;>simp[ZK]) _ _ _ _ ?_);have BX:(s.heap.push {cls:=.type (if around.isSome then "dict" else "frame"),data:=.dict #[]}).objs.size=s.heap.objs.size+1:=bM ..;have ok:=cellsFrom_ok scope.names (s.heap.push {cls:=.type (if around.isSome then "dict" else "frame"),data:=.dict #[]}) (s.heap.objs.size+1) [] ⟨fun _ _ hm=>(nomatch hm),List.Pairwise.nil⟩ (by rw[BX];exact aV _);rw[BX]at ok;rw[show({s with heap:=s.heap.push {cls:=.type (if around.isSome then "dict" else "frame"),data:=.dict #[]}}:Shared).heap.objs.size=s.heap.objs.size+1 from BX];generalize Yr:s.heap.push {cls:=.type (if around.isSome then "dict" else "frame"),data:=.dict #[]}=H0 at BX ok|-;generalize D8:cellsFrom (s.heap.objs.size+1) scope.names []=cells at ok;have nP:cellsFrom (s.heap.objs.size+1) scope.names closure=cells++closure:=by rw[jE,D8]
 have O2:∀b o,s.heap.get? b=some o->(pushCells H0 scope.names).get? b=some o:=fun b o e=>pushCells_keeps _ _ _ _ (by rw[<-Yr];exact aG _ e);have g1:iG s {s with heap:=pushCells H0 scope.names}:=⟨O2,rfl,rfl⟩;have fresh:s.heap.get? s.heap.objs.size=none:=kI (aV _);obtain⟨Xr,Z_⟩:=K.newAddr fresh;have wA:∀x c,(x,c)∈cells->s.heap.get? c=none:=fun x c hm=>kI (Nat.le_of_succ_le (ok.empty x c hm).2);have look:∀env:Env,env.cells=cells++closure->(∀x,iw scope x=some .cell->∃c,(x,c)∈cells/\env.cells.lookup x=some c)/\(∀x,iw scope x=some .free->env.cells.lookup x=closure.lookup x):=by
  intro env he;refine⟨fun x hx=> ?_,fun x hx=> ?_⟩
  ·obtain⟨c,hc⟩:=pI scope.names (s.heap.objs.size+1) x (mem_of_lookup hx);rw[D8]at hc;obtain⟨c',OM⟩:=oM hc;exact⟨c',mem_of_lookup OM,by rw[he,qy,OM];rfl⟩
  ·have:cells.lookup x=none:=vD fun k hk=>by
    rw[<-D8]at hk;have:=sV tL.nodup hx (pH _ _ _ _ hk);cases this
   rw[he,qy,this];rfl
 have main:∀env:Env,env=newEnv scope s.heap.objs.size mainGlobals (cellsFrom (s.heap.objs.size+1) scope.names closure) qual func code around builtins->
   wpAny C.M A (bindAll env binds) Q E {s with heap:=pushCells H0 scope.names}:=by
  intro env he;have e1:env.scope=scope:=by rw[he];unfold newEnv;cases around<;>rfl
  have e2:env.locals=s.heap.objs.size:=by rw[he];unfold newEnv;cases around<;>rfl
  have e3:env.globals=mainGlobals:=by rw[he];unfold newEnv;cases around<;>rfl
  have e4:env.cells=cells++closure:=by rw[he,<-nP];unfold newEnv;cases around<;>rfl
  have e5:env.builtins=builtinsNs:=by rw[he,<-hb];unfold newEnv;cases around<;>rfl
  have e6:AH C.h₀ env.code:=by rw[he];unfold newEnv;cases around<;>exact Un
  obtain⟨Sl,XJ⟩:=look env e4;have F0:gP C scope env σ (pushCells H0 scope.names) BK:={
   kind:=by rw[e1];exact tL.kind
   plain:=tL.plain
   loc:=fun x hx=>by show env.scope.names.lookup x=_;rw[e1];exact hx
   cel:=fun x hx=>by show env.scope.names.lookup x=_;rw[e1];exact hx
   fre:=fun x hx=>.inl (by show env.scope.names.lookup x=_;rw[e1];exact hx)
   glo:=fun x hx=>by show env.scope.names.lookup x=_;rw[e1];exact hx
   globals:=e3
   builtins:=e5
   code:=e6
   ns:=⟨fun _=>none,by
    rw[e2];have:H0.Ns s.heap.objs.size (fun _=>none):=by rw[<-Yr];exact Heap.Ns.new s.heap _
    exact this.keeps (pushCells_keeps _ _),fun x v hx hk=>by
    have:=Qh x v hx;rw[hk]at this;cases this⟩
   cells:=fun x hx=>by
    rcases hx with hx|hx
    ·obtain⟨c,hc,hl⟩:=Sl x hx;exact⟨c,none,hl,(ok.empty x c hc).1,(K.newAddr (wA x c hc)).1,fun v hv=>by
      have:=Qh x v hv;rw[hx]at this;cases this⟩
    ·obtain⟨c,vo,h1,⟨o,ho,hd⟩,h3,h4⟩:=BH x hx;exact⟨c,vo,(XJ x hx).trans h1,⟨o,O2 c o ho,hd⟩,h3,fun v hv=>let⟨val,a,b⟩:=h4 v hv;⟨val,a,b.grow g1⟩⟩
   apart:=fun x y c hx hy lq hc US=>by
    obtain⟨d,hd,hl⟩:=Sl x hx;rw[hl]at hc;cases hc;rcases hy with hy|hy
    ·obtain⟨d',OL,vd⟩:=Sl y hy;rw[vd]at US;cases US;exact lq (name_of_addr ok.apart hd OL)
    ·obtain⟨c',vo,h1,⟨o,ho,_⟩,_⟩:=BH y hy;rw[XJ y hy,h1]at US;cases US;rw[wA x _ hd]at ho;cases ho
   dom:=fun x v hx=>.inr (.inr (Qh x v hx))
   newL:=by rw[e2];exact Z_
   newC:=fun x c hx hc=>by
    obtain⟨d,hd,hl⟩:=Sl x hx;rw[hl]at hc;cases hc;exact(K.newAddr (wA x _ hd)).2
   notL:=by rw[e2];exact Xr}
  have Ay:∀a,own scope env a->s.heap.get? a=none:=by
   rintro a (rfl|⟨x,hx,hc⟩)
   ·rw[e2];exact fresh
   ·obtain⟨d,hd,hl⟩:=Sl x hx;rw[hl]at hc;cases hc;exact wA x _ hd
  have K0:=K;have K1:=K.grow g1;have V1:=V.grow g1;have binder:∀(xs:List Str)(vs:List PV)(vals:List Value)(BK:ie)(s₁:Shared),storeAll scope xs vs BK=some ρ->iL C σ s₁.heap vs vals->gP C scope env σ s₁.heap BK->Ok C σ s₁ st->iO (own scope env) σ {s with heap:=pushCells H0 scope.names} σ s₁->
    wpAny C.M A (bindAll env (xs.zip vals)) Q E s₁:=by
   intro xs
   induction xs with
   |nil=>
    intro vs vals BK s₁ kD V F K X;cases vs with
    |nil=>
     unfold storeAll at kD;cases kD;refine ai (aj (aj ?_));refine h env s₁ he ?_ K F Ay;have X0:iO (own scope env) σ s σ {s with heap:=pushCells H0 scope.names}:=g1.ext.weaken (fun a ha=>(K0.newAddr (Ay a ha)).1) (fun a o ha e=>by rw[Ay a ha]at e;cases e);exact(X0.trans X).strip (fun a ha _=>Ay a ha) (fun _ q=>q.elim)
    |cons _ _=>unfold storeAll at kD;cases kD
   |cons x xs ih=>
    intro vs vals BK s₁ kD V F K X;cases vs with
    |nil=>unfold storeAll at kD;cases kD
    |cons w ws=>
     unfold storeAll at kD;obtain⟨kJ,h1,h2⟩:=ak.mp kD;rw[iL]at V;obtain⟨val,rest,rfl,V1,V2⟩:=V;have e:bindAll env ((x,val)::xs.zip rest)=(do storeName env x val;bindAll env (xs.zip rest)):=by
      unfold bindAll;rw[b8];simp only[bind_assoc,pure_bind]
     show wpAny C.M A (bindAll env ((x,val)::xs.zip rest)) Q E s₁;rw[e];refine ai (mS F K h1 V1 fun s2 X2 K2 F2=> ?_);exact ih ws rest kJ s2 h2 (V2.mono X2.mono) F2 K2 (X.trans X2)
  rw[Rh];exact binder xs vs vals BK _ kD V1 F0 K1 (iO.refl F0.ownData)
 cases around with
 |none=>exact main _ rfl
 |some o=>exact main _ rfl
end
mutual
def p8{C:Cx}{σ τ:List Addr}{h:Heap}:∀{p:PV}{v:Value},VR C (σ++τ) h p v->below σ.length p=true->VR C σ h p v
 | .none,_,x,_=>by rw[VR]at x |-; exact x
 | .bool b,_,x,_=>by rw[VR]at x |-; exact x
 | .int i,_,x,_=>by rw[VR]at x |-; exact x
 | .str l,_,x,_=>by rw[VR]at x |-; exact x
 | .tup l,_,x,b=>by
  rw[VR]at x|-;rw[below]at b;obtain⟨a,o,vs,rfl,hn,ho,so,r⟩:=x;exact⟨a,o,vs,rfl,fun q=>hn (bg _ q),ho,so,oN r b⟩
 | .list l,_,x,b=>by
  rw[VR]at x|-;rw[below]at b;obtain⟨a,o,vs,rfl,hn,ho,so,r⟩:=x;exact⟨a,o,vs,rfl,fun q=>hn (bg _ q),ho,so,oN r b⟩
 | .lst k,_,x,b=>by
  rw[VR]at x|-;rw[below,aJ]at b;obtain⟨a,rfl,ha⟩:=x;exact⟨a,rfl,by rw[bk b]at ha;exact ha⟩
 | .dct k,_,x,b=>by
  rw[VR]at x|-;rw[below,aJ]at b;obtain⟨a,rfl,ha⟩:=x;exact⟨a,rfl,by rw[bk b]at ha;exact ha⟩
 | .iset l,_,x,_=>by
  rw[VR]at x|-;obtain⟨a,o,rfl,hn,r⟩:=x;exact⟨a,o,rfl,fun q=>hn (bg _ q),r⟩
 | .cset l,_,x,_=>by
  rw[VR]at x|-;obtain⟨a,o,rfl,hn,r⟩:=x;exact⟨a,o,rfl,fun q=>hn (bg _ q),r⟩
 | .bset b,_,x,_=>by
  rw[VR]at x|-;obtain⟨a,o,rfl,hn,r⟩:=x;exact⟨a,o,rfl,fun q=>hn (bg _ q),r⟩
 | .fn n,_,x,_=>by rw[VR]at x |-; exact x
 | .typ t,_,x,_=>by rw[VR]at x |-; exact x
 | .rng a b,_,x,_=>by
  rw[VR]at x|-;obtain⟨a,o,rfl,hn,r⟩:=x;exact⟨a,o,rfl,fun q=>hn (bg _ q),r⟩
def oN{C:Cx}{σ τ:List Addr}{h:Heap}:∀{l:List PV}{vs:List Value},iL C (σ++τ) h l vs->h_ σ.length l=true->iL C σ h l vs
 |[],_,x,_=>by rw[iL]at x |-; exact x
 |_::_,_,x,b=>by
  rw[iL]at x|-;rw[h_,aA]at b;obtain⟨v,r,rfl,x1,x2⟩:=x;exact⟨v,r,rfl,p8 x1 b.1,oN x2 b.2⟩
end
def pJ{C:Cx}{σ τ:List Addr}{h:Heap}:∀{l:List (ah×PV)}{r:List (Str×Value)},jc C (σ++τ) h l r->h_ σ.length (l.map (·.2))=true->jc C σ h l r
 |[],_,x,_=>by rw[jc]at x |-; exact x
 |(_,_)::_,_,x,b=>by
  rw[jc]at x|-;rw[aL,h_,aA]at b;obtain⟨y,v,r',rfl,e,x1,x2⟩:=x;exact⟨y,v,r',rfl,e,p8 x1 b.1,pJ x2 b.2⟩
section
variable{C:Cx}{σ σ' τ:List Addr}{s s' s₁:Shared}{ρ ji:ie}{st gV:St}{A:Around}{n:Nat}{E:aa}{r:pK}{v:PV}
def wm(f:PV->Option PV){h:Heap}(hf:∀p q v,f p=some q->VR C (σ++τ) h p v->VR C σ h q v):∀{l m:List PV}{vs:List Value},kj f l=some m->iL C (σ++τ) h l vs->iL C σ h m vs
 |[],m,vs,e,x=>by
  unfold kj at e;cases e;rw[iL]at x |-; exact x
 |a::l,m,vs,e,x=>by
  unfold kj at e;obtain⟨q,h1,e⟩:=ak.mp e;obtain⟨m',h2,e⟩:=aq.mp e;cases e;rw[iL]at x;obtain⟨v,r,rfl,x1,x2⟩:=x;exact iL.cons (hf _ _ _ h1 x1) (wm f hf h2 x2)
def qz(K:Ok C (σ++τ) s st):∀(fuel:Nat)(p q:PV)(v:Value),ia st σ.length fuel p=some q->VR C (σ++τ) s.heap p v->VR C σ s.heap q v
 |0,p,q,v,e,_=>by unfold ia at e;cases e
 |fuel+1,p,q,v,e,x=>by
  unfold ia at e;split at e
  ·obtain⟨m,h1,rfl⟩:=aq.mp e;rw[VR]at x|-;obtain⟨a,o,vs,rfl,hn,ho,so,r⟩:=x;exact⟨a,o,vs,rfl,fun z=>hn (bg _ z),ho,so,wm _ (qz K fuel) h1 r⟩
  ·obtain⟨m,h1,rfl⟩:=aq.mp e;rw[VR]at x|-;obtain⟨a,o,vs,rfl,hn,ho,so,r⟩:=x;exact⟨a,o,vs,rfl,fun z=>hn (bg _ z),ho,so,wm _ (qz K fuel) h1 r⟩
  ·split at e
   ·rename_i hk;cases e;exact p8 x (by rw[below];exact aT hk)
   ·rename_i k hk;split at e
    ·rename_i l hl;obtain⟨m,h1,rfl⟩:=aq.mp e;rw[VR]at x;obtain⟨a,rfl,ha⟩:=x;obtain⟨o,vs,ho,so,r⟩:=K.cells k a _ ha hl;rw[VR];refine⟨a,o,vs,rfl,fun z=> ?_,ho,so,wm _ (qz K fuel) h1 r⟩;obtain⟨j,hj⟩:=fj.mp z;have ZM:=(aF.mp hj).1;have h2:(σ++τ)[j]? =some a:=by rw[bk ZM];exact hj
     have e1:=aF.mp ha;have e2:=aF.mp h2;have:=uW K.nodup e1.1 e2.1 (e1.2.trans e2.2.symm);omega
    ·cases e
  ·split at e
   ·rename_i hk;cases e;exact p8 x (by rw[below];exact aT hk)
   ·cases e
  ·rename_i n1 n2 n3 n4;cases e;refine p8 x ?_;cases p<;>first|(rw[below];done)|rfl|exact absurd rfl (n1 _)|exact absurd rfl (n2 _)|exact absurd rfl (n3 _)|exact absurd rfl (n4 _)
def Ok.shrink(K:Ok C (σ++τ) s st)(hb:(st.take σ.length).all (iu σ.length)=true):Ok C σ s (st.take σ.length) where
 base:=K.base
 fresh0:=fun a ha=>K.fresh0 a (bg _ ha)
 len:=by
  have:=K.len;rw[aB]at this;rw[bI];omega
 nodup:=(cD.mp K.nodup).1
 cells:=fun k a c ha hc=>by
  have hk:=(aF.mp ha).1;have PJ:(σ++τ)[k]? =some a:=by rw[bk hk];exact ha
  have OM:st[k]? =some c:=by rw[List.getElem?_take_of_lt hk]at hc;exact hc
  have x:=K.cells k a c PJ OM;have b:iu σ.length c=true:=b9.mp hb c (bL hc);cases c with
  |lst l=>
   obtain⟨o,vs,ho,so,r⟩:=x;exact⟨o,vs,ho,so,oN r b⟩
  |dct l=>
   obtain⟨kvs,hd,hp⟩:=x;exact⟨kvs,hd,pJ hp b⟩
  |bs o=>cases o<;>exact x
def iO.shrink{own:Addr->Prop}(x:iO own σ s (σ++τ) s'):iO own σ s σ s':=⟨⟨[],by simp⟩,fun _ p q=>absurd p q,x.keep,x.alive,x.gens,x.os⟩
def tB{own:Addr->Prop}{w:PV}{jk:St}{val:Value}(K0:Ok C σ s st)(K:Ok C σ' s' gV)(X:iO own σ s σ' s')(hx:finish st.length gV v=some (w,jk))(V:VR C σ' s'.heap v val):
  iO own σ s σ s'/\Ok C σ s' jk/\VR C σ s'.heap w val:=by
 obtain⟨τ,rfl⟩:=X.pre;unfold finish at hx;split at hx
 ·rename_i q;rw[aA,aJ]at q;obtain⟨u,h1,h2⟩:=aq.mp hx;cases h2;rw[<-K0.len]at h1 q|-;exact⟨X.shrink,K.shrink q.2,qz K 6 v _ val h1 V⟩
 ·cases hx
end
section
variable{C:Cx}{sc:Scope}{env:Env}{σ σ' jF j8:List Addr}{s s' s₁ jy:Shared}{ρ ji:ie}{st gV:St}{A:Around}{n:Nat}{E:aa}{r:pK}{v:PV}{fl:iE}
def pS.mono{f:Flow}{h h':Heap}(m:sL σ h σ' h')(x:pS C σ h fl f):pS C σ' h' fl f:=by
 cases fl with
 |ret v=>obtain⟨val,rfl,V⟩:=x;exact⟨val,rfl,V.mono m⟩
 |next|brk|cont=>exact x
def mT{g:Scope->Stmt->ie->St->Option (iE×ie×St)}(S:Qn C n g)(hr:i9 A n):∀(body:List Stmt)(ρ ji:ie)(st gV:St)(fl:iE)(σ:List Addr)(s:Shared)(Q:Flow->Shared->Prop),
  gT (g sc) body ρ st=some (fl,ji,gV)->gP C sc env σ s.heap ρ->Ok C σ s st->
  (∀f σ' s',iO (own sc env) σ s σ' s'->Ok C σ' s' gV->gP C sc env σ' s'.heap ji->pS C σ' s'.heap fl f->Q f s')->wpAny C.M A (execs body env) Q E s
 |[],ρ,ji,st,gV,fl,σ,s,Q,hx,F,K,h=>by
  unfold gT at hx;cases hx;exact wpAny_execs_nil (h _ σ s (iO.refl F.ownData) K F rfl)
 |e::rest,ρ,ji,st,gV,fl,σ,s,Q,hx,F,K,h=>by
  unfold gT at hx;obtain⟨⟨f1,kJ,st1⟩,h1,hx⟩:=ak.mp hx;refine wpAny_execs_cons (S sc e ρ st f1 kJ st1 h1 A env σ s _ E hr F K fun fv jh t1 X1 K1 F1 fR=> ?_);cases f1 with
  |next=>
   have:fv= .next:=fR
   subst this;dsimp only at hx|-;exact mT S hr rest kJ ji st1 gV fl jh t1 Q hx F1 K1 fun f pg t2 X2 K2 F2 f2=>h f pg t2 (X1.trans X2) K2 F2 f2
  |brk=>
   have:fv= .brk:=fR;subst this;dsimp only at hx|-;cases hx;exact h _ jh t1 X1 K1 F1 rfl
  |cont=>
   have:fv= .cont:=fR;subst this;dsimp only at hx|-;cases hx;exact h _ jh t1 X1 K1 F1 rfl
  |ret w=>
   obtain⟨val,rfl,V⟩:=fR;dsimp only at hx|-;cases hx;exact h _ jh t1 X1 K1 F1 ⟨val,rfl,V⟩
def G8(S:nU C n r)(hr:i9 A n){t:Expr}{body:List Stmt}{k:Nat}{Q:Flow->Shared->Prop}(hx:jR (r.T sc t) (gT (r.S sc) body) k ρ st=some (fl,ji,gV))(F:gP C sc env σ s.heap ρ)(K:Ok C σ s st)
  (h:∀f σ' s',iO (own sc env) σ s σ' s'->Ok C σ' s' gV->gP C sc env σ' s'.heap ji->pS C σ' s'.heap fl f->Q f s') (pos:Pos):wpAny C.M A (exec (.While t body [] pos) env) Q E s:=by
 refine wpAny_While ?_;refine codeAny_whileLoop (fun m s₁=>∃jF st1 kJ,jR (r.T sc t) (gT (r.S sc) body) m kJ st1=some (fl,ji,gV)/\gP C sc env jF s₁.heap kJ/\Ok C jF s₁ st1/\iO (own sc env) σ s jF s₁) ?_ k
  ⟨σ,st,ρ,hx,F,K,iO.refl F.ownData⟩
 rintro m s₁ ⟨jF,st1,kJ,hx,F1,K1,X1⟩;cases m with
 |zero=>unfold jR at hx;cases hx
 |succ m=>
  unfold jR at hx;obtain⟨⟨b,jk⟩,h1,hx⟩:=ak.mp hx;refine S.T sc t kJ _ _ _ h1 A env jF s₁ _ _ hr F1 K1 fun pg t2 X2 K2=> ?_;have F2:=F1.ext X2;have SS:=X1.trans (F1.weaken X2);cases b with
  |false=>
   simp only[az,a_]at hx|-;cases hx;exact wpAny_execs_nil (h _ pg t2 SS K2 F2 rfl)
  |true=>
   simp only[bY]at hx|-;obtain⟨⟨f3,qa,j6⟩,h3,hx⟩:=ak.mp hx;refine mT S.S hr body kJ qa jk j6 f3 pg t2 _ h3 F2 K2 fun fv sE t3 X3 K3 F3 fR=> ?_;cases f3 with
   |next=>
    have:fv= .next:=fR
    subst this;exact⟨m,Nat.lt_succ_self _,sE,j6,qa,hx,F3,K3,SS.trans X3⟩
   |cont=>
    have:fv= .cont:=fR;subst this;exact⟨m,Nat.lt_succ_self _,sE,j6,qa,hx,F3,K3,SS.trans X3⟩
   |brk=>
    have:fv= .brk:=fR;subst this;cases hx;exact h _ sE t3 (SS.trans X3) K3 F3 rfl
   |ret w=>
    obtain⟨val,rfl,V⟩:=fR;cases hx;exact h _ sE t3 (SS.trans X3) K3 F3 ⟨val,rfl,V⟩
def Ok.notW(K:Ok C σ s st){W:Addr->Prop}(hW:qH W s):∀a,W a->a∉σ:=fun a ha hm=>by
 obtain⟨o,h1,h2⟩:=hW a ha;obtain⟨o',h3,h4⟩:=K.has hm;rw[h1]at h3;cases h3;rcases h4 with⟨x,k,e⟩|⟨x,k,e⟩|⟨x,k,t,e⟩
 ·exact h2.val (.inl ⟨_,_,e⟩)
 ·exact h2.dict _ _ e
 ·exact h2.val (.inr (.inl ⟨_,_,_,e⟩))
def A5(U:nN C)(S:nU C n r)(hr:i9 A n){target:Expr}{body:List Stmt}{l:List PV}{fit:St->Bool}{I:Addr}{W:Addr->Prop}{kq:St->Prop}{lM:Nat->List Addr->Shared->Prop}{lH:Nat->Value->List Addr->Shared->Prop}{R:Result->Shared->Prop}
  (M:MW C l I W kq lM lH) (hx:j_ (gT (r.S sc) body) sc target fit l ρ st=some (fl,ji,gV)) (jW:∀jk,fit jk=true->kq jk) (SM:kq st)
  (F:gP C sc env j8 jy.heap ρ) (K:Ok C j8 jy st) (P0:lM 0 j8 jy) (X0:iO (own sc env) jF s₁ j8 jy) (jC:∀b o,C.h₀.get? b=some o->s₁.heap.get? b=some o) (hW:∀a,W a->s₁.heap.get? a=none)
  (ht:isTuple target=true\/∀i v σ s,lH i v σ s->lM i σ s)
  (hR:∀f σ' s',iO (own sc env) jF s₁ σ' s'->Ok C σ' s' gV->gP C sc env σ' s'.heap ji->pS C σ' s'.heap fl f->R (.ok f) s'):codeAny C.M A (.forLoop target (.ref I) body [] env) R jy:=by
 have h0:∀a,W a->C.h₀.get? a=none:=fun a ha=>by
  cases e:C.h₀.get? a with
  |none=>rfl
  |some o=>have:=jC a o e;rw[hW a ha]at this;cases this
 refine codeAny_forLoop_any (fun m jq=>∃i iF j6 qa,m=l.length-i/\i<=l.length/\j_ (gT (r.S sc) body) sc target fit (l.drop i) qa j6=some (fl,ji,gV)/\kq j6/\gP C sc env iF jq.heap qa/\Ok C iF jq j6/\lM i iF jq/\iO (own sc env) jF s₁ iF jq) ?_ l.length
  ⟨0,j8,st,ρ,by omega,dH _,by simpa using hx,SM,F,K,P0,X0⟩
 rintro m jq ⟨i,iF,j6,qa,rfl,hi,hx,hC,F3,K3,P3,X3⟩;have v8:=M.objs i iF jq P3;by_cases jQ:i<l.length
 ·rw[bq jQ]at hx;unfold j_ at hx;obtain⟨Mu,h4,hx⟩:=ak.mp hx;obtain⟨⟨f5,Vn,Mv⟩,h5,hx⟩:=ak.mp hx;refine M.item A i iF jq j6 _ _ hr.hh jQ K3 hC P3 fun val q s4 hq V4 Pm R4=> ?_;rw[aP jQ]at hq;cases hq;have F4:=F3.raw R4 v8;have K4:=K3.raw R4 v8 h0 (K3.notW v8);have X4:=X3.raw R4 hW;have go:∀s5,lM (i+1) iF s5->gP C sc env iF s5.heap qa->Ok C iF s5 j6->iO (own sc env) jF s₁ iF s5->VR C iF s5.heap l[i] val->
    wpAny C.M A (assign target env val) (fun _ jy=>wpAny C.M A (execs body env) (fun f jq=>match f with
      | .next| .cont=>∃m,m<l.length-i/\∃i iF j6 qa,m=l.length-i/\i<=l.length/\j_ (gT (r.S sc) body) sc target fit (l.drop i) qa j6=some (fl,ji,gV)/\kq j6/\gP C sc env iF jq.heap qa/\Ok C iF jq j6/\lM i iF jq/\iO (own sc env) jF s₁ iF jq
      | .brk=>R (.ok .next) jq
      | .ret v=>R (.ok (.ret v)) jq) (notedBy C.M A env fun e s'=>R (.error e) s') jy) (notedBy C.M A env fun e s'=>R (.error e) s') s5:=by
   intro s5 P5 F5 K5 X5 V5;have OO:=M.objs _ _ _ P5;refine qA U hr.hh F5 K5 h4 V5 fun s6 X6 K6 F6=> ?_;have P6:lM (i+1) iF s6:=M.keep (own sc env) _ _ _ _ _ X6 (fun a ha=>⟨F5.notW OO a ha,K5.notW OO a ha⟩) P5;have R7:=M.objs _ _ _ P6;refine mT S.S hr body Mu Vn j6 Mv f5 iF s6 _ h5 F6 K6 fun fv GL s7 X7 K7 F7 fR=> ?_;have P7:lM (i+1) GL s7:=M.keep (own sc env) _ _ _ _ _ X7 (fun a ha=>⟨F6.notW R7 a ha,K6.notW R7 a ha⟩) P6;have Mt:=(X5.trans X6).trans X7;cases f5 with
   |next=>
    have:fv= .next:=fR
    subst this;dsimp only at hx|-;split at hx
    ·rename_i hf;exact⟨l.length-(i+1),by omega,i+1,GL,Mv,Vn,rfl,jQ,hx,jW _ hf,F7,K7,P7,Mt⟩
    ·cases hx
   |cont=>
    have:fv= .cont:=fR;subst this;dsimp only at hx|-;split at hx
    ·rename_i hf;exact⟨l.length-(i+1),by omega,i+1,GL,Mv,Vn,rfl,jQ,hx,jW _ hf,F7,K7,P7,Mt⟩
    ·cases hx
   |brk=>
    have:fv= .brk:=fR;subst this;dsimp only at hx|-;cases hx;exact hR _ GL s7 Mt K7 F7 rfl
   |ret w=>
    obtain⟨u,rfl,V⟩:=fR;dsimp only at hx|-;cases hx;exact hR _ GL s7 Mt K7 F7 ⟨u,rfl,V⟩
  have Xu:(∃es k p,target= .Tuple es k p)\/∃x p,target= .Name x p:=by
   unfold i8 at h4;split at h4
   ·exact .inr ⟨_,_,rfl⟩
   ·exact .inl ⟨_,_,_,rfl⟩
   ·cases h4
  rcases Xu with⟨es,k,p,rfl⟩|⟨x,p,rfl⟩
  ·refine M.go A es k p (i+1) val iF s4 _ _ Pm fun s5 P5 R5=> ?_;have E8:=M.objsM _ _ _ _ Pm;exact go s5 P5 (F4.raw R5 E8) (K4.raw R5 E8 h0 (K4.notW E8)) (X4.raw R5 hW) (V4.mono (R5.mono E8))
  ·have kX:∀i v σ s,lH i v σ s->lM i σ s:=ht.elim (fun q=>by cases q) id;show wpAny C.M A (pure ()) _ _ s4;exact aj (go s4 (kX _ _ _ _ Pm) F4 K4 X4 V4)
 ·have qR:i=l.length:=by omega
  subst qR;rw[List.drop_length]at hx;unfold j_ at hx;cases hx;refine M.done A iF jq _ _ _ hr.hh K3 hC P3 fun s4 R4=> ?_;exact wpAny_execs_nil (hR _ iF s4 (X3.raw R4 hW) (K3.raw R4 v8 h0 (K3.notW v8)) (F3.raw R4 v8) rfl)
end
mutual
def zE(a b:PV)(h:jS a b=true):a=b:=by
 cases a with
 |tup l=>cases b with
  |tup m=>rw[jS]at h;rw[qw l m h]
  |_=>simp[jS]at h
 |list l=>cases b with
  |list m=>rw[jS]at h;rw[qw l m h]
  |_=>simp[jS]at h
 |_=>cases b<;>simp_all [jS]
termination_by sizeOf a
def qw(a b:List PV)(h:kT a b=true):a=b:=by
 cases a with
 |nil=>cases b with
  |nil=>rfl
  |cons _ _=>simp[kT]at h
 |cons x l=>cases b with
  |nil=>simp[kT]at h
  |cons y m=>
   rw[kT,aA]at h;rw[zE x y h.1,qw l m h.2]
termination_by sizeOf a
end
def CJ:∀(a b:List (ah×PV)),qY a b=true->a=b
 |[],[],_=>rfl
 |[],_::_,h=>by simp[qY]at h
 |_::_,[],h=>by simp[qY]at h
 |(x,v)::l,(y,u)::m,h=>by
  unfold qY at h;rw[aA,aA,aR]at h;rw[h.1.1,zE v u h.1.2,CJ l m h.2]
def Dw{a b:jv}(h:oB a b=true):a=b:=by
 cases a<;>cases b<;>unfold oB at h
 ·rw[qw _ _ h]
 ·cases h
 ·cases h
 ·cases h
 ·rw[CJ _ _ h]
 ·cases h
 ·cases h
 ·cases h
 ·rw[aR.mp h]
def lV{p:PV}{st gV:St}(h:iM p st gV=true):gM gV p=gM st p:=by
 cases p<;>first|rfl|skip
 rename_i k;unfold iM at h;dsimp only at h;unfold gM;dsimp only;split at h
 ·rename_i c c' h1 h2;rw[h1,h2,Dw h]
 ·cases h
section
variable{C:Cx}{sc:Scope}{env:Env}{σ σ' jF j8:List Addr}{s s' s₁ jy:Shared}{ρ ji:ie}{st gV:St}{A:Around}{n:Nat}{E:aa}{r:pK}{v:PV}{fl:iE}
def Es(a b:Int):ng a b=tQ a 1 (b-a).toNat:=by
 unfold ng tQ;apply dh;intro i _;rw[Int.mul_one]
def fresh_size(s:Shared):s.heap.get? s.heap.objs.size=none:=kI (aV _)
def xx{p:PV}{l:List PV}{val:Value}{Q:aa}(hh:A.handled=none)(K:Ok C σ s st)(hc:gM st p=some l)(V:VR C σ s.heap p val)
  (h:∀I W kq lM lH s',MW C l I W kq lM lH->(∀i v σ s,lH i v σ s->lM i σ s)->(∀gV,gM gV p=some l->kq gV)->(∀a,W a->s.heap.get? a=none)->iG s s'->lM 0 σ s'->Q (.ref I) s'):wpAny C.M A (pyIter val) Q E s:=by
 have lst:((∃k,p= .lst k)\/∃m,p= .list m)->wpAny C.M A (pyIter val) Q E s:=by
  intro hp;obtain⟨a,o,vs,rfl,ho,so,r⟩:=i7 K hc V hp;refine fy (so.isList ho) ?_;have g:=iG.push s {cls:=.type "list_iterator",data:=.fields #[.ref a,.int 0 0]};exact h _ _ _ _ _ _ (MW.list (a:=a) hp) (fun _ _ _ _ z=>z) (fun _ z=>z) (fun b hb=>by rw[hb];exact fresh_size s) g
   ⟨⟨_,aM _ rfl,rfl,rfl⟩,V.grow g⟩
 cases p<;>first|(simp only[gM,reduceCtorEq]at hc;done)|skip
 ·unfold gM at hc;cases hc;obtain⟨a,o,vs,rfl,_,ho,so,r⟩:=kM V;refine wpAny_pyIter_tuple (so.isTuple ho) ?_;have g:=iG.push s {cls:=.type "tuple_iterator",data:=.fields #[.ref a,.int 0 0]};exact h _ _ _ _ _ _ (MW.tuple (a:=a)) (fun _ _ _ _ z=>z) (fun _ _=>trivial) (fun b hb=>by rw[hb];exact fresh_size s) g
   ⟨⟨_,aM _ rfl,rfl,rfl⟩,V.grow g⟩
 ·exact lst (.inr ⟨_,rfl⟩)
 ·exact lst (.inl ⟨_,rfl⟩)
 ·rename_i a b;unfold gM at hc;cases hc;obtain⟨x,t,u,w,rfl,hn,hr,h1,h2,h3,h4⟩:=sP V;have qM:Builtin.Range.rangeSize a b 1=((b-a).toNat:Int):=by rw[rangeSize_one];split<;>omega
  refine wpAny_pyIter_range hr (small_one (by omega) (by omega) (by omega) (by omega)) ?_;rw[qM,Es]at*;have g:=iG.push s {cls:=.type "range_iterator",data:=.fields #[rawInt a,rawInt ((b-a).toNat:Int),rawInt 1]};refine h _ _ _ _ _ _ (MW.range a 1 (b-a).toNat) (fun _ _ _ _ z=>z) (fun _ _=>trivial) (fun b hb=>by rw[hb];exact fresh_size s) g ?_;show IsRangeIter _ _ _ _ _;have:=aM s.heap (o:={cls:=.type "range_iterator",data:=.fields #[rawInt a,rawInt ((b-a).toNat:Int),rawInt 1]}) rfl;simpa using this
end
def BA(elt target iter:Expr)(scope:Scope)(pos:Pos)(it acc:Value)(env:Env)(ifs:List Expr):
  compTurn (.SetComp elt [⟨target,iter,ifs,0⟩] scope pos) 0 it acc env=(do
   standAt iter.pos
   match<-pyNext it with
   |none=>pure (.done .next)
   |some v=>
    letOwnedTupleGo target it v
    assign target env v
    let mut ok:=true
    for c in ifs do
     if ok then ok<-isTrue c env (eval c env)
    if ok then
     (do let v<-eval elt env;standAt elt.pos;let _<-call (.builtin "set.add") [acc,v])
    again (.compLoop (.SetComp elt [⟨target,iter,ifs,0⟩] scope pos) 0 it acc env)):=by rfl
section
variable{prog:Program}{w:World}{A:Around}{R:Result->Shared->Prop}{s:Shared}
def yX{elt target iter:Expr}{ifs:List Expr}{scope:Scope}{pos:Pos}{it acc:Value}{env:Env}(I:Nat->Shared->Prop)
  (turn:∀n s,I n s->wpAny (model prog w) A (pyNext it) (fun r s₁=>match r with
   |none=>R (.ok .next) s₁
   |some v=>wpAny (model prog w) A (letOwnedTupleGo target it v) (fun _ BS=>wpAny (model prog w) A (assign target env v) (fun _ jy=>
     wpAny (model prog w) A (forIn ifs true fun c r=>if r=true then do let ok<-isTrue c env (eval c env);pure (ForInStep.yield ok)else pure (ForInStep.yield r)) (fun ok jq=>
      if ok=true then wpAny (model prog w) A (eval elt env) (fun x Af=>
       wpAny (model prog w) A (call (.builtin "list.append") [acc,x]) (fun _ Jd=>∃m,m<n/\I m Jd) (notedBy (model prog w) A env fun e s'=>R (.error e) s') Af) (notedBy (model prog w) A env fun e s'=>R (.error e) s') jq
      else∃m,m<n/\I m jq) (notedBy (model prog w) A env fun e s'=>R (.error e) s') jy) (notedBy (model prog w) A env fun e s'=>R (.error e) s') BS) (notedBy (model prog w) A env fun e s'=>R (.error e) s') s₁) (notedBy (model prog w) A env fun e s'=>R (.error e) s') s)
  (n:Nat) (h:I n s):
  codeAny (model prog w) A (.compLoop (.ListComp elt [⟨target,iter,ifs,0⟩] scope pos) 0 it acc env) R s:=by
 refine codeAny_loop rfl I (fun n s hI=> ?_) n h;show wpAny _ A ((compTurn (.ListComp elt [⟨target,iter,ifs,0⟩] scope pos) 0 it acc env).onRaise (fun x=>do noteFrame x env;theTreesLotGoes x)) _ _ s;refine wpAny_noted ?_;rw[compTurn_list];refine ai (cg (ai (bU (turn n s hI) (fun r s₁ jC=> ?_) fun _ _ h'=>h')));cases r with
 |none=>exact aj jC
 |some v=>
  refine ai (bU jC (fun _ BS Jy=> ?_) fun _ _ h'=>h');refine ai (bU Jy (fun _ jy nD=>ai (bU nD (fun ok jq Jh=> ?_) fun _ _ h'=>h')) fun _ _ h'=>h');cases ok with
  |false=>exact aj ⟨rfl,Jh⟩
  |true=>
   exact ai (ai (bU Jh (fun x Af PY=>ai (bU PY (fun _ Jd PX=>aj (aj ⟨rfl,PX⟩)) fun _ _ h'=>h')) fun _ _ h'=>h'))
def yu{elt target iter ifs rest scope pos it acc env}
  (h0:codeAny (model prog w) A (.compLoop (.ListComp elt (⟨target,iter,ifs,0⟩::rest) scope pos) 0 it acc env) R s)
  (h:wpAny (model prog w) A (pyIter it) (fun Pu s'=>codeAny (model prog w) A (.compLoop (.ListComp elt (⟨target,iter,ifs,0⟩::rest) scope pos) 0 Pu acc env) R s')
   (notedBy (model prog w) A env fun x s'=>R (.error x) s') s):
  codeAny (model prog w) A (.compStart (.ListComp elt (⟨target,iter,ifs,0⟩::rest) scope pos) 0 it acc env) R s:=by
 refine fX ?_;show wpAny _ _ ((compStart (.ListComp elt (⟨target,iter,ifs,0⟩::rest) scope pos) 0 it acc env).onRaise (fun x=>do noteFrame x env;standAt theWindowsPlace)) _ _ s;refine wpAny_notedAt ?_;unfold compStart;show wpAny _ _ (ask >>= _) _ _ s;refine ai (cR (wpAny_ite ?_));split
 ·first
   |exact ai (aj (aj (And.intro rfl h0)))
   |exact aj (And.intro rfl h0)
 ·first
   |exact ai (dD (ai (cg (ai (bU h (fun Pu s' h'=>aj (And.intro rfl h')) fun _ _ x=>x)))))
   |(refine ai (dD ?_);show wpAny _ _ (standAt iter.pos >>= _) _ _ s;exact ai (cg (ai (bU h (fun Pu s' h'=>aj (And.intro rfl h')) fun _ _ x=>x))))
def BB{elt target iter:Expr}{ifs:List Expr}{scope:Scope}{pos:Pos}{it acc:Value}{env:Env}(I:Nat->Shared->Prop)
  (turn:∀n s,I n s->wpAny (model prog w) A (pyNext it) (fun r s₁=>match r with
   |none=>R (.ok .next) s₁
   |some v=>wpAny (model prog w) A (letOwnedTupleGo target it v) (fun _ BS=>wpAny (model prog w) A (assign target env v) (fun _ jy=>
     wpAny (model prog w) A (forIn ifs true fun c r=>if r=true then do let ok<-isTrue c env (eval c env);pure (ForInStep.yield ok)else pure (ForInStep.yield r)) (fun ok jq=>
      if ok=true then wpAny (model prog w) A (eval elt env) (fun x Af=>
       wpAny (model prog w) A (call (.builtin "set.add") [acc,x]) (fun _ Jd=>∃m,m<n/\I m Jd) (notedBy (model prog w) A env fun e s'=>R (.error e) s') Af) (notedBy (model prog w) A env fun e s'=>R (.error e) s') jq
      else∃m,m<n/\I m jq) (notedBy (model prog w) A env fun e s'=>R (.error e) s') jy) (notedBy (model prog w) A env fun e s'=>R (.error e) s') BS) (notedBy (model prog w) A env fun e s'=>R (.error e) s') s₁) (notedBy (model prog w) A env fun e s'=>R (.error e) s') s)
  (n:Nat) (h:I n s):
  codeAny (model prog w) A (.compLoop (.SetComp elt [⟨target,iter,ifs,0⟩] scope pos) 0 it acc env) R s:=by
 refine codeAny_loop rfl I (fun n s hI=> ?_) n h;show wpAny _ A ((compTurn (.SetComp elt [⟨target,iter,ifs,0⟩] scope pos) 0 it acc env).onRaise (fun x=>do noteFrame x env;theTreesLotGoes x)) _ _ s;refine wpAny_noted ?_;rw[BA];refine ai (cg (ai (bU (turn n s hI) (fun r s₁ jC=> ?_) fun _ _ h'=>h')));cases r with
 |none=>exact aj jC
 |some v=>
  refine ai (bU jC (fun _ BS Jy=> ?_) fun _ _ h'=>h');refine ai (bU Jy (fun _ jy nD=>ai (bU nD (fun ok jq Jh=> ?_) fun _ _ h'=>h')) fun _ _ h'=>h');cases ok with
  |false=>exact aj ⟨rfl,Jh⟩
  |true=>
   exact ai (ai (bU Jh (fun x Af PY=>ai (cg (ai (bU PY (fun _ Jd PX=>aj (aj ⟨rfl,PX⟩)) fun _ _ h'=>h')))) fun _ _ h'=>h'))
def yW{elt target iter ifs rest scope pos it acc env}
  (h0:codeAny (model prog w) A (.compLoop (.SetComp elt (⟨target,iter,ifs,0⟩::rest) scope pos) 0 it acc env) R s)
  (h:wpAny (model prog w) A (pyIter it) (fun Pu s'=>codeAny (model prog w) A (.compLoop (.SetComp elt (⟨target,iter,ifs,0⟩::rest) scope pos) 0 Pu acc env) R s')
   (notedBy (model prog w) A env fun x s'=>R (.error x) s') s):
  codeAny (model prog w) A (.compStart (.SetComp elt (⟨target,iter,ifs,0⟩::rest) scope pos) 0 it acc env) R s:=by
 refine fX ?_;show wpAny _ _ ((compStart (.SetComp elt (⟨target,iter,ifs,0⟩::rest) scope pos) 0 it acc env).onRaise (fun x=>do noteFrame x env;standAt theWindowsPlace)) _ _ s;refine wpAny_notedAt ?_;unfold compStart;show wpAny _ _ (ask >>= _) _ _ s;refine ai (cR (wpAny_ite ?_));split
 ·first
   |exact ai (aj (aj (And.intro rfl h0)))
   |exact aj (And.intro rfl h0)
 ·first
   |exact ai (dD (ai (cg (ai (bU h (fun Pu s' h'=>aj (And.intro rfl h')) fun _ _ x=>x)))))
   |(refine ai (dD ?_);show wpAny _ _ (standAt iter.pos >>= _) _ _ s;exact ai (cg (ai (bU h (fun Pu s' h'=>aj (And.intro rfl h')) fun _ _ x=>x))))
end
def sJ(env:Env):List (Str×NameKind)->List (Str×Addr)->List (Str×Addr)
 |[],acc=>acc
 |(x,k)::r,acc=>if k== .free then sJ env r ((x,(env.cells.lookup x).getD 0)::acc)else sJ env r acc
def sD{scope:Scope}{env:Env}(h:∀x,(x,NameKind.free)∈scope.names->∃c,env.cells.lookup x=some c):closureFor scope env=pure (sJ env scope.names []):=by
 unfold closureFor;have key:∀(l:List (Str×NameKind))(acc:List (Str×Addr)),(∀x,(x,NameKind.free)∈l->∃c,env.cells.lookup x=some c)->
   (forIn l acc fun(x:Str×NameKind)(r:List (Str×Addr))=>(match x with
    |(name,kind)=>if(kind==NameKind.free)=true then do let __do_lift<-cellOf env name;pure (ForInStep.yield ((name,__do_lift)::r))else pure (ForInStep.yield r):Sem (ForInStep (List (Str×Addr)))))=pure (sJ env l acc):=by
  intro l
  induction l with
  |nil=>intro acc _;rfl
  |cons p r ih=>
   intro acc hl;obtain⟨x,k⟩:=p;rw[b8];dsimp only;unfold sJ;by_cases hk:(k==NameKind.free)=true
   ·rw[aQ hk,aQ hk];have oW:=aR.mp hk;subst oW;obtain⟨c,hc⟩:=hl x (aU ..);have:cellOf env x=pure c:=by unfold cellOf;rw[hc]
    rw[this,hc];simp only[pure_bind];exact ih _ fun y hy=>hl y (ay _ hy)
   ·rw[aD hk,aD hk];simp only[pure_bind];exact ih _ fun y hy=>hl y (ay _ hy)
 have:=dm (fun t:Sem (List (Str×Addr))=>t >>= pure) (key scope.names [] h);rw[pure_bind]at this;exact this
def pW(env:Env):∀(l:List (Str×NameKind))(acc:List (Str×Addr)),sJ env l acc=sJ env l []++acc
 |[],_=>rfl
 |(x,k)::r,acc=>by
  unfold sJ;split
  ·rw[pW env r ((x,_)::acc),pW env r [(x,_)]];simp
  ·exact pW env r acc
def xC(env:Env):∀{l:List (Str×NameKind)}{x:Str}{c:Addr},(x,c)∈sJ env l []->c=(env.cells.lookup x).getD 0
 |[],_,_,h=>by cases h
 |(y,k)::r,x,c,h=>by
  unfold sJ at h;split at h
  ·rw[pW]at h;rcases bl.mp h with h|h
   ·exact xC env h
   ·have:=aK.mp h;cases this;rfl
  ·exact xC env h
def CL(env:Env):∀{l:List (Str×NameKind)}{x:Str},(x,NameKind.free)∈l->∃c,(x,c)∈sJ env l []
 |(y,k)::r,x,h=>by
  unfold sJ;rcases aY.mp h with e|h
  ·cases e;rw[aQ (bJ _),pW];exact⟨_,cM _ (aK.mpr rfl)⟩
  ·obtain⟨c,hc⟩:=CL env h;split
   ·rw[pW];exact⟨c,bg _ hc⟩
   ·exact⟨c,hc⟩
def vM{env:Env}{l:List (Str×NameKind)}{x:Str}{c:Addr}(h:(x,NameKind.free)∈l)(hc:env.cells.lookup x=some c):(sJ env l []).lookup x=some c:=by
 obtain⟨d,hd⟩:=CL env h;obtain⟨d',OL⟩:=oM hd;have:=xC env (mem_of_lookup OL);rw[hc]at this;rw[OL,this];rfl
def p5{sc:Scope}{x:Str}:∀{ρ:ie},iY x (freeOf sc ρ)=if iw sc x==some .free then iY x ρ else none
 |[]=>by unfold freeOf iY;split<;>rfl
 |(y,v)::r=>by
  unfold freeOf;by_cases hy:(iw sc y==some .free)=true
  ·rw[aQ hy];unfold iY;by_cases Px:y=x
   ·subst Px;rw[aQ (bJ y),aQ hy];simp
   ·have:(y==x)=false:=aO.mpr Px;simp only[this,az,a_];exact p5
  ·rw[aD hy];by_cases Px:y=x
   ·subst Px;rw[p5,aD hy,aD hy]
   ·have:(y==x)=false:=aO.mpr Px;rw[p5]
    conv=>rhs;unfold iY
    simp only[this,az,a_]
section
variable{C:Cx}{sc:Scope}{env:Env}{σ σ' jF j8:List Addr}{s s' s₁ jy:Shared}{ρ ji:ie}{st gV:St}{A:Around}{n:Nat}{E:aa}{r:pK}{v:PV}{fl:iE}
def zl{env:Env}:∀(ifs:List Expr),(forIn ifs false fun c r=>if r=true then do let ok<-isTrue c env (eval c env);pure (ForInStep.yield ok)else pure (ForInStep.yield r):Sem Bool)=pure false
 |[]=>rfl
 |e::r=>by
  rw[b8];simp only[az,a_,pure_bind];exact zl r
def uQ{g:Scope->Expr->ie->St->Option (Bool×St)}(S:Qm C n g)(hr:i9 A n):∀(ifs:List Expr)(st gV:St)(b:Bool)(σ:List Addr)(s:Shared)(Q:Bool->Shared->Prop),
  lX (g sc) ρ ifs st=some (b,gV)->gP C sc env σ s.heap ρ->Ok C σ s st->(∀σ' s',iO g_ σ s σ' s'->Ok C σ' s' gV->Q b s')->
  wpAny C.M A (forIn ifs true fun c r=>if r=true then do let ok<-isTrue c env (eval c env);pure (ForInStep.yield ok)else pure (ForInStep.yield r)) Q E s
 |[],st,gV,b,σ,s,Q,hx,F,K,h=>by
  unfold lX at hx;cases hx;exact aj (h σ s iO.rfl' K)
 |e::rest,st,gV,b,σ,s,Q,hx,F,K,h=>by
  unfold lX at hx;obtain⟨⟨c,s1⟩,h1,hx⟩:=ak.mp hx;rw[b8];simp only[bY,bind_assoc,pure_bind];refine ai (S sc e ρ _ _ _ h1 A env σ s _ E hr F K fun jh t1 X1 K1=> ?_);cases c with
  |true=>
   simp only[bY]at hx|-;exact uQ S hr rest s1 gV b jh t1 Q hx (F.ext X1) K1 fun pg t2 X2 K2=>h pg t2 (X1.trans X2) K2
  |false=>
   simp only[az,a_]at hx|-;cases hx;rw[zl];exact aj (h jh t1 X1 K1)
def iO.idx{own:Addr->Prop}(x:iO own σ s σ' s'){k:Nat}{a:Addr}(h:σ[k]? =some a):σ'[k]? =some a:=by
 obtain⟨t,rfl⟩:=x.pre;rw[bk (aF.mp h).1];exact h
def Puts(C:Cx)(A:Around)(put:PV->St->Option St)(N:Nat)(D:Addr)(id:String):Prop:=
 ∀(σ:List Addr)(s:Shared)(st gV:St)(x:PV)(xv:Value)(Q:aa)(E:aa),put x st=some gV->Ok C σ s st->σ[N]? =some D->VR C σ s.heap x xv->
  (∀v σ' s',iO g_ σ s σ' s'->Ok C σ' s' gV->Q v s')->wpAny C.M A (call (.builtin id) [.ref D,xv]) Q E s
def HK{N:Nat}{D:Addr}(hh:A.handled=none):Puts C A (putL N) N D "list.append":=by
 intro σ s st gV x xv Q E hx K hD V h;have hm:methP st (.lst N) "append" [x]=some (.none,gV):=by
  unfold putL at hx;unfold methP;simp only[bJ,bY];split at hx
  ·rename_i l hl;split at hx
   ·rename_i q;rw[aQ q];cases hx;rfl
   ·cases hx
  ·cases hx
 obtain⟨_,_,hc⟩:=vC (C:=C) hm;exact hc A σ s (.ref D) [xv] Q E hh K (by rw[VR];exact⟨D,rfl,hD⟩) (iL.cons V iL.nil) fun val σ' s' X K' _=>h val σ' s' X K'
def Iz(U:nN C)(S:nU C n r)(hr:i9 A n){cenv:Env}{iS:Scope}{elt target iter:Expr}{ifs:List Expr}{scope:Scope}{pos:Pos}{l:List PV}{fit:St->Bool}{put:PV->St->Option St}{N:Nat}{D I:Addr}{W:Addr->Prop}{kq:St->Prop}
  {lM:Nat->List Addr->Shared->Prop} {lH:Nat->Value->List Addr->Shared->Prop} {R:Result->Shared->Prop} {p_:St}
  (M:MW C l I W kq lM lH) (kX:∀i v σ s,lH i v σ s->lM i σ s) (hp:Puts C A put N D "list.append") (hx:jl r iS put elt target ifs fit l ρ st=some p_) (jW:∀jk,fit jk=true->kq jk) (SM:kq st)
  (F:gP C iS cenv j8 jy.heap ρ) (K:Ok C j8 jy st) (P0:lM 0 j8 jy) (hD:j8[N]? =some D) (X0:iO (own iS cenv) jF s₁ j8 jy) (jC:∀b o,C.h₀.get? b=some o->s₁.heap.get? b=some o) (hW:∀a,W a->s₁.heap.get? a=none)
  (hR:∀σ' s',iO (own iS cenv) jF s₁ σ' s'->Ok C σ' s' p_->σ'[N]? =some D->(∃m,s'.heap.Ns cenv.locals m)->R (.ok .next) s'):codeAny C.M A (.compLoop (.ListComp elt [⟨target,iter,ifs,0⟩] scope pos) 0 (.ref I) (.ref D) cenv) R jy:=by
 have h0:∀a,W a->C.h₀.get? a=none:=fun a ha=>by
  cases e:C.h₀.get? a with
  |none=>rfl
  |some o=>have:=jC a o e;rw[hW a ha]at this;cases this
 refine yX (fun m jq=>∃i iF j6 qa,m=l.length-i/\i<=l.length/\jl r iS put elt target ifs fit (l.drop i) qa j6=some p_/\kq j6/\gP C iS cenv iF jq.heap qa/\Ok C iF jq j6/\lM i iF jq/\iF[N]? =some D/\iO (own iS cenv) jF s₁ iF jq) ?_ l.length
  ⟨0,j8,st,ρ,by omega,dH _,by simpa using hx,SM,F,K,P0,hD,X0⟩
 rintro m jq ⟨i,iF,j6,qa,rfl,hi,hx,hC,F3,K3,P3,MG,X3⟩;have v8:=M.objs i iF jq P3;by_cases jQ:i<l.length
 ·rw[bq jQ]at hx;unfold jl at hx;obtain⟨Mu,h4,hx⟩:=ak.mp hx;obtain⟨⟨b,Mv⟩,h5,hx⟩:=ak.mp hx;refine M.item A i iF jq j6 _ _ hr.hh jQ K3 hC P3 fun val q s4 hq V4 Pm R4=> ?_;rw[aP jQ]at hq;cases hq;have F4:=F3.raw R4 v8;have K4:=K3.raw R4 v8 h0 (K3.notW v8);have X4:=X3.raw R4 hW;have go:∀s5,lM (i+1) iF s5->gP C iS cenv iF s5.heap qa->Ok C iF s5 j6->iO (own iS cenv) jF s₁ iF s5->VR C iF s5.heap l[i] val->
    wpAny C.M A (assign target cenv val) (fun _ jy=>
     wpAny C.M A (forIn ifs true fun c r=>if r=true then do let ok<-isTrue c cenv (eval c cenv);pure (ForInStep.yield ok)else pure (ForInStep.yield r)) (fun ok jq=>
      if ok=true then wpAny C.M A (eval elt cenv) (fun x Af=>
       wpAny C.M A (call (.builtin "list.append") [.ref D,x]) (fun _ jq=>∃m,m<l.length-i/\∃i iF j6 qa,m=l.length-i/\i<=l.length/\jl r iS put elt target ifs fit (l.drop i) qa j6=some p_/\kq j6/\gP C iS cenv iF jq.heap qa/\Ok C iF jq j6/\lM i iF jq/\iF[N]? =some D/\iO (own iS cenv) jF s₁ iF jq) (notedBy C.M A cenv fun e s'=>R (.error e) s') Af) (notedBy C.M A cenv fun e s'=>R (.error e) s') jq
      else∃m,m<l.length-i/\∃i iF j6 qa,m=l.length-i/\i<=l.length/\jl r iS put elt target ifs fit (l.drop i) qa j6=some p_/\kq j6/\gP C iS cenv iF jq.heap qa/\Ok C iF jq j6/\lM i iF jq/\iF[N]? =some D/\iO (own iS cenv) jF s₁ iF jq) (notedBy C.M A cenv fun e s'=>R (.error e) s') jy) (notedBy C.M A cenv fun e s'=>R (.error e) s') s5:=by
   intro s5 P5 F5 K5 X5 V5;have OO:=M.objs _ _ _ P5;refine qA U hr.hh F5 K5 h4 V5 fun s6 X6 K6 F6=> ?_;have P6:lM (i+1) iF s6:=M.keep (own iS cenv) _ _ _ _ _ X6 (fun a ha=>⟨F5.notW OO a ha,K5.notW OO a ha⟩) P5;have R7:=M.objs _ _ _ P6;refine uQ S.T hr ifs j6 Mv b iF s6 _ h5 F6 K6 fun GL s7 X7 K7=> ?_;have P7:lM (i+1) GL s7:=M.keep g_ _ _ _ _ _ X7 (fun a ha=>⟨id,K6.notW R7 a ha⟩) P6;have F7:=F6.ext X7;have Wj:=M.objs _ _ _ P7;have Mt:=(X5.trans X6).trans (F6.weaken X7);cases b with
   |false=>
    simp only[az,a_]at hx|-;split at hx
    ·rename_i hf;exact⟨l.length-(i+1),by omega,i+1,GL,Mv,Mu,rfl,jQ,hx,jW _ hf,F7,K7,P7,X7.idx MG,Mt⟩
    ·cases hx
   |true=>
    simp only[bY]at hx|-;obtain⟨⟨x,Vp⟩,h8,hx⟩:=ak.mp hx;obtain⟨Sj,h9,hx⟩:=ak.mp hx;refine S.E iS elt Mu _ _ _ h8 A cenv GL s7 _ _ hr F7 K7 fun xv Sg s8 X8 K8 V8=> ?_;have P8:lM (i+1) Sg s8:=M.keep g_ _ _ _ _ _ X8 (fun a ha=>⟨id,K7.notW Wj a ha⟩) P7;have F8:=F7.ext X8;have Wi:=M.objs _ _ _ P8;refine hp Sg s8 Vp Sj x xv _ _ h9 K8 (X8.idx (X7.idx MG)) V8 fun _ Sf s9 X9 K9=> ?_;have P9:lM (i+1) Sf s9:=M.keep g_ _ _ _ _ _ X9 (fun a ha=>⟨id,K8.notW Wi a ha⟩) P8;split at hx
    ·rename_i hf;exact⟨l.length-(i+1),by omega,i+1,Sf,Sj,Mu,rfl,jQ,hx,jW _ hf,F8.ext X9,K9,P9,X9.idx (X8.idx (X7.idx MG)),(Mt.trans (F7.weaken X8)).trans (F8.weaken X9)⟩
    ·cases hx
  by_cases Ak:∃es k p,target= .Tuple es k p
  ·obtain⟨es,k,p,rfl⟩:=Ak;refine M.go A es k p (i+1) val iF s4 _ _ Pm fun s5 P5 R5=> ?_;have E8:=M.objsM _ _ _ _ Pm;exact go s5 P5 (F4.raw R5 E8) (K4.raw R5 E8 h0 (K4.notW E8)) (X4.raw R5 hW) (V4.mono (R5.mono E8))
  ·have nq:∃x p,target= .Name x p:=by
    unfold i8 at h4;split at h4
    ·exact⟨_,_,rfl⟩
    ·exact absurd ⟨_,_,_,rfl⟩ Ak
    ·cases h4
   obtain⟨x,p,rfl⟩:=nq;show wpAny C.M A (pure ()) _ _ s4;exact aj (go s4 (kX _ _ _ _ Pm) F4 K4 X4 V4)
 ·have qR:i=l.length:=by omega
  subst qR;rw[List.drop_length]at hx;unfold jl at hx;cases hx;refine M.done A iF jq _ _ _ hr.hh K3 hC P3 fun s4 R4=> ?_;have F4:=F3.raw R4 v8;obtain⟨mm,hn,_⟩:=F4.ns;exact hR iF s4 (X3.raw R4 hW) (K3.raw R4 v8 h0 (K3.notW v8)) MG ⟨mm,hn⟩
def LZ(U:nN C)(S:nU C n r)(hr:i9 A n){cenv:Env}{iS:Scope}{elt target iter:Expr}{ifs:List Expr}{scope:Scope}{pos:Pos}{l:List PV}{fit:St->Bool}{put:PV->St->Option St}{N:Nat}{D I:Addr}{W:Addr->Prop}{kq:St->Prop}
  {lM:Nat->List Addr->Shared->Prop} {lH:Nat->Value->List Addr->Shared->Prop} {R:Result->Shared->Prop} {p_:St}
  (M:MW C l I W kq lM lH) (kX:∀i v σ s,lH i v σ s->lM i σ s) (hp:Puts C A put N D "set.add") (hx:jl r iS put elt target ifs fit l ρ st=some p_) (jW:∀jk,fit jk=true->kq jk) (SM:kq st)
  (F:gP C iS cenv j8 jy.heap ρ) (K:Ok C j8 jy st) (P0:lM 0 j8 jy) (hD:j8[N]? =some D) (X0:iO (own iS cenv) jF s₁ j8 jy) (jC:∀b o,C.h₀.get? b=some o->s₁.heap.get? b=some o) (hW:∀a,W a->s₁.heap.get? a=none)
  (hR:∀σ' s',iO (own iS cenv) jF s₁ σ' s'->Ok C σ' s' p_->σ'[N]? =some D->(∃m,s'.heap.Ns cenv.locals m)->R (.ok .next) s'):codeAny C.M A (.compLoop (.SetComp elt [⟨target,iter,ifs,0⟩] scope pos) 0 (.ref I) (.ref D) cenv) R jy:=by
 have h0:∀a,W a->C.h₀.get? a=none:=fun a ha=>by
  cases e:C.h₀.get? a with
  |none=>rfl
  |some o=>have:=jC a o e;rw[hW a ha]at this;cases this
 refine BB (fun m jq=>∃i iF j6 qa,m=l.length-i/\i<=l.length/\jl r iS put elt target ifs fit (l.drop i) qa j6=some p_/\kq j6/\gP C iS cenv iF jq.heap qa/\Ok C iF jq j6/\lM i iF jq/\iF[N]? =some D/\iO (own iS cenv) jF s₁ iF jq) ?_ l.length
  ⟨0,j8,st,ρ,by omega,dH _,by simpa using hx,SM,F,K,P0,hD,X0⟩
 rintro m jq ⟨i,iF,j6,qa,rfl,hi,hx,hC,F3,K3,P3,MG,X3⟩;have v8:=M.objs i iF jq P3;by_cases jQ:i<l.length
 ·rw[bq jQ]at hx;unfold jl at hx;obtain⟨Mu,h4,hx⟩:=ak.mp hx;obtain⟨⟨b,Mv⟩,h5,hx⟩:=ak.mp hx;refine M.item A i iF jq j6 _ _ hr.hh jQ K3 hC P3 fun val q s4 hq V4 Pm R4=> ?_;rw[aP jQ]at hq;cases hq;have F4:=F3.raw R4 v8;have K4:=K3.raw R4 v8 h0 (K3.notW v8);have X4:=X3.raw R4 hW;have go:∀s5,lM (i+1) iF s5->gP C iS cenv iF s5.heap qa->Ok C iF s5 j6->iO (own iS cenv) jF s₁ iF s5->VR C iF s5.heap l[i] val->
    wpAny C.M A (assign target cenv val) (fun _ jy=>
     wpAny C.M A (forIn ifs true fun c r=>if r=true then do let ok<-isTrue c cenv (eval c cenv);pure (ForInStep.yield ok)else pure (ForInStep.yield r)) (fun ok jq=>
      if ok=true then wpAny C.M A (eval elt cenv) (fun x Af=>
       wpAny C.M A (call (.builtin "set.add") [.ref D,x]) (fun _ jq=>∃m,m<l.length-i/\∃i iF j6 qa,m=l.length-i/\i<=l.length/\jl r iS put elt target ifs fit (l.drop i) qa j6=some p_/\kq j6/\gP C iS cenv iF jq.heap qa/\Ok C iF jq j6/\lM i iF jq/\iF[N]? =some D/\iO (own iS cenv) jF s₁ iF jq) (notedBy C.M A cenv fun e s'=>R (.error e) s') Af) (notedBy C.M A cenv fun e s'=>R (.error e) s') jq
      else∃m,m<l.length-i/\∃i iF j6 qa,m=l.length-i/\i<=l.length/\jl r iS put elt target ifs fit (l.drop i) qa j6=some p_/\kq j6/\gP C iS cenv iF jq.heap qa/\Ok C iF jq j6/\lM i iF jq/\iF[N]? =some D/\iO (own iS cenv) jF s₁ iF jq) (notedBy C.M A cenv fun e s'=>R (.error e) s') jy) (notedBy C.M A cenv fun e s'=>R (.error e) s') s5:=by
   intro s5 P5 F5 K5 X5 V5;have OO:=M.objs _ _ _ P5;refine qA U hr.hh F5 K5 h4 V5 fun s6 X6 K6 F6=> ?_;have P6:lM (i+1) iF s6:=M.keep (own iS cenv) _ _ _ _ _ X6 (fun a ha=>⟨F5.notW OO a ha,K5.notW OO a ha⟩) P5;have R7:=M.objs _ _ _ P6;refine uQ S.T hr ifs j6 Mv b iF s6 _ h5 F6 K6 fun GL s7 X7 K7=> ?_;have P7:lM (i+1) GL s7:=M.keep g_ _ _ _ _ _ X7 (fun a ha=>⟨id,K6.notW R7 a ha⟩) P6;have F7:=F6.ext X7;have Wj:=M.objs _ _ _ P7;have Mt:=(X5.trans X6).trans (F6.weaken X7);cases b with
   |false=>
    simp only[az,a_]at hx|-;split at hx
    ·rename_i hf;exact⟨l.length-(i+1),by omega,i+1,GL,Mv,Mu,rfl,jQ,hx,jW _ hf,F7,K7,P7,X7.idx MG,Mt⟩
    ·cases hx
   |true=>
    simp only[bY]at hx|-;obtain⟨⟨x,Vp⟩,h8,hx⟩:=ak.mp hx;obtain⟨Sj,h9,hx⟩:=ak.mp hx;refine S.E iS elt Mu _ _ _ h8 A cenv GL s7 _ _ hr F7 K7 fun xv Sg s8 X8 K8 V8=> ?_;have P8:lM (i+1) Sg s8:=M.keep g_ _ _ _ _ _ X8 (fun a ha=>⟨id,K7.notW Wj a ha⟩) P7;have F8:=F7.ext X8;have Wi:=M.objs _ _ _ P8;refine hp Sg s8 Vp Sj x xv _ _ h9 K8 (X8.idx (X7.idx MG)) V8 fun _ Sf s9 X9 K9=> ?_;have P9:lM (i+1) Sf s9:=M.keep g_ _ _ _ _ _ X9 (fun a ha=>⟨id,K8.notW Wi a ha⟩) P8;split at hx
    ·rename_i hf;exact⟨l.length-(i+1),by omega,i+1,Sf,Sj,Mu,rfl,jQ,hx,jW _ hf,F8.ext X9,K9,P9,X9.idx (X8.idx (X7.idx MG)),(Mt.trans (F7.weaken X8)).trans (F8.weaken X9)⟩
    ·cases hx
  by_cases Ak:∃es k p,target= .Tuple es k p
  ·obtain⟨es,k,p,rfl⟩:=Ak;refine M.go A es k p (i+1) val iF s4 _ _ Pm fun s5 P5 R5=> ?_;have E8:=M.objsM _ _ _ _ Pm;exact go s5 P5 (F4.raw R5 E8) (K4.raw R5 E8 h0 (K4.notW E8)) (X4.raw R5 hW) (V4.mono (R5.mono E8))
  ·have nq:∃x p,target= .Name x p:=by
    unfold i8 at h4;split at h4
    ·exact⟨_,_,rfl⟩
    ·exact absurd ⟨_,_,_,rfl⟩ Ak
    ·cases h4
   obtain⟨x,p,rfl⟩:=nq;show wpAny C.M A (pure ()) _ _ s4;exact aj (go s4 (kX _ _ _ _ Pm) F4 K4 X4 V4)
 ·have qR:i=l.length:=by omega
  subst qR;rw[List.drop_length]at hx;unfold jl at hx;cases hx;refine M.done A iF jq _ _ _ hr.hh K3 hC P3 fun s4 R4=> ?_;have F4:=F3.raw R4 v8;obtain⟨mm,hn,_⟩:=F4.ns;exact hR iF s4 (X3.raw R4 hW) (K3.raw R4 v8 h0 (K3.notW v8)) MG ⟨mm,hn⟩
end
def rF{env:Env}:∀{names:List (Str×NameKind)}{x:Str},(names.map fun(n,k)=>if(k==NameKind.free&&env.scope.kind== .function&&env.kindOf n==some .cell)then(n,NameKind.cell)else(n,k)).lookup x=
  (names.lookup x).map fun k=>if(k==NameKind.free&&env.scope.kind== .function&&env.kindOf x==some .cell)then NameKind.cell else k
 |[],_=>rfl
 |(n,k)::r,x=>by
  have ih:= @rF env r x;show List.lookup x ((if(k==NameKind.free&&env.scope.kind== .function&&env.kindOf n==some .cell)=true then(n,NameKind.cell)else(n,k))::_)=_;have sH:∀(b:Bool),List.lookup x ((if b=true then(n,NameKind.cell)else(n,k))::(r.map fun(n,k)=>if(k==NameKind.free&&env.scope.kind== .function&&env.kindOf n==some .cell)then(n,NameKind.cell)else(n,k)))=
    if(x==n)=true then some (if b=true then NameKind.cell else k)else List.lookup x (r.map fun(n,k)=>if(k==NameKind.free&&env.scope.kind== .function&&env.kindOf n==some .cell)then(n,NameKind.cell)else(n,k)):=by
   intro b;cases b<;>(simp only[az,bY,a_,cS];cases x==n<;>rfl)
  rw[sH,cS];cases hx:x==n with
  |true=>
   have e:=aR.mp hx;subst e;rfl
  |false=>exact ih
section
variable{C:Cx}{sc:Scope}{env:Env}{σ σ' jF j8:List Addr}{s s' s₁ jy:Shared}{ρ ji:ie}{st gV:St}{A:Around}{n:Nat}{E:aa}{r:pK}{v:PV}{fl:iE}{W:Addr->Prop}
def gP.relabel{outer:Env}(F:gP C sc env σ s.heap ρ)(hs:env.scope=sc):gP C sc {env with scope:=PySem.relabel sc outer} σ s.heap ρ:=
 have lk:∀x,Env.kindOf {env with scope:=PySem.relabel sc outer} x=(iw sc x).map fun k=>if(k==NameKind.free&&outer.scope.kind== .function&&outer.kindOf x==some .cell)then NameKind.cell else k:=fun x=>rF
 {kind:=by have:=F.kind;rw[hs]at this;exact this
  plain:=F.plain
  loc:=fun x hx=>by rw[lk,hx];rfl
  cel:=fun x hx=>by rw[lk,hx];rfl
  fre:=fun x hx=>by
   rw[lk,hx];rw[au];by_cases q:(NameKind.free==NameKind.free&&outer.scope.kind== .function&&outer.kindOf x==some .cell)=true
   ·rw[aQ q];exact .inr rfl
   ·rw[aD q];exact .inl rfl
  glo:=fun x hx=>by rw[lk,hx];rfl
  globals:=F.globals,builtins:=F.builtins,code:=F.code,ns:=F.ns,cells:=F.cells,apart:=F.apart,dom:=F.dom,newL:=F.newL,newC:=F.newC,notL:=F.notL}
def tH.mono'(x:tH W s s')(hW:∀a o,W a->s.heap.get? a=some o->¬ kh o):sL σ s.heap σ s'.heap:=
 ⟨⟨[],by simp⟩,fun _ a b=>absurd a b,fun b o e _ hv=>x.keep b o (fun hb=>hW b o hb e hv) e⟩
def Ok.raw'(K:Ok C σ s st)(x:tH W s s')(hW:∀a o,W a->s.heap.get? a=some o->¬ kh o)(h0:∀a,W a->C.h₀.get? a=none)(yY:∀a,W a->a∉σ):Ok C σ s' st where
 base:=fun b o e=>x.keep b o (fun hb=>by rw[h0 b hb]at e;cases e) (K.base b o e)
 fresh0:=K.fresh0
 len:=K.len
 nodup:=K.nodup
 cells:=fun k a c ha hc=>by
  have y:=K.cells k a c ha hc;obtain⟨o,ho,_⟩:=K.has (bL ha);exact y.mono (x.mono' hW) ((x.keep a o (fun hb=>yY a hb (bL ha)) ho).trans ho.symm)
def D4{iter:Expr}(h:jT iter=false):∀x,foldedSetIterable iter env x=pure x:=by
 intro x;cases iter<;>first|rfl|(simp[jT]at h)
def Ce{sc:Scope}(h:G4 sc):∀x∈sc.names,x.2= .local->sc.names.lookup x.1=some .local:=by
 rintro⟨x,k⟩ hm hk;dsimp only at hk|-;subst hk;obtain⟨k',oW⟩:=oM hm;have:=sV h.nodup oW hm;rw[oW,this]
def oQ(U:nN C)(S:nU C n r)(hr:i9 A n){iS:Scope}{elt target iter:Expr}{ifs:List Expr}{pos p:Pos}{x:PV}{l:List PV}{st1 p_:St}{use:Option (Value->Sem Unit)}{Q:aa}
  (F:gP C sc env σ s.heap ρ) (K:Ok C σ s st) (tL:G4 iS) (nO:jT iter=false) (ou:lK sc iS=true)
  (h1:r.E sc iter ρ st=some (x,st1)) (h2:gM st1 x=some l) (h3:jl r iS (putL st1.length) elt target ifs (iM x st1) l (freeOf iS ρ) (st1++[.lst []])=some p_) (h4:finish st1.length p_ (.lst st1.length)=some (v,gV))
  (h:∀acc Cl jh s' f,iO g_ σ s jh s'->Ok C jh s' gV->VR C jh s'.heap v acc->(∃m,s'.heap.Ns Cl m)->s.heap.get? Cl=none->Cl∉jh->C.h₀.get? Cl=none->compPost C.M A E use Q acc Cl (.ok f) s'):
  wpAny C.M A (comprehension (.ListComp elt [⟨target,iter,ifs,0⟩] iS pos) iS env p (newList []) false (eval iter env) use) Q E s:=by
 have E7:∀y,(y,NameKind.free)∈iS.names->iw sc y=some .cell\/iw sc y=some .free:=by
  intro y hy;unfold lK at ou;have:=b9.mp ou _ hy;simp only[dR,Bool.false_or,cH,aR]at this;exact this
 have BH:closureFor iS env=pure (sJ env iS.names []):=sD fun y hy=>by
  obtain⟨c,vo,hc,_⟩:=F.cells y (E7 y hy);exact⟨c,hc⟩
 refine wpAny_comprehension_free rfl (D4 nO) BH tL.kind (Ce tL) (S.E sc iter ρ _ _ _ h1 A env σ s _ E hr F K fun xv jh t1 X1 K1 V1=> ?_);refine xx hr.hh K1 h2 V1 fun I W kq lM lH t2 M kX o5 hW g P0=> ?_;refine bS ?_;have K2:=K1.grow g;obtain⟨K3,X3⟩:=K2.new (c:=.lst []) (o:={cls:=.type "list",data:=.seq ([]:List Value).toArray}) rfl ⟨_,[],aM _ rfl,⟨0,rfl,dH _⟩,iL.nil⟩;have F1:=F.ext X1;have F3:=(F1.ext g.ext).ext X3;have hL:∀(y:Str),iY y (freeOf iS ρ)=if iw iS y==some .free then iY y ρ else none:=fun y=>p5;rw[F.globals];refine sX (BK:=freeOf iS ρ) (ρ:=freeOf iS ρ) (xs:=[]) (vs:=[]) (vals:=[]) tL K3 F.builtins F.code (fun y hy=> ?_) (fun y u hu=> ?_) rfl rfl iL.nil fun qb t4 he X4 K4 F4 wJ=> ?_
 ·have hm:=mem_of_lookup hy;obtain⟨c,vo,e1,e2,e3,e4⟩:=F3.cells y (E7 y hm);refine⟨c,vo,vM hm e1,e2,e3,fun u hu=>e4 u ?_⟩;rw[hL,hy]at hu;simpa using hu
 ·rw[hL]at hu;by_cases q:(iw iS y==some .free)=true
  ·exact aR.mp q
  ·rw[aD q]at hu;cases hu
 have v5:qb.scope=iS:=by rw[he];rfl
 have F5:=F4.relabel (outer:=env) v5;have PK:=M.objs _ _ _ P0;have P3:=M.keep g_ _ _ _ _ _ X3 (fun a ha=>⟨id,K2.notW PK a ha⟩) P0;have v8:=M.objs _ _ _ P3;have P4:=M.keep g_ _ _ _ _ _ X4 (fun a ha=>⟨id,K3.notW v8 a ha⟩) P3;have Ql:iO g_ jh t1 (jh++[t2.heap.objs.size]) t4:=(g.ext.trans X3).trans X4;have tT:∀a,own iS {qb with scope:=PySem.relabel iS env} a->t1.heap.get? a=none:=fun a ha=>by
  cases e:t1.heap.get? a with
  |none=>rfl
  |some o=>
   have:=aG ({cls:=.type "list",data:=.seq ([]:List Value).toArray}:Obj) (g.keep a o e);have h2:=wJ a ha;rw[show({t2 with heap:=t2.heap.push {cls:=.type "list",data:=.seq ([]:List Value).toArray}}:Shared).heap.get? a=_ from this]at h2;cases h2
 have X0:iO (own iS {qb with scope:=PySem.relabel iS env}) jh t1 (jh++[t2.heap.objs.size]) t4:=Ql.weaken (fun a ha=>(K1.newAddr (tT a ha)).1) fun a o ha e=>by rw[tT a ha]at e;cases e
 have hD:(jh++[t2.heap.objs.size])[st1.length]? =some t2.heap.objs.size:=by
  rw[<-K1.len,bO (aV _)];simp
 have kD:gM (st1++[.lst []]) x=some l:=by
  rw[<-h2];cases x<;>first|rfl|skip
  rename_i k;unfold gM at h2|-;dsimp only at h2|-;split at h2
  ·rename_i l' hl;rw[bk (aF.mp hl).1,hl]
  ·cases h2
 have loop:codeAny C.M A (.compLoop (.ListComp elt [⟨target,iter,ifs,0⟩] iS pos) 0 (.ref I) (.ref t2.heap.objs.size) {qb with scope:=PySem.relabel iS env}) (compPost C.M A E use Q (.ref t2.heap.objs.size) qb.locals) t4:=by
  refine Iz U S hr M kX (HK hr.hh) h3 (fun jk hf=>o5 _ ((lV hf).trans h2)) (o5 _ kD) F5 K4 P4 hD X0 (fun b o e=>K1.base b o e) hW fun Vm s5 X5 K5 U' hNs=> ?_;obtain⟨X6,K6,V6⟩:=tB K1 K5 X5 h4 (val:=.ref t2.heap.objs.size) (by rw[VR];exact⟨_,rfl,U'⟩);have X7:iO g_ jh t1 jh s5:=X6.strip (fun a ha _=>tT a ha) fun _ q=>q.elim;have Jb:=tT qb.locals (.inl rfl);refine h _ qb.locals jh s5 _ (X1.trans X7) K6 V6 hNs ?_ (K1.newAddr Jb).1 (K1.newAddr Jb).2;cases e:s.heap.get? qb.locals with
  |none=>rfl
  |some o=>
   exfalso;by_cases hm:qb.locals∈σ
   ·exact(K1.newAddr Jb).1 (X1.mem hm)
   ·rw[X1.keep _ o e hm id]at Jb;cases Jb
 exact yu loop (M.self A 0 _ t4 _ _ P4 loop)
def gP.raw'(F:gP C sc env σ s.heap ρ)(x:tH W s s')(hW:∀a o,W a->s.heap.get? a=some o->¬ kh o)(hL:¬ W env.locals)(hc:∀y c,(iw sc y=some .cell\/iw sc y=some .free)->env.cells.lookup y=some c->¬ W c):gP C sc env σ s'.heap ρ where
 kind:=F.kind
 plain:=F.plain
 loc:=F.loc
 cel:=F.cel
 fre:=F.fre
 glo:=F.glo
 globals:=F.globals
 builtins:=F.builtins
 code:=F.code
 ns:=by
  obtain⟨m,hn,hv⟩:=F.ns;exact⟨m,hn.at fun o e=>x.keep _ o hL e,fun y v h1 h2=>let⟨val,a,b⟩:=hv y v h1 h2;⟨val,a,b.mono (x.mono' hW)⟩⟩
 cells:=fun y hy=>by
  obtain⟨c,vo,h1,⟨o,ho,hd⟩,h2,h3⟩:=F.cells y hy;exact⟨c,vo,h1,⟨o,x.keep _ o (hc y c hy h1) ho,hd⟩,h2,fun v hv=>let⟨val,a,b⟩:=h3 v hv;⟨val,a,b.mono (x.mono' hW)⟩⟩
 apart:=F.apart
 dom:=F.dom
 newL:=F.newL
 newC:=F.newC
 notL:=F.notL
def Cf{a:Addr}{h':Heap}(hs:Heap.SameBut a s.heap h'):tH (· =a) s {s with heap:=h'}:=⟨fun b o hb e=>(hs.2 b hb).trans e,rfl,rfl⟩
def JW{a:Addr}{m:Str->Option Value}(h:s.heap.Ns a m):∀b o,b=a->s.heap.get? b=some o->¬ kh o:=fun b o hb e=>by
 subst hb;obtain⟨o',es,ep,ho,hd,_⟩:=h;rw[ho]at e;cases e;exact fun z=>z.dict hd
def zF{Q:aa}{acc:Value}{Cl:Addr}{jh:List Addr}{f:Flow}(h:∀val σ' s',iO g_ σ s σ' s'->Ok C σ' s' gV->VR C σ' s'.heap v val->Q val s')
  (X:iO g_ σ s jh s') (K:Ok C jh s' gV) (V:VR C jh s'.heap v acc) (hn:∃m,s'.heap.Ns Cl m) (hf:s.heap.get? Cl=none) (yY:Cl∉jh) (h0:C.h₀.get? Cl=none):compPost C.M A E none Q acc Cl (.ok f) s':=by
 obtain⟨m,hm⟩:=hn;refine⟨m,hm,fun h' hs=> ?_⟩;have R:=Cf hs;have hv:=JW hm;exact h acc jh _ (X.raw R fun a ha=>by rw[ha];exact hf) (K.raw' R hv (fun a ha=>by rw[ha];exact h0) (fun a ha=>by rw[ha];exact yY)) (V.mono (R.mono' hv))
def HO{Q:aa}{acc:Value}{Cl:Addr}{jh:List Addr}{f:Flow}{x:Str}{p:Pos}(F:gP C sc env σ s.heap ρ)(kD:kc sc x v ρ=some ji)
  (h:∀σ' s',iO (own sc env) σ s σ' s'->Ok C σ' s' gV->gP C sc env σ' s'.heap ji->Q .none s')
  (X:iO g_ σ s jh s') (K:Ok C jh s' gV) (V:VR C jh s'.heap v acc) (hn:∃m,s'.heap.Ns Cl m) (hf:s.heap.get? Cl=none) (yY:Cl∉jh) (h0:C.h₀.get? Cl=none):compPost C.M A E (some (assign (.Name x p) env)) Q acc Cl (.ok f) s':=by
 obtain⟨m,hm⟩:=hn;have F1:=F.ext X;have yH:¬ own sc env Cl:=by
  rintro(q|⟨y,hk,hc⟩)
  ·obtain⟨m',⟨o,es,ep,ho,_⟩,_⟩:=F.ns;rw[<-q,hf]at ho;cases ho
  ·obtain⟨c,vo,e1,⟨o,ho,_⟩,_⟩:=F.cells y (.inl hk);rw[hc]at e1;cases e1;rw[hf]at ho;cases ho
 show wpAny C.M A (assign (.Name x p) env acc) _ E s';refine fC (mS F1 K kD V fun s2 X2 K2 F2=> ?_);have Ad:s2.heap.Ns Cl m:=hm.at fun o e=>X2.keep _ o e yY yH;refine⟨m,Ad,fun h' hs=> ?_⟩;have R:=Cf hs;have hv:=JW Ad;have X3:iO (own sc env) σ s jh s2:=(F.weaken X).trans X2;refine h jh _ (X3.raw R fun a ha=>by rw[ha];exact hf) (K2.raw' R hv (fun a ha=>by rw[ha];exact h0) (fun a ha=>by rw[ha];exact yY)) ?_;refine F2.raw' R hv (fun q=>yH (.inl q.symm)) (fun y c hy hc q=> ?_);obtain⟨d,vo,e1,⟨o,ho,_⟩,_⟩:=F.cells y hy;rw[hc]at e1;cases e1;have q':c=Cl:=q;rw[q',hf]at ho;cases ho
def rG{elt target iter:Expr}{ifs:List Expr}{iS:Scope}{pos:Pos}(hx:iI r sc (.ListComp elt [⟨target,iter,ifs,0⟩] iS pos) ρ st=some (v,gV)):
  ∃x l st1 p_,G4 iS/\jT iter=false/\lK sc iS=true/\r.E sc iter ρ st=some (x,st1)/\gM st1 x=some l/\jl r iS (putL st1.length) elt target ifs (iM x st1) l (freeOf iS ρ) (st1++[.lst []])=some p_/\finish st1.length p_ (.lst st1.length)=some (v,gV):=by
 change (if !r7 iS||jT iter|| !lK sc iS then none else(r.E sc iter ρ st).bind fun(x,st)=>(gM st x).bind fun l=>
   (jl r iS (putL st.length) elt target ifs (iM x st) l (freeOf iS ρ) (st++[.lst []])).bind fun gV=>finish st.length gV (.lst st.length))=some (v,gV)at hx
 split at hx
 ·cases hx
 ·rename_i q;simp only[cH,cC,not_or,eB,fO]at q;obtain⟨⟨x,st1⟩,h1,hx⟩:=ak.mp hx;obtain⟨l,h2,hx⟩:=ak.mp hx;obtain⟨p_,h3,hx⟩:=ak.mp hx;exact⟨x,l,st1,p_,xm q.1.1,q.1.2,q.2,h1,h2,h3,hx⟩
def Ed(U:nN C)(S:nU C n r)(hr:i9 A n){elt target iter:Expr}{ifs:List Expr}{iS:Scope}{pos:Pos}{Q:aa}(F:gP C sc env σ s.heap ρ)(K:Ok C σ s st)
  (hx:iI r sc (.ListComp elt [⟨target,iter,ifs,0⟩] iS pos) ρ st=some (v,gV))
  (h:∀val σ' s',iO g_ σ s σ' s'->Ok C σ' s' gV->VR C σ' s'.heap v val->Q val s'):wpAny C.M A (eval (.ListComp elt [⟨target,iter,ifs,0⟩] iS pos) env) Q E s:=by
 obtain⟨x,l,st1,p_,h1,h2,h3,h4,h5,h6,h7⟩:=rG hx;rw[eval_ListComp];exact oQ (use:=none) U S hr F K h1 h2 h3 h4 h5 h6 h7 fun acc Cl jh s' f X K' V hn hf yY h0=>zF h X K' V hn hf yY h0
def Ep(U:nN C)(S:nU C n r)(hr:i9 A n){elt target iter:Expr}{ifs:List Expr}{iS:Scope}{pos tp spos:Pos}{t:Str}{Q:Flow->Shared->Prop}(F:gP C sc env σ s.heap ρ)(K:Ok C σ s st)
  (hx:iI r sc (.ListComp elt [⟨target,iter,ifs,0⟩] iS pos) ρ st=some (v,gV)) (kD:kc sc t v ρ=some ji)
  (GS:swapsWith (.ListComp elt [⟨target,iter,ifs,0⟩] iS pos) (some (.Name t tp)) spos.line env=pure true)
  (h:∀σ' s',iO (own sc env) σ s σ' s'->Ok C σ' s' gV->gP C sc env σ' s'.heap ji->Q .next s'):
  wpAny C.M A (exec (.Assign [.Name t tp] (.ListComp elt [⟨target,iter,ifs,0⟩] iS pos) spos) env) Q E s:=by
 obtain⟨x,l,st1,p_,h1,h2,h3,h4,h5,h6,h7⟩:=rG hx;rw[exec_Assign_Name_used _ _ _ _ GS];refine ai (cg (ai ?_));show wpAny _ A (do let _<-comprehension (.ListComp elt [⟨target,iter,ifs,0⟩] iS pos) iS env _ (newList []) false (eval iter env) (some (assign (.Name t tp) env))) _ _ s;refine ai (oQ (use:=some (assign (.Name t tp) env)) U S hr F K h1 h2 h3 h4 h5 h6 h7 fun acc Cl jh s' f X K' V hn hf yY h0=>HO F kD (fun σ' s' X K F=>aj (aj (h σ' s' X K F))) X K' V hn hf yY h0)
def yN{l:Addr}{items:Array Value}{k:Int}{t:Tok}{val:Value}{n:Nat}{Q:Unit->Shared->Prop}(ho:s.heap.get? l=some {cls:=.type "list",dict:=none,data:=.seq items n,slots:= #[]})
  (h0:0<=k) (jW:k<2^63) (hn:k<items.size) (hQ:Q () {s with heap:=s.heap.update l (Obj.mapSeq (·.setIfInBounds k.toNat val))}):wpAny C.M A (setItem (.ref l) (.int k t) val) Q E s:=by
 have hT:s.TypeIs (.ref l) "list":=⟨_,ho,rfl⟩;unfold setItem
 try with_reducible refine aX ?_
 first|refine ai (aj ?_)|skip
 refine ai (wpAny_sequenceKey hT (by decide) ?_);refine ai (cT (name:=Str.ofString "__setitem__") hT PySem.slot_list_setitem
  (PySem.wpAny_call_entry PySem.slot_list_setitem hT PySem.entry_list_setitem ?_ (PySem.args_list_setitem _ _ _)))
 show wpAny _ _ (Builtin.List.listSubscript? (.int k t) >>= _) _ _ s;refine ai (wpAny_listSubscript_int (fitsIndex_of h0 jW) ?_);clear jW;obtain⟨j,rfl⟩:=Int.eq_ofNat_of_zero_le h0;have hj:j<items.size:=by omega
 have I4:items[j]? =some items[j]:=cV hj;show wpAny _ _ ((seqItemAt l j >>= fun r=>pure (r.map (j,·))) >>= _) _ _ s;refine ai (ai (wpAny_seqItemAt ho rfl (aj ?_)));rw[I4];show wpAny _ _ (setSeqItemAt l j val >>= _) _ _ s;refine ai (wpAny_setSeqItemAt ho rfl ?_)
 first
  |exact ai (aj (aj ⟨.none,rfl,aj hQ⟩))
  |exact aj ⟨.none,rfl,aj hQ⟩
def zJ{h:Heap}{k:Str}:∀{l:List (ah×PV)}{kvs:List (Str×Value)},jc C σ h l kvs->(kvs.any fun kv=>kv.1=k)=l.any fun kv=>kv.1==k.cps.toList
 |[],kvs,x=>by rw[jc]at x;subst x;rfl
 |(a,q)::l,kvs,x=>by
  rw[jc]at x;obtain⟨y,u,r',rfl,ey,hv,hr⟩:=x;rw[List.any_cons,List.any_cons,zJ hr];congr 1;dsimp only;rw[<-ey];by_cases h:y=k
  ·subst h;simp
  ·have:y.cps.toList≠k.cps.toList:=fun q'=>by
    apply h;obtain⟨c1⟩:=y;obtain⟨c2⟩:=k;congr 1;exact eV.mp q'
   rw[bP h,aO.mpr this]
def uV{h:Heap}{k:Str}{p:PV}{u:Value}(V:VR C σ h p u):∀{l:List (ah×PV)}{kvs:List (Str×Value)},jc C σ h l kvs->jc C σ h (l.map fun kv=>if kv.1==k.cps.toList then(kv.1,p)else kv) (kvs.map fun kv=>if kv.1=k then(kv.1,u)else kv)
 |[],kvs,x=>by rw[jc]at x;subst x;show jc C σ h [] [];rw[jc]
 |(a,q)::l,kvs,x=>by
  rw[jc]at x;obtain⟨y,w,r',rfl,ey,hv,hr⟩:=x;rw[aL,aL];by_cases hk:y=k
  ·have:(a==k.cps.toList)=true:=by rw[<-ey,hk];simp
   dsimp only;rw[this,aQ rfl,aQ hk,jc];exact⟨y,u,_,rfl,ey,V,uV V hr⟩
  ·have:(a==k.cps.toList)=false:=by
    rw[<-ey];apply aO.mpr;intro q';apply hk;obtain⟨c1⟩:=y;obtain⟨c2⟩:=k;congr 1;exact eV.mp q'
   dsimp only;rw[this,aD (by simp),aD hk,jc];exact⟨y,w,_,rfl,ey,hv,uV V hr⟩
def zI{h:Heap}{k:Str}{p:PV}{u:Value}(V:VR C σ h p u):∀{l:List (ah×PV)}{kvs:List (Str×Value)},jc C σ h l kvs->jc C σ h (l++[(k.cps.toList,p)]) (kvs++[(k,u)])
 |[],kvs,x=>by
  rw[jc]at x;subst x;show jc C σ h [(k.cps.toList,p)] [(k,u)];rw[jc];exact⟨k,u,[],rfl,rfl,V,by rw[jc]⟩
 |(a,q)::l,kvs,x=>by
  rw[jc]at x;obtain⟨y,w,r',rfl,ey,hv,hr⟩:=x;show jc C σ h ((a,q)::(l++[(k.cps.toList,p)])) ((y,w)::(r'++[(k,u)]));rw[jc];exact⟨y,w,_,rfl,ey,hv,zI V hr⟩
def pairs_len{h:Heap}:∀{l:List (ah×PV)}{kvs:List (Str×Value)},jc C σ h l kvs->kvs.length=l.length
 |[],kvs,x=>by rw[jc]at x;subst x;rfl
 |(a,q)::l,kvs,x=>by
  rw[jc]at x;obtain⟨y,w,r',rfl,ey,hv,hr⟩:=x;rw[aE,aE,pairs_len hr]
def Nj{p i:PV}{pv iv val:Value}{Q:Unit->Shared->Prop}(K:Ok C σ s st)(hx:jr st p i v=some gV)(x:VR C σ s.heap p pv)(y:VR C σ s.heap i iv)(z:VR C σ s.heap v val)
  (h:∀s',iO g_ σ s σ s'->Ok C σ s' gV->Q () s'):wpAny C.M A (setItem pv iv val) Q E s:=by
 unfold jr at hx;split at hx
 ·rename_i k j;split at hx
  ·rename_i l hl;split at hx
   ·rename_i q;cases hx;simp only[aA,aJ]at q;obtain⟨a,m,vs,rfl,ha,ho,iK,V⟩:=K.listAt hl x;obtain⟨t,rfl⟩:=ig y;obtain⟨jn,rfl⟩:=Int.eq_ofNat_of_zero_le q.1;have hjn:jn<l.length:=by simpa using q.2
    have hvl:=V.length;have h63:=mQ iK;refine yN ho (by omega) (by omega) (by rw[cK];omega) ?_;have e:(vs.toArray.setIfInBounds jn val)=(vs.set jn val).toArray:=by simp
    obtain⟨K',X⟩:=K.setList (l':=l.set jn v) (vs':=vs.set jn val) ha hl ho ⟨m,rfl,iK⟩ (·.setIfInBounds jn val) e (V.set z jn) (by rw[cB];exact iK);exact h _ X (by simpa using K')
   ·cases hx
  ·cases hx
 ·rename_i k key;split at hx
  ·rename_i l hl;split at hx
   ·rename_i q;cases hx;obtain⟨a,kvs,rfl,ha,hd,hp⟩:=K.dictAt hl x;obtain⟨w,t,rfl,rfl,_⟩:=gW y;have iK:=pairs_len hp;refine wpAny_setItem_pairs (k:=w) (eY ..) hd (fun h' OL hs=> ?_) (by rw[iK,dY];omega);have m:sL σ s.heap σ h':=⟨⟨[],by simp⟩,fun _ p q=>absurd p q,fun b o e hb _=>(hs.2 b (fun q=>hb (q▸bL ha))).trans e⟩;have hc:wU C σ h' a (.dct (Ai w.cps.toList v l)):=by
     refine⟨_,OL,?_⟩;unfold Ai stored;rw[zJ hp];split
     ·exact uV (z.mono m) (hp.mono m)
     ·exact zI (z.mono m) (hp.mono m)
    obtain⟨K',X⟩:=K.set ha hl hs hc;exact h _ (X.toks _) (K'.toks _)
   ·cases hx
  ·cases hx
 ·cases hx
structure Js(C:Cx):Prop where
 rev:∀(A:Around)(σ:List Addr)(s:Shared)(st:St)(a b:Int)(val:Value)(Q:aa)(E:aa),A.handled=none->Ok C σ s st->VR C σ s.heap (.rng a b) val->
  (∀I W kq lM lH s',MW C (ng a b).reverse I W kq lM lH->(∀i v σ s,lH i v σ s->lM i σ s)->(∀gV,kq gV)->(∀x,W x->s.heap.get? x=none)->iG s s'->lM 0 σ s'->Q (.ref I) s')->
  wpAny C.M A (call (.type "reversed") [val]) (fun rv s₁=>wpAny C.M A (pyIter rv) Q E s₁) E s
 enum:∀(A:Around)(σ:List Addr)(s:Shared)(st:St)(l:List PV)(val:Value)(Q:aa)(E:aa),A.handled=none->Ok C σ s st->VR C σ s.heap (.list l) val->
  (∀I W kq lM lH s',MW C (List.zipWith (fun(i:Nat) v=>PV.tup [.int (i:Int),v]) (List.range l.length) l) I W kq lM lH->(∀gV,kq gV)->(∀x,W x->s.heap.get? x=none)->iG s s'->lM 0 σ s'->Q (.ref I) s')->
  wpAny C.M A (call (.type "enumerate") [val]) (fun rv s₁=>wpAny C.M A (pyIter rv) Q E s₁) E s
def BE{t e:Expr}{pos:Pos}{Q:Flow->Shared->Prop}(U:nN C)(S:nU C n r)(hr:i9 A n)(F:gP C sc env σ s.heap ρ)(K:Ok C σ s st){st1:St}
  (h1:r.E sc e ρ st=some (v,st1)) (h2:i8 sc st1 t v ρ=some ji) (GS:swapsWith e (some t) pos.line env=pure false) (Ak:(isTuple t&&isTuple e)=false)
  (h:∀σ' s',iO (own sc env) σ s σ' s'->Ok C σ' s' st1->gP C sc env σ' s'.heap ji->Q .next s'):wpAny C.M A (exec (.Assign [t] e pos) env) Q E s:=by
 have body:wpAny C.M A (do let v<-eval e env;assign t env v;pure .next:Sem Flow) Q E s:=by
  refine ai (S.E sc e ρ _ _ _ h1 A env σ s _ E hr F K fun xv jh t1 X1 K1 V1=> ?_);refine ai (qA U hr.hh (F.ext X1) K1 h2 V1 fun s2 X2 K2 F2=>aj (h jh s2 ((F.weaken X1).trans X2) K2 F2))
 have hs:swappedStores [t] e env=pure none:=by
  unfold swappedStores;cases t<;>cases e<;>first|rfl|(simp[isTuple]at Ak;done)|(simp[i8]at h2;done)
 have ha:assignEach [t] env=[(false,assign t env)]:=by
  unfold i8 at h2;split at h2
  ·rfl
  ·rfl
  ·cases h2
 show wpAny C.M A (do
  standAt pos
  if<-swapsWithSole [t] e pos.line env then do
   evalThenUse e env fun v=>assignAll v ((assignEach [t] env).map (·.2))
   pure .next
  else do
   let v<-eval e env
   assignStores env v (<-swappedStores [t] e env) ((assignEach [t] env).map (·.2))) Q E s
 refine ai (cg ?_);show wpAny C.M A (swapsWith e (some t) pos.line env >>= _) Q E s;rw[GS,hs,ha];refine ai (aj ?_);rw[aD (by simp)];show wpAny C.M A (do let v<-eval e env;let o<-(pure none:Sem (Option (List Str)));assignStores env v o [assign t env]) Q E s;have:=body;exact this
def CU{e:Expr}{es:List Expr}{k:Nat}{p:Pos}{line:Nat}:swapsWith e (some (.Tuple es k p)) line env=pure false:=by
 cases e<;>rfl
def Hu{e a i:Expr}{p:Pos}{line:Nat}:swapsWith e (some (.Subscript a i p)) line env=pure false:=by
 cases e<;>rfl
def Ek{e:Expr}{x:Str}{p:Pos}{line:Nat}:(∃b,swapsWith e (some (.Name x p)) line env=pure b)/\(swapsWith e (some (.Name x p)) line env=pure false\/(∃elt gens s q,e= .ListComp elt gens s q)\/(∃elt gens s q,e= .SetComp elt gens s q)\/∃k v g s q,e= .DictComp k v g s q):=by
 cases e<;>first
  |exact⟨⟨_,rfl⟩,.inl rfl⟩
  |exact⟨⟨_,rfl⟩,.inr (.inl ⟨_,_,_,_,rfl⟩)⟩
  |exact⟨⟨_,rfl⟩,.inr (.inr (.inl ⟨_,_,_,_,rfl⟩))⟩
  |exact⟨⟨_,rfl⟩,.inr (.inr (.inr ⟨_,_,_,_,_,rfl⟩))⟩
def WO{t:Expr}{a b:List Stmt}{pos:Pos}{Q:Flow->Shared->Prop}(S:nU C n r)(hr:i9 A n)(F:gP C sc env σ s.heap ρ)(K:Ok C σ s st)
  (hx:((r.T sc t ρ st).bind fun(c,st)=>if c then gT (r.S sc) a ρ st else gT (r.S sc) b ρ st)=some (fl,ji,gV))
  (h:∀f σ' s',iO (own sc env) σ s σ' s'->Ok C σ' s' gV->gP C sc env σ' s'.heap ji->pS C σ' s'.heap fl f->Q f s'):wpAny C.M A (exec (.If t a b pos) env) Q E s:=by
 obtain⟨⟨c,s1⟩,h1,hx⟩:=ak.mp hx;refine wpAny_If (S.T sc t ρ _ _ _ h1 A env σ s _ E hr F K fun jh t1 X1 K1=> ?_);cases c with
 |true=>exact mT S.S hr a ρ ji _ gV fl jh t1 Q hx (F.ext X1) K1 fun f pg t2 X2 K2 F2 fR=>h f pg t2 ((F.weaken X1).trans X2) K2 F2 fR
 |false=>exact mT S.S hr b ρ ji _ gV fl jh t1 Q hx (F.ext X1) K1 fun f pg t2 X2 K2 F2 fR=>h f pg t2 ((F.weaken X1).trans X2) K2 F2 fR
def TU{x:Str}{np pos:Pos}{e:Expr}{Q:Flow->Shared->Prop}(T:qe C)(S:nU C n r)(hr:i9 A n)(F:gP C sc env σ s.heap ρ)(K:Ok C σ s st)
  (hx:((iY x ρ).bind fun a=>(r.E sc e ρ st).bind fun(b,st)=>match a,b with
   | .int m,.int n=>(kc sc x (.int (m+n)) ρ).map fun ρ=>(iE.next,ρ,st)
   | .str m,.str n=>if iP (m++n)then(kc sc x (.str (m++n)) ρ).map fun ρ=>(iE.next,ρ,st)else none
   |_,_=>none)=some (fl,ji,gV))
  (h:∀f σ' s',iO (own sc env) σ s σ' s'->Ok C σ' s' gV->gP C sc env σ' s'.heap ji->pS C σ' s'.heap fl f->Q f s'):wpAny C.M A (exec (.AugAssign (.Name x np) .Add e pos) env) Q E s:=by
 obtain⟨a,h0,hx⟩:=ak.mp hx;obtain⟨⟨b,s1⟩,h1,hx⟩:=ak.mp hx;have yD:lC x=true:=by
  rcases F.dom x a h0 with k|k|k<;>exact F.plain x _ k
 refine wpAny_AugAssign_Name (Gh T F K (x:=x) (p:=a) (by unfold oZ;rw[h0]) yD fun av V0=> ?_);refine S.E sc e ρ _ _ _ h1 A env σ s _ E hr F K fun bv jh t1 X1 K1 V1=> ?_;have YF:=V0.mono X1.mono;have F1:=F.ext X1;dsimp only at hx;split at hx
 ·obtain⟨kJ,h2,hx⟩:=aq.mp hx;cases hx;obtain⟨t,rfl⟩:=ig YF;obtain⟨u,rfl⟩:=ig V1;have g:=iG.toks t1 (t1.toks+1);refine wpAny_iadd_int (mS (F1.ext g.ext) (K1.grow g) h2 (kB _ _) fun s2 X2 K2 F2=> ?_);exact h _ jh s2 ((F.weaken (X1.trans g.ext)).trans X2) K2 F2 rfl
 ·split at hx
  ·rename_i q;obtain⟨kJ,h2,hx⟩:=aq.mp hx;cases hx;obtain⟨y,t,rfl,rfl,_⟩:=gW YF;obtain⟨z,u,rfl,rfl,_⟩:=gW V1;have My:=jZ q;rw[aB,<-nB,<-nB]at My;refine PySem.SB.iadd (fun t' k=> ?_) (lU My);have g:=iG.toks t1 k;have e1:(y++z).cps.toList=y.cps.toList++z.cps.toList:=gA;refine mS (F1.ext g.ext) (K1.grow g) h2 (pA e1 (by rw[nB,e1,aB,<-nB,<-nB];exact lU My)) fun s2 X2 K2 F2=> ?_;exact h _ jh s2 ((F.weaken (X1.trans g.ext)).trans X2) K2 F2 rfl
  ·cases hx
 ·cases hx
def TR{a i e:Expr}{sp pos:Pos}{Q:Flow->Shared->Prop}(S:nU C n r)(hr:i9 A n)(F:gP C sc env σ s.heap ρ)(K:Ok C σ s st)
  (hx:((r.E sc e ρ st).bind fun(v,st)=>(r.E sc a ρ st).bind fun(x,st)=>(r.E sc i ρ st).bind fun(y,st)=>(jr st x y v).map fun st=>(iE.next,ρ,st))=some (fl,ji,gV))
  (h:∀f σ' s',iO (own sc env) σ s σ' s'->Ok C σ' s' gV->gP C sc env σ' s'.heap ji->pS C σ' s'.heap fl f->Q f s'):wpAny C.M A (exec (.Assign [.Subscript a i sp] e pos) env) Q E s:=by
 obtain⟨⟨x,s1⟩,h1,hx⟩:=ak.mp hx;obtain⟨⟨y,s2⟩,h2,hx⟩:=ak.mp hx;obtain⟨⟨z,s3⟩,h3,hx⟩:=ak.mp hx;obtain⟨s4,h4,hx⟩:=aq.mp hx;cases hx;refine wpAny_Assign_Subscript (S.E sc e ρ _ _ _ h1 A env σ s _ E hr F K fun xv jh t1 X1 K1 V1=> ?_) Hu;refine S.E sc a ρ _ _ _ h2 A env jh t1 _ E hr (F.ext X1) K1 fun yv pg t2 X2 K2 V2=> ?_;refine S.E sc i ρ _ _ _ h3 A env pg t2 _ E hr ((F.ext X1).ext X2) K2 fun zv sE t3 X3 K3 V3=> ?_;refine Nj K3 h4 (V2.mono X3.mono) V3 ((V1.mono X2.mono).mono X3.mono) fun s4 X4 K4=> ?_;have X:=((X1.trans X2).trans X3).trans X4;exact h _ sE s4 (F.weaken X) K4 (F.ext X) rfl
def OW{target iter:Expr}{body:List Stmt}{pos:Pos}{Q:Flow->Shared->Prop}(U:nN C)(S:nU C n r)(hr:i9 A n)(F:gP C sc env σ s.heap ρ)(K:Ok C σ s st)(nO:jT iter=false)
  (hx:((r.E sc iter ρ st).bind fun(x,st)=>(gM st x).bind fun l=>j_ (gT (r.S sc) body) sc target (iM x st) l ρ st)=some (fl,ji,gV))
  (h:∀f σ' s',iO (own sc env) σ s σ' s'->Ok C σ' s' gV->gP C sc env σ' s'.heap ji->pS C σ' s'.heap fl f->Q f s'):wpAny C.M A (exec (.For target iter body [] pos) env) Q E s:=by
 obtain⟨⟨x,st1⟩,h1,hx⟩:=ak.mp hx;obtain⟨l,h2,hx⟩:=ak.mp hx;refine wpAny_For (S.E sc iter ρ _ _ _ h1 A env σ s _ E hr F K fun xv jh t1 X1 K1 V1=> ?_) (D4 nO);refine xx hr.hh K1 h2 V1 fun I W kq lM lH t2 M kX o5 hW g P0=> ?_;have F1:=F.ext X1;refine A5 U S hr M hx (fun jk hf=>o5 _ ((lV hf).trans h2)) (o5 _ h2) (F1.ext g.ext) (K1.grow g) P0 (F1.weaken g.ext) (fun b o e=>K1.base b o e) hW (.inr kX) fun f σ' s' X K' F' fR=> ?_;exact h f σ' s' ((F.weaken X1).trans X) K' F' fR
def call_one{f:Str}{T':String}{np pos:Pos}{a:Expr}{st1:St}{Q:aa}(T:qe C)(S:nU C n r)(hr:i9 A n)(F:gP C sc env σ s.heap ρ)(K:Ok C σ s st)(hk:iw sc f=some .globalImplicit)
  (ou:C.mg f=none) (JG:bootBuiltins f=some (.type T')) (qW:jx a=false) (h1:r.E sc a ρ st=some (v,st1))
  (h:∀val σ' s',iO g_ σ s σ' s'->Ok C σ' s' st1->VR C σ' s'.heap v val->wpAny C.M A (call (.type T') [val]) Q E s'):wpAny C.M A (eval (.Call (.Name f np) [a] [] pos) env) Q E s:=by
 have he:starEach [a] env=[(false,eval a env)]:=k_ qW;rw[dW,he];refine ai (Fj F hk (t9 T F K hk ou JG ?_));show wpAny C.M A (callWith pos (.type T') [] [(false,eval a env)] []) Q E s;exact callWith_type1 (S.E sc a ρ _ _ _ h1 A env σ s _ E hr F K fun xv jh t1 X1 K1 V1=>h xv jh t1 X1 K1 V1)
def TS{target a:Expr}{body:List Stmt}{f:Str}{np cp pos:Pos}{Q:Flow->Shared->Prop}(T:qe C)(U:nN C)(G:Js C)(S:nU C n r)(hr:i9 A n)(F:gP C sc env σ s.heap ρ)(K:Ok C σ s st)(hk:iw sc f=some .globalImplicit)(hf:f="reversed")(qW:jx a=false)
  (hx:((r.E sc a ρ st).bind fun(x,st)=>match x with
    | .rng p q=>j_ (gT (r.S sc) body) sc target (fun _=>true) (ng p q).reverse ρ st
    |_=>none)=some (fl,ji,gV))
  (h:∀f σ' s',iO (own sc env) σ s σ' s'->Ok C σ' s' gV->gP C sc env σ' s'.heap ji->pS C σ' s'.heap fl f->Q f s'):wpAny C.M A (exec (.For target (.Call (.Name f np) [a] [] cp) body [] pos) env) Q E s:=by
 obtain⟨⟨x,st1⟩,h1,hx⟩:=ak.mp hx;dsimp only at hx;split at hx
 ·rename_i p q;subst hf;refine wpAny_For (call_one (T':="reversed") T S hr F K hk (T.free _ (by decide)) (by decide+kernel) qW h1 fun xv jh t1 X1 K1 V1=> ?_) fun _=>rfl;refine G.rev A jh t1 st1 p q xv _ E hr.hh K1 V1 fun I W kq lM lH t2 M kX o5 hW g P0=> ?_;have F1:=F.ext X1;refine A5 U S hr M hx (fun jk _=>o5 _) (o5 _) (F1.ext g.ext) (K1.grow g) P0 (F1.weaken g.ext) (fun b o e=>K1.base b o e) hW (.inr kX) fun f σ' s' X K' F' fR=> ?_;exact h f σ' s' ((F.weaken X1).trans X) K' F' fR
 ·cases hx
def QO{target a:Expr}{body:List Stmt}{f:Str}{np cp pos:Pos}{Q:Flow->Shared->Prop}(T:qe C)(U:nN C)(G:Js C)(S:nU C n r)(hr:i9 A n)(F:gP C sc env σ s.heap ρ)(K:Ok C σ s st)(hk:iw sc f=some .globalImplicit)(hf:f="enumerate")(qW:jx a=false)(Ak:isTuple target=true)
  (hx:((r.E sc a ρ st).bind fun(x,st)=>match x with
    | .list l=>j_ (gT (r.S sc) body) sc target (fun _=>true) ((List.zipWith (fun(i:Nat) v=>PV.tup [.int (i:Int),v]) (List.range l.length) l)) ρ st
    |_=>none)=some (fl,ji,gV))
  (h:∀f σ' s',iO (own sc env) σ s σ' s'->Ok C σ' s' gV->gP C sc env σ' s'.heap ji->pS C σ' s'.heap fl f->Q f s'):wpAny C.M A (exec (.For target (.Call (.Name f np) [a] [] cp) body [] pos) env) Q E s:=by
 obtain⟨⟨x,st1⟩,h1,hx⟩:=ak.mp hx;dsimp only at hx;split at hx
 ·rename_i l;subst hf;refine wpAny_For (call_one (T':="enumerate") T S hr F K hk (T.free _ (by decide)) (by decide+kernel) qW h1 fun xv jh t1 X1 K1 V1=> ?_) fun _=>rfl;refine G.enum A jh t1 st1 l xv _ E hr.hh K1 V1 fun I W kq lM lH t2 M o5 hW g P0=> ?_;have F1:=F.ext X1;refine A5 U S hr M hx (fun jk _=>o5 _) (o5 _) (F1.ext g.ext) (K1.grow g) P0 (F1.weaken g.ext) (fun b o e=>K1.base b o e) hW (.inl Ak) fun f σ' s' X K' F' fR=> ?_;exact h f σ' s' ((F.weaken X1).trans X) K' F' fR
 ·cases hx
def QD(T:qe C)(U:nN C)(G:Js C)(S:nU C n r):Qn C n (kG r):=by
 intro sc e ρ st fl ji gV hx A env σ s Q E hr F K h;unfold kG at hx;split at hx
 ·cases hx;exact wpAny_Pass (h _ σ s (iO.refl F.ownData) K F rfl)
 ·cases hx;exact wpAny_Break (h _ σ s (iO.refl F.ownData) K F rfl)
 ·cases hx;exact wpAny_Continue (h _ σ s (iO.refl F.ownData) K F rfl)
 ·rename_i e pos;obtain⟨⟨v,st1⟩,h1,hx⟩:=aq.mp hx;cases hx;exact wpAny_Return_some (S.E sc e ρ _ _ _ h1 A env σ s _ E hr F K fun xv jh t1 X1 K1 V1=>h _ jh t1 (F.weaken X1) K1 (F.ext X1) ⟨xv,rfl,V1⟩)
 ·rename_i e pos;split at hx
  ·obtain⟨⟨v,st1⟩,h1,hx⟩:=ak.mp hx;refine wpAny_Expr (S.E sc _ ρ _ _ _ h1 A env σ s _ E hr F K fun xv jh t1 X1 K1 V1=> ?_) (by unfold interactive;rw[F.kind];rfl) rfl;dsimp only at hx;split at hx
   ·cases hx;rw[VR]at V1;subst V1;exact h _ jh t1 (F.weaken X1) K1 (F.ext X1) rfl
   ·cases hx;obtain⟨y,t,rfl,_⟩:=gW V1;exact h _ jh t1 (F.weaken X1) K1 (F.ext X1) rfl
   ·cases hx
  ·cases hx
 ·rename_i a i sp e pos;split at hx
  ·cases hx
  ·exact TR S hr F K hx h
 ·rename_i t e pos YK;split at hx
  ·cases hx
  ·rename_i q;simp only[cH,not_or,fO]at q;obtain⟨⟨v,st1⟩,h1,hx⟩:=ak.mp hx;obtain⟨kJ,h2,hx⟩:=aq.mp hx;cases hx;have go:swapsWith e (some t) pos.line env=pure false->wpAny C.M A (exec (.Assign [t] e pos) env) Q E s:=fun GS=>
    BE U S hr F K h1 h2 GS q.1 fun σ' s' X K F=>h _ σ' s' X K F rfl
   cases t with
   |Name x p=>
    obtain⟨⟨b,hb⟩,Uk⟩:=Ek (e:=e) (x:=x) (p:=p) (line:=pos.line) (env:=env);rcases Uk with GS|⟨elt,gens,s2,q2,rfl⟩|⟨elt,gens,s2,q2,rfl⟩|⟨k,v2,gens,s2,q2,rfl⟩
    ·exact go GS
    ·cases b with
     |false=>exact go hb
     |true=>exact S.A' sc elt gens s2 q2 x p pos ρ st _ _ _ h1 h2 A env σ s Q E hr F K hb fun σ' s' X K F=>h _ σ' s' X K F rfl
    all_goals exact absurd q.2 (by simp[isTuple,sN])
   |Tuple es k p=>exact go CU
   |_=>simp[i8]at h2
 ·rename_i x np e pos;exact TU T S hr F K hx h
 ·rename_i t a b pos;exact WO S hr F K hx h
 ·rename_i t body pos;exact G8 S hr hx F K h pos
 ·rename_i target iter body pos;split at hx
  ·rename_i f np a cp;split at hx
   ·rename_i hl hk hf;split at hx
    ·cases hx
    ·rename_i qW;exact TS T U G S hr F K hk (aR.mp hf) (by simpa using qW) hx h
   ·rename_i hl hk hf _;split at hx
    ·cases hx
    ·rename_i qW;simp only[cH,cC,not_or,fO,eB]at qW;exact QO T U G S hr F K hk (aR.mp hf) qW.1 qW.2 hx h
   ·exact OW U S hr F K rfl hx h
  ·split at hx
   ·cases hx
   ·rename_i nO;exact OW U S hr F K (by simpa using nO) hx h
 ·rename_i body h0 hs pos;show wpAny C.M A (do standAt pos;tryStmt false (execs body env) (h0::hs) (execs [] env) [] env) Q E s;refine ai (cg (wpAny_tryStmt_except ?_));refine mT S.S hr body ρ ji st gV fl σ s _ hx F K fun f jh t1 X1 K1 F1 fR=> ?_;cases f with
  |next=>exact wpAny_execs_nil (h _ jh t1 X1 K1 F1 fR)
  |_=>exact h _ jh t1 X1 K1 F1 fR
 ·cases hx
end
structure Jq(C:Cx):Prop where
 isets:Fy C
 unset:nN C
 fors:Js C
 tup:Ke C
 disp:∀(n:Nat)(r:pK),nU C n r->∀(sc:Scope)(a:Expr)(pos:Pos)(ρ:ie)(st gV:St)(v:PV)(A:Around)(env:Env)(σ:List Addr)(s:Shared)(Q:aa)(E:aa),i9 A n->gP C sc env σ s.heap ρ->Ok C σ s st->
  iI r sc (.Set [a] 0 pos) ρ st=some (v,gV)->
  (∀val σ' s',iO g_ σ s σ' s'->Ok C σ' s' gV->VR C σ' s'.heap v val->Q val s')->wpAny C.M A (eval (.Set [a] 0 pos) env) Q E s
 setcomp:∀(n:Nat)(r:pK),nU C n r->∀(sc iS:Scope)(elt target iter:Expr)(pos:Pos)(ρ:ie)(st gV:St)(v:PV)(A:Around)(env:Env)(σ:List Addr)(s:Shared)(Q:aa)(E:aa),i9 A n->gP C sc env σ s.heap ρ->Ok C σ s st->
  iI r sc (.SetComp elt [⟨target,iter,[],0⟩] iS pos) ρ st=some (v,gV)->
  (∀val σ' s',iO g_ σ s σ' s'->Ok C σ' s' gV->VR C σ' s'.heap v val->Q val s')->wpAny C.M A (eval (.SetComp elt [⟨target,iter,[],0⟩] iS pos) env) Q E s
section
variable{C:Cx}{sc:Scope}{env:Env}{σ σ' jF j8:List Addr}{s s' s₁ jy:Shared}{ρ ji:ie}{st gV:St}{A:Around}{n:Nat}{E:aa}{r:pK}{v:PV}{fl:iE}{W:Addr->Prop}
def QG(O:Jq C)(S:nU C n r):Tu C n (iI r):=by
 intro sc elt gens iS pos t tp spos ρ st v gV ji hx kD A env σ s Q E hr F K GS h;have hg:∃target iter ifs,gens=[⟨target,iter,ifs,0⟩]:=by
  unfold iI at hx;split at hx
  all_goals first
   |(rename_i DM;cases DM;done)
   |skip
  ·rename_i DM;cases DM;exact⟨_,_,_,rfl⟩
  ·cases hx
 obtain⟨target,iter,ifs,rfl⟩:=hg;exact Ep O.unset S hr F K hx kD GS h
def Ef{f:Str}{args:List Expr}{kws:List Keyword}{np pos:Pos}{Q:aa}(T:qe C)(O:Jq C)(S:nU C n r)(Sq:i9 A (n+1))(F:gP C sc env σ s.heap ρ)(K:Ok C σ s st)
  (hx:iI r sc (.Call (.Name f np) args kws pos) ρ st=some (v,gV))
  (h:∀val σ' s',iO g_ σ s σ' s'->Ok C σ' s' gV->VR C σ' s'.heap v val->Q val s'):wpAny C.M A (eval (.Call (.Name f np) args kws pos) env) Q E s:=by
 have hr:i9 A n:=Sq.mono (fD n);unfold iI at hx;dsimp only at hx;split at hx
 ·rename_i hl hk;split at hx
  ·rename_i m mp g xs mpos hf;have hf:=aR.mp hf;subst hf;split at hx
   ·rename_i q;simp only[aA,aR]at q;obtain⟨⟨⟨⟨rfl,q2⟩,q3⟩,q4⟩,q5⟩:=q;have q4:jx g=false:=by simpa using q4
    have q5:jx xs=false:=by simpa using q5
    obtain⟨⟨gv,s1⟩,h1,hx⟩:=ak.mp hx;obtain⟨⟨x,s2⟩,h2,hx⟩:=ak.mp hx;dsimp only at hx;split at hx
    ·rename_i nm k _;split at hx
     ·rename_i l vd;obtain⟨s3,h3,hx⟩:=ak.mp hx;obtain⟨⟨wv,s4⟩,h4,hx⟩:=ak.mp hx;dsimp only at hx;split at hx
      ·rename_i vs;cases hx;have RY:starEach [Expr.Call (.Name "map" mp) [g,xs] [] mpos] env=[(false,eval (Expr.Call (.Name "map" mp) [g,xs] [] mpos) env)]:=rfl;have VW:starEach [g,xs] env=[(false,eval g env),(false,eval xs env)]:=by
        rw[k_ q4,k_ q5];rfl
       rw[dW,RY];refine ai (Fj F hk (t9 (fv:=.type "tuple") T F K hk (T.free _ (by decide)) (by decide+kernel) ?_));show wpAny C.M A (callWith pos (.type "tuple") [] [(false,eval (Expr.Call (.Name "map" mp) [g,xs] [] mpos) env)] []) Q E s;refine callWith_type1 ?_;rw[dW,VW];refine ai (Fj F q3 (t9 (fv:=.type "map") T F K q3 (T.free _ (by decide)) (by decide+kernel) ?_));show wpAny C.M A (callWith mpos (.type "map") [] [(false,eval g env),(false,eval xs env)] []) _ E s;refine PySem.callWith_type rfl (fu (e8 (S.E sc g ρ _ _ _ h1 A env σ s _ E hr F K fun fv jh t1 X1 K1 V1=> ?_)));refine e8 (S.E sc xs ρ _ _ _ h2 A env jh t1 _ E hr (F.ext X1) K1 fun xv pg t2 X2 K2 V2=>gh ?_);have YE:=V1.mono X2.mono;rw[VR]at YE;exact O.tup n r S A pg t2 _ _ _ nm k l _ fv xv Q E Sq K2 YE V2 vd h3 h4 fun val sE t3 X3 K3 V3=>h val sE t3 ((X1.trans X2).trans X3) K3 V3
      ·cases hx
     ·cases hx
    ·cases hx
   ·cases hx
  ·exact IB T S hr F K hk hx h
 ·cases hx
def QE(T:qe C)(O:Jq C)(S:nU C n r):yJ C (n+1) (iI r):=by
 intro sc e ρ st v gV hx A env σ s Q E Sq F K h;have hr:i9 A n:=Sq.mono (fD n);cases e with
 |Constant c k pos=>exact Bd K hx h
 |Name x pos=>exact KW T F K hx h
 |BinOp a op b pos=>exact MY S O.isets hr F K hx h
 |UnaryOp op a pos=>
  cases op with
  |USub=>exact Qq S hr F K hx h
  |Not=>exact Tw S hr F K hx h
  |_=>cases hx
 |IfExp t a b pos=>exact MX S hr F K hx h
 |BoolOp op es pos=>exact Kq S hr F K hx h
 |Compare a ops es pos=>exact G6 S hr F K hx h
 |List es pos=>exact Qs S hr F K hx h
 |Tuple es k pos=>exact MU S hr F K hx h
 |Set es k pos=>
  rcases es with _|⟨a,_|⟨b,es⟩⟩
  ·cases hx
  ·cases k with
   |zero=>
    exact O.disp n r S sc a pos ρ st gV v A env σ s Q E hr F K hx h
   |succ k=>cases hx
  ·cases hx
 |Dict ks vs pos=>
  cases ks with
  |nil=>cases vs with
   |nil=>
    change some (PV.dct st.length,st++[jv.dct []])=some (v,gV)at hx;cases hx;exact Qu K h
   |cons _ _=>cases hx
  |cons _ _=>cases hx
 |Subscript a i pos=>
  by_cases hi:∃lo hi st pp,i= .Slice lo hi st pp
  ·obtain⟨lo,hi,stp,pp,rfl⟩:=hi;exact MV S hr F K hx h
  ·have hi':∀a b c d,i≠ .Slice a b c d:=fun a b c d e=>hi ⟨a,b,c,d,e⟩;refine Qt S hr F K hi' ?_ h;cases i<;>first|exact hx|exact absurd rfl (hi' _ _ _ _)
 |ListComp elt gens iS pos=>
  rcases gens with _|⟨⟨target,iter,ifs,k⟩,_|⟨b,gs⟩⟩
  ·cases hx
  ·cases k with
   |ofNat k=>cases k with
    |zero=>exact Ed O.unset S hr F K hx h
    |succ k=>cases ifs<;>cases hx
   |negSucc k=>cases ifs<;>cases hx
  ·rcases k with(_|k)|k<;>cases ifs<;>cases hx
 |SetComp elt gens iS pos=>
  rcases gens with _|⟨⟨target,iter,ifs,k⟩,_|⟨b,gs⟩⟩
  ·cases hx
  ·cases k with
   |ofNat k=>cases k with
    |zero=>cases ifs with
     |nil=>exact O.setcomp n r S sc iS elt target iter pos ρ st gV v A env σ s Q E hr F K hx h
     |cons _ _=>cases hx
    |succ k=>cases ifs<;>cases hx
   |negSucc k=>cases ifs<;>cases hx
  ·rcases k with(_|k)|k<;>cases ifs<;>cases hx
 |Call f args kws pos=>
  cases f with
  |Attribute o name apos=>cases kws with
   |nil=>exact Kp S hr F K hx h
   |cons _ _=>cases hx
  |Name x np=>exact Ef T O S Sq F K hx h
  |_=>cases hx
 |_=>cases hx
end
def Pf(C:Cx):Prop:=∀(n:Nat)(r:pK),nU C n r->Qo C (n+1) (tR r)
def JQ{C:Cx}(T:qe C)(O:Jq C)(H:Pf C):∀n,nU C n (ev n)
 |0=>⟨fun _ _ _ _ _ _ _ _ _ _ _ _ _ hx=>(by cases hx),fun _ _ _ _ _ _ hx=>(by cases hx),fun _ _ _ _ _ _ hx=>(by cases hx),fun _ _ _ _ _ _ _ hx=>(by cases hx),fun _ _ _ _ _ _ hx=>(by cases hx)⟩
 |n+1=>
  have S:=JQ T O H n
  ⟨fun sc elt gens iS pos t tp spos ρ st v gV ji hx kD A env σ s Q E hr F K GS h=>QG O S sc elt gens iS pos t tp spos ρ st v gV ji hx kD A env σ s Q E (hr.mono (fD n)) F K GS h,
   fun sc e ρ st v gV hx A env σ s Q E hr F K h=>QE T O S sc e ρ st v gV hx A env σ s Q E hr F K h,
   fun sc e ρ st v gV hx A env σ s Q E hr F K h=>QC S sc e ρ st v gV hx A env σ s Q E (hr.mono (fD n)) F K h,
   fun sc e ρ st fl ji gV hx A env σ s Q E hr F K h=>QD T O.unset O.fors S sc e ρ st fl ji gV hx A env σ s Q E (hr.mono (fD n)) F K h,
   H n (ev n) S⟩
def sO:∀{xs:List Str}{vals:List Value},xs.Nodup->xs.length=vals.length->xs.filterMap (fun n=>((xs.zip vals).lookup n).map (n,·))=xs.zip vals:=by
 have key:∀(xs:List Str)(vals:List Value)(l:List (Str×Value)),xs.Nodup->xs.length=vals.length->(∀x∈xs,l.lookup x=(xs.zip vals).lookup x)->xs.filterMap (fun n=>(l.lookup n).map (n,·))=xs.zip vals:=by
  intro xs
  induction xs with
  |nil=>intro vals l _ _ _;rfl
  |cons x xs ih=>
   intro vals l hn hl hL;cases vals with
   |nil=>simp at hl
   |cons v vals=>
    have I5:=eG.mp hn;rw[eK];have e:l.lookup x=some v:=by
     rw[hL x (aU ..),fP,cS];simp
    rw[e];show(x,v)::_=(x,v)::xs.zip vals;congr 1;refine ih vals l I5.2 (by simpa using hl) fun y hy=> ?_;rw[hL y (ay _ hy),fP,cS];have:(y==x)=false:=aO.mpr fun q=>I5.1 (q▸hy);rw[this]
 intro xs vals hn hl;exact key xs vals _ hn hl fun _ _=>rfl
def tU:∀{xs:List Str}{vals:List Value},xs.length=vals.length->∀x∈xs,((xs.zip vals).lookup x).isNone=false
 |[],_,_,x,h=>by cases h
 |y::xs,[],hl,_,_=>by simp at hl
 |y::xs,v::vals,hl,x,h=>by
  rw[fP,cS];cases e:x==y with
  |true=>rfl
  |false=>
   rcases aY.mp h with q|h
   ·subst q;simp at e
   ·exact tU (by simpa using hl) x h
def C8(l:List (Str×Value))(p:Str×Value)(x:Str)(h:l.lookup x=none)(lq:x≠p.1):(l++[p]).lookup x=none:=by
 rw[qy,h];show([p]:List (Str×Value)).lookup x=none;obtain⟨y,v⟩:=p;rw[cS];have:(x==y)=false:=aO.mpr lq;rw[this];rfl
def Gm{X:Type}(f:Str×Value->List (Str×Value)×X->Sem (ForInStep (List (Str×Value)×X)))(ex:X):∀(kw sl:List (Str×Value)),(kw.map (·.1)).Nodup->(∀p∈kw,sl.lookup p.1=none)->
  (∀p∈kw,∀t:List (Str×Value)×X,t.1.lookup p.1=none->f p t=pure (.yield (t.1++[p],t.2)))->forIn kw (sl,ex) f=(pure (sl++kw,ex):Sem _)
 |[],sl,_,_,_=>by simp
 |p::kw,sl,hn,hl,hf=>by
  have I5:=eG.mp hn;rw[b8,hf p (aU ..) (sl,ex) (hl p (aU ..))];simp only[pure_bind];rw[Gm f ex kw (sl++[p]) I5.2 (fun q hq=>C8 _ _ _ (hl q (ay _ hq)) fun e=>I5.1 (by show p.1∈_;rw[<-e];exact List.mem_map_of_mem (f:=(·.1)) hq)) fun q hq=>hf q (ay _ hq)];simp
def zP{X Y:Type}(f:X->Y->Sem (ForInStep Y))(r:Y):∀(l:List X),(∀x∈l,f x r=pure (.yield r))->forIn l r f=(pure r:Sem Y)
 |[],_=>by simp
 |x::l,h=>by
  rw[b8,h x (aU ..)];simp only[pure_bind];exact zP f r l fun y hy=>h y (ay _ hy)
def AI:∀{ks:List Str}{us:List Value},ks.length=us.length->(ks.zip us).map (·.1)=ks
 |[],_,_=>rfl
 |k::ks,[],h=>by simp at h
 |k::ks,u::us,h=>by
  show k::(ks.zip us).map (·.1)=_;rw[AI (by simpa using h)]
def FD:∀{xs:List Str}{vals:List Value}{x:Str},x∉xs->(xs.zip vals).lookup x=none
 |[],_,_,_=>rfl
 |y::xs,[],_,_=>rfl
 |y::xs,v::vals,x,h=>by
  rw[fP,cS];have:(x==y)=false:=aO.mpr fun e=>h (e▸aU ..);rw[this];exact FD fun z=>h (ay _ z)
section
variable{C:Cx}{A:Around}{E:aa}{s:Shared}
def E1{fd:FuncData}{vals:List Value}{Q:List (Str×Value)->Shared->Prop}(h1:fd.params.posonlyargs=[])(h2:fd.params.vararg=none)(h3:fd.params.kwonlyargs=[])(h4:fd.params.kwarg=none)
  (h5:fd.defaults= .none) (hn:(fd.params.args.map (·.arg)).Nodup) (hl:fd.params.args.length=vals.length)
  (h:Q ((fd.params.args.map (·.arg)).zip vals) s):wpAny C.M A (bindArgs fd ⟨vals,[]⟩) Q E s:=by
 have vd:(fd.params.args.map (·.arg)).length=vals.length:=by rw[aH];exact hl
 have hm:((fd.params.args.map (·.arg)).filter fun n=>(((fd.params.args.map (·.arg)).zip vals).lookup n).isNone)=[]:=
  dP.mpr fun x hx=>by rw[tU vd x hx];exact cL
 have hz:=sO hn vd;unfold bindArgs;simp only[h1,h2,h3,h4,h5,eL,aS,cI,dJ,pure_bind,aH];refine ai (m:=seqItems? Value.none) (aj ?_);rw[aD (by simp[hl])];simp only[pure_bind,eS,bB,List.drop_nil,fq,List.zip_nil_right,dJ];rw[bT (by rw[aH];exact aV _),hm];simp only[hz];exact aj h
def Mb{fd:FuncData}{vals:List Value}{v:Arg}{Q:List (Str×Value)->Shared->Prop}(h1:fd.params.posonlyargs=[])(h2:fd.params.vararg=some v)(h3:fd.params.kwonlyargs=[])(h4:fd.params.kwarg=none)
  (h5:fd.defaults= .none) (hn:(fd.params.args.map (·.arg)).Nodup) (hl:fd.params.args.length<=vals.length)
  (h:wpAny C.M A (newTuple (vals.drop fd.params.args.length)) (fun t s'=>Q ((fd.params.args.map (·.arg)).zip (vals.take fd.params.args.length)++[(v.arg,t)]) s') E s):wpAny C.M A (bindArgs fd ⟨vals,[]⟩) Q E s:=by
 have vd:(fd.params.args.map (·.arg)).length=(vals.take fd.params.args.length).length:=by rw[aH,bI];omega
 have Sm:(fd.params.args.map (·.arg)).zip vals=(fd.params.args.map (·.arg)).zip (vals.take fd.params.args.length):=by
  rw[List.zip_eq_zip_take_min,aH,gH hl,bT (by rw[aH];exact aV _)]
 have hm:((fd.params.args.map (·.arg)).filter fun n=>(((fd.params.args.map (·.arg)).zip (vals.take fd.params.args.length)).lookup n).isNone)=[]:=
  dP.mpr fun x hx=>by rw[tU vd x hx];exact cL
 have hz:=sO hn vd;unfold bindArgs;simp only[h1,h2,h3,h4,h5,eL,aS,cI,dJ,pure_bind,aH,Sm];refine ai (m:=seqItems? Value.none) (aj ?_);rw[aD (by simp)];simp only[pure_bind,eS,bB,List.drop_nil,fq,List.zip_nil_right,dJ];rw[bT (l:=fd.params.args.map (·.arg)) (by rw[aH];exact aV _),hm];simp only[hz];refine ai ?_;refine bU h (fun t s' ht=>aj ht) fun _ _ z=>z
def Ot{fd:FuncData}{vals us:List Value}{ks:List Str}{Q:List (Str×Value)->Shared->Prop}(h1:fd.params.posonlyargs=[])(h2:fd.params.vararg=none)(h3:fd.params.kwonlyargs.map (·.arg)=ks)(h4:fd.params.kwarg=none)
  (h5:fd.defaults= .none) (hn:(fd.params.args.map (·.arg)++ks).Nodup) (hl:fd.params.args.length=vals.length) (hk:ks.length=us.length)
  (h:Q ((fd.params.args.map (·.arg)++ks).zip (vals++us)) s):wpAny C.M A (bindArgs fd ⟨vals,ks.zip us⟩) Q E s:=by
 have vd:(fd.params.args.map (·.arg)).length=vals.length:=by rw[aH];exact hl
 have hL:(fd.params.args.map (·.arg)++ks).length=(vals++us).length:=by rw[aB,aB];omega
 have Sm:(fd.params.args.map (·.arg)++ks).zip (vals++us)=(fd.params.args.map (·.arg)).zip vals++ks.zip us:=List.zip_append vd;have hm:((fd.params.args.map (·.arg)).filter fun n=>(((fd.params.args.map (·.arg)).zip vals++ks.zip us).lookup n).isNone)=[]:=
  dP.mpr fun x hx=>by rw[<-Sm,tU hL x (bg _ hx)];exact cL
 have hz:=sO hn hL;rw[Sm]at hz h;unfold bindArgs;simp only[h1,h2,h3,h4,h5,eL,aS,cI,pure_bind,aH];have qR:∀p∈ks.zip us,p.1∈ks:=fun p hp=>by rw[<-AI hk];exact List.mem_map_of_mem hp
 have RU:=cD.mp hn;rw[Gm _ _ (ks.zip us) _ (by rw[AI hk];exact RU.2.1) (fun p hp=>FD fun z=>RU.2.2 _ z _ (qR p hp) rfl) (fun p hp t ht=>by
  rw[aQ (by simp[qR p hp]),ht];rfl)]
 rw[pure_bind];refine ai (m:=seqItems? Value.none) (aj ?_);rw[aD (by simp[hl])];simp only[pure_bind,eS,bB,List.drop_nil,fq,List.zip_nil_right,dJ];rw[bT (l:=fd.params.args.map (·.arg)) (by rw[aH];exact aV _),hm];rw[aD (by simp)];rw[zP _ _ ks (fun x hx=>by
  have:=tU hL x (cM _ hx);rw[Sm]at this;simp only[this];rfl)]
 simp only[pure_bind,hz];exact aj h
end
def Ax(a:Arguments):Bool:=decide ((a.args.map (·.arg))++(a.kwonlyargs.map (·.arg))).Nodup
def uK:List Stmt->Bool
 |[]=>true
 | .FunctionDef _ a _ _ _ _ _ _ _ _::r=>Ax a&&uK r
 |_::r=>uK r
def qC{n:Str}{a:Arguments}{b:List Stmt}{sc:Scope}:∀{l:List Stmt},mJ n l=some (a,b,sc)->uK l=true->Ax a=true
 |[],h,_=>by unfold mJ at h;cases h
 |x::l,h,k=>by
  cases x with
  |FunctionDef m a' b' c1 c2 c3 iS c4 c5 c6=>
   unfold mJ at h;unfold uK at k;rw[aA]at k;split at h
   ·cases h;exact k.1
   ·exact qC h k.2
  |_=>
   unfold mJ at h;unfold uK at k;exact qC h k
def Uq:uK PySem.Challenge.pw_ik0206_01.main.body=true:=by decide+kernel
section
variable{C:Cx}{sc:Scope}{env:Env}{σ σ':List Addr}{s s':Shared}{ρ ji:ie}{st gV:St}{A:Around}{n:Nat}{E:aa}{r:pK}{v:PV}
def iO.gone{own:Addr->Prop}(X:iO own σ s σ' s'){a:Addr}(h:s.heap.get? a=none)(hn:a∉σ):True:=trivial
def yx{a:Arguments}{args:List PV}{kws:List (Str×PV)}{q:List Str×List PV}(h:q6 a args kws=some q):a.defaults=[]:=by
 unfold q6 at h;split at h
 all_goals first
  |assumption
  |cases h
def Mc{a:Arguments}{fd:FuncData}{args:List PV}{kws:List (Str×PV)}{xs:List Str}{ps:List PV}{vs us:List Value}{Q:List (Str×Value)->Shared->Prop}(hb:q6 a args kws=some (xs,ps))(hp:fd.params=a)(hd:fd.defaults= .none)
  (vO:Ax a=true) (K:Ok C σ s st) (V:iL C σ s.heap args vs) (W:iL C σ s.heap (kws.map (·.2)) us)
  (h:∀vals s',iG s s'->iL C σ s'.heap ps vals->Q (xs.zip vals) s'):wpAny C.M A (bindArgs fd ⟨vs,(kws.map (·.1)).zip us⟩) Q E s:=by
 unfold Ax at vO;have vO:=cJ vO;subst hp;have RV:=cD.mp vO;unfold q6 at hb;split at hb
 ·rename_i h1 h2 h3 h4 h5;split at hb
  ·rename_i q;rw[aA,aR]at q;cases hb;have hk:kws=[]:=List.isEmpty_iff.mp q.1;subst hk;exact E1 h1 h2 h3 h4 hd RV.1 (q.2.trans V.length.symm) (h vs s iG.rfl' V)
  ·cases hb
 ·rename_i w h1 h2 h3 h4 h5;split at hb
  ·rename_i q;rw[aA,aA,aJ]at q;cases hb;have hk:kws=[]:=List.isEmpty_iff.mp q.1.1;subst hk;have BF:fd.params.args.length<=vs.length:=by rw[V.length];exact q.1.2
   refine Mb h1 h2 h3 h4 hd RV.1 BF ?_;have hl:(vs.drop fd.params.args.length).length<=sizeLine:=by
    rw[bH,V.length];exact lU (dB (Nat.sub_le ..) (jZ q.2))
   refine wpAny_newTuple ?_;have iK:(fd.params.args.map (·.arg)).length=(vs.take fd.params.args.length).length:=by rw[aH,bI];omega
   rw[show(fd.params.args.map (·.arg)).zip (vs.take fd.params.args.length)++[(w.arg,Value.ref s.heap.objs.size)]=(fd.params.args.map (·.arg)++[w.arg]).zip (vs.take fd.params.args.length++[Value.ref s.heap.objs.size])from by rw[List.zip_append iK];rfl];exact h _ _ (iG.push s _) (iL.append (iL.cons (uM K (V.drop _) hl) iL.nil) ((V.take _).grow (iG.push s _)))
  ·cases hb
 ·rename_i h1 h2 h4 h5 lq;split at hb
  ·rename_i q;rw[aA,aR,aR]at q;cases hb;have I6:(kws.map (·.1)).length=us.length:=by rw[aH,W.length,aH]
   refine Ot h1 h2 q.2.symm h4 hd (by rw[q.2];exact vO) (q.1.trans V.length.symm) I6 ?_;exact h _ s iG.rfl' (iL.append W V)
  ·cases hb
 ·cases hb
def QF(T:qe C)(S:nU C n r):Qo C (n+1) (tR r):=by
 intro name args kws st v gV hx A σ s vs us fv Q E hr K V W hm h;unfold tR at hx;obtain⟨⟨a,body,sc⟩,h1,hx⟩:=ak.mp hx;dsimp only at hx;split at hx
 ·cases hx
 ·rename_i q;simp only[cH,cC,not_or,eB]at q;obtain⟨q1,q2⟩:=q;obtain⟨⟨xs,ps⟩,h2,hx⟩:=ak.mp hx;obtain⟨ρ,h3,hx⟩:=ak.mp hx;obtain⟨⟨fl,ji,st1⟩,h4,hx⟩:=ak.mp hx;dsimp only at hx h3;have tL:=xm q1;obtain⟨f,o,pm,cd,doc,dV,kV,XY,ho,Xj,SH,VX⟩:=T.fns name a body sc h1;rw[hm]at XY;cases XY;have VX:=VX (yx h2);subst VX;refine wpAny_call (codeAny_call_function (body:=body) (by have:=hr.d;omega) (K.base _ _ ho) Xj tL.co tL.gen rfl (SH.keeps K.base) ?_);refine Mc h2 rfl rfl (qC h1 Uq) K V W fun vals s1 g1 V1=> ?_;have K1:=K.grow g1;refine sX (BK:=[]) tL K1 rfl (by obtain⟨c,o',vs',_,e1,e2,e3,_⟩:=SH;exact⟨c,o',vs',e1,e2,e3⟩) (fun x I4=> ?_) (fun x v I4=>by cases I4) rfl h3 V1 fun env s2 he X1 K2 F wJ=> ?_
  ·have:=b9.mp q2 (x,.free) (mem_of_lookup I4);simp at this
  refine⟨T.nolimit.keeps K2.base,codeAny_func ?_⟩;refine mT S.S (hr.deeper env) body ρ ji st st1 fl σ s2 _ h4 F K2 fun fv sE s3 X2 K3 F3 fR=> ?_;have done:∀(w:PV)(val:Value),finish st.length st1 w=some (v,gV)->VR C sE s3.heap w val->Q val s3:=by
   intro w val hf Vw;obtain⟨Y,KY,VY⟩:=tB K2 K3 X2 hf Vw;refine h val σ s3 ?_ KY VY;have X0:iO g_ σ s σ s2:=g1.ext.trans X1;have JB:∀b,Mine.own sc env b->s.heap.get? b=none:=fun b hb=>by
    cases e:s.heap.get? b with
    |none=>rfl
    |some ob=>have:=g1.keep b ob e;rw[wJ b hb]at this;cases this
   exact((X0.weaken (fun b hb=>(K.newAddr (JB b hb)).1) (fun b ob hb e=>by rw[JB b hb]at e;cases e)).trans Y).strip (fun b hb _=>JB b hb) (fun _ q=>q.elim)
  cases fl with
  |ret w=>
   obtain⟨val,rfl,Vw⟩:=fR;exact done w val hx Vw
  |next=>have:fv= .next:=fR;subst this;exact done .none .none hx (by rw[VR])
  |brk=>have:fv= .brk:=fR;subst this;exact done .none .none hx (by rw[VR])
  |cont=>have:fv= .cont:=fR;subst this;exact done .none .none hx (by rw[VR])
end
def KO{C:Cx}(T:qe C):Pf C:=fun _ _ S=>QF T S
section
variable{C:Cx}{σ σ':List Addr}{s s':Shared}{st gV:St}{A:Around}{E:aa}
def Ld(a b:Int):(ng a b).reverse=tQ (a+((b-a).toNat-1:Int)) (-1) (b-a).toNat:=by
 unfold ng tQ;generalize hn:(b-a).toNat=n;apply List.ext_getElem
 ·simp
 ·intro i h1 h2;simp only[cN,aH,di]at h1;rw[List.getElem_reverse,List.getElem_map,List.getElem_map,List.getElem_range,List.getElem_range];simp only[aH,di];congr 1;omega
def r9{r:Addr}{a b:Int}{t u v:Tok}{Q₁:aa}(hr:IsRange s.heap r a b 1 t u v)(h1:0<=a)(h2:a<=100000)(h3: -100000<=b)(h4:b<=100000)
  (h:Q₁ (.ref s.heap.objs.size) {s with heap:=s.heap.push {cls:=.type "range_iterator",data:=.fields #[rawInt (a+((b-a).toNat-1)*1),rawInt ((b-a).toNat:Int),rawInt (-1)]}}):
  codeAny C.M A (.call (.builtin "reversed.__new__") ⟨[.type "reversed",.ref r],[]⟩) (wants Q₁ E) s:=by
 have hT:s.TypeIs (.ref r) "range":=⟨_,hr,rfl⟩;refine fX ?_;show wpAny _ A.in1 (do checkBuiltinCall "reversed.__new__" ⟨[.type "reversed",.ref r],[]⟩;again (.builtin "reversed.__new__" ⟨[.type "reversed",.ref r],[]⟩)) _ _ s;refine ai (bC (F.newCall_reversed_1 _) (aj ⟨bD F.plain_reversed_new _,bx F.entry_reversed_new ?_⟩));rw[aZ F.plain_reversed_new _];unfold Builtin.«reversed.__new__»;refine ai (bC (newClass_reversed _) ?_)
 try dsimp only
 refine ai (bC (a:=()) (by first|rfl|kernel_rfl) ?_);refine ai (bC (a:=()) (by first|rfl|kernel_rfl) ?_)
 try dsimp only
 refine ai (fm hT F.slot_range_reversed.lookup ?_)
 try dsimp only
 refine ai (bC (F.slot_range_reversed.bind _) ?_)
 try dsimp only
 first
 |rw[aD (show ¬ ((Value.builtin "range.__reversed__"==Value.none)=true)from cL)]
 |(show wpAny _ _ (if(Value.builtin "range.__reversed__"==Value.none)=true then _ else _) _ _ _;rw[aD (show ¬ ((Value.builtin "range.__reversed__"==Value.none)=true)from cL)])
 refine ai (dD ?_);refine ai (m:=runValue (.call (.builtin "range.__reversed__") ⟨[.ref r],[]⟩)) (show wpAny _ _ (call (.builtin "range.__reversed__") [.ref r]) _ _ _ from ?_);refine bW F.slot_range_reversed hT F.entry_range_reversed ?_ (F.args_range_reversed_1 _);unfold Builtin.«range.__reversed__»;refine ai (bC (a:=Value.ref r) rfl ?_);unfold Builtin.Range.rangeFields;simp only[bind_assoc];refine ai (eO hr rfl (x:=.int a t) rfl ?_);refine ai (bC (a:=some a) rfl ?_);refine ai (eO hr rfl (x:=.int b u) rfl ?_);refine ai (bC (a:=some b) rfl ?_);refine ai (eO hr rfl (x:=.int 1 v) rfl ?_);refine ai (bC (a:=some 1) rfl ?_);simp only[pure_bind];have qM:Builtin.Range.rangeSize a b 1=((b-a).toNat:Int):=by rw[rangeSize_one];split<;>omega
 rw[qM];have My:(Builtin.Range.rangeFitsLong a&&Builtin.Range.rangeFitsLong b&&Builtin.Range.rangeFitsLong 1&&Builtin.Range.rangeFitsLong (-1)&&Builtin.Range.rangeFitsLong (a-1)&&Builtin.Range.rangeFitsLong ((b-a).toNat:Int))=true:=by
  unfold Builtin.Range.rangeFitsLong;simp only[aA,aJ];refine⟨⟨⟨⟨⟨?_,?_⟩,?_⟩,?_⟩,?_⟩,?_⟩<;>omega
 rw[My];simp only[dw,az,a_,bY,pure_bind];unfold newFields;refine ai (bS (aj ⟨_,rfl,?_⟩))
 first
 |exact aj h
 |exact ai (aj (aj h))
 |exact h
def vV:isSubtype (.type "range_iterator") (.type "reversed")=pure false:=by rw[bE];kernel_rfl
def Nn{a b:Int}{val:Value}{Q:aa}(hh:A.handled=none)(K:Ok C σ s st)(V:VR C σ s.heap (.rng a b) val)
  (h:∀I W kq lM lH s',MW C (ng a b).reverse I W kq lM lH->(∀i v σ s,lH i v σ s->lM i σ s)->(∀gV,kq gV)->(∀x,W x->s.heap.get? x=none)->iG s s'->lM 0 σ s'->Q (.ref I) s'):
  wpAny C.M A (call (.type "reversed") [val]) (fun rv s₁=>wpAny C.M A (pyIter rv) Q E s₁) E s:=by
 obtain⟨x,t,u,w,rfl,hn,hr,h1,h2,h3,h4⟩:=sP V;have oS:IsRangeIter (s.heap.push {cls:=.type "range_iterator",data:=.fields #[rawInt (a+((b-a).toNat-1)*1),rawInt ((b-a).toNat:Int),rawInt (-1)]}) s.heap.objs.size (a+((b-a).toNat-1)*1) ((b-a).toNat:Int) (-1):=by
  show IsRangeIter _ _ _ _ _;have:=aM s.heap (o:={cls:=.type "range_iterator",data:=.fields #[rawInt (a+((b-a).toNat-1)*1),rawInt ((b-a).toNat:Int),rawInt (-1)]}) rfl;simpa using this
 refine callType_other (U:="range_iterator") (Q₁:=fun obj s₁=>obj= .ref s.heap.objs.size/\s₁={s with heap:=s.heap.push {cls:=.type "range_iterator",data:=.fields #[rawInt (a+((b-a).toNat-1)*1),rawInt ((b-a).toNat:Int),rawInt (-1)]}})
  (by decide+kernel) F.create_reversed ⟨_,_,F.mro_reversed⟩ F.made_reversed vV (F.typeCall_reversed_1 _) (r9 hr h1 h2 h3 h4 ⟨rfl,rfl⟩) ?_
 rintro obj s₁ ⟨rfl,rfl⟩;refine⟨⟨_,oS,rfl⟩,?_⟩;refine fT oS ?_;have g:=iG.push s {cls:=.type "range_iterator",data:=.fields #[rawInt (a+((b-a).toNat-1)*1),rawInt ((b-a).toNat:Int),rawInt (-1)]};rw[Ld]at h;refine h _ _ _ _ _ _ (MW.range _ (-1) (b-a).toNat) (fun _ _ _ _ z=>z) (fun _=>trivial) (fun b hb=>by rw[hb];exact fresh_size s) g ?_;have e:a+(((b-a).toNat:Int)-1)*1=a+(((b-a).toNat:Int)-1):=by omega
 rw[e]at oS;show IsRangeIter _ _ _ _ _;rw[e];simpa using oS
def um{h:Heap}{e it:Addr}{i:Int}{old:Value}(x:IsEnum h e it i old):∃o,h.get? e=some o/\j5 o:=⟨_,x,j5.of rfl rfl (by decide)⟩
def mX{h:Heap}{it l:Addr}{i:Nat}(x:h.IsListIter it l i):∃o,h.get? it=some o/\j5 o:=by
 obtain⟨o,ho,hc,hd⟩:=x;exact⟨o,ho,j5.of hc hd (by decide)⟩
def B5(l:List PV):List PV:=List.zipWith (fun(i:Nat) v=>PV.tup [.int (i:Int),v]) (List.range l.length) l
def Ip{l:List PV}{i:Nat}{q:PV}(h:l[i]? =some q):(B5 l)[i]? =some (.tup [.int (i:Int),q]):=by
 unfold B5;have hi:=(aF.mp h).1;rw[List.getElem?_zipWith,fJ hi,h]
def zY(l:List PV):(B5 l).length=l.length:=by simp[B5]
def MW.enum{l:List PV}{e it a:Addr}(lq:e≠it):
  MW C (B5 l) e (fun x=>x=e\/x=it) (fun _=>True) (fun i σ s=>(∃old,IsEnum s.heap e it i old)/\s.heap.IsListIter it a i/\VR C σ s.heap (.list l) (.ref a))
   (fun i v σ s=>(∃x b,v= .ref b/\IsEnumOut s.heap e it i x b)/\s.heap.IsListIter it a i/\VR C σ s.heap (.list l) (.ref a)) where
 objs:=fun i σ s h b hb=>by
  obtain⟨⟨old,he⟩,hi,_⟩:=h;rcases hb with rfl|rfl
  ·exact um he
  ·exact mX hi
 objsM:=fun i v σ s h b hb=>by
  obtain⟨⟨x,b',rfl,he⟩,hi,_⟩:=h;rcases hb with rfl|rfl
  ·exact⟨_,he,j5.of rfl rfl (by decide)⟩
  ·exact mX hi
 keep:=fun own i σ s σ' s' x hW h=>by
  obtain⟨⟨old,he⟩,⟨o,ho,hc,hd⟩,V⟩:=h;exact⟨⟨old,pY x hW (.inl rfl) he⟩,⟨o,pY x hW (.inr rfl) ho,hc,hd⟩,V.mono x.mono⟩
 item:=fun A i σ s st Q E hh hi K hc h hQ=>by
  obtain⟨⟨old,he⟩,oS,V⟩:=h;rw[zY]at hi;have V':=V;rw[VR]at V';obtain⟨a',o,vs,e',hn,ho,so,r⟩:=V';cases e';obtain⟨q,hq⟩:∃q,l[i]? =some q:=⟨l[i],aP hi⟩;obtain⟨v,hv,vr⟩:=r.get hq;refine wpAny_pyNext_enum_item he oS (so.isList ho) (x:=v) (by simpa using hv) lq fun h' qF DU hT qM hk=> ?_;have R:tH (fun x=>x=e\/x=it) s {s with heap:=h',toks:=s.toks+1}:=⟨fun b o hb e=>hk b o (fun z=>hb (.inl z)) (fun z=>hb (.inr z)) e,rfl,rfl⟩;have hI:qH (fun x=>x=e\/x=it) s:=fun b hb=>by
   rcases hb with rfl|rfl
   ·exact um he
   ·exact mX oS
  have m:=R.mono (σ:=σ) hI;refine hQ _ _ _ (Ip hq) ?_ ⟨⟨v,_,rfl,qF⟩,DU,V.mono m⟩ R;rw[VR];exact⟨_,_,[.int i s.toks,v],rfl,K.fresh_size,hT,⟨0,rfl,by rw[dY];simp⟩,iL.cons (kB _ _) (iL.cons (vr.mono m) iL.nil)⟩
 done:=fun A σ s st Q E hh K hc h hQ=>by
  obtain⟨⟨old,he⟩,oS,V⟩:=h;rw[zY]at he oS;rw[VR]at V;obtain⟨a',o,vs,e',hn,ho,so,r⟩:=V;cases e';refine wpAny_pyNext_enum_end hh he oS (so.isList ho) (by simp[r.length]) fun h' hs=>hQ _ ⟨fun b o hb e=>hs b o (fun z=>hb (.inr z)) e,rfl,rfl⟩
 self:=fun A i σ s Q E h hQ=>by
  obtain⟨⟨old,he⟩,_,_⟩:=h;exact wpAny_pyIter_enum he hQ
 go:=fun A es k pos i v σ s Q E h hQ=>by
  obtain⟨⟨x,b,rfl,he⟩,oS,V⟩:=h;refine wpAny_letOwnedTupleGo_enum he fun h' DG v5=> ?_;have hI:qH (fun x=>x=e) s:=fun b hb=>⟨_,(dm s.heap.get? (show b=e from hb)).trans he,j5.of rfl rfl (by decide)⟩;have R:tH (fun x=>x=e) s {s with heap:=h'}:=⟨fun b o hb e=>(v5.2 b hb).trans e,rfl,rfl⟩;exact hQ _ ⟨⟨_,DG⟩,oS.at fun o y=>(v5.2 it lq.symm).trans y,V.mono (R.mono hI)⟩ ⟨fun b o hb e=>R.keep b o (fun z=>hb (.inl z)) e,rfl,rfl⟩
def LX{l:List PV}{val:Value}{Q:aa}(K:Ok C σ s st)(V:VR C σ s.heap (.list l) val)
  (h:∀I W kq lM lH s',MW C (List.zipWith (fun(i:Nat) v=>PV.tup [.int (i:Int),v]) (List.range l.length) l) I W kq lM lH->(∀gV,kq gV)->(∀x,W x->s.heap.get? x=none)->iG s s'->lM 0 σ s'->Q (.ref I) s'):
  wpAny C.M A (call (.type "enumerate") [val]) (fun rv s₁=>wpAny C.M A (pyIter rv) Q E s₁) E s:=by
 have V':=V;rw[VR]at V';obtain⟨a,o,vs,rfl,hn,ho,so,r⟩:=V';refine call_enumerate_list (so.isList ho) fun h' he oS qM hk=> ?_;refine wpAny_pyIter_enum he ?_;have g:iG s {s with heap:=h'}:=⟨hk,rfl,rfl⟩;refine h _ _ _ _ _ _ (MW.enum (e:=s.heap.objs.size+1) (it:=s.heap.objs.size) (a:=a) (Nat.succ_ne_self _)) (fun _=>trivial) (fun x hx=> ?_) g ⟨⟨_,he⟩,oS,V.grow g⟩;rcases hx with rfl|rfl
 ·exact kI (fD _)
 ·exact kI (aV _)
def N8:Js C where
 rev:=fun A σ s st a b val Q E hh K V h=>Nn hh K V h
 enum:=fun A σ s st l val Q E _ K V h=>LX K V h
end
end
section
open PySem
open F
def zK:Manifest.owners.lookup (String.ofList ['p','a','m'].reverse)=some Manifest.sig_map:=by kernel_rfl
def yL:Slot "map" "__init__" "object.__init__":=
 .of (owner:="object") (n:="__init__") (by rw[bQ,bh];kernel_rfl) (by decide+kernel) (by decide+kernel) (by decide+kernel)
  (by first|exact .inl (by decide+kernel)|exact .inr (by decide+kernel)) (by rw[bE];kernel_rfl)
def sf:Slot "map" "__iter__" "map.__iter__":=
 .of (owner:="map") (n:="__iter__") (by rw[bQ,bh];kernel_rfl) (by decide+kernel) (by decide+kernel) (by decide+kernel)
  (by first|exact .inl (by decide+kernel)|exact .inr (by decide+kernel)) (by rw[bE];kernel_rfl)
def vZ(a:Value):argsOk "map.__iter__" ⟨[a],[]⟩:=by
 unfold argsOk;rw[fF (id:="map.__iter__") (n:=['_','_','r','e','t','i','_','_']) (o:=['p','a','m']) (by kernel_rfl) zK];kernel_rfl
def lR:Slot "map" "__next__" "map.__next__":=
 .of (owner:="map") (n:="__next__") (by rw[bQ,bh];kernel_rfl) (by decide+kernel) (by decide+kernel) (by decide+kernel)
  (by first|exact .inl (by decide+kernel)|exact .inr (by decide+kernel)) (by rw[bE];kernel_rfl)
def rH:entryFor table "map.__next__"=some Builtin.«map.__next__»:=dc (by kernel_rfl)
def qJ(a:Value):argsOk "map.__next__" ⟨[a],[]⟩:=by
 unfold argsOk;rw[fF (id:="map.__next__") (n:=['_','_','t','x','e','n','_','_']) (o:=['p','a','m']) (by kernel_rfl) zK];kernel_rfl
def yr:entryFor table "map.__iter__"=some Builtin.«dict_keyiterator.__iter__»:=
 entryFor_alias (id':="dict_keyiterator.__iter__") (by kernel_rfl) (by first|rfl|decide+kernel|(unfold String.splitOn;simp+decide [String.splitOnAux])) (by decide+kernel) (by kernel_rfl)
def F9:mroOf (.type "map")=pure [.type "map",.type "object"]:=by rw[mroOf_type];kernel_rfl
def ym:typeLookup (.type "map") "__new__"=pure (some (.builtin "map.__new__")):=by rw[bQ,bh];kernel_rfl
def tC:TypeCalled "map" "map.__new__" "object.__init__":=
 ⟨by decide+kernel,by decide+kernel,⟨_,_,F9⟩,madeBy_type F9 ym (by decide+kernel),by decide+kernel,by rw[bE];kernel_rfl,yL⟩
def yj(a b:Value):checkTypeCall "map" ⟨[a,b],[]⟩=pure ():=by kernel_rfl
def yQ(a b:Value):checkBuiltinCall "map.__new__" ⟨[.type "map",a,b],[]⟩=pure ():=by kernel_rfl
def yU:entryFor table "map.__new__"=some Builtin.«map.__new__»:=dc (by kernel_rfl)
def sj:plainId "map.__new__"=true:=by decide+kernel
def Mk:plainId "map.__next__"=true:=by decide+kernel
def Bb:isSubtype (.type "map") (.type "map")=pure true:=by rw[bE];kernel_rfl
def EH:typeLookup (.type "map") "__len__"=pure none:=by rw[bQ,bh];kernel_rfl
def C7:typeLookup (.type "map") "__length_hint__"=pure none:=by rw[bQ,bh];kernel_rfl
def yP(o a b:Value):argsOk "object.__init__" ⟨[o,a,b],[]⟩:=by unfold argsOk;kernel_rfl
def Bj(a b:Value):Builtin.SmallTypes.newClass "map" ⟨[.type "map",a,b],[]⟩=pure (.type "map",[a,b]):=by
 unfold Builtin.SmallTypes.newClass;simp only[isType,Bb,pure_bind,dw,az,a_]
section
variable{prog:Program}{w:World}{A:Around}{E:aa}{s:Shared}
def Ew{M:Addr}{Q:aa}(hT:s.TypeIs (.ref M) "map")(h:Q (.ref M) s):wpAny (model prog w) A (pyIter (.ref M)) Q E s:=by
 refine wpAny_pyIter_slot hT sf (bW sf hT yr ?_ (vZ _));show wpAny _ _ (ret (.ref M)) _ _ s;exact aj ⟨_,rfl,"map",_,hT,lR.lookup,h⟩
def nL(l:Addr):Obj:={cls:=.type "list_iterator",data:=.fields #[.ref l,.int 0 0]}
def mC(it:Addr):Obj:={cls:=.type "tuple",data:=.seq #[.ref it]}
def pC(t:Addr)(f:Value):Obj:={cls:=.type "map",data:=.fields #[.ref t,f]}
def L6{f:Value}{l:Addr}{items:Array Value}{Q:aa}(hl:s.heap.IsList l items)
  (h:Q (.ref (s.heap.objs.size+1+1)) {s with heap:=((s.heap.push (nL l)).push (mC s.heap.objs.size)).push (pC (s.heap.objs.size+1) f)}):
  wpAny (model prog w) A (call (.type "map") [f,.ref l]) Q E s:=by
 refine callType_codes (Q₁:=fun obj s₁=>s₁.TypeIs obj "map"/\Q obj s₁) tC (yj _ _) F.entry_object_init ?_ fun obj s₁ jC=>
  ⟨jC.1,yP obj _ _,object_init_meets tC.init.lookup tC.made (by decide) prog w A.in1 _ s₁ ⟨jC.1,rfl,jC.2⟩⟩
 refine fX ?_;show wpAny _ A.in1.in1 (do checkBuiltinCall "map.__new__" ⟨[.type "map",f,.ref l],[]⟩;again (.builtin "map.__new__" ⟨[.type "map",f,.ref l],[]⟩)) _ _ s;refine ai (bC (yQ _ _) (aj ⟨bD sj _,bx yU ?_⟩));rw[aZ sj _];unfold Builtin.«map.__new__»;refine ai (bC (Bj _ _) ?_);dsimp only;refine ai (bC (a:=()) (by first|rfl|kernel_rfl) ?_);refine ai (m:=Builtin.SmallTypes.iterAll [.ref l]) ?_;unfold Builtin.SmallTypes.iterAll;simp only[b8,dJ,bind_assoc,pure_bind];refine ai (aX (fy hl ?_));refine aj ?_;have z1:(s.heap.push (nL l)).objs.size=s.heap.objs.size+1:=bM ..;have z2:((s.heap.push (nL l)).push (mC s.heap.objs.size)).objs.size=s.heap.objs.size+1+1:=by rw[bM,z1]
 refine ai (wpAny_newTuple ?_ (by simp[sizeLine]));refine ai (m:=Builtin.SmallTypes.newRecord _ _) ?_;show wpAny _ _ (newObj (.type "map") (.fields #[.ref (s.heap.push (nL l)).objs.size,f])) _ _ _;refine bS ?_;refine aj ?_;have e:=aM ((s.heap.push (nL l)).push (mC s.heap.objs.size)) (o:=pC (s.heap.objs.size+1) f) rfl;rw[z2]at e;show Shared.TypeIs ⟨((s.heap.push (nL l)).push (mC s.heap.objs.size)).push (pC (s.heap.push (nL l)).objs.size f),_,_,_,_⟩ (.ref ((s.heap.push (nL l)).push (mC s.heap.objs.size)).objs.size) "map"/\_;rw[z1];refine⟨⟨_,by rw[z2];exact e,rfl⟩,?_⟩;show Q (.ref ((s.heap.push (nL l)).push (mC s.heap.objs.size)).objs.size) {s with heap:=((s.heap.push (nL l)).push (mC s.heap.objs.size)).push (pC (s.heap.objs.size+1) f)};rw[z2];exact h
end
end
section
open PySem
def nx(m i:Nat):Nat:=(i*5+1)%(m+1)
def Mw(m:Nat):Nat->Nat->Nat
 |0,i=>i
 |t+1,i=>Mw m t (nx m i)
def wj(m:Nat):∀(a b i:Nat),Mw m (a+b) i=Mw m b (Mw m a i)
 |0,b,i=>by rw[bz];rfl
 |a+1,b,i=>by
  rw[show a+1+b=(a+b)+1 by omega];show Mw m (a+b) (nx m i)=_;rw[wj m a b];rfl
def Vr(m:Nat):Nat->Nat->ah
 |0,_=>[]
 |t+1,i=>i::Vr m t (nx m i)
def AU{m:Nat}:∀{t i j:Nat},j∈Vr m t i->∃a,a<t/\Mw m a i=j
 |0,i,j,h=>by cases h
 |t+1,i,j,h=>by
  rcases aY.mp h with e|h
  ·exact⟨0,dS _,e.symm⟩
  ·obtain⟨a,ha,e⟩:=AU h;exact⟨a+1,Nat.succ_lt_succ ha,e⟩
def Pd(m:Nat):Bool:=(List.range (m+1)).all (fun j=>(Vr m (m+1) 0).contains j)&&Mw m (m+1) 0==0
def Jr(m:Nat):Prop:=∀i j,i<=m->j<=m->∃t,t<=m/\Mw m t i=j
def N6{m:Nat}(h:Pd m=true):Jr m:=by
 unfold Pd at h;rw[aA,aR,b9]at h;intro i j hi hj;obtain⟨a,ha,ea⟩:=AU (f_.mp (h.1 i (bK.mpr (by omega))));obtain⟨b,hb,eb⟩:=AU (f_.mp (h.1 j (bK.mpr (by omega))));by_cases R3:a<=b
 ·refine⟨b-a,by omega,?_⟩;have:=wj m a (b-a) 0;rw[show a+(b-a)=b by omega,ea,eb]at this;exact this.symm
 ·refine⟨(m+1-a)+b,by omega,?_⟩;have e1:=wj m a (m+1-a) 0;rw[show a+(m+1-a)=m+1 by omega,ea,h.2]at e1;rw[wj,<-e1,eb]
def zb:ah:=[7,15,31,63,127]
def x_:∀m∈zb,Jr m:=by
 intro m hm;simp only[zb,aY,fN,or_false]at hm;rcases hm with rfl|rfl|rfl|rfl|rfl<;>exact N6 (by decide+kernel)
def DB:∀w<128,SetTable.sizeAbove w-1∈zb/\w<=SetTable.sizeAbove w-1:=by decide+kernel
abbrev wR:=Array (Option Nat)
def lp(m:Nat):Nat->Nat×Nat->Nat×Nat
 |0,p=>p
 |t+1,p=>lp m t (SetTable.leap m p.1 p.2)
def J1(m:Nat):∀(a b:Nat)(p:Nat×Nat),lp m (a+b) p=lp m b (lp m a p)
 |0,b,p=>by rw[bz];rfl
 |a+1,b,p=>by
  rw[show a+1+b=(a+b)+1 by omega];show lp m (a+b) _=_;rw[J1 m a b];rfl
def JZ(m:Nat):∀(t:Nat)(p:Nat×Nat),(lp m t p).2=p.2 / 32^t
 |0,p=>by simp[lp]
 |t+1,p=>by
  show(lp m t _).2=_;rw[JZ m t];show p.2 / 32 / 32^t=_;rw[Nat.div_div_eq_div_mul,Nat.pow_succ,Nat.mul_comm]
def J0(m:Nat):∀(t:Nat)(p:Nat×Nat),p.1<=m->(lp m t p).1<=m
 |0,p,h=>h
 |t+1,p,_=>J0 m t _ (by show(p.1*5+1+p.2 / 32)%(m+1)<=m;exact Nat.le_of_lt_succ (e_ _ (dS m)))
def Gg(m:Nat):∀(t i:Nat),(lp m t (i,0)).1=Mw m t i
 |0,i=>rfl
 |t+1,i=>by
  show(lp m t (SetTable.leap m i 0)).1=_;rw[show SetTable.leap m i 0=(nx m i,0) by simp[SetTable.leap,nx],Gg m t];rfl
def NN{m:Nat}(hF:Jr m){i p j:Nat}(hi:i<=m)(hp:p<2^64)(hj:j<=m):∃t,t<SetTable.turns m/\(lp m t (i,p)).1=j:=by
 have h2:(lp m 13 (i,p)).2=0:=by
  rw[JZ];exact Nat.div_eq_of_lt (Nat.lt_of_lt_of_le hp (by decide))
 have h1:=J0 m 13 (i,p) hi;obtain⟨t,ht,e⟩:=hF _ j h1 hj;refine⟨13+t,by unfold SetTable.turns;omega,?_⟩;rw[J1];have e3:lp m 13 (i,p)=((lp m 13 (i,p)).1,0):=Prod.ext rfl h2;rw[e3,Gg];exact e
def zS{m:Nat}{o:wR}{j:Nat}(hj:j<=m)(ho:o[j]? =some none):∀(t fuel i p:Nat),t<fuel->i<=m->(lp m t (i,p)).1=j->∃r,SetTable.layClean.free m o fuel i p=some r
 |t,0,i,p,h,_,_=>by omega
 |t,fuel+1,i,p,h,hi,e=>by
  unfold SetTable.layClean.free;cases hf:(List.range (SetTable.runEnd m i+1-i)).find? fun k=>(o.getD (i+k) (some 0)).isNone with
  |some k=>exact⟨_,rfl⟩
  |none=>
   cases t with
   |zero=>
    have VO:i=j:=e;subst VO;have:=List.find?_eq_none.mp hf 0 (bK.mpr (by unfold SetTable.runEnd;split<;>omega));rw[Nat.add_zero,gi,ho]at this;simp at this
   |succ t=>
    dsimp only;exact zS hj ho t fuel _ _ (by omega) (by show(i*5+1+p / 32)%(m+1)<=m;exact Nat.le_of_lt_succ (e_ _ (dS m))) e
def zT{m:Nat}{o:wR}:∀(fuel i p r:Nat),SetTable.layClean.free m o fuel i p=some r->o[r]? =some none
 |0,i,p,r,h=>by unfold SetTable.layClean.free at h;cases h
 |fuel+1,i,p,r,h=>by
  unfold SetTable.layClean.free at h;cases hf:(List.range (SetTable.runEnd m i+1-i)).find? fun k=>(o.getD (i+k) (some 0)).isNone with
  |some k=>
   rw[hf]at h;cases h;have:=List.find?_some hf;rw[gi]at this;cases e:o[i+k]? with
   |none=>rw[e]at this;simp at this
   |some x=>rw[e]at this;cases x with
    |none=>rfl
    |some y=>simp at this
  |none=>
   rw[hf]at h;exact zT fuel _ _ r h
def yI(o:wR):ah:=o.toList.filterMap id
def sy:∀(l:List (Option Nat))(j k:Nat),l[j]? =some none->((l.set j (some k)).filterMap id).Perm (k::l.filterMap id)
 |[],j,k,h=>by simp at h
 |a::l,0,k,h=>by
  simp only[cO,aW]at h;subst h;exact List.Perm.refl _
 |a::l,j+1,k,h=>by
  rw[eu]at h;have ih:=sy l j k h;rw[List.set_cons_succ];cases a with
  |none=>exact ih
  |some b=>exact(ih.cons b).trans (List.Perm.swap k b _)
def LN{o:wR}{j k:Nat}(h:o[j]? =some none):(yI (o.setIfInBounds j (some k))).Perm (k::yI o):=by
 unfold yI;rw[Array.toList_setIfInBounds];exact sy _ _ _ (by simpa using h)
def zy:∀(l:List (Option Nat)),(l.filterMap id).length<l.length->∃j:Nat,l[j]? =some none
 |[],h=>by simp at h
 |none::l,_=>⟨0,rfl⟩
 |some a::l,h=>by
  obtain⟨j,hj⟩:=zy l (by simpa using h);exact⟨j+1,hj⟩
def AX(m:Nat)(acc:Option (wR×Nat))(h:Int):Option (wR×Nat):=do
 let(owner,k)<-acc;let j<-SetTable.layClean.free m owner (SetTable.turns m) (SetTable.bits h%(m+1)) (SetTable.bits h)
 pure (owner.setIfInBounds j (some k),k+1)
def C9(m:Nat)(hs:Array Int):SetTable.layClean m hs=(hs.toList.foldl (AX m) (some (Array.replicate (m+1) none,0))).map (·.1):=by
 unfold SetTable.layClean;rw[<-Array.foldl_toList];rfl
def Oq(h:Int):SetTable.bits h<2^64:=by
 unfold SetTable.bits;have:=Int.emod_lt_of_pos h (show(0:Int)<2^64 by decide);have:=Int.emod_nonneg h (show(2^64:Int)≠0 by decide);omega
def Cr{m:Nat}(hF:Jr m):∀(hs:List Int)(o:wR)(k:Nat),o.size=m+1->(yI o).Perm (List.range k)->k+hs.length<=m+1->
  ∃o',hs.foldl (AX m) (some (o,k))=some (o',k+hs.length)/\o'.size=m+1/\(yI o').Perm (List.range (k+hs.length))
 |[],o,k,h1,h2,_=>⟨o,rfl,h1,h2⟩
 |h::hs,o,k,h1,h2,h3=>by
  rw[aE]at h3;obtain⟨j,hj⟩:=zy o.toList (by
   have:=h2.length_eq;rw[di]at this;show(yI o).length<o.toList.length;rw[this,bf,h1];omega)
  have U0:o[j]? =some none:=by simpa using hj
  have Yc:j<=m:=by
   have:=(Array.getElem?_eq_some_iff.mp U0).1;omega
  obtain⟨t,ht,e⟩:=NN hF (i:=SetTable.bits h%(m+1)) (p:=SetTable.bits h) (Nat.le_of_lt_succ (e_ _ (dS m))) (Oq h) Yc;obtain⟨r,hr⟩:=zS Yc U0 t _ _ _ ht (Nat.le_of_lt_succ (e_ _ (dS m))) e;have Zs:=zT _ _ _ _ hr;rw[c8];have e1:AX m (some (o,k)) h=some (o.setIfInBounds r (some k),k+1):=by
   show(SetTable.layClean.free m o (SetTable.turns m) (SetTable.bits h%(m+1)) (SetTable.bits h)).bind _=_;rw[hr];rfl
  rw[e1];have hp:(yI (o.setIfInBounds r (some k))).Perm (List.range (k+1)):=by
   rw[eH];exact(LN Zs).trans ((h2.cons k).trans (List.perm_append_singleton k _).symm)
  obtain⟨o',a,b,c⟩:=Cr hF hs _ (k+1) (by rw[Array.size_setIfInBounds];exact h1) hp (by omega);refine⟨o',?_,b,?_⟩
  ·rw[a,aE];congr 2;omega
  ·rw[aE,show k+(hs.length+1)=k+1+hs.length by omega];exact c
def CF{α β:Type}{f g:α->Option β}:∀(l:List α),(∀x∈l,f x=g x)->l.filterMap f=l.filterMap g
 |[],_=>rfl
 |a::l,h=>by
  rw[eK,eK,h a (aU ..),CF l fun x hx=>h x (ay _ hx)]
def qI(f:Nat->Option Nat->Option (Nat×Nat)):∀(l:List (Option Nat))(b:Nat),((List.range' b l.length).filterMap fun j=>((l[j-b]?).getD none).map (j,·)).map (·.2)=l.filterMap id
 |[],b=>rfl
 |a::l,b=>by
  have ih:=qI f l (b+1);rw[aE,List.range'_succ,eK];have e:(List.range' (b+1) l.length).filterMap (fun j=>(((a::l)[j-b]?).getD none).map (j,·))=(List.range' (b+1) l.length).filterMap (fun j=>((l[j-(b+1)]?).getD none).map (j,·)):=by
   refine CF _ ?_;intro j hj;have:=List.mem_range'_1.mp hj;rw[show j-b=(j-(b+1))+1 by omega,eu]
  rw[e,Nat.sub_self,cO];cases a with
  |none=>exact ih
  |some c=>show c::_=c::_;rw[ih]
def zM{m:Nat}(hF:Jr m){hs:Array Int}(h:hs.size<=m)(finger moves:Nat)(led plain:Bool):
  ∃t order,SetTable.laid m finger moves led plain hs=some (t,order)/\order.toList.Perm (List.range hs.size)/\t.fits hs.size=true/\t.mask=m/\t.dummies= #[]:=by
 obtain⟨o,h1,h2,h3⟩:=Cr hF hs.toList (Array.replicate (m+1) none) 0 (by simp) (by unfold yI;simp) (by simp;omega);have e:=C9 m hs;rw[h1]at e;simp only[bz,bf]at h3;unfold SetTable.laid;rw[e];have hl:(((List.range (m+1)).filterMap fun j=>(o.getD j none).map (j,·)).map (·.2))=yI o:=by
  have:=qI (fun _ _=>none) o.toList 0;rw[bf,h2,<-List.range_eq_range']at this;rw[<-this.trans (rfl:_=yI o)];simp[gi]
 have iK:((List.range (m+1)).filterMap fun j=>(o.getD j none).map (j,·)).length=hs.size:=by
  rw[<-aH (f:=(·.2)),hl,h3.length_eq,di]
 refine⟨_,_,rfl,?_,?_,rfl,rfl⟩
 ·rw[List.toList_toArray,hl];exact h3
 ·unfold SetTable.fits SetTable.fill;simp only[cK,aH,iK,aA,aR,aJ];exact⟨trivial,by simpa using h⟩
def je{prog:Program}{w:World}{K:Type}[DecidableEq K](knd:KeyKind prog w K):List (Int×Value)->List K->Prop
 |[],ks=>ks=[]
 |e::es,ks=>∃k r,ks=k::r/\knd.is k e.2=true/\e.1=knd.hash k/\e.2.scannable=true/\je knd es r
def iJ(T:String)(es:Array (Int×Value))(ep:Nat)(t:SetTable):Obj:={cls:=.type T,dict:=none,data:=.set es ep t,slots:= #[]}
def gQ{prog:Program}{w:World}{K:Type}[DecidableEq K](knd:KeyKind prog w K)(T:String)(h:Heap)(a:Addr)(ks:List K):Prop:=
 ∃es ep t,h.get? a=some (iJ T es ep t)/\je knd es.toList ks/\ks.Nodup/\es.size<scanBound/\t.fits es.size=true
section
variable{prog:Program}{w:World}{K:Type}[DecidableEq K]{knd:KeyKind prog w K}{A:Around}{E:aa}{s:Shared}{T:String}{a:Addr}{ks:List K}{k:K}{x:Value}
def je.length:∀{es:List (Int×Value)}{ks:List K},je knd es ks->ks.length=es.length
 |[],_,h=>by rw[je]at h;subst h;rfl
 |e::es,_,h=>by
  rw[je]at h;obtain⟨k,r,rfl,_,_,_,h⟩:=h;simp[h.length]
def je.elems:∀{es:List (Int×Value)}{ks:List K},je knd es ks->ElemsOf knd es
 |[],_,_=>fun e he=>by cases he
 |e::es,_,h=>by
  rw[je]at h;obtain⟨k,r,rfl,h1,h2,h3,h⟩:=h;intro f hf;rcases aY.mp hf with rfl|hf
  ·exact⟨⟨k,h1,h2⟩,h3⟩
  ·exact h.elems f hf
def je.of:∀{es:List (Int×Value)},ElemsOf knd es->∃ks,je knd es ks
 |[],_=>⟨[],by rw[je]⟩
 |e::es,h=>by
  obtain⟨⟨k,h1,h2⟩,h3⟩:=h.head;obtain⟨ks,hk⟩:=je.of h.tail;exact⟨k::ks,by rw[je];exact⟨k,ks,rfl,h1,h2,h3,hk⟩⟩
def je.mem:∀{es:List (Int×Value)}{ks:List K},je knd es ks->∀k,k∈ks↔ ∃e∈es,knd.is k e.2=true
 |[],_,h,k=>by rw[je]at h;subst h;simp
 |e::es,_,h,k=>by
  rw[je]at h;obtain⟨j,r,rfl,h1,h2,h3,h⟩:=h;rw[aY,h.mem k];constructor
  ·rintro(rfl|⟨f,hf,q⟩)
   ·exact⟨e,aU .., h1⟩
   ·exact⟨f,ay _ hf,q⟩
  ·rintro⟨f,hf,q⟩;rcases aY.mp hf with rfl|hf
   ·exact .inl (knd.inj _ _ _ q h1)
   ·exact .inr ⟨f,hf,q⟩
def je.find:∀{es:List (Int×Value)}{ks:List K},je knd es ks->∀k,es.findIdx? (fun e=>knd.is k e.2)=ks.findIdx? (fun j=>decide (k=j))
 |[],_,h,k=>by rw[je]at h;subst h;rfl
 |e::es,_,h,k=>by
  rw[je]at h;obtain⟨j,r,rfl,h1,h2,h3,h⟩:=h;rw[fU,fU,KeyKind.is_eq_decide h1 k,h.find k]
def je.perm{es lT:List (Int×Value)}(p:es.Perm lT):∀{ks:List K},je knd es ks->∃jt,je knd lT jt/\ks.Perm jt:=by
 induction p with
 |nil=>intro ks h;exact⟨ks,h,.refl _⟩
 |cons x p ih=>
  intro ks h;rw[je]at h;obtain⟨j,r,rfl,h1,h2,h3,h⟩:=h;obtain⟨r',hr,pr⟩:=ih h;exact⟨j::r',by rw[je];exact⟨j,r',rfl,h1,h2,h3,hr⟩,pr.cons j⟩
 |swap x y l=>
  intro ks h;rw[je]at h;obtain⟨j,r,rfl,h1,h2,h3,h⟩:=h;rw[je]at h;obtain⟨i,r',rfl,g1,g2,g3,h⟩:=h;refine⟨i::j::r',?_,.swap ..⟩;rw[je];refine⟨i,_,rfl,g1,g2,g3,?_⟩;rw[je];exact⟨j,_,rfl,h1,h2,h3,h⟩
 |trans _ _ Vu Vt=>
  intro ks h;obtain⟨k1,h1,p1⟩:=Vu h;obtain⟨k2,h2,p2⟩:=Vt h1;exact⟨k2,h2,p1.trans p2⟩
def je.snoc(hk:knd.is k x=true)(hx:x.scannable=true):∀{es:List (Int×Value)}{ks:List K},je knd es ks->je knd (es++[(knd.hash k,x)]) (ks++[k])
 |[],_,h=>by
  rw[je]at h;subst h;show je knd [(knd.hash k,x)] [k];rw[je];exact⟨k,[],rfl,hk,rfl,hx,by rw[je]⟩
 |e::es,_,h=>by
  rw[je]at h;obtain⟨j,r,rfl,h1,h2,h3,h⟩:=h;show je knd (e::(es++[(knd.hash k,x)])) (j::(r++[k]));rw[je];exact⟨j,_,rfl,h1,h2,h3,je.snoc hk hx h⟩
def je.eraseIdx:∀{es:List (Int×Value)}{ks:List K}(i:Nat),je knd es ks->je knd (es.eraseIdx i) (ks.eraseIdx i)
 |[],_,_,h=>by rw[je]at h;subst h;simp[je]
 |e::es,_,0,h=>by
  rw[je]at h;obtain⟨j,r,rfl,h1,h2,h3,h⟩:=h;exact h
 |e::es,_,i+1,h=>by
  rw[je]at h;obtain⟨j,r,rfl,h1,h2,h3,h⟩:=h;show je knd (e::es.eraseIdx i) (j::r.eraseIdx i);rw[je];exact⟨j,_,rfl,h1,h2,h3,h.eraseIdx i⟩
def gQ.size(H:gQ knd T s.heap a ks):∃es ep t,s.heap.get? a=some (iJ T es ep t)/\es.size=ks.length:=by
 obtain⟨es,ep,t,ho,he,_⟩:=H;exact⟨es,ep,t,ho,by rw[he.length,bf]⟩
def gQ.nodup{h:Heap}(H:gQ knd T h a ks):ks.Nodup:=let⟨_,_,_,_,_,n,_⟩:=H;n
def gQ.at{h h':Heap}(H:gQ knd T h a ks)(e:h'.get? a=h.get? a):gQ knd T h' a ks:=let⟨es,ep,t,ho,r⟩:=H;⟨es,ep,t,e.trans ho,r⟩
def gQ.keep{h h':Heap}(H:gQ knd T h a ks)(e:∀o,h.get? a=some o->h'.get? a=some o):gQ knd T h' a ks:=let⟨es,ep,t,ho,r⟩:=H;⟨es,ep,t,e _ ho,r⟩
def gQ.perm{h:Heap}{lT:Array (Int×Value)}{I7:Nat}{t':SetTable}{es:Array (Int×Value)}(ho:h.get? a=some (iJ T lT I7 t'))(he:je knd es.toList ks)(hn:ks.Nodup)(hb:es.size<scanBound)
  (p:lT.toList.Perm es.toList) (hf:t'.fits lT.size=true):∃jt,jt.Perm ks/\gQ knd T h a jt:=by
 obtain⟨jt,h1,h2⟩:=je.perm p.symm he;refine⟨jt,h2.symm,lT,I7,t',ho,h1,h2.nodup_iff.mp hn,?_,hf⟩;have:=p.length_eq;simp only[bf]at this;omega
def pV{es lT:Array (Int×Value)}{ep:Nat}{t t':SetTable}{Q:Unit->Shared->Prop}(ho:s.heap.get? a=some (iJ T es ep t))(hz:lT.size<scanBound)
  (h:∀h',Heap.SameBut a s.heap h'->h'.get? a=some (iJ T lT (ep+1) t')->Q () {s with heap:=h'}):wpAny (model prog w) A (storeSet a lT t') Q E s:=by
 refine wpAny_storeSet_of ho rfl (h _ (dF ..) ?_) (fits_of_scanBound hz);have:=cG (Obj.putSet lT t') ho (by rw[putSet_of lT t' rfl];rfl);rw[putSet_of lT t' rfl]at this;exact this
def NX{Q:Option Nat->Shared->Prop}(sH:knd.is k x=true)(tL:x.scannable=true)(H:gQ knd T s.heap a ks)(h1:k∉ks->Q none s)(h2:∀i,ks[i]? =some k->Q (some i) s):
  wpAny (model prog w) A (setFind a x (knd.hash k)) Q E s:=by
 obtain⟨es,ep,t,ho,he,hn,hb,hf⟩:=H;unfold setFind setFindIn;refine ai (bZ ho rfl hf ?_);dsimp only;rw[byScan_of tL hb he.elems];simp only[↓reduceIte];refine ai (dD ?_);refine ai (wpAny_setScan_of sH ho rfl hf he.elems ?_);rw[he.find k];cases hr:ks.findIdx? (fun j=>decide (k=j))with
 |none=>
  refine aj (h1 fun hm=> ?_);have:=List.findIdx?_eq_none_iff.mp hr k hm;simp at this
 |some i=>
  obtain⟨hi,hp,_⟩:=dM.mp hr;refine aj (h2 _ ?_);rw[bz,aP hi,cJ hp]
def qB{α:Type}(xs:Array α)(i:Nat):(SetTable.eraseAt xs i).toList=xs.toList.eraseIdx i:=by
 unfold SetTable.eraseAt;rw[gA,Array.toList_extract,Array.toList_extract,fH];have e:List.take (xs.size-(i+1)) (List.drop (i+1) xs.toList)=List.drop (i+1) xs.toList:=bT (by simp);simp[e]
def sr{α:Type}(xs:Array α)(i:Nat)(x:α):(SetTable.insertAt xs i x).size=xs.size+1:=by
 have:=(SetTable.insertAt_perm xs i x).length_eq;simpa using this
def Iu{t:SetTable}{n i:Nat}(h:t.fits n=true)(hi:i<n):(t.drop i).fits (n-1)=true:=by
 unfold SetTable.fits SetTable.fill at h|-;simp only[aA,aR,aJ]at h|-;have hp:t.place[i]? =some t.place[i]:=cV (by omega);unfold SetTable.drop;rw[hp];dsimp only;have e1:(SetTable.eraseAt t.place i).size=t.place.size-1:=by
  rw[<-bf,qB,List.length_eraseIdx];simp;omega
 rw[e1,sr];omega
def Ir(t:SetTable)(i:Nat):(t.drop i).mask=t.mask:=by
 unfold SetTable.drop;split<;>rfl
def Bx{t:SetTable}{n i:Nat}(h:t.fits n=true)(hi:i<n):(t.drop i).dummies.size=t.dummies.size+1:=by
 unfold SetTable.fits SetTable.fill at h;simp only[aA,aR,aJ]at h;have hp:t.place[i]? =some t.place[i]:=cV (by omega);unfold SetTable.drop;rw[hp];exact sr _ _ _
def vF{Q:Bool->Shared->Prop}(sH:knd.is k x=true)(tL:x.scannable=true)(H:gQ knd T s.heap a ks)(h1:k∉ks->Q false s)
  (h2:∀h' jt,Heap.SameBut a s.heap h'->(∀j,j∈jt↔j∈ks/\j≠k)->gQ knd T h' a jt->k∈ks->(∃es ep t lT I7 t',s.heap.get? a=some (iJ T es ep t)/\h'.get? a=some (iJ T lT I7 t')/\t'.mask=t.mask/\t'.dummies.size=t.dummies.size+1)->Q true {s with heap:=h'}):wpAny (model prog w) A (setDiscardHashed a x (knd.hash k)) Q E s:=by
 unfold setDiscardHashed;refine ai (NX sH tL H (fun hn=>aj (h1 hn)) fun i hi=> ?_);obtain⟨es,ep,t,ho,he,hn,hb,hf⟩:=H;have VN:i<es.size:=by
  have:=(aF.mp hi).1;rw[he.length,bf]at this;exact this
 dsimp only;refine ai (bZ ho rfl hf ?_);have qM:(SetTable.eraseAt es i).size=es.size-1:=by
  rw[<-bf,qB,List.length_eraseIdx];simp;omega
 refine ai (pV ho (by show(SetTable.eraseAt es i).size<_;omega) fun h' hs qF=> ?_);refine ai (wpAny_point (aj ?_));obtain⟨Xe,Sy⟩:=aF.mp hi;have ni:∀j,j∈ks.eraseIdx i↔j∈ks/\j≠k:=by
  intro j;have e:ks=ks.take i++k::ks.drop (i+1):=by
   rw[<-Sy,<-bq Xe,gb]
  rw[fH];have I5:=hn;rw[e,cD,eG]at I5;obtain⟨_,⟨hd,_⟩,Xi⟩:=I5;constructor
  ·intro hj;refine⟨?_,?_⟩
   ·rw[e];rcases bl.mp hj with hj|hj
    ·exact bg _ hj
    ·exact cM _ (ay _ hj)
   ·rintro rfl;rcases bl.mp hj with hj|hj
    ·exact Xi j hj j (aU ..) rfl
    ·exact hd hj
  ·rintro⟨hj,lq⟩;rw[e]at hj;rcases bl.mp hj with hj|hj
   ·exact bg _ hj
   ·rcases aY.mp hj with hj|hj
    ·exact absurd hj lq
    ·exact cM _ hj
 refine h2 h' _ hs ni ⟨_,_,_,qF,?_,hn.sublist (List.eraseIdx_sublist ..),(by show(SetTable.eraseAt es i).size<_;omega),?_⟩ (bL hi) ⟨_,_,_,_,_,_,ho,qF,Ir _ _,Bx hf VN⟩
 ·rw[qB];exact he.eraseIdx i
 ·rw[qM];exact Iu hf VN
def EO{Q:Bool->Shared->Prop}(sH:knd.is k x=true)(tL:x.scannable=true)(H:gQ knd T s.heap a ks)(h1:k∉ks->Q false s)
  (h2:∀h' jt,Heap.SameBut a s.heap h'->(∀j,j∈jt↔j∈ks/\j≠k)->gQ knd T h' a jt->k∈ks->Q true {s with heap:=h'}):wpAny (model prog w) A (setDiscardHashed a x (knd.hash k)) Q E s:=
 vF sH tL H h1 fun h' jt a b c d _=>h2 h' jt a b c d
def yO(t:SetTable)(n:Nat):(t.orStandIn n).led=t.led:=by
 unfold SetTable.orStandIn;split<;>rfl
def EK(t:SetTable)(es:Array (Int×Value))(h:Int)(x:Value):(layNew t es h x).2.1.led=t.led:=by
 unfold layNew;split
 ·exact yO _ _
 ·rfl
def Bf(t:SetTable)(es:Array (Int×Value))(wanted:Nat):(relayAll t es wanted).2.1.led=t.led:=by
 unfold relayAll;split
 ·rename_i t' order he;dsimp only;split
  ·unfold SetTable.relaid SetTable.laid at he;obtain⟨o,_,h2⟩:=ak.mp he;cases h2;rfl
  ·rfl
 ·rfl
def A1{Q:Bool->Shared->Prop}(sH:knd.is k x=true)(tL:x.scannable=true)(H:gQ knd T s.heap a ks)(mj:ks.length+1<scanBound)(h1:k∈ks->Q false s)
  (h2:∀h' jt,Heap.SameBut a s.heap h'->jt.Perm (ks++[k])->gQ knd T h' a jt->k∉ks->(∃es ep t lT I7 t',s.heap.get? a=some (iJ T es ep t)/\h'.get? a=some (iJ T lT I7 t')/\t'.led=t.led)->Q true {s with heap:=h'}):wpAny (model prog w) A (setAddHashed a x (knd.hash k)) Q E s:=by
 obtain⟨es,ep,t,ho,he,hn,hb,hf⟩:=H;have iK:ks.length=es.size:=by rw[he.length,bf]
 unfold setAddHashed setAddHashedIn;refine aX (ai (bZ ho rfl hf ?_));dsimp only;rw[byScan_of tL hb he.elems];simp only[↓reduceIte];unfold setAddByScan;refine ai ?_;refine ai (dD ?_);refine ai (wpAny_setScan_of sH ho rfl hf he.elems ?_);rw[he.find k];cases hr:ks.findIdx? (fun j=>decide (k=j))with
 |some i=>
  obtain⟨hi,hp,_⟩:=dM.mp hr;exact aj (aj (h1 (by rw[cJ hp];exact gu hi)))
 |none=>
  have hk:k∉ks:=fun hm=>by
   have:=List.findIdx?_eq_none_iff.mp hr k hm;simp at this
  dsimp only;have Yg:∀(b:Bool){s₁:Shared}{Q':Unit->Shared->Prop},Q' () s₁->wpAny (model prog w) A (match b with|true=>rule "set.scan.the-table-gave-way"|false=>pure ()) Q' E s₁:=
   fun b s₁ Q' hq=>by cases b<;>first|exact aj hq|exact dD hq
  have kQ:=layNew_perm t es (knd.hash k) x;have qX:=layNew_fits t es (knd.hash k) x;have n_:=EK t es (knd.hash k) x;generalize hL:layNew t es (knd.hash k) x=L at kQ qX n_|-;obtain⟨uz,t1,wasDummy,aaH⟩:=L;dsimp only at kQ qX n_|-;rw[gj]at kQ;have RY:je knd (es.push (knd.hash k,x)).toList (ks++[k]):=by rw[gj];exact he.snoc sH tL
  have Ss:(ks++[k]).Nodup:=by
   rw[cD];refine⟨hn,by simp,fun j hj i hi=> ?_⟩;rw[aK]at hi;subst hi;exact fun q=>hk (q▸hj)
  have aaD:uz.size=es.size+1:=by have:=kQ.length_eq;simpa using this
  have tail:∀(t2:SetTable)(Q':Option Bool->Shared->Prop),t2.fits uz.size=true->t2.led=t.led->(∀h' jt,Heap.SameBut a s.heap h'->jt.Perm (ks++[k])->gQ knd T h' a jt->(∃es ep t lT I7 t',s.heap.get? a=some (iJ T es ep t)/\h'.get? a=some (iJ T lT I7 t')/\t'.led=t.led)->Q' (some true) {s with heap:=h'})->
    wpAny (model prog w) A (do
     storeSet a uz t2
     if(!wasDummy&&t2.tooFull)=true then do
       (match(relayAll t2 uz (SetTable.grown uz.size)).2.2 with|true=>rule "set.scan.the-table-gave-way"|false=>pure ())
       storeSet a (relayAll t2 uz (SetTable.grown uz.size)).1 (relayAll t2 uz (SetTable.grown uz.size)).2.1
       pure (some true)
      else pure (some true)) Q' E s:=by
   intro t2 Q' RX yz hq;refine ai (pV ho (by omega) fun h' r_ E6=> ?_);obtain⟨OG,qQ,H1⟩:=gQ.perm E6 RY Ss (by simp;omega) (by rw[gj];exact kQ) RX;split
   ·have hp:=relayAll_perm t2 uz (SetTable.grown uz.size);have E7:=relayAll_fits t2 uz (SetTable.grown uz.size);have VH:=Bf t2 uz (SetTable.grown uz.size);generalize hRl:relayAll t2 uz (SetTable.grown uz.size)=Rl at hp E7 VH|-;obtain⟨Sa,t3,YM⟩:=Rl;dsimp only at hp E7 VH|-;have aaC:Sa.size=uz.size:=by have:=hp.length_eq;simpa using this
    refine ai (Yg _ ?_);refine ai (pV E6 (by omega) fun E9 tM v7=> ?_);obtain⟨Zb,GU,H2⟩:=gQ.perm v7 RY Ss (by simp;omega) (by rw[gj];exact hp.trans kQ) E7;exact aj (hq E9 Zb (r_.trans tM) GU H2 ⟨_,_,_,_,_,_,ho,v7,VH.trans yz⟩)
   ·exact aj (hq h' OG r_ qQ H1 ⟨_,_,_,_,_,_,ho,E6,yz⟩)
  refine ai (Yg _ ?_);split
  ·refine ai ?_;rw[hashByValue_scannable 8 tL];refine aj ?_;refine tail _ _ ?_ ?_ fun h' jt hs hp H hL=> ?_
   ·split
    ·exact qX
    ·exact SetTable.fits_plain_off qX
   ·split
    all_goals exact n_
   ·exact aj (h2 h' jt hs hp H hk hL)
  ·refine ai (aj ?_);simp only[↓reduceIte];exact tail _ _ qX n_ fun h' jt hs hp H hL=>aj (h2 h' jt hs hp H hk hL)
def wY{Q:Bool->Shared->Prop}(sH:knd.is k x=true)(tL:x.scannable=true)(H:gQ knd T s.heap a ks)(mj:ks.length+1<scanBound)(h1:k∈ks->Q false s)
  (h2:∀h' jt,Heap.SameBut a s.heap h'->jt.Perm (ks++[k])->gQ knd T h' a jt->k∉ks->Q true {s with heap:=h'}):wpAny (model prog w) A (setAddHashed a x (knd.hash k)) Q E s:=
 A1 sH tL H mj h1 fun h' jt a b c d _=>h2 h' jt a b c d
def D7(T:String){Q:aa}(h:∀led:Bool,Q (.ref s.heap.objs.size) {s with heap:=s.heap.push (iJ T #[] 0 (.fresh 0 0 led))}):wpAny (model prog w) A (newSet (.type T)) Q E s:=by
 unfold newSet setsByText;refine ai (ai (cR (aj ?_)));dsimp only;simp only[newObj];exact ai (wpAny_alloc (aj (h _)))
def x9(knd:KeyKind prog w K)(T:String)(h:Heap)(led:Bool):gQ knd T (h.push (iJ T #[] 0 (.fresh 0 0 led))) h.objs.size []:=
 ⟨#[],0,_,aM _ rfl,by rw[je],fc,by decide,by rfl⟩
def Quiet(h:Heap)(a:Addr):Prop:=∃T es ep t,h.get? a=some (iJ T es ep t)/\(∀e∈es.toList,e.2.scannable=true)/\t.fits es.size=true/\es.size<scanBound
def gQ.quiet{h:Heap}(H:gQ knd T h a ks):Quiet h a:=by
 obtain⟨es,ep,t,ho,he,_,hb,hf⟩:=H;exact⟨T,es,ep,t,ho,fun e h=>(he.elems e h).2,hf,hb⟩
def LM{Q:Bool->Shared->Prop}(sets:List Addr)(H:∀b∈sets,Quiet s.heap b)(h:Q true s):wpAny (model prog w) A (setsQuiet sets) Q E s:=by
 unfold setsQuiet;have inner:∀(f:Int×Value->Option Bool×Unit->Sem (ForInStep (Option Bool×Unit)))(l:List (Int×Value))(P:Option Bool×Unit->Shared->Prop),(∀e∈l,e.2.scannable=true)->(∀e,e.2.scannable=true->f e (none,())=pure (.yield (none,())))->P (none,()) s->
   wpAny (model prog w) A (forIn l (none,()) f) P E s:=by
  intro f l
  induction l with
  |nil=>intro P _ _ h;exact aj h
  |cons e l ih=>
   intro P hl hf h;rw[b8,hf e (hl e (aU ..))];simp only[pure_bind];exact ih P (fun x hx=>hl x (ay _ hx)) hf h
 refine ai ?_;have outer:∀(l:List Addr)(f:Addr->Option Bool×Unit->Sem (ForInStep (Option Bool×Unit)))(P:Option Bool×Unit->Shared->Prop),(∀b∈l,wpAny (model prog w) A (f b (none,())) (fun r s'=>r= .yield (none,())/\s'=s) E s)->P (none,()) s->
   wpAny (model prog w) A (forIn l (none,()) f) P E s:=by
  intro l
  induction l with
  |nil=>intro f P _ h;exact aj h
  |cons b l ih=>
   intro f P hf h;rw[b8];refine ai (bU (hf b (aU ..)) (fun r s' hr=> ?_) fun _ _ z=>z);obtain⟨rfl,rfl⟩:=hr;exact ih f P (fun x hx=>hf x (ay _ hx)) h
 refine outer sets _ _ (fun b hb=> ?_) (aj h);obtain⟨T,es,ep,t,ho,hq,hf,_⟩:=H b hb;refine ai (dG ho rfl hf ?_);refine ai ?_;rw[<-ff];refine inner _ es.toList _ hq (fun e he=> ?_) (aj ⟨rfl,rfl⟩);obtain⟨i,v⟩:=e;cases v<;>first|rfl|(simp[Value.scannable]at he)
def zG{α:Type}(next:Nat->Nat):∀(fuel k:Nat)(left:List α)(out:Array α),left.length<=fuel->(pickOrder.go next fuel k left out).toList.Perm (out.toList++left)
 |0,k,left,out,h=>by
  have:left=[]:=cj (by omega);subst this;simp[pickOrder.go]
 |fuel+1,k,[],out,h=>by simp[pickOrder.go]
 |fuel+1,k,y::left,out,h=>by
  unfold pickOrder.go;have jQ:next k%(y::left).length<(y::left).length:=e_ _ (by simp)
  rw[aP jQ];dsimp only;refine(zG next fuel (k+1) _ _ (by rw[List.length_eraseIdx];simp only[jQ,bY];omega)).trans ?_;rw[gj,cE];refine List.Perm.append_left _ ?_;generalize next k%(y::left).length=i at jQ
  rw[fH];show((y::left)[i]::((y::left).take i++(y::left).drop (i+1))).Perm (y::left);refine List.perm_middle.symm.trans ?_;rw[<-bq jQ,gb]
def Cy{es:Array (Int×Value)}{ep:Nat}{t:SetTable}{Q:Array (Int×Value)->Shared->Prop}(ho:s.heap.get? a=some (iJ T es ep t))(hf:t.fits es.size=true)(hb:s=s)
  (hp:((model prog w).w.params.followText "set-order"||t.led&&t.plain||decide (es.size<=1))=true) (h:∀lT,lT.toList.Perm es.toList->Q lT s):wpAny (model prog w) A (setWalk a) Q E s:=by
 unfold setWalk setsByText;refine ai (bZ ho rfl hf ?_);dsimp only;refine ai (ai (cR (aj ?_)));dsimp only;split
 ·refine ai (cR (aj (h _ ?_)));exact zG _ _ _ _ _ (by simp)
 ·rename_i PI;have hd:(!t.plain&&decide (es.size>1))=false:=by
   cases h1:t.plain<;>cases h2:t.led<;>simp_all<;>omega
  have hl:(!t.led&&decide (es.size>1))=false:=by
   cases h1:t.plain<;>cases h2:t.led<;>simp_all<;>omega
  show wpAny _ _ (if(!t.plain&&decide (es.size>1))=true then _ else _) _ _ _;rw[hd];simp only[az,a_];refine ai (bC (a:=()) ?_ (aj (h es (List.Perm.refl _))));show(if(!t.led&&decide (es.size>1))=true then _ else _)=_;rw[hl];rfl
def A0{others:List Addr}{f:Option Addr}{Q:Array (Int×Value)->Shared->Prop}(H:gQ knd T s.heap a ks)(hq:∀b∈others,Quiet s.heap b)(hf:∀b,f=some b->Quiet s.heap b)
  (h:∀lT jt h',je knd lT.toList jt->jt.Perm ks->(f=none->h'=s.heap)->(∀b,f=some b->Heap.SameBut b s.heap h'/\∀(K':Type)(_:DecidableEq K')(PW:KeyKind prog w K') T' mz,gQ PW T' s.heap b mz->gQ PW T' h' b mz)->Q lT {s with heap:=h'}):
  wpAny (model prog w) A (setWalkUnseen a others f) Q E s:=by
 have Hq:=H.quiet;obtain⟨es,ep,t,ho,he,hn,hb,Yi⟩:=H;have fin:∀lT:Array (Int×Value),lT.toList.Perm es.toList->Q lT s:=by
  intro lT p;obtain⟨jt,h1,h2⟩:=je.perm p.symm he;exact h lT jt s.heap h1 h2.symm (fun _=>rfl) fun b _=>⟨dU b s.heap,fun _ _ _ _ _ z=>z⟩
 unfold setWalkUnseen setsByText;refine ai (bZ ho rfl Yi ?_);dsimp only;refine ai (ai (cR (aj ?_)));split
 ·rename_i hp;exact Cy ho Yi rfl hp fin
 ·refine ai (LM _ (fun b hb=> ?_) ?_)
  ·rcases aY.mp hb with rfl|hb
   ·exact Hq
   ·exact hq b hb
  ·simp only[dw,az,a_];refine ai (dD ?_);cases f with
   |none=>exact aj (fin es (List.Perm.refl _))
   |some b=>
    obtain⟨Tb,ef,YA,tf,UY,hsf,Yj,SK⟩:=hf b rfl;dsimp only;refine ai (bZ UY rfl Yj ?_);dsimp only;split
    ·refine ai ?_;refine wpAny_storeSet_of UY rfl ?_ ?_
     ·refine aj (h es ks _ he (List.Perm.refl _) (fun q=>by cases q) fun b' vP=> ?_);cases vP;refine⟨dF .., fun K' _ PW T' mz⟨Sa,Vf,t2,v7,VW,VD,R0,RX⟩=> ?_⟩;have:iJ Tb ef YA tf=iJ T' Sa Vf t2:=by rw[UY]at v7;exact bX v7
      unfold iJ at this;cases this;refine⟨ef,YA+1,{tf with led:=tf.led&&t.led,plain:=tf.plain&&t.plain},?_,VW,VD,R0,?_⟩
      ·have:=cG (Obj.putSet ef {tf with led:=tf.led&&t.led,plain:=tf.plain&&t.plain}) UY (by rw[putSet_of ef _ rfl];rfl);rw[putSet_of ef _ rfl]at this;exact this
      ·exact Yj
     ·exact fits_of_scanBound SK
    ·exact aj (fin es (List.Perm.refl _))
def Cz{es:Array (Int×Value)}{ep:Nat}{t:SetTable}{wanted:Nat}{Q:Unit->Shared->Prop}(ho:s.heap.get? a=some (iJ T es ep t))(hf:t.fits es.size=true)(hw:wanted<128)(qM:es.size<=wanted)
  (h:∀h' lT t',Heap.SameBut a s.heap h'->h'.get? a=some (iJ T lT (ep+1) t')->lT.toList.Perm es.toList->t'.fits lT.size=true->t'.mask∈zb->wanted<=t'.mask->t'.dummies= #[]->Q () {s with heap:=h'}):wpAny (model prog w) A (setRelay a wanted) Q E s:=by
 obtain⟨hm,Zj⟩:=DB wanted hw;unfold setRelay;refine ai (bZ ho rfl hf ?_);dsimp only;have G1:¬ SetTable.sizeAbove wanted>sizeLine:=by
  have:∀w<128,SetTable.sizeAbove w<=1000:=by decide+kernel
  have:=this wanted hw;rw[dY];omega
 rw[aD G1];obtain⟨t',order,hl,hp,qX,BY,Tg⟩:=zM (x_ _ hm) (hs:=es.map (·.1)) (by simp;omega) t.finger (t.movedTo (SetTable.sizeAbove wanted-1)) t.led t.plain;have W8:t.relaid (es.map (·.1)) wanted=some (t',order):=hl;rw[W8];rw[Array.size_map]at hp qX;have kQ:(order.filterMap (es[·]?)).toList.Perm es.toList:=by
  rw[Array.toList_filterMap];exact(hp.filterMap _).trans (by rw[filterMap_getElem?_range])
 have Ji:(order.filterMap (es[·]?)).size=es.size:=by rw[<-bf,kQ.length_eq,bf]
 refine ai (bC (a:=(order.filterMap (es[·]?),t')) ?_ ?_)
 ·show(if((order.filterMap (es[·]?)).size !=es.size)=true then _ else _)=_;exact aD (by simp[Ji])
 ·dsimp only;have jQ:es.size<scanBound:=by have:scanBound=4096:=rfl;omega
  refine pV ho (by omega) fun h' hs qF=>h h' _ t' hs qF kQ (by rw[Ji];exact qX) (by rw[BY];exact hm) (by rw[BY];exact Zj) Tg
def nS{id:String}{o:Addr}{es:Array (Int×Value)}{ep:Nat}{t:SetTable}{Q:Unit->Shared->Prop}(ho:s.heap.get? o=some (iJ T es ep t))(hf:t.fits es.size=true)(h:Q () s):wpAny (model prog w) A (Builtin.Frozenset.unchanged id o ep) Q E s:=by
 unfold Builtin.Frozenset.unchanged;refine ai (fE ho rfl hf ?_);simp only[dR,az,a_];exact aj h
def Gq{o:Addr}{To:String}{led:Bool}{each:Sem Unit}{Q:Unit->Shared->Prop}(hs:s.heap.get? a=some (iJ T #[] 0 (.fresh 0 0 led)))(H:gQ knd To s.heap o ks)(lq:a≠o)(iK:ks.length<64)
  (h:∀h' jt,Heap.SameBut a s.heap h'->jt.Perm ks->gQ knd T h' a jt->(ks≠[]->∃es ep t,h'.get? a=some (iJ T es ep t)/\t.dummies= #[]/\(t.mask=7/\ks.length<=4\/2*ks.length<=t.mask))->Q () {s with heap:=h'}):wpAny (model prog w) A (setMerge a o each) Q E s:=by
 obtain⟨eo,DI,to,ho,he,hn,hb,hf⟩:=H;have Ud:ks.length=eo.size:=by rw[he.length,bf]
 unfold setMerge;rw[aD (by simp[lq])];refine ai (bZ ho rfl hf ?_);dsimp only;split
 ·rename_i SG;have hz:eo.size=0:=by simpa using SG
  have MA:ks=[]:=cj (by omega);subst MA;exact aj (h s.heap [] (dU a s.heap) (.refl _) ⟨#[],0,_,hs,by rw[je],fc,by decide,rfl⟩ fun q=>absurd rfl q)
 ·rename_i SG;have hz:eo.size≠0:=by simpa using SG
  have road:∀(h1:Heap)(SN:Nat)(ts:SetTable),Heap.SameBut a s.heap h1->h1.get? a=some (iJ T #[] SN ts)->ts.fill=0->ts.mask∈zb->eo.size<=ts.mask->(ts.mask=7/\ks.length<=4\/2*ks.length<=ts.mask)->ts.dummies= #[]->
    wpAny (model prog w) A (setState a >>= fun x=>match x with
     |(_,_,ts)=>match ts.road to with
      |SetTable.Road.slotForSlot=>storeSet a eo {mask:=to.mask,place:=to.place,dummies:=to.dummies,finger:=ts.finger,led:=ts.led&&to.led,moves:=ts.moves,plain:=ts.plain&&to.plain}
      |SetTable.Road.clean=>do
       let x<-(do
        let some (t,order):=(SetTable.laid ts.mask ts.finger ts.moves (ts.led&&to.led) (ts.plain&&to.plain) (Array.map (fun x=>x.fst) eo))|unsupported "internal:set-table-without-room"
        let lT:=order.filterMap (eo[·]?)
        if lT.size !=eo.size then unsupported "internal:set-table-lost-an-element"
        pure (lT,t))
       match x with
       |(es,t)=>storeSet a es t
      |SetTable.Road.oneByOne=>do
       let l<-setWalkUnseen o [a] (some a)
       forIn l PUnit.unit fun x _=>match x with
        |(h,x)=>do
         let _<-holding [x] (setAddHashed a x h)
         each
         let e<-setState o
         if(e.snd.fst !=DI)=true then do
           unsupported "set.changed-during-merge"
           pure (ForInStep.yield PUnit.unit)
          else pure (ForInStep.yield PUnit.unit)
       pure ()) Q E {s with heap:=h1}:=by
   intro h1 SN ts r_ tM JD hm BF XX Tg;refine ai (bZ tM rfl (by
    unfold SetTable.fits;unfold SetTable.fill at JD|-;simp only[aA,aR,aJ,Array.size_empty];omega) ?_)
   dsimp only;by_cases q:(ts.mask==to.mask&&to.dummies.isEmpty)=true
   ·have hr:ts.road to= .slotForSlot:=by unfold SetTable.road;rw[JD];simp only[dR,az,a_];exact aQ q
    rw[hr];rw[aA,aR]at q;dsimp only;refine pV tM hb fun h2 RP v7=> ?_;refine h h2 ks (r_.trans RP) (.refl _) ⟨eo,_,_,v7,he,hn,hb,hf⟩ fun _=>⟨_,_,_,v7,?_,?_⟩
    ·exact Array.isEmpty_iff.mp q.2
    ·show to.mask=7/\_\/_<=to.mask;rw[<-q.1];exact XX
   ·have hr:ts.road to= .clean:=by unfold SetTable.road;rw[JD];simp only[dR,az,a_];exact aD q
    rw[hr];dsimp only;obtain⟨t',order,hl,hp,qX,BY,BG⟩:=zM (x_ _ hm) (hs:=eo.map (·.1)) (by simpa using BF) ts.finger ts.moves (ts.led&&to.led) (ts.plain&&to.plain);rw[hl];rw[Array.size_map]at hp qX;have kQ:(order.filterMap (eo[·]?)).toList.Perm eo.toList:=by
     rw[Array.toList_filterMap];exact(hp.filterMap _).trans (by rw[filterMap_getElem?_range])
    have Ji:(order.filterMap (eo[·]?)).size=eo.size:=by rw[<-bf,kQ.length_eq,bf]
    refine ai (bC (a:=(order.filterMap (eo[·]?),t')) ?_ ?_)
    ·show(if((order.filterMap (eo[·]?)).size !=eo.size)=true then _ else _)=_;exact aD (by simp[Ji])
    ·dsimp only;refine pV tM (by omega) fun h2 RP v7=> ?_;obtain⟨jt,wF,H'⟩:=gQ.perm v7 he hn hb kQ (by rw[Ji];exact qX);exact h h2 jt (r_.trans RP) wF H' fun _=>⟨_,_,_,v7,BG,by rw[BY];exact XX⟩
  unfold setRoomFor;refine ai (ai (bZ hs rfl rfl ?_));dsimp only;unfold SetTable.roomFor;split
  ·rename_i wanted hw;split at hw
   ·cases hw;have OH:(0+eo.size)*2<128:=by omega
    refine Cz hs rfl OH (dH _) fun h1 uz t1 r_ E6 qQ Ja PD Sn VZ=> ?_;have VU:uz= #[]:=by
     have:=qQ.length_eq;simpa using this
    subst VU;refine road h1 _ t1 r_ E6 ?_ PD (by omega) (.inr (by omega)) VZ;unfold SetTable.fits at Ja;unfold SetTable.fill;simp only[aA,aR,Array.size_empty]at Ja;rw[Ja.1,VZ];rfl
   ·cases hw
  ·rename_i XS;have XW:eo.size<=4:=by
    by_cases q:((SetTable.fresh 0 0 led).fill+eo.size)*5≥(SetTable.fresh 0 0 led).mask*3
    ·exact absurd (aQ q) (XS _)
    ·have e1:(SetTable.fresh 0 0 led).fill=0:=rfl;have e2:(SetTable.fresh 0 0 led).mask=7:=rfl;rw[e1,e2]at q;omega
   refine aj (road s.heap 0 _ (dU a s.heap) hs rfl (by show 7∈zb;decide) ?_ ?_ rfl)
   ·show eo.size<=7;omega
   ·exact .inl ⟨rfl,by omega⟩
def Gr{o:Addr}{To:String}{eo:Array (Int×Value)}{DI:Nat}{to:SetTable}{each:Sem Unit}{Q:Unit->Shared->Prop}(ho:s.heap.get? o=some (iJ To eo DI to))(hf:to.fits eo.size=true)(lq:a≠o)
  (Fv:∀h',h'.get? o=some (iJ To eo DI to)->∀Q':Unit->Shared->Prop,Q' () {s with heap:=h'}->wpAny (model prog w) A each Q' E {s with heap:=h'}):
  ∀(es:List (Int×Value))(ko ks:List K)(h0:Heap),je knd es ko->gQ knd T h0 a ks->ks.length+ko.length<4000->Heap.SameBut a s.heap h0->
   (∀h' jt,Heap.SameBut a s.heap h'->(∀j,j∈jt↔j∈ks\/j∈ko)->gQ knd T h' a jt->Q () {s with heap:=h'})->
   wpAny (model prog w) A (forIn es PUnit.unit fun x _=>match x with
        |(h,x)=>do
         let _<-holding [x] (setAddHashed a x h)
         each
         let e<-setState o
         if(e.snd.fst !=DI)=true then do
           unsupported "set.changed-during-merge"
           pure (ForInStep.yield PUnit.unit)
          else pure (ForInStep.yield PUnit.unit)) Q E {s with heap:=h0}
 |[],ko,ks,h0,he,H,iK,hs,h=>by
  rw[je]at he;subst he;exact aj (h h0 ks hs (fun j=>by simp) H)
 |e::es,ko,ks,h0,he,H,iK,hs,h=>by
  rw[je]at he;obtain⟨k,r,rfl,h1,h2,h3,he⟩:=he;obtain⟨hh,x⟩:=e;dsimp only at h1 h2 h3;subst h2;rw[b8];simp only[bind_assoc];rw[aE]at iK;have hb:scanBound=4096:=rfl;refine ai (bU (Q:=fun _ s'=>∃h' jt,s'={s with heap:=h'}/\Heap.SameBut a s.heap h'/\gQ knd T h' a jt/\jt.length+r.length<4000/\∀j,j∈jt↔j∈ks\/j=k)
   (aX (wY (s:={s with heap:=h0}) h1 h3 H (by omega) (fun qR=> ?_) fun h' jt v5 hp H' S9=> ?_)) (fun bb s' hP=> ?_) fun _ _ z=>z)
  ·exact⟨h0,ks,rfl,hs,H,by omega,fun j=>⟨.inl,fun q=>q.elim id fun q=>q▸qR⟩⟩
  ·refine⟨h',jt,rfl,hs.trans v5,H',by have:=hp.length_eq;simp at this;omega,fun j=> ?_⟩;rw[hp.mem_iff,bl,aK]
  ·obtain⟨h',jt,rfl,v5,H',vd,hm⟩:=hP;have qF:h'.get? o=some (iJ To eo DI to):=(v5.2 o lq.symm).trans ho;refine ai (Fv h' qF _ ?_);refine ai (bZ qF rfl hf ?_);simp only[dR,az,a_,pure_bind];refine Gr ho hf lq Fv es r jt h' he H' vd v5 fun E9 Aj Qa Qe WA=>h E9 Aj Qa (fun j=> ?_) WA;rw[Qe j,hm j,aY,or_assoc]
def NW{o:Addr}{To:String}{ko:List K}{each:Sem Unit}{Q:Unit->Shared->Prop}(H:gQ knd T s.heap a ks)(MA:ks≠[])(Ho:gQ knd To s.heap o ko)(lq:a≠o)(iK:ks.length+ko.length<64)
  (Fv:∀h',h'.get? o=s.heap.get? o->∀Q':Unit->Shared->Prop,Q' () {s with heap:=h'}->wpAny (model prog w) A each Q' E {s with heap:=h'})
  (h:∀h' jt,Heap.SameBut a s.heap h'->(∀j,j∈jt↔j∈ks\/j∈ko)->gQ knd T h' a jt->Q () {s with heap:=h'}):wpAny (model prog w) A (setMerge a o each) Q E s:=by
 have Ho':=Ho;obtain⟨eo,DI,to,ho,he,hn,hb,hf⟩:=Ho;have Ud:ko.length=eo.size:=by rw[he.length,bf]
 unfold setMerge;rw[aD (by simp[lq])];refine ai (bZ ho rfl hf ?_);dsimp only;split
 ·rename_i SG;have hz:eo.size=0:=by simpa using SG
  have VJ:ko=[]:=cj (by omega);subst VJ;exact aj (h s.heap ks (dU a s.heap) (fun j=>by simp) H)
 ·have road:∀(h1:Heap)(OG:List K),Heap.SameBut a s.heap h1->OG.Perm ks->gQ knd T h1 a OG->
    wpAny (model prog w) A (setState a >>= fun x=>match x with
     |(_,_,ts)=>match ts.road to with
      |SetTable.Road.slotForSlot=>storeSet a eo {mask:=to.mask,place:=to.place,dummies:=to.dummies,finger:=ts.finger,led:=ts.led&&to.led,moves:=ts.moves,plain:=ts.plain&&to.plain}
      |SetTable.Road.clean=>do
       let x<-(do
        let some (t,order):=(SetTable.laid ts.mask ts.finger ts.moves (ts.led&&to.led) (ts.plain&&to.plain) (Array.map (fun x=>x.fst) eo))|unsupported "internal:set-table-without-room"
        let lT:=order.filterMap (eo[·]?)
        if lT.size !=eo.size then unsupported "internal:set-table-lost-an-element"
        pure (lT,t))
       match x with
       |(es,t)=>storeSet a es t
      |SetTable.Road.oneByOne=>do
       let l<-setWalkUnseen o [a] (some a)
       forIn l PUnit.unit fun x _=>match x with
        |(h,x)=>do
         let _<-holding [x] (setAddHashed a x h)
         each
         let e<-setState o
         if(e.snd.fst !=DI)=true then do
           unsupported "set.changed-during-merge"
           pure (ForInStep.yield PUnit.unit)
          else pure (ForInStep.yield PUnit.unit)
       pure ()) Q E {s with heap:=h1}:=by
   intro h1 OG r_ qQ H1;have Ho1:gQ knd To h1 o ko:=Ho'.at (r_.2 o lq.symm);have PN:=H1;obtain⟨uz,SN,ts,E6,RY,Ss,Yn,Ja⟩:=H1;refine ai (bZ E6 rfl Ja ?_);dsimp only;have hr:ts.road to= .oneByOne:=by
    unfold SetTable.road;refine aQ ?_;unfold SetTable.fits at Ja;rw[aA,aR]at Ja;have h2:uz.size≠0:=by
     intro q;have:=RY.length;rw[show uz.toList.length=uz.size from bf .., q]at this;have h3:=qQ.length_eq;exact MA (cj (by omega))
    show(ts.place.size+ts.dummies.size !=0)=true;rw[bne_iff_ne];omega
   rw[hr];dsimp only;refine ai (A0 (s:={s with heap:=h1}) Ho1 (others:=[a]) (f:=some a) (fun b hb=> ?_) (fun b hb=> ?_) fun lT jt h2 DG wF _ RX=> ?_)
   ·rw[aK.mp hb];exact PN.quiet
   ·cases hb;exact PN.quiet
   ·obtain⟨tM,wH⟩:=RX a rfl;refine ai ?_;rw[<-ff];refine Gr (s:=s) ho hf lq (fun h' qF=>Fv h' (qF.trans ho.symm)) lT.toList jt OG h2 DG (wH _ _ _ _ _ PN) (by have:=wF.length_eq;have:=qQ.length_eq;omega) (r_.trans tM) fun h' Aj v5 PE H'=> ?_;exact aj (h h' Aj v5 (fun j=>by rw[PE j,qQ.mem_iff,wF.mem_iff]) H')
  have H0:=H;obtain⟨Yy,ep0,t0,XQ,Yk,Mz,Z4,SE⟩:=H;have hl0:ks.length=Yy.size:=by rw[Yk.length,bf]
  unfold setRoomFor;refine ai (ai (bZ XQ rfl SE ?_));dsimp only;unfold SetTable.roomFor;split
  ·rename_i wanted hw;split at hw
   ·cases hw;have yD:t0.place.size=Yy.size:=by
     unfold SetTable.fits at SE;rw[aA,aR]at SE;exact SE.1
    refine Cz XQ SE (by omega) (by omega) fun h1 uz t1 r_ E6 qQ Ja PD Sn VZ=> ?_;obtain⟨OG,RQ,H1⟩:=gQ.perm E6 Yk Mz Z4 qQ Ja;exact road h1 OG r_ RQ H1
   ·cases hw
  ·exact aj (road s.heap ks (dU a s.heap) (.refl _) H0)
end
end
section
open PySem
open Builtin
def nX{α:Type}[DecidableEq α]:∀{l m:List α},l.Nodup->(∀x∈l,x∈m)->l.length<=m.length
 |[],_,_,_=>dH _
 |a::l,m,hn,h=>by
  obtain⟨h1,h2⟩:=eG.mp hn;have ha:=h a (aU ..);have:=nX (m:=m.erase a) h2 fun x hx=>(List.mem_erase_of_ne fun e=>h1 (by rw[<-e];exact hx)).mpr (h x (ay _ hx));rw[List.length_erase_of_mem ha]at this;have:=List.length_pos_of_mem ha;rw[aE];omega
def xK:isSubtype (.type "frozenset") (.type "set")=pure false:=by rw[bE];kernel_rfl
def zu:isSubtype (.type "frozenset") (.type "frozenset")=pure true:=by rw[bE];kernel_rfl
def zq:isSubtype (.type "set") (.type "set")=pure true:=by rw[bE];kernel_rfl
section
variable{prog:Program}{w:World}{K:Type}[DecidableEq K]{knd:KeyKind prog w K}{A:Around}{E:aa}{s:Shared}{T:String}{a l:Addr}{ks kl:List K}{k:K}{x:Value}
def gQ.typeIs(H:gQ knd T s.heap a ks):s.TypeIs (.ref a) T:=let⟨_,_,_,ho,_⟩:=H;⟨_,ho,rfl⟩
def mG{Q:Bool->Shared->Prop}(hT:T="set"\/T="frozenset")(h:s.TypeIs (.ref a) T)(hq:Q true s):wpAny (model prog w) A (Frozenset.isAnySet (.ref a)) Q E s:=by
 unfold Frozenset.isAnySet orM;rcases hT with rfl|rfl
 ·refine ai (cA h zq ?_);exact aj hq
 ·refine ai (cA h xK ?_);exact cA h zu hq
def GB{Q:aa}(hT:T="set"\/T="frozenset")(h:s.TypeIs (.ref a) T)(hq:Q (.type T) s):wpAny (model prog w) A (Frozenset.baseOf a) Q E s:=by
 unfold Frozenset.baseOf;rcases hT with rfl|rfl
 ·exact ai (cA h zq (aj hq))
 ·exact ai (cA h xK (aj hq))
def pB{h:Heap}{a:Addr}{o:Obj}(ho:h.get? a=some o):h.objs.size≠a:=fun e=>by
 have:=bG ho;rw[<-e]at this;exact eN _ this
def Kept(h h':Heap):Prop:=∀b o,h.get? b=some o->h'.get? b=some o
def AZ{h h':Heap}{o:Obj}(hs:Heap.SameBut h.objs.size (h.push o) h'):Kept h h':=fun b ob e=>(hs.2 b (pB e).symm).trans (aG _ e)
def Gs{Q:aa}(hT:T="set"\/T="frozenset")(H:gQ knd T s.heap l kl)(iK:kl.length<64)
  (h:∀h' ks led,Heap.SameBut s.heap.objs.size (s.heap.push (iJ T #[] 0 (.fresh 0 0 led))) h'->ks.Perm kl->gQ knd T h' s.heap.objs.size ks->
   (kl≠[]->∃es ep t,h'.get? s.heap.objs.size=some (iJ T es ep t)/\t.dummies= #[]/\(t.mask=7/\kl.length<=4\/2*kl.length<=t.mask))->Q (.ref s.heap.objs.size) {s with heap:=h'}):
  wpAny (model prog w) A (Frozenset.copyOf l) Q E s:=by
 unfold Frozenset.copyOf;refine ai (GB hT H.typeIs ?_);refine ai (D7 T fun led=> ?_);obtain⟨_,_,_,ho,_⟩:=id H;refine ai (m:=Frozenset.addrOf _) (aj ?_);refine ai (Gq (s:={s with heap:=s.heap.push (iJ T #[] 0 (.fresh 0 0 led))}) (led:=led) (aM _ rfl) (H.keep fun o e=>aG _ e) (pB ho) iK fun h' jt hs hp H' ht=> ?_);exact aj (h h' jt led hs hp H' ht)
def EF{nm:String}{o:Addr}{To:String}{led:Bool}{Q:Unit->Shared->Prop}(hs:s.heap.get? a=some (iJ T #[] 0 (.fresh 0 0 led)))(H:gQ knd To s.heap o ks)(Wb:To="set"\/To="frozenset")(lq:a≠o)(iK:ks.length<64)
  (h:∀h' jt,Heap.SameBut a s.heap h'->jt.Perm ks->gQ knd T h' a jt->Q () {s with heap:=h'}):wpAny (model prog w) A (Frozenset.updateFrom nm a (.ref o)) Q E s:=by
 unfold Frozenset.updateFrom;refine ai (mG Wb H.typeIs ?_);simp only[bY];refine ai (m:=Frozenset.addrOf _) (aj ?_);unfold Frozenset.merge;obtain⟨eo,DI,to,ho,_,_,_,hf⟩:=id H;refine ai (fE ho rfl hf ?_);exact Gq hs H lq iK fun h' jt hs hp H' _=>h h' jt hs hp H'
def EE{nm:String}{o:Addr}{To:String}{ko:List K}{Q:Unit->Shared->Prop}(H:gQ knd T s.heap a ks)(MA:ks≠[])(Ho:gQ knd To s.heap o ko)(Wb:To="set"\/To="frozenset")(lq:a≠o)(iK:ks.length+ko.length<64)
  (h:∀h' jt,Heap.SameBut a s.heap h'->(∀j,j∈jt↔j∈ks\/j∈ko)->gQ knd T h' a jt->Q () {s with heap:=h'}):wpAny (model prog w) A (Frozenset.updateFrom nm a (.ref o)) Q E s:=by
 unfold Frozenset.updateFrom;refine ai (mG Wb Ho.typeIs ?_);simp only[bY];refine ai (m:=Frozenset.addrOf _) (aj ?_);unfold Frozenset.merge;obtain⟨eo,DI,to,ho,_,_,_,hf⟩:=id Ho;refine ai (fE ho rfl hf ?_);exact NW H MA Ho lq iK (fun h' he Q' q=>nS (s:={s with heap:=h'}) (he.trans ho) hf q) h
def vc{x y:Sem Bool}{Q:Bool->Shared->Prop}(h:wpAny (model prog w) A x (fun b s'=>b=true/\wpAny (model prog w) A y Q E s') E s):wpAny (model prog w) A (andM x y) Q E s:=by
 unfold andM;refine ai (bU h (fun b s' hb=> ?_) fun _ _ z=>z);obtain⟨rfl,hb⟩:=hb;exact hb
def Nz(nm:String){r:Addr}{Tr:String}{kr:List K}{Q:aa}(hT:T="set"\/T="frozenset")(ME:Tr="set"\/Tr="frozenset")(Hl:gQ knd T s.heap l kl)(Hr:gQ knd Tr s.heap r kr)(iK:kl.length+kr.length<64)(I6:kl≠[])
  (h:∀h' ks,h'.objs.size=s.heap.objs.size+1->Kept s.heap h'->(∀j,j∈ks↔j∈kl\/j∈kr)->gQ knd T h' s.heap.objs.size ks->Q (.ref s.heap.objs.size) {s with heap:=h'}):
  wpAny (model prog w) A (do
   let result<-Frozenset.copyOf l
   if Value.ref r != .ref l then holding [result] (Frozenset.updateFrom nm (<-Frozenset.addrOf result) (.ref r))
   return result) Q E s:=by
 refine ai (Gs hT Hl (by omega) fun h1 k1 led r_ qQ H1 _=> ?_);have zd:=AZ r_;have BL:h1.objs.size=s.heap.objs.size+1:=by rw[r_.1,bM]
 split
 ·have Hr1:gQ knd Tr h1 r kr:=Hr.keep fun o e=>zd r o e;obtain⟨_,_,_,Mn,_⟩:=id Hr;have I_:k1≠[]:=fun e=>I6 (cj (by rw[<-qQ.length_eq,e];rfl));refine ai (m:=Frozenset.addrOf _) (aj ?_);refine ai (aX ?_);refine EE (s:={s with heap:=h1}) H1 I_ Hr1 ME (pB Mn) (by rw[qQ.length_eq];exact iK) fun h2 k2 tM hm H2=> ?_;refine aj (h h2 k2 (by rw[tM.1];exact BL) (fun b o e=>(tM.2 b (pB e).symm).trans (zd b o e)) (fun j=> ?_) H2);rw[hm j,qQ.mem_iff]
 ·rename_i lq;have UX:r=l:=by
   have:(Value.ref r != .ref l)=false:=by simpa using lq
   simpa using this
  subst UX;have ZJ:∀j,j∈kl↔j∈kr:=by
   obtain⟨es,ep,t,ho,he,_⟩:=Hl;obtain⟨lT,I7,t',qF,DG,_⟩:=Hr;rw[ho]at qF;cases bX qF;intro j;rw[he.mem j,DG.mem j]
  refine aj (h h1 k1 BL zd (fun j=> ?_) H1);rw[qQ.mem_iff,<-ZJ j,or_self]
def OZ{r:Addr}{Tr:String}{kr:List K}{Q:aa}(hT:T="set"\/T="frozenset")(ME:Tr="set"\/Tr="frozenset")(Hl:gQ knd T s.heap l kl)(Hr:gQ knd Tr s.heap r kr)(iK:kl.length+kr.length<64)(I6:kl≠[])
  (h:∀h' ks,h'.objs.size=s.heap.objs.size+1->Kept s.heap h'->(∀j,j∈ks↔j∈kl\/j∈kr)->gQ knd T h' s.heap.objs.size ks->Q (.ref s.heap.objs.size) {s with heap:=h'}):
  wpAny (model prog w) A (Builtin.«frozenset.__or__» ⟨[.ref l,.ref r],[]⟩) (fun fin s'=>∃v,fin= .done (.ret v)/\Q v s') E s:=by
 unfold Builtin.«frozenset.__or__»;refine ai (m:=Frozenset.slot1 "__or__" ⟨[.ref l,.ref r],[]⟩) ?_;refine bC (a:=(.ref l,.ref r)) rfl ?_;dsimp only;refine ai (vc (mG hT Hl.typeIs ⟨rfl,mG ME Hr.typeIs ?_⟩));simp only[dw,az,a_];refine ai (m:=Frozenset.addrOf _) (aj ?_);refine ai (bU (Nz _ hT ME Hl Hr iK I6 h) (fun v s' hq=> ?_) fun _ _ z=>z);exact aj ⟨v,rfl,hq⟩
def CA{o:Addr}{To:String}{eo:Array (Int×Value)}{DI:Nat}{to:SetTable}{id:String}{Q:Unit->Shared->Prop}(ho:s.heap.get? o=some (iJ To eo DI to))(hf:to.fits eo.size=true)(lq:a≠o):
  ∀(es:List (Int×Value))(ko ks:List K)(h0:Heap),je knd es ko->ko.Nodup->gQ knd T h0 a ks->ks.length+ko.length<4000->Heap.SameBut a s.heap h0->
   (∀h' jt,Heap.SameBut a s.heap h'->(∀j,j∈jt↔(j∈ks/\j∉ko\/j∉ks/\j∈ko))->gQ knd T h' a jt->Q () {s with heap:=h'})->
   wpAny (model prog w) A (forIn es PUnit.unit fun x _=>match x with
          |(h,x)=>do
           (holding [x] do
            let b<-setDiscardHashed a x h
            if(!b)=true then do
              let _<-setAddHashed a x h
              pure ()
             else pure ())
           Frozenset.unchanged id o DI
           pure (ForInStep.yield PUnit.unit)) (fun _ s'=>Q () s') E {s with heap:=h0}
 |[],ko,ks,h0,he,hn,H,iK,hs,h=>by
  rw[je]at he;subst he;exact aj (h h0 ks hs (fun j=>by simp) H)
 |e::es,ko,ks,h0,he,hn,H,iK,hs,h=>by
  rw[je]at he;obtain⟨k,r,rfl,h1,h2,h3,he⟩:=he;obtain⟨hh,x⟩:=e;dsimp only at h1 h2 h3;subst h2;rw[b8];simp only[bind_assoc];rw[aE]at iK;have hb:scanBound=4096:=rfl;obtain⟨ZI,PB⟩:=eG.mp hn;refine ai (bU (Q:=fun _ s'=>∃h' jt,s'={s with heap:=h'}/\Heap.SameBut a s.heap h'/\gQ knd T h' a jt/\jt.length+r.length<4000/\∀j,j∈jt↔(j∈ks/\j≠k\/j=k/\k∉ks))
   (aX (ai (EO (s:={s with heap:=h0}) h1 h3 H (fun qR=> ?_) fun h' jt v5 hm H' qR=> ?_))) (fun bb s' hP=> ?_) fun _ _ z=>z)
  ·simp only[Bool.not_false,bY];refine ai (wY (s:={s with heap:=h0}) h1 h3 H (by omega) (fun q=>absurd q qR) fun h' jt v5 hp H' _=> ?_);refine aj ⟨h',jt,rfl,hs.trans v5,H',by have:=hp.length_eq;simp at this;omega,fun j=> ?_⟩;rw[hp.mem_iff,bl,aK];constructor
   ·rintro(q|q)
    ·exact .inl ⟨q,fun e=>qR (e▸q)⟩
    ·exact .inr ⟨q,qR⟩
   ·rintro(⟨q,_⟩|⟨q,_⟩)
    ·exact .inl q
    ·exact .inr q
  ·simp only[dw,az,a_];refine aj ⟨h',jt,rfl,hs.trans v5,H',?_,fun j=> ?_⟩
   ·have:jt.length<=ks.length:=by
     exact nX H'.nodup fun j hj=>((hm j).mp hj).1
    omega
   ·rw[hm j];constructor
    ·exact .inl
    ·rintro(q|⟨_,q⟩)
     ·exact q
     ·exact absurd qR q
  ·obtain⟨h',jt,rfl,v5,H',vd,hm⟩:=hP;have qF:h'.get? o=some (iJ To eo DI to):=(v5.2 o lq.symm).trans ho;refine ai (nS (s:={s with heap:=h'}) qF hf ?_);simp only[pure_bind];refine CA ho hf lq es r jt h' he PB H' vd v5 fun E9 Aj Qa Qe WA=>h E9 Aj Qa (fun j=> ?_) WA;rw[Qe j,hm j,aY];by_cases q1:j=k
   ·subst q1;by_cases q2:j∈ks<;>simp[q2,ZI]
   ·simp[q1]
end
section
variable{prog:Program}{w:World}{K:Type}[DecidableEq K]{knd:KeyKind prog w K}{A:Around}{E:aa}{s:Shared}{T:String}{a l r:Addr}{ks kl kr:List K}{k:K}{x:Value}
def Ej(nm:String){Q:Unit->Shared->Prop}(hT:T="set"\/T="frozenset"){Ta:String}(Hl:gQ knd T s.heap l kl)(Ha:gQ knd Ta s.heap a ks)(lq:a≠l)(iK:ks.length+kl.length<4000)
  (h:∀h' jt,Heap.SameBut a s.heap h'->(∀j,j∈jt↔(j∈ks/\j∉kl\/j∉ks/\j∈kl))->gQ knd Ta h' a jt->Q () {s with heap:=h'}):
  wpAny (model prog w) A (Frozenset.symmetricDifferenceUpdate nm a (.ref l)) Q E s:=by
 unfold Frozenset.symmetricDifferenceUpdate;have h1:(Value.ref l==Value.ref a)=false:=by
  simp;exact fun e=>lq e.symm
 rw[h1];simp only[az,a_];refine ai (fS Hl.typeIs ?_);have h2:(Value.type T==Value.type "dict")=false:=by rcases hT with rfl|rfl<;>decide
 rw[h2];simp only[az,a_];refine ai (mG hT Hl.typeIs ?_);simp only[bY,pure_bind];refine ai (m:=Frozenset.addrOf _) (aj ?_);obtain⟨eo,DI,to,ho,_,_,_,hf⟩:=id Hl;refine ai (fE ho rfl hf ?_);refine aX ?_;refine ai (A0 Hl (others:=[a]) (f:=some a) (fun b hb=> ?_) (fun b hb=> ?_) fun lT jt h2 DG wF _ RX=> ?_)
 ·rw[aK.mp hb];exact Ha.quiet
 ·cases hb;exact Ha.quiet
 ·obtain⟨tM,wH⟩:=RX a rfl;refine ai ?_;rw[<-ff];refine bU (CA (s:=s) (Q:=Q) ho hf lq lT.toList jt ks h2 DG (wF.nodup_iff.mpr Hl.nodup) (wH _ _ _ _ _ Ha) (by rw[wF.length_eq];exact iK) tM fun h' Aj v5 PE H'=> ?_) (fun _ s' q=>aj q) fun _ _ z=>z;exact h h' Aj v5 (fun j=>by rw[PE j,wF.mem_iff]) H'
def Ko(nm:String){Tr:String}{Q:aa}(hT:T="set"\/T="frozenset")(ME:Tr="set"\/Tr="frozenset")(Hl:gQ knd T s.heap l kl)(Hr:gQ knd Tr s.heap r kr)(iK:kl.length+kr.length<64)
  (h:∀h' ks,Kept s.heap h'->(∀j,j∈ks↔(j∈kr/\j∉kl\/j∉kr/\j∈kl))->gQ knd T h' s.heap.objs.size ks->Q (.ref s.heap.objs.size) {s with heap:=h'}):
  wpAny (model prog w) A (do
   let result<-Frozenset.newFrom nm (<-Frozenset.baseOf l) (.ref r)
   holding [result] (Frozenset.symmetricDifferenceUpdate nm (<-Frozenset.addrOf result) (.ref l))
   return result) Q E s:=by
 refine ai (GB hT Hl.typeIs ?_);unfold Frozenset.newFrom;simp only[bind_assoc,pure_bind];refine ai (D7 T fun led=> ?_);obtain⟨_,_,_,Mn,_⟩:=id Hr;obtain⟨_,_,_,PA,_⟩:=id Hl;refine ai (m:=Frozenset.addrOf _) (aj ?_);refine ai (aX ?_);refine EF (s:={s with heap:=s.heap.push (iJ T #[] 0 (.fresh 0 0 led))}) (led:=led) (aM _ rfl) (Hr.keep fun o e=>aG _ e) ME (pB Mn) (by omega) fun h1 k1 r_ qQ H1=> ?_;have I_:=AZ r_;refine ai (m:=Frozenset.addrOf _) (aj ?_);refine ai (aX ?_);refine Ej (s:={s with heap:=h1}) nm hT (Hl.keep fun o e=>I_ l o e) H1 (pB PA) (by rw[qQ.length_eq];omega) fun h2 k2 tM hm H2=> ?_;refine aj (h h2 k2 (fun b o e=>(tM.2 b (pB e).symm).trans (I_ b o e)) (fun j=> ?_) H2);rw[hm j,qQ.mem_iff]
def Qp{Tr:String}{Q:aa}(hT:T="set"\/T="frozenset")(ME:Tr="set"\/Tr="frozenset")(Hl:gQ knd T s.heap l kl)(Hr:gQ knd Tr s.heap r kr)(iK:kl.length+kr.length<64)
  (h:∀h' ks,Kept s.heap h'->(∀j,j∈ks↔(j∈kr/\j∉kl\/j∉kr/\j∈kl))->gQ knd T h' s.heap.objs.size ks->Q (.ref s.heap.objs.size) {s with heap:=h'}):
  wpAny (model prog w) A (Builtin.«frozenset.__xor__» ⟨[.ref l,.ref r],[]⟩) (fun fin s'=>∃v,fin= .done (.ret v)/\Q v s') E s:=by
 unfold Builtin.«frozenset.__xor__»;refine ai (m:=Frozenset.slot1 "__xor__" ⟨[.ref l,.ref r],[]⟩) ?_;refine bC (a:=(.ref l,.ref r)) rfl ?_;dsimp only;refine ai (vc (mG hT Hl.typeIs ⟨rfl,mG ME Hr.typeIs ?_⟩));simp only[dw,az,a_];refine ai (m:=Frozenset.addrOf _) (aj ?_);refine ai (bU (Ko _ hT ME Hl Hr iK h) (fun v s' hq=> ?_) fun _ _ z=>z);exact aj ⟨v,rfl,hq⟩
def Bw:entryFor table "set.__or__"=some Builtin.«frozenset.__or__»:=
 entryFor_alias (id':="frozenset.__or__") (by kernel_rfl) rfl (by decide+kernel) (by kernel_rfl)
def yT:entryFor table "set.__xor__"=some Builtin.«frozenset.__xor__»:=
 entryFor_alias (id':="frozenset.__xor__") (by kernel_rfl) rfl (by decide+kernel) (by kernel_rfl)
def QM{Q:aa}(Hl:gQ knd "set" s.heap l kl)(Hr:gQ knd "set" s.heap r kr)(iK:kl.length+kr.length<64)(I6:kl≠[])
  (h:∀h' ks,Kept s.heap h'->(∀j,j∈ks↔j∈kl\/j∈kr)->gQ knd "set" h' s.heap.objs.size ks->Q (.ref s.heap.objs.size) {s with heap:=h'}):wpAny (model prog w) A (binaryOp .BitOr (.ref l) (.ref r)) Q E s:=by
 refine gB (T:="set") (id:="set.__or__") Hl.typeIs Hr.typeIs F.fills_set_or F.slot_set_or ?_;refine bW F.slot_set_or Hl.typeIs Bw ?_ (F.args_set_or_2 _ _);exact OZ (.inl rfl) (.inl rfl) Hl Hr iK I6 fun h' ks _ a b c=>⟨Value.noConfusion,h h' ks a b c⟩
def Ni{Q:aa}(Hl:gQ knd "set" s.heap l kl)(Hr:gQ knd "set" s.heap r kr)(iK:kl.length+kr.length<64)
  (h:∀h' ks,Kept s.heap h'->(∀j,j∈ks↔(j∈kr/\j∉kl\/j∉kr/\j∈kl))->gQ knd "set" h' s.heap.objs.size ks->Q (.ref s.heap.objs.size) {s with heap:=h'}):wpAny (model prog w) A (binaryOp .BitXor (.ref l) (.ref r)) Q E s:=by
 refine gB (T:="set") (id:="set.__xor__") Hl.typeIs Hr.typeIs F.fills_set_xor F.slot_set_xor ?_;refine bW F.slot_set_xor Hl.typeIs yT ?_ (F.args_set_xor_2 _ _);exact Qp (.inl rfl) (.inl rfl) Hl Hr iK fun h' ks a b c=>⟨Value.noConfusion,h h' ks a b c⟩
def Rf(knd:KeyKind prog w K){led:Bool}{Q:Bool->Shared->Prop}{hp:Heap}(ho:s.heap.get? a=some (iJ T #[] 0 (.fresh 0 0 led)))(sH:knd.is k x=true)(tL:x.scannable=true)
  (h:∀h',Heap.SameBut a s.heap h'->gQ knd T h' a [k]->Q true {s with heap:=h',toks:=s.toks+1}):wpAny (model prog w) A (setAdd a x) Q E s:=by
 unfold setAdd;refine aX (ai (knd.pyHash sH ?_));refine wY (s:={s with toks:=s.toks+1}) (knd:=knd) (ks:=[]) sH tL ⟨#[],0,_,ho,by rw[je],fc,by decide,rfl⟩ (by show 0+1<4096;omega) (fun q=>by cases q) fun h' jt hs hp H _=> ?_;have e:jt=[k]:=gC.mp hp;subst e;exact h h' hs H
end
def u7{α:Type}[DecidableEq α]{x:α}:∀{l:List α},l.Nodup->x∈l->l.count x=1
 |a::l,hn,hx=>by
  obtain⟨h1,h2⟩:=eG.mp hn;rw[List.count_cons];by_cases e:a=x
  ·subst e;rw[List.count_eq_zero.mpr h1];simp
  ·rcases aY.mp hx with q|q
   ·exact absurd q.symm e
   ·rw[u7 h2 q];simp[e]
def oJ{α:Type}[DecidableEq α]{l m:List α}(hl:l.Nodup)(hm:m.Nodup)(h:∀x,x∈l↔x∈m):l.Perm m:=by
 rw[List.perm_iff_count];intro x;by_cases hx:x∈l
 ·rw[u7 hl hx,u7 hm ((h x).mp hx)]
 ·rw[List.count_eq_zero.mpr hx,List.count_eq_zero.mpr fun q=>hx ((h x).mpr q)]
section
variable{prog:Program}{w:World}{A:Around}{E:aa}{s:Shared}
def CZ{b:Bool}{Q:Int->Shared->Prop}(h:Q (if b then 1 else 0) {s with toks:=s.toks+1}):wpAny (model prog w) A (pyHash (.bool b)) Q E s:=by
 have hT:s.TypeIs (.bool b) "bool":=rfl;unfold pyHash;have hv:[Value.bool b].any Value.onHeap=false:=rfl;refine ai ?_;rw[cRoomFor,aD (by rw[hv];exact cL)];refine aj ?_;refine ai (fm hT F.slot_bool_hash.lookup ?_);show wpAny _ _ (if(some (Value.builtin "int.__hash__")==some Value.none)=true then _ else _) Q E s;rw[aD (by rw[beq_builtin_none];exact cL)];refine ai (fm hT F.slot_bool_hash.lookup ?_);show wpAny _ _ (callSpecialIfBoundUnlessNone? (.bool b) "__hash__" _ >>= _) Q E s;have hr:wpAny (model prog w) A.in1 (Builtin.«int.__hash__» ⟨[.bool b],[]⟩) (fun fin s'=>∃v,fin= .done (.ret v)/\((match v with
   | .int i _=>i=(if b then 1 else 0)/\s'={s with toks:=s.toks+1}
   |_=>False))) E s:=by
  cases b
  ·show wpAny _ _ (do ret (<-mkInt 0)) _ _ s;exact wpAny_ret_mkInt ⟨rfl,rfl⟩
  ·show wpAny _ _ (do ret (<-mkInt 1)) _ _ s;exact wpAny_ret_mkInt ⟨rfl,rfl⟩
 refine ai (wpAny_callSpecialIfBoundUnlessNone?_slot hT F.slot_bool_hash
  (bW F.slot_bool_hash hT entry_int_hash (bU hr (fun fin s' hf=> ?_) fun _ _ z=>z) (args_int_hash _)))
 obtain⟨v,rfl,hv⟩:=hf;refine⟨v,rfl,?_⟩;cases v<;>first|exact hv.elim|skip
 obtain⟨rfl,rfl⟩:=hv;cases b
 all_goals exact aj h
def Value.isBool(b:Bool):Value->Bool
 | .bool c=>c==b
 |_=>false
def mL{b:Bool}{v:Value}(h:Mine.Value.isBool b v=true):v= .bool b:=by
 cases v<;>simp_all [Mine.Value.isBool]
def tW(prog:Program)(w:World)(b:Bool):KeyKind prog w Unit where
 is:=fun _=>Mine.Value.isBool b
 hash:=fun _=>if b then 1 else 0
 inj:=fun _ _ _ _ _=>rfl
 byValue:=fun _ v h=>by rw[mL h];rfl
 pyHash:=fun hv h=>by rw[mL hv];exact CZ h
 eqBool:=fun hu hv h=>by
  rw[mL hu,mL hv];unfold eqBool;refine aX ?_;rw[aQ (by simp)];exact ai (dD (aj (by simpa using h)))
 «strs» :=fun _ x t v h=>by simp[Mine.Value.isBool]at h
def Am(b:Bool)(ep:Nat)(t:SetTable):Obj:=iJ "set" #[((if b then 1 else 0),.bool b)] ep t
def N2{h:Heap}{a:Addr}{b:Bool}(H:gQ (tW prog w b) "set" h a [()]):∃ep t,h.get? a=some (Am b ep t)/\t.fits 1=true:=by
 obtain⟨es,ep,t,ho,he,_,_,hf⟩:=H;have qM:es.size=1:=by have:=he.length;rw[show es.toList.length=es.size from bf ..]at this;exact this.symm
 have hl:es.toList=[((if b then 1 else 0),.bool b)]:=by
  cases e:es.toList with
  |nil=>rw[e]at he;rw[je]at he;cases he
  |cons x r=>
   rw[e]at he;rw[je]at he;obtain⟨k,r',e2,h1,h2,_,h3⟩:=he;cases e2;have:r=[]:=cj h3.length.symm;subst this;obtain⟨i,v⟩:=x;have e3:v= .bool b:=mL h1;have e4:i=(if b then 1 else 0):=h2;rw[e3,e4]
 have:es= #[((if b then 1 else 0),.bool b)]:=eV.mp hl;subst this;exact⟨ep,t,ho,by rw[<-qM];exact hf⟩
def Aa(p j:Nat):SetTable.below #[p] j=if p<j then 1 else 0:=by
 unfold SetTable.below;show SetTable.below.go #[p] j 1 0 1=_;unfold SetTable.below.go;simp[SetTable.below.go]
def tG:Manifest.owners.lookup (String.ofList ['r','o','t','a','r','e','t','i','_','t','e','s'].reverse)=some Manifest.sig_set_iterator:=by kernel_rfl
def mK:Slot "set_iterator" "__next__" "set_iterator.__next__":=
 .of (owner:="set_iterator") (n:="__next__") (by rw[bQ,bh];kernel_rfl) (by decide+kernel) (by decide+kernel) (by decide+kernel)
  (by first|exact .inl (by decide+kernel)|exact .inr (by decide+kernel)) (by rw[bE];kernel_rfl)
def sA:entryFor table "set_iterator.__next__"=some Builtin.«set_iterator.__next__»:=dc (by kernel_rfl)
def rI(a:Value):argsOk "set_iterator.__next__" ⟨[a],[]⟩:=by
 unfold argsOk;rw[fF (id:="set_iterator.__next__") (n:=['_','_','t','x','e','n','_','_']) (o:=['r','o','t','a','r','e','t','i','_','t','e','s']) (by kernel_rfl) tG];kernel_rfl
def yq:entryFor table "set.__iter__"=some Builtin.«frozenset.__iter__»:=
 entryFor_alias (id':="frozenset.__iter__") (by kernel_rfl) (by first|rfl|decide+kernel|(unfold String.splitOn;simp+decide [String.splitOnAux])) (by decide+kernel) (by kernel_rfl)
def za(x:Value)(i:Nat)(y:Value)(ep:Nat):Obj:={cls:=.type "set_iterator",data:=.fields #[x,rawInt i,y,rawInt 1,rawInt ep]}
def zZ{es:Array (Int×Value)}{t:SetTable}(h:es.size=1):(!t.plain&&decide (es.size>1))=false:=by rw[h];simp
def LG{a:Addr}{b:Bool}{ep:Nat}{t:SetTable}{Q:aa}(ho:s.heap.get? a=some (Am b ep t))(hf:t.fits 1=true)
  (h:Q (.ref s.heap.objs.size) {s with heap:=s.heap.push (za (rawInt 0) 0 (.ref a) ep)}):wpAny (model prog w) A (pyIter (.ref a)) Q E s:=by
 have hT:s.TypeIs (.ref a) "set":=⟨_,ho,rfl⟩;refine wpAny_pyIter_slot hT F.slot_set_iter (bW F.slot_set_iter hT yq ?_ (F.args_set_iter_1 _));unfold Builtin.«frozenset.__iter__» Frozenset.slot0 Frozenset.sizeOf setDrawn setsByText;refine ai (bC (a:=a) rfl ?_);refine ai (ai (dG ho rfl hf (aj ?_)));refine ai (ai (bZ ho rfl hf ?_));dsimp only;refine ai (ai (cR (aj ?_)));refine aj ?_;have hd:∀x:Bool,(x&&(!t.plain&&decide ((#[((if b then 1 else 0),Value.bool b)]:Array (Int×Value)).size>1)))=false:=fun x=>by rw[zZ rfl];simp
 show wpAny _ _ (if(_&&(!t.plain&&decide ((#[((if b then 1 else 0),Value.bool b)]:Array (Int×Value)).size>1)))=true then _ else _) _ _ _;rw[hd];simp only[az,a_];refine ai (aj ?_);refine ai (fE ho rfl hf ?_);unfold newFields;refine ai (bS (aj ⟨_,rfl,"set_iterator",_,⟨_,aM _ rfl,rfl⟩,mK.lookup,h⟩))
end
section
variable{prog:Program}{w:World}{A:Around}{E:aa}{s:Shared}{a I:Addr}{b:Bool}{ep:Nat}{t:SetTable}
def HP(hf:t.fits 1=true):∃p,t.place= #[p]:=by
 unfold SetTable.fits at hf;rw[aA,aR]at hf;have hl:t.place.toList.length=1:=by rw[bf];exact hf.1
 obtain⟨p,hp⟩:=List.length_eq_one_iff.mp hl;exact⟨p,eV.mp hp⟩
def vv{slot given:Nat}{Q:Option (Value×Nat)->Shared->Prop}(ho:s.heap.get? a=some (Am b ep t))(hf:t.fits 1=true)(n_:(w.params.followText "set-order"||t.led)=true)
  (h1:given=0->slot=0->∀n,(∀Ju,Ju=n->w.params.followText "set-order"=true\/∃p,t.place= #[p]/\Ju=p+1)->Q (some (.bool b,n)) s)
  (h2:given=1->(w.params.followText "set-order"=true\/∃p,t.place= #[p]/\slot=p+1)->Q none s) (hg:given=0/\slot=0\/given=1/\(w.params.followText "set-order"=true\/∃p,t.place= #[p]/\slot=p+1)):
  wpAny (model prog w) A (setNext a slot given ep) Q E s:=by
 unfold setNext setsByText;refine ai (bZ ho rfl hf ?_);dsimp only;refine ai (ai (cR (aj ?_)));cases PI:w.params.followText "set-order" with
 |true=>
  show wpAny _ _ (if w.params.followText "set-order"=true then _ else _) _ _ _;rw[aQ PI];simp only[dR,az,a_];refine ai (Cy ho hf rfl (by show(w.params.followText "set-order"||_||_)=true;rw[PI];rfl) fun lT hp=> ?_);have he:lT= #[((if b then 1 else 0),.bool b)]:=eV.mp (gC.mp hp);subst he;rcases hg with⟨rfl,rfl⟩|⟨rfl,hs⟩
  ·exact aj (h1 rfl rfl 0 fun _ _=>.inl PI)
  ·exact aj (h2 rfl hs)
 |false=>
  show wpAny _ _ (if w.params.followText "set-order"=true then _ else _) _ _ _;rw[aD (by rw[PI];exact cL)];have hl:t.led=true:=by rw[PI]at n_;exact n_
  show wpAny _ _ (if(!t.plain&&decide ((#[((if b then 1 else 0),Value.bool b)]:Array (Int×Value)).size>1))=true then _ else _) _ _ _;rw[zZ rfl];simp only[az,a_];refine ai (bC (a:=()) ?_ ?_)
  ·show(if(!t.led&& !(#[((if b then 1 else 0),Value.bool b)]:Array (Int×Value)).isEmpty)=true then _ else _)=_;rw[hl];rfl
  ·obtain⟨p,hp⟩:=HP hf;rw[hp];rcases hg with⟨rfl,rfl⟩|⟨rfl,hs⟩
   ·have e0:SetTable.below #[p] 0=0:=by rw[Aa,aD (Nat.not_lt_zero p)]
    rw[e0];exact aj (h1 rfl rfl (p+1) fun Ju e=>.inr ⟨p,hp,e⟩)
   ·rcases hs with hs|⟨p',wF,rfl⟩
    ·rw[PI]at hs;cases hs
    ·rw[hp]at wF;have:p=p':=by simpa using wF
     subst this;have e1:SetTable.below #[p] (p+1)=1:=by rw[Aa,aQ (Nat.lt_succ_self p)]
     rw[e1];exact aj (h2 rfl (.inr ⟨p,hp,rfl⟩))
def Ln{Q:Option Value->Shared->Prop}(oS:s.heap.get? I=some (za (rawInt 0) 0 (.ref a) ep))(ho:s.heap.get? a=some (Am b ep t))(hf:t.fits 1=true)(n_:(w.params.followText "set-order"||t.led)=true)
  (h:∀h' n,h'.get? I=some (za (rawInt (n:Nat)) 1 (.ref a) ep)->Heap.SameBut I s.heap h'->(w.params.followText "set-order"=true\/∃p,t.place= #[p]/\n=p+1)->Q (some (.bool b)) {s with heap:=h'}):wpAny (model prog w) A (pyNext (.ref I)) Q E s:=by
 have hT:s.TypeIs (.ref I) "set_iterator":=⟨_,oS,rfl⟩;unfold pyNext;refine ai (fY (cT (name:=Str.ofString "__next__") hT mK
  (bW mK hT sA ?_ (rI _))))
 unfold Builtin.«set_iterator.__next__»;refine ai (bC (a:=(.ref I,[])) rfl ?_);dsimp only;refine ai (gn oS rfl ?_);unfold rawInt;dsimp only;refine ai (dG ho rfl hf ?_);rw[aD (by simp)];refine ai (vv (slot:=0) (given:=0) ho hf n_ (fun _ _ n hn=> ?_) (fun q=>by cases q) (.inl ⟨rfl,rfl⟩));dsimp only;refine ai (wpAny_setField_rec oS (by simp) fun jC O8 om=> ?_);refine ai (wpAny_setField_rec O8 (by simp) fun nD Uh nk=> ?_);exact aj ⟨_,rfl,aj (h nD n Uh (om.trans nk) (hn n rfl))⟩
def Bg{n:Nat}{Q:Option Value->Shared->Prop}(hh:A.handled=none)(oS:s.heap.get? I=some (za (rawInt (n:Nat)) 1 (.ref a) ep))(ho:s.heap.get? a=some (Am b ep t))(hf:t.fits 1=true)(n_:(w.params.followText "set-order"||t.led)=true)
  (hn:w.params.followText "set-order"=true\/∃p,t.place= #[p]/\n=p+1) (h:∀h',Heap.ExtBut I s.heap h'->Q none {s with heap:=h'}):wpAny (model prog w) A (pyNext (.ref I)) Q E s:=by
 have hT:s.TypeIs (.ref I) "set_iterator":=⟨_,oS,rfl⟩;unfold pyNext;refine ai (fY (cT (name:=Str.ofString "__next__") hT mK
  (bW mK hT sA ?_ (rI _))))
 unfold Builtin.«set_iterator.__next__»;refine ai (bC (a:=(.ref I,[])) rfl ?_);dsimp only;refine ai (gn oS rfl ?_);unfold rawInt;dsimp only;refine ai (dG ho rfl hf ?_);rw[aD (by simp)];refine ai (vv (slot:=n) (given:=1) ho hf n_ (fun q=>by cases q) (fun _ _=> ?_) (.inr ⟨rfl,hn⟩));dsimp only;refine ai (wpAny_setField_rec oS (by simp) fun jC O8 om=> ?_);show wpAny _ _ (newExc (.type "StopIteration") [] >>= _) _ _ _;refine ai ?_;simp only[newExc,newTuple];refine ai (bS ?_ (by size_fits));refine ai (m:=firstArgMember _ _) (bC (a:=Value.none) (by first|rfl|(simp only[firstArgMember];rfl)) ?_);refine bS ?_ (by size_fits);simp only[raiseNew];refine ai (wpAny_handled ?_)
 first|rw[show A.in1.handled=none from hh]|rw[hh]
 refine ai (aj (wpAny_throw ?_));refine ai (cA (T:="StopIteration") (b:=true) ⟨_,aM _ rfl,rfl⟩ isSubtype_stop ?_);exact aj (h _ ((om.extBut.push _).push _))
def Eh{env:Env}{x:Str}{p pos:Pos}{k:Nat}{Q:Unit->Shared->Prop}(hh:A.handled=none)(ho:s.heap.get? a=some (Am b ep t))(hf:t.fits 1=true)(n_:(w.params.followText "set-order"||t.led)=true)
  (h:∀h',(∀b o,s.heap.get? b=some o->h'.get? b=some o)->wpAny (model prog w) A (assign (.Name x p) env (.bool b)) Q E {s with heap:=h'}):wpAny (model prog w) A (assign (.Tuple [.Name x p] k pos) env (.ref a)) Q E s:=by
 have hT:s.TypeIs (.ref a) "set":=⟨_,ho,rfl⟩;have lq:a≠s.heap.objs.size:=dK (bG ho);rw[arm_assign_Tuple];refine ai (cg ?_);unfold unpack;refine ai (aX ?_);show wpAny _ _ (unpackItems (.ref a) 1 none) _ _ _;unfold unpackItems;refine ai ?_;unfold notIterableAtAll;refine ai (fm hT F.slot_set_iter.lookup ?_);refine aj ?_;simp only[az,a_];refine ai (aX (LG ho hf ?_));have E6:(s.heap.push (za (rawInt 0) 0 (.ref a) ep)).get? a=some (Am b ep t):=aG _ ho;refine ai (aX ?_);unfold draw;refine ai (Ln (s:={s with heap:=s.heap.push (za (rawInt 0) 0 (.ref a) ep)}) (aM _ rfl) E6 hf n_ fun h1 n Sz r_ hn=> ?_);dsimp only;unfold draw;refine ai (aX (aj (aj ?_)));rw[aD (by simp)];have v7:h1.get? a=some (Am b ep t):=(r_.2 a lq).trans E6;refine ai (aX (Bg (s:={s with heap:=h1}) hh Sz v7 hf n_ hn fun h2 tM=> ?_));simp only[Option.isSome_none,az,a_];refine aj ?_;show wpAny _ _ (do holding [] (assign (.Name x p) env (.bool b));assignInOrder [] []) _ _ _;refine ai (aX (bU (h h2 fun c o e=> ?_) (fun _ s' q=>aj q) fun _ _ z=>z));have hc:c≠s.heap.objs.size:=dK (bG e);exact tM c o hc ((r_.2 c hc).trans (aG _ e))
end
end
section
open PySem PyProof.Rows
open Builtin
structure nt(σ:List Addr)(h:Heap)(M t it a:Addr)(f:Value)(i:Nat):Prop where
 m1:M∉σ
 t1:t∉σ
 i1:it∉σ
 mo:h.get? M=some (pC t f)
 to:h.get? t=some (mC it)
 io:h.IsListIter it a i
def Ly{n:Nat}(h:n<=1000000):n+[()].length<=sizeLine:=by rw[dY];simp;omega
section
variable{C:Cx}{σ σ' jU:List Addr}{s s' jo:Shared}{st gV:St}{A:Around}{E:aa}{n:Nat}{r:pK}{M t it a:Addr}{f:Value}{i:Nat}
def nt.type(m:nt σ s.heap M t it a f i):s.TypeIs (.ref M) "map":=⟨_,m.mo,rfl⟩
def nt.ext(m:nt σ s.heap M t it a f i)(X:iO g_ σ s σ' s'):nt σ' s'.heap M t it a f i:=by
 obtain⟨oi,hi,hc,hd⟩:=m.io;exact⟨fun h=>(by have:=X.fresh _ h m.m1;rw[m.mo]at this;cases this),fun h=>(by have:=X.fresh _ h m.t1;rw[m.to]at this;cases this),fun h=>(by have:=X.fresh _ h m.i1;rw[hi]at this;cases this),
  X.keep _ _ m.mo m.m1 id,X.keep _ _ m.to m.t1 id,⟨oi,X.keep _ _ hi m.i1 id,hc,hd⟩⟩
def nt.iters(m:nt σ s.heap M t it a f i):qH (· =it) s:=fun b hb=>by
 obtain⟨o,ho,hc,hd⟩:=m.io;exact⟨o,(dm s.heap.get? (show b=it from hb)).trans ho,j5.of hc hd (by decide)⟩
def nt.ne(m:nt σ s.heap M t it a f i):M≠it/\t≠it:=by
 obtain⟨o,ho,hc,hd⟩:=m.io;refine⟨fun e=> ?_,fun e=> ?_⟩
 ·have:=m.mo;rw[e,ho]at this;cases this;simp[pC]at hc
 ·have:=m.to;rw[e,ho]at this;cases this;simp[mC]at hc
def Lo{nm:Str}{q v:PV}{x:Value}{items:Array Value}{Q:Option Value->Shared->Prop}(hr:i9 A.in1 n)(S:nU C n r)(wG:C.mg nm=some f)(K:Ok C σ s st)(m:nt σ s.heap M t it a f i)
  (hl:s.heap.IsList a items) (hx:items[i]? =some x) (V:VR C σ s.heap q x) (hC:r.C nm [q] [] st=some (v,gV)) (h0:C.h₀.get? it=none)
  (hQ:∀val σ' s1 s',tH (· =it) s s1->iO g_ σ s1 σ' s'->Ok C σ' s' gV->VR C σ' s'.heap v val->nt σ' s'.heap M t it a f (i+1)->Q (some val) s'):wpAny C.M A (pyNext (.ref M)) Q E s:=by
 unfold pyNext;refine ai (fY (cT (name:=Str.ofString "__next__") m.type lR
  (bW lR m.type rH ?_ (qJ _))))
 show wpAny _ _ (field (.ref M) 0 >>= _) _ _ s;refine ai (eO m.mo rfl (x:=.ref t) rfl ?_);show wpAny _ _ (seqItems? (.ref t) >>= _) _ _ s;refine ai (ee m.to rfl ?_);dsimp only;refine ai (m:=forIn _ _ _) ?_;rw[<-ff];simp only[b8,dJ,bind_assoc,pure_bind];refine ai (aX (wpAny_nextOf_list_item m.io hl hx fun jC wZ om=> ?_));refine aj ?_;have R:tH (· =it) s {s with heap:=jC}:=⟨fun b o hb e=>(om.2 b hb).trans e,rfl,rfl⟩;have m1:nt σ jC M t it a f (i+1):=⟨m.m1,m.t1,m.i1,(om.2 _ m.ne.1).trans m.mo,(om.2 _ m.ne.2).trans m.to,wZ⟩;have K1:Ok C σ {s with heap:=jC} st:=K.raw R m.iters (fun b hb=>by rw[show b=it from hb];exact h0) (fun b hb=>by rw[show b=it from hb];exact m.i1);refine ai (eO (o:=pC t f) m1.mo rfl (x:=f) rfl ?_);refine ai (aX ?_);show wpAny C.M A.in1 (call f [x] ((List.map (fun x=>x.fst) ([]:List (Str×PV))).zip [])) _ _ _;refine S.C' nm [q] [] st v gV hC A.in1 σ _ [x] [] f _ _ hr K1 (iL.cons (V.mono (R.mono m.iters)) iL.nil) iL.nil wG fun val pg s2 X2 K2 V2=> ?_;refine ai (ek ?_);exact aj ⟨val,rfl,aj (hQ val pg _ s2 R X2 K2 V2 (m1.ext (s:={s with heap:=jC}) X2))⟩
def Bh{items:Array Value}{Q:Option Value->Shared->Prop}(hh:A.handled=none)(m:nt σ s.heap M t it a f i)
  (hl:s.heap.IsList a items) (hx:items[i]? =none) (hQ:∀s1,tH (· =it) s s1->Q none s1):wpAny C.M A (pyNext (.ref M)) Q E s:=by
 unfold pyNext;refine ai (fY (cT (name:=Str.ofString "__next__") m.type lR
  (bW lR m.type rH ?_ (qJ _))))
 show wpAny _ _ (field (.ref M) 0 >>= _) _ _ s;refine ai (eO m.mo rfl (x:=.ref t) rfl ?_);show wpAny _ _ (seqItems? (.ref t) >>= _) _ _ s;refine ai (ee m.to rfl ?_);dsimp only;refine ai (m:=forIn _ _ _) ?_;rw[<-ff];simp only[b8,dJ,bind_assoc,pure_bind];refine ai (aX (wpAny_nextOf_list_end hh m.io hl hx fun h' x DG I4=> ?_));obtain⟨o,ho,hc⟩:=I4;refine ai (cA (T:="StopIteration") (b:=true) ⟨o,ho,hc⟩ isSubtype_stop ?_);exact aj (hQ _ ⟨fun b o hb e=>DG b o hb e,rfl,rfl⟩)
def yf{nm:Str}{k N:Nat}{D:Addr}{l:List PV}{p_:St}{fit:St->Bool}{R:Result->Shared->Prop}(hr:i9 A.in1.in1 n)(S:nU C n r)(wG:C.mg nm=some f)(h0:C.h₀.get? it=none)(Mz:jo.heap.get? it=none)
  (jW:∀jk,fit jk=true->gM jk (.lst k)=some l)
  (hR:∀σ' s',iO g_ jU jo σ' s'->Ok C σ' s' p_->σ'[N]? =some D->R (.ok (.ret (.ref D))) s'):∀(rest:List PV)(i:Nat)(σ:List Addr)(s:Shared)(st:St),l.drop i=rest->i<=l.length->
  pM (fun a st=>r.C nm a [] st) (putL N) fit rest st=some p_->gM st (.lst k)=some l->Ok C σ s st->σ[N]? =some D->nt σ s.heap M t it a f i->VR C σ s.heap (.lst k) (.ref a)->iO g_ jU jo σ s->
  codeAny C.M A (.builtin "list.extend.loop" ⟨[.ref D,.ref M,.ref D],[]⟩) R s
 |[],i,σ,s,st,hd,hi,hx,hc,K,hD,m,V,X=>by
  unfold pM at hx;cases hx;obtain⟨a',o,vs,e,ho,so,rr⟩:=i7 K hc V (.inl ⟨k,rfl⟩);cases e;have VN:l.length<=i:=by
   have:=dm List.length hd;rw[bH]at this;simp at this;omega
  refine bx F.entry_extend_loop ?_;rw[aZ gD _];show wpAny _ A.in1 (pyNext (.ref M) >>= _) _ _ s;refine ai (Bh hr.hh m (so.isList ho) (by simp[rr.length];omega) fun s1 R1=> ?_);refine aj (hR σ s1 ?_ ?_ hD)
  ·exact X.raw R1 fun b hb=>by rw[show b=it from hb];exact Mz
  ·exact K.raw R1 m.iters (fun b hb=>by rw[show b=it from hb];exact h0) (fun b hb=>by rw[show b=it from hb];exact m.i1)
 |q::rest,i,σ,s,st,hd,hi,hx,hc,K,hD,m,V,X=>by
  unfold pM at hx;obtain⟨⟨v,jk⟩,h1,hx⟩:=ak.mp hx;obtain⟨j6,h2,hx⟩:=ak.mp hx;split at hx
  ·rename_i hf;obtain⟨a',o,vs,e,ho,so,rr⟩:=i7 K hc V (.inl ⟨k,rfl⟩);cases e;have jQ:i<l.length:=by
    have:=dm List.length hd;rw[bH,aE]at this;omega
   have hq:l[i]? =some q:=by
    rw[bq jQ]at hd;cases hd;exact aP jQ
   have OL:l.drop (i+1)=rest:=by
    rw[bq jQ]at hd;cases hd;rfl
   obtain⟨x,Zd,Vx⟩:=rr.get hq;refine bx F.entry_extend_loop ?_;rw[aZ gD _];show wpAny _ A.in1 (pyNext (.ref M) >>= _) _ _ s;refine ai (Lo hr S wG K m (so.isList ho) (x:=x) (by simpa using Zd) Vx h1 h0 fun val pg s1 s2 R1 X2 K2 V2 m2=> ?_);have X':iO g_ jU jo pg s2:=(X.raw R1 fun b hb=>by rw[show b=it from hb];exact Mz).trans X2;have Vk:VR C pg s2.heap (.lst k) (.ref a):=(V.mono (R1.mono m.iters)).mono X2.mono;unfold putL at h2;split at h2
   ·rename_i acc G2;split at h2
    ·rename_i My;cases h2;obtain⟨oD,ws,XO,XG,rD⟩:=K2.cells N D _ (X2.idx hD) G2;have iK:ws.length<=1000000:=by rw[rD.length];exact jZ My
     obtain⟨K3,X3⟩:=K2.setList (X2.idx hD) G2 XO XG (fun y=>y.push val) (vs':=ws++[val]) (by simp) (iL.append (iL.cons V2 iL.nil) rD) (by rw[aB];exact Ly iK);obtain⟨nn,rfl,_⟩:=XG;show wpAny _ A.in1 (updateSeq D (·.push val) >>= _) _ _ _;refine ai ?_;refine d7 XO rfl (aj ⟨bD gD _,yf hr S wG h0 Mz jW hR rest (i+1) pg _ _ OL jQ hx (jW _ hf) K3 (X2.idx hD) (m2.ext X3) (Vk.mono X3.mono) (X'.trans X3)⟩) (by simp;exact lU iK) (by simp;exact lU iK)
    ·cases h2
   ·cases h2
  ·cases hx
def Pk{st1 gV:St}{vs:List PV}{N:Nat}(h:finish N st1 (.lst N)=some (.list vs,gV)):N<=st1.length:=by
 unfold finish at h;split at h
 ·rename_i q;rw[aA,aJ]at q;exact q.1
 ·cases h
def Du{nm:Str}{k:Nat}{l vs:List PV}{jH p_ gV:St}{fit:St->Bool}{Q:List Value->Shared->Prop}(hr:i9 A.in1.in1 n)(S:nU C n r)(wG:C.mg nm=some f)(h0:C.h₀.get? it=none)(Mz:jo.heap.get? it=none)
  (jW:∀jk,fit jk=true->gM jk (.lst k)=some l) (wL:Ok C jU jo jH) (hx:pM (fun a st=>r.C nm a [] st) (putL jH.length) fit l (jH++[.lst []])=some p_) (jD:finish jH.length p_ (.lst jH.length)=some (.list vs,gV))
  (hc:gM jH (.lst k)=some l) (K:Ok C jU s jH) (m:nt jU s.heap M t it a f 0) (V:VR C jU s.heap (.lst k) (.ref a)) (X:iO g_ jU jo jU s)
  (h:∀ws s',iO g_ jU jo jU s'->Ok C jU s' gV->iL C jU s'.heap vs ws->ws.length<=sizeLine->Q ws s'):wpAny C.M A (collect (.ref M)) Q E s:=by
 unfold collect;refine ai (wpAny_runValue (bx F.entry_proto_collect ?_));rw[aZ F.plain_proto_collect _];show wpAny _ A.in1 (newList [] >>= fun l=>again (.builtin "list.__iadd__" ⟨[l,.ref M],[]⟩)) _ _ s;refine ai (bS ?_);refine aj ⟨bD F.plain_list_iadd _,bx F.entry_list_iadd ?_⟩;rw[aZ F.plain_list_iadd _];obtain⟨K1,X1⟩:=K.new (c:=.lst []) (o:={cls:=.type "list",data:=.seq ([]:List Value).toArray}) rfl ⟨_,[],aM _ rfl,⟨0,rfl,by rw[dY];simp⟩,iL.nil⟩;have m1:=m.ext X1;have U9:=m1.type (s:={s with heap:=s.heap.push {cls:=.type "list",data:=.seq ([]:List Value).toArray}});have Z6:s.heap.objs.size≠M:=fun e=>by have:=m.mo;rw[<-e,fresh_size s]at this;cases this
 show wpAny _ A.in1 (Builtin.List.listExtendWith (.ref s.heap.objs.size) (.ref M) (.ref s.heap.objs.size)) _ _ _;unfold Builtin.List.listExtendWith;refine ai (fS U9 ?_);have h1:Builtin.List.listSameRef (.ref s.heap.objs.size) (.ref M)=false:=by simp[Builtin.List.listSameRef,Z6]
 have h2:(Value.type "map"==Value.type "list")=false:=by decide
 have h3:(Value.type "map"==Value.type "tuple")=false:=by decide
 simp only[h1,h2,h3,Bool.or_false,az,a_];refine ai (Ew U9 ?_);refine ai (aX ?_);unfold Builtin.List.listLengthHint;refine ai (fm U9 EH ?_);show wpAny _ A.in1 (specialOf (Value.ref M) (Str.ofString "__length_hint__") >>= _) _ _ _;refine ai (fm U9 C7 ?_);refine aj ?_;show wpAny _ A.in1 (rule "list.extend.makes-room" >>= fun _=>Builtin.List.listTouch (.ref s.heap.objs.size) >>= fun _=>
  again (.builtin "list.extend.loop" ⟨[.ref s.heap.objs.size,.ref M,.ref s.heap.objs.size],[]⟩)) _ _ _
 refine ai (dD ?_);have O9:(s.heap.push {cls:=.type "list",data:=.seq ([]:List Value).toArray}).get? s.heap.objs.size=some {cls:=.type "list",data:=.seq ([]:List Value).toArray}:=aM _ rfl;refine ai ?_;show wpAny _ A.in1 (updateSeq s.heap.objs.size (·.push .none) >>= fun _=>updateSeq s.heap.objs.size (·.pop)) _ _ _;refine ai (d7 O9 rfl ?_);have JH:=cG (Obj.mapSeq (·.push Value.none)) O9 rfl;refine d7 JH rfl ?_;have hD:(jU++[s.heap.objs.size])[jH.length]? =some s.heap.objs.size:=by rw[<-K.len,bO (aV _)];simp
 have kD:(jH++[jv.lst []])[jH.length]? =some (.lst []):=by rw[bO (aV _)];simp
 have nO:∀c,(jH++[c]).set jH.length (jv.lst [])=jH++[jv.lst []]:=fun c=>by rw[List.set_append_right _ _ (aV _)];simp
 obtain⟨K2,X2⟩:=K1.set (c':=.lst [.none]) hD kD (dF _ s.heap.objs.size (Obj.mapSeq (·.push Value.none))) ⟨_,[Value.none],JH,⟨_,rfl,by rw[dY];simp⟩,iL.cons (by rw[VR]) iL.nil⟩;have Uo:=cG (Obj.mapSeq (·.pop)) JH rfl;have W5:((jH++[jv.lst []]).set jH.length (jv.lst [.none]))[jH.length]? =some (.lst [.none]):=by rw[List.getElem?_set_self (by simp)]
 obtain⟨K3,X3⟩:=K2.set (c':=.lst []) hD W5 (dF _ s.heap.objs.size (Obj.mapSeq (·.pop))) ⟨_,[],Uo,⟨_,rfl,by rw[dY];simp⟩,iL.nil⟩;rw[List.set_set,nO]at K3;have X03:=((X.trans X1).trans X2).trans X3;have OM:gM (jH++[jv.lst []]) (.lst k)=some l:=by
  unfold gM at hc|-;dsimp only at hc|-;have hk:k<jH.length:=by
   cases e:jH[k]? with
   |none=>rw[e]at hc;cases hc
   |some _=>exact(aF.mp e).1
  rw[bk hk];exact hc
 refine aj ⟨bD gD _,yf hr S wG h0 Mz jW (fun σ' s' X' K' hD'=> ?_) l 0 _ _ _ (by rfl) (dH _) hx OM K3 hD ((m1.ext X2).ext X3) (((V.mono X1.mono).mono X2.mono).mono X3.mono) X03⟩;obtain⟨Y,KY,VY⟩:=tB wL K' X' jD (v:=.lst jH.length) (val:=.ref s.heap.objs.size) (by rw[VR];exact⟨_,rfl,hD'⟩);rw[VR]at VY;obtain⟨b,o,ws,e,hb,ho,⟨nn,rfl,iK⟩,rr⟩:=VY;cases e;show wpAny _ A (load s.heap.objs.size >>= _) _ _ s';refine ai (wpAny_load ho ?_);refine aj ?_;have:=h ws s' Y KY rr iK;simpa using this
def yw{nm:Str}{k:Nat}{l vs:List PV}{jH p_ gV:St}{fit:St->Bool}{Q₁:aa}(hr:i9 A.in1.in1.in1 n)(S:nU C n r)(wG:C.mg nm=some f)(h0:C.h₀.get? it=none)(Mz:jo.heap.get? it=none)
  (jW:∀jk,fit jk=true->gM jk (.lst k)=some l) (wL:Ok C jU jo jH) (hx:pM (fun a st=>r.C nm a [] st) (putL jH.length) fit l (jH++[.lst []])=some p_) (jD:finish jH.length p_ (.lst jH.length)=some (.list vs,gV))
  (hc:gM jH (.lst k)=some l) (K:Ok C jU s jH) (m:nt jU s.heap M t it a f 0) (V:VR C jU s.heap (.lst k) (.ref a)) (X:iO g_ jU jo jU s)
  (h:∀val s',iO g_ jU jo jU s'->Ok C jU s' gV->VR C jU s'.heap (.tup vs) val->s'.TypeIs val "tuple"->Q₁ val s'):
  codeAny C.M A (.call (.builtin "tuple.__new__") ⟨[.type "tuple",.ref M],[]⟩) (wants Q₁ E) s:=by
 refine fX ?_;show wpAny _ A.in1 (do checkBuiltinCall "tuple.__new__" ⟨[.type "tuple",.ref M],[]⟩;again (.builtin "tuple.__new__" ⟨[.type "tuple",.ref M],[]⟩)) _ _ s;refine ai (bC (F.newCall_tuple_1 _) (aj ⟨bD F.plain_tuple_new _,bx F.entry_tuple_new ?_⟩));rw[aZ F.plain_tuple_new _];have W4:=sub_tuple_self;have YL:=init_tuple_lookup;have hmh:=madeHere_tuple;have hTI:=m.type
 wp_walk using fS hTI,Du hr S wG h0 Mz jW wL hx jD hc K m V X
 intro ws s' Y KY rr iK;show wpAny _ _ (Builtin.Tuple.tupleExact ws.toArray >>= fun v=>ret v) _ _ _;unfold Builtin.Tuple.tupleExact;refine ai (bS ?_ (by show ws.toArray.size<=sizeLine;simpa using iK));refine aj ?_;exact h _ _ (Y.trans (iG.push s' _).ext) (KY.grow (iG.push s' _)) (uM KY rr iK) ⟨_,aM _ rfl,rfl⟩
def M_{nm:Str}{k:Nat}{l vs:List PV}{jH p_ gV:St}{fv xv:Value}{fit:St->Bool}{Q:aa}(hr:i9 A (n+1))(S:nU C n r)(wG:C.mg nm=some fv)
  (jW:∀jk,fit jk=true->gM jk (.lst k)=some l) (wL:Ok C jU jo jH) (hx:pM (fun a st=>r.C nm a [] st) (putL jH.length) fit l (jH++[.lst []])=some p_) (jD:finish jH.length p_ (.lst jH.length)=some (.list vs,gV))
  (hc:gM jH (.lst k)=some l) (V:VR C jU jo.heap (.lst k) xv)
  (h:∀val σ' s',iO g_ jU jo σ' s'->Ok C σ' s' gV->VR C σ' s'.heap (.tup vs) val->Q val s'):
  wpAny C.M A (call (.type "map") [fv,xv]) (fun mv s₁=>wpAny C.M A (call (.type "tuple") [mv]) Q E s₁) E jo:=by
 obtain⟨a,o,vs',rfl,ho,so,rr⟩:=i7 wL hc V (.inl ⟨k,rfl⟩);refine L6 (so.isList ho) ?_;have z1:(jo.heap.push (nL a)).objs.size=jo.heap.objs.size+1:=bM ..;have z2:((jo.heap.push (nL a)).push (mC jo.heap.objs.size)).objs.size=jo.heap.objs.size+1+1:=by rw[bM,z1]
 have g:iG jo {jo with heap:=((jo.heap.push (nL a)).push (mC jo.heap.objs.size)).push (pC (jo.heap.objs.size+1) fv)}:=⟨fun b o e=>aG _ (aG _ (aG _ e)),rfl,rfl⟩;have n0:jo.heap.get? jo.heap.objs.size=none:=fresh_size jo;have n1:jo.heap.get? (jo.heap.objs.size+1)=none:=kI (fD _);have n2:jo.heap.get? (jo.heap.objs.size+1+1)=none:=kI (dB (fD _) (fD _));have m:nt jU (((jo.heap.push (nL a)).push (mC jo.heap.objs.size)).push (pC (jo.heap.objs.size+1) fv)) (jo.heap.objs.size+1+1) (jo.heap.objs.size+1) jo.heap.objs.size a fv 0:=
  ⟨(wL.newAddr n2).1,(wL.newAddr n1).1,(wL.newAddr n0).1,by have:=aM ((jo.heap.push (nL a)).push (mC jo.heap.objs.size)) (o:=pC (jo.heap.objs.size+1) fv) rfl;rw[z2]at this;exact this,
   aG _ (by have:=aM (jo.heap.push (nL a)) (o:=mC jo.heap.objs.size) rfl;rw[z1]at this;exact this),
   ⟨_,aG _ (aG _ (aM _ rfl)),rfl,rfl⟩⟩
 have Zv:i9 A.in1.in1.in1.in1 n:=⟨hr.hh,by have:=hr.depth;show A.depth+n+60<_;omega,by have:=hr.units;show A.units+1+1+1+1+10*n+900<_;omega⟩;refine callType_codes (Q₁:=fun obj s₁=>s₁.TypeIs obj "tuple"/\Q obj s₁) F.called_tuple (F.typeCall_tuple_1 _) F.entry_object_init
  (yw Zv S wG (wL.newAddr n0).2 n0 jW wL hx jD hc (wL.grow g) m (V.grow g) g.ext fun val s' Y KY VY hT=>⟨hT,h val jU s' Y KY VY⟩) fun obj s₁ jC=> ?_
 exact⟨jC.1,F.args_object_init_2 obj _,object_init_meets F.called_tuple.init.lookup F.called_tuple.made (by decide) _ _ A.in1 _ s₁ ⟨jC.1,rfl,jC.2⟩⟩
def Qw:Ke C:=fun _ _ S _ _ _ _ _ _ _ _ _ _ _ _ _ _ hr K wG V hc hx jD h=>
 M_ hr S wG (fun jk hf=>(lV hf).trans hc) K hx jD hc V h
end
def uh{α:Type}[DecidableEq α]:∀{ks l:List α},ks.length=l.length->l.Nodup->(∀x,x∈ks↔x∈l)->ks.Nodup
 |[],_,_,_,_=>fc
 |a::ks,l,hl,hn,h=>by
  have ha:a∉ks:=fun hm=>by
   have:=nX (m:=ks) hn fun x hx=>by
    rcases aY.mp ((h x).mpr hx)with rfl|q
    ·exact hm
    ·exact q
   rw[<-hl,aE]at this;exact absurd this (Nat.not_succ_le_self _)
  have R2:a∈l:=(h a).mp (aU ..);refine eG.mpr ⟨ha,uh (l:=l.erase a) ?_ (hn.erase a) fun x=> ?_⟩
  ·rw[List.length_erase_of_mem R2,<-hl];rfl
  ·rw[hn.mem_erase_iff];constructor
   ·intro hx;exact⟨fun e=>ha (e▸hx),(h x).mp (ay _ hx)⟩
   ·rintro⟨h1,h2⟩;rcases aY.mp ((h x).mpr h2)with q|q
    ·exact absurd q h1
    ·exact q
section
variable{C:Cx}{σ σ':List Addr}{s s':Shared}{st gV:St}{A:Around}{E:aa}{n:Nat}{a:Addr}
def ua{o:Obj}{h:Heap}{l:List Int}(V:Ba C.prog C.w o l)(ho:h.get? a=some o):∃ks,gQ (intKind C.prog C.w) "set" h a ks/\∀j,j∈ks↔j∈l:=by
 obtain⟨⟨es,ep,t,rfl,DF,ni,qM,hf⟩,hl,hn⟩:=V;obtain⟨ks,hk⟩:=je.of DF;have hm:∀j,j∈ks↔j∈l:=fun j=>by
  rw[hk.mem j,<-ni j,f_]
 have iK:ks.length=l.length:=by rw[hk.length,bf,qM]
 exact⟨ks,⟨es,ep,t,ho,hk,uh iK hn hm,by rw[qM];show _<4096;omega,hf⟩,hm⟩
def Gn{h:Heap}{ks l:List Int}(H:gQ (intKind C.prog C.w) "set" h a ks)(hm:∀j,j∈ks↔j∈l)(hn:l.Nodup)(hl:l.length<=100):∃o,h.get? a=some o/\Ba C.prog C.w o l:=by
 have p:=oJ H.nodup hn hm;obtain⟨es,ep,t,ho,he,ZF,hb,hf⟩:=H;refine⟨_,ho,⟨es,ep,t,rfl,he.elems,fun k=> ?_,?_,hf⟩,hl,hn⟩
 ·rw[f_,<-hm k,he.mem k]
 ·rw[<-p.length_eq,he.length,bf]
def vj{h':Heap}{ks l:List Int}(K:Ok C σ s st)(H:gQ (intKind C.prog C.w) "set" h' s.heap.objs.size ks)(hm:∀j,j∈ks↔j∈l)(hn:l.Nodup)(hl:l.length<=100):VR C σ h' (.iset l) (.ref s.heap.objs.size):=by
 obtain⟨o,ho,V⟩:=Gn H hm hn hl;rw[VR];exact⟨_,o,rfl,K.fresh_size,ho,V⟩
def CS{a b:List Int}(ha:a.Nodup)(hb:b.Nodup):(lP a b).Nodup:=by
 unfold lP;rw[cD];refine⟨ha,hb.filter _,fun x hx y hy e=> ?_⟩;subst e;have:=(dz.mp hy).2;simp at this;exact this hx
def Ht{a b:List Int}(ha:a.Nodup)(hb:b.Nodup):(lz a b).Nodup:=by
 unfold lz;rw[cD];refine⟨ha.filter _,hb.filter _,fun x hx y hy e=> ?_⟩;subst e;have h1:=dz.mp hx;have h2:=(dz.mp hy).2;simp at h2;exact h2 h1.1
def Hg(a b:List Int):(lP a b).length<=a.length+b.length:=by
 unfold lP;rw[aB];have:=fZ (fun x=> !a.contains x) b;omega
def Nc(a b:List Int):(lz a b).length<=a.length+b.length:=by
 unfold lz;rw[aB];have:=fZ (fun x=> !b.contains x) a;have:=fZ (fun x=> !a.contains x) b;omega
def LI:Fy C where
 bor:=fun A σ s st a b va vb Q E hh K xa xb lq ha hb h=>by
  rw[VR]at xa xb;obtain⟨la,oa,rfl,XT,RS,Va⟩:=xa;obtain⟨lb,ob,rfl,ZG,VC,Vb⟩:=xb;obtain⟨ka,Ha,PC⟩:=ua Va RS;obtain⟨kb,Hb,DL⟩:=ua Vb VC;have pa:=oJ Ha.nodup Va.2.2 PC;have pb:=oJ Hb.nodup Vb.2.2 DL;refine QM Ha Hb (by rw[pa.length_eq,pb.length_eq];omega) (fun e=>lq (by rw[e]at pa;exact List.Perm.nil_eq pa |>.symm)) fun h' ks hk hm H=> ?_;have g:iG s {s with heap:=h'}:=⟨hk,rfl,rfl⟩;refine ic K g (vj K H (fun j=> ?_) (CS Va.2.2 Vb.2.2) (by have:=Hg a b;omega)) h;rw[hm j,PC j,DL j];unfold lP;rw[bl,dz];constructor
  ·rintro(q|q)
   ·exact .inl q
   ·by_cases q2:j∈a
    ·exact .inl q2
    ·exact .inr ⟨q,by simpa using q2⟩
  ·rintro(q|q)
   ·exact .inl q
   ·exact .inr q.1
 xor:=fun A σ s st a b va vb Q E hh K xa xb ha hb h=>by
  rw[VR]at xa xb;obtain⟨la,oa,rfl,XT,RS,Va⟩:=xa;obtain⟨lb,ob,rfl,ZG,VC,Vb⟩:=xb;obtain⟨ka,Ha,PC⟩:=ua Va RS;obtain⟨kb,Hb,DL⟩:=ua Vb VC;have pa:=oJ Ha.nodup Va.2.2 PC;have pb:=oJ Hb.nodup Vb.2.2 DL;refine Ni Ha Hb (by rw[pa.length_eq,pb.length_eq];omega) fun h' ks hk hm H=> ?_;have g:iG s {s with heap:=h'}:=⟨hk,rfl,rfl⟩;refine ic K g (vj K H (fun j=> ?_) (Ht Va.2.2 Vb.2.2) (by have:=Nc a b;omega)) h;rw[hm j,PC j,DL j];unfold lz;rw[bl,dz,dz];by_cases q1:j∈a<;>by_cases q2:j∈b<;>simp[q1,q2]
def NL{env:Env}{Q:Bool->Shared->Prop}(hc:AH C.h₀ env.code)(K:Ok C σ s st)(h:∀b,Q b s):wpAny C.M A (inMainModule env) Q E s:=by
 obtain⟨c,o,vs,e,ho,hd⟩:=hc;unfold inMainModule;rw[e];split
 ·exact aj (h _)
 ·refine ai (gn (K.base _ _ ho) hd ?_);split
  ·exact ai (cR (aj (h _)))
  ·exact aj (h _)
def Ok.drop{τ:List Addr}{D:Addr}{h':Heap}(K:Ok C (σ++D::τ) s st)(hs:Heap.SameBut D s.heap h')(tk:Nat)(hb:(st.take σ.length).all (iu σ.length)=true):Ok C σ {s with heap:=h',toks:=tk} (st.take σ.length) where
 base:=fun b o e=>(hs.2 b fun q=>by
  have:=K.fresh0 D (cM _ (aU ..));rw[<-q,e]at this;cases this).trans (K.base b o e)
 fresh0:=fun a ha=>K.fresh0 a (bg _ ha)
 len:=by
  have:=K.len;rw[aB,aE]at this;rw[bI];omega
 nodup:=(cD.mp K.nodup).1
 cells:=fun k a c ha hc=>by
  have hk:=(aF.mp ha).1;have PJ:(σ++D::τ)[k]? =some a:=by rw[bk hk];exact ha
  have OM:st[k]? =some c:=by rw[List.getElem?_take_of_lt hk]at hc;exact hc
  have lq:a≠D:=fun e=>(cD.mp K.nodup).2.2 a (bL ha) D (aU ..) e;have m:sL (σ++D::τ) s.heap (σ++D::τ) h':=⟨⟨[],by simp⟩,fun _ p q=>absurd p q,fun b o e hb _=>(hs.2 b fun q=>hb (by rw[q];exact cM _ (aU ..))).trans e⟩;have x:=(K.cells k a c PJ OM).mono m (hs.2 a lq);have b:iu σ.length c=true:=b9.mp hb c (bL hc);cases c with
  |lst l=>
   obtain⟨o,vs,ho,so,r⟩:=x;exact⟨o,vs,ho,so,oN r b⟩
  |dct l=>
   obtain⟨kvs,hd,hp⟩:=x;exact⟨kvs,hd,pJ hp b⟩
  |bs o=>cases o<;>exact x
def FY{Q:aa}(h:∀led:Bool,(C.w.params.followText "set-order"||led)=true->Q (.ref s.heap.objs.size) {s with heap:=s.heap.push (iJ "set" #[] 0 (.fresh 0 0 led))}):wpAny C.M A (newSet (.type "set")) Q E s:=by
 unfold newSet setsByText;refine ai (ai (cR (aj ?_)));dsimp only;simp only[newObj];refine ai (wpAny_alloc (aj (h _ ?_)));show(C.w.params.followText "set-order"|| !C.w.params.followText "set-order")=true;cases C.w.params.followText "set-order"<;>rfl
def Oc(n:Nat)(r:pK)(S:nU C n r)(sc:Scope)(e:Expr)(pos:Pos)(ρ:ie)(st gV:St)(v:PV)(A:Around)(env:Env)(σ:List Addr)(s:Shared)(Q:aa)(E:aa)(hr:i9 A n)(F:gP C sc env σ s.heap ρ)(K:Ok C σ s st)
  (hx:iI r sc (.Set [e] 0 pos) ρ st=some (v,gV))
  (h:∀val σ' s',iO g_ σ s σ' s'->Ok C σ' s' gV->VR C σ' s'.heap v val->Q val s'):wpAny C.M A (eval (.Set [e] 0 pos) env) Q E s:=by
 change (if jx e=true then none else(r.E sc e ρ (st++[.bs none])).bind fun(x,gV)=>match x,gV[st.length]? with
  | .int i,some (.bs none)=>if(decide (st.length<=gV.length)&&(gV.take st.length).all (iu st.length))=true then some (PV.iset [i],gV.take st.length)else none
  |_,_=>none)=some (v,gV)at hx
 split at hx
 ·cases hx
 rename_i kD;obtain⟨⟨x,s1⟩,h1,hx⟩:=ak.mp hx;dsimp only at hx;split at hx
 ·rename_i i V7;split at hx
  ·rename_i q;rw[aA,aJ]at q;cases hx;have he:starEach [e] env=[(false,eval e env)]:=by rw[k_ (by simpa using kD)];rfl
   rw[PySem.arm_eval_Set];refine ai (cg ?_);refine ai (NL F.code K fun b=> ?_);rw[he];unfold setDisplay;have T_:(displayRoad 0 [e]==DisplayRoad.constants)=false:=rfl;rw[T_];simp only[az,a_];refine ai (FY fun led n_=> ?_);dsimp only;refine ai (aX ?_);obtain⟨K1,X1⟩:=K.new (c:=.bs none) (o:=iJ "set" #[] 0 (.fresh 0 0 led)) rfl ⟨led,aM _ rfl,n_⟩;refine ai (m:=evalAll _) ?_;show wpAny _ _ (evalAll [do let v<-eval e env;standAt pos;pure v]) _ _ _;refine PySem.wpAny_evalAll_cons ?_;refine ai (S.E sc e ρ _ _ _ h1 A env _ _ _ E hr (F.ext X1) K1 fun xv pg s2 X2 K2 V2=> ?_);refine ai (cg (aj ?_));refine PySem.wpAny_evalAll_nil ?_;rw[VR]at V2;obtain⟨t,rfl⟩:=V2;have hD:(σ++[s.heap.objs.size])[st.length]? =some s.heap.objs.size:=by rw[<-K.len,bO (aV _)];simp
   have hD2:=X2.idx hD;obtain⟨aaB,v7,_⟩:=K2.cells _ _ _ hD2 V7;refine ai (aX ?_);simp only[b8,dJ,bind_assoc,pure_bind];refine ai (Rf (intKind C.prog C.w) (hp:=s.heap) v7 (intKind_is _ _ _ _) rfl fun h' hs H=> ?_);rw[aD (show ¬ ((displayRoad 0 [e]==DisplayRoad.unsure)=true)from cL)];refine aj ?_;rw[List.drop_eq_nil_of_le (by simp),dJ];refine ai (aj (aj (aj ?_)));obtain⟨τ,UR⟩:=X2.pre;have WZ:pg=σ++s.heap.objs.size::τ:=by rw[UR,cE];rfl
   have Y:=X1.trans X2;subst WZ;have E7:s.heap.get? s.heap.objs.size=none:=kI (aV _);have hn:=K.newAddr E7;have KD:=K2.drop hs (s2.toks+1) (by rw[K.len];exact q.2);rw[K.len]at KD;refine h _ σ {s2 with heap:=h',toks:=s2.toks+1} ⟨⟨[],by simp⟩,fun _ a b=>absurd a b,fun b o e hb _=>(hs.2 b fun q=> ?_).trans (Y.keep b o e hb id),fun _ _ q=>q.elim,Y.gens,Y.os⟩ KD ?_
   ·rw[q,E7]at e;cases e
   ·obtain⟨o,ho,V⟩:=Gn (C:=C) (l:=[i]) H (fun j=>Iff.rfl) (by simp) (by simp);rw[VR];exact⟨_,o,rfl,hn.1,ho,V⟩
  ·cases hx
 ·cases hx
def Ca:nN C:=fun A σ s st env x p pos k b v Q E hh K V h=>by
 rw[VR]at V;obtain⟨a,o,rfl,hn,ho,ep,t,rfl,hf,n_⟩:=V;exact Eh (prog:=C.prog) (w:=C.w) (a:=a) (b:=b) (ep:=ep) (t:=t) hh ho hf n_ fun h' hk=>h _ ⟨hk,rfl,rfl⟩
end
section
variable{C:Cx}{sc:Scope}{env:Env}{σ σ' jF j8:List Addr}{s s' s₁ jy:Shared}{ρ ji:ie}{st gV:St}{A:Around}{n:Nat}{E:aa}{r:pK}{v:PV}{fl:iE}
def xT{a:Addr}{T:String}{x:Value}{Q:aa}(hT:s.TypeIs (.ref a) "set")(h:wpAny C.M A.in1 (setAdd a x) (fun _ s'=>Q .none s') E s):wpAny C.M A (call (.builtin "set.add") [.ref a,x]) Q E s:=by
 refine bW F.slot_set_add hT F.entry_set_add ?_ (F.args_set_add_2 _ _);unfold Builtin.«set.add» Builtin.Frozenset.oneOther;simp only[gy,bind_assoc];unfold Builtin.Frozenset.addrOf;refine ai (aj ?_)
 try dsimp only
 refine ai (aj ?_)
 try dsimp only
 refine ai (bU h (fun _ s' q=> ?_) fun _ _ z=>z);exact aj ⟨_,rfl,q⟩
def HM{N:Nat}{D:Addr}:Puts C A (tO N) N D "set.add":=by
 intro σ s st gV x xv Q E hx K hD V h;unfold tO at hx;split at hx
 ·rename_i b hc;cases hx;rw[VR]at V;subst V;obtain⟨led,ho,n_⟩:=K.cells N D _ hD hc;refine xT (T:="set") ⟨_,ho,rfl⟩ ?_;unfold setAdd;refine aX (ai ((tW C.prog C.w b).pyHash (k:=()) (by show Mine.Value.isBool b (.bool b)=true;simp[Mine.Value.isBool]) ?_));refine A1 (knd:=tW C.prog C.w b) (k:=()) (ks:=[]) (T:="set") (s:={s with toks:=s.toks+1}) (by show Mine.Value.isBool b (.bool b)=true;simp[Mine.Value.isBool]) rfl ⟨#[],0,_,ho,by rw[je],fc,by decide,rfl⟩ (by show 0+1<4096;omega) (fun q=>by cases q) fun h' jt hs hp H _ hL=> ?_;have e:jt=[()]:=gC.mp hp;subst e;obtain⟨ep,t,qF,hf⟩:=N2 H;obtain⟨uz,SN,t1,Sa,Vf,t2,g1,g2,hl⟩:=hL;have e1:=bX (g1.symm.trans ho);have e2:=bX (g2.symm.trans qF);unfold Am iJ at e2;unfold iJ at e1;cases e1;cases e2;obtain⟨K',X'⟩:=K.set (c':=.bs (some b)) hD hc hs ⟨_,qF,_,_,rfl,hf,by rw[hl];exact n_⟩;exact h _ σ {s with heap:=h',toks:=s.toks+1} (X'.toks _) (K'.toks _)
 ·rename_i b c hc;split at hx
  ·rename_i V9;have V9:=aR.mp V9;subst V9;cases hx;rw[VR]at V;subst V;obtain⟨o,ho,ep,t,rfl,hf,n_⟩:=K.cells N D _ hD hc;refine xT (T:="set") ⟨_,ho,rfl⟩ ?_;unfold setAdd;refine aX (ai ((tW C.prog C.w b).pyHash (k:=()) (by show Mine.Value.isBool b (.bool b)=true;simp[Mine.Value.isBool]) ?_));refine A1 (knd:=tW C.prog C.w b) (k:=()) (ks:=[()]) (T:="set") (s:={s with toks:=s.toks+1}) (by show Mine.Value.isBool b (.bool b)=true;simp[Mine.Value.isBool]) rfl ⟨_,ep,t,ho,?_,by simp,?_,hf⟩ (by show 1+1<4096;omega) (fun _=> ?_) fun h' jt hs hp H hn hL=>absurd (aK.mpr rfl) hn
   ·show je _ [((if b then 1 else 0),Value.bool b)] [()];rw[je];exact⟨(),[],rfl,by show Mine.Value.isBool b (.bool b)=true;simp[Mine.Value.isBool],rfl,rfl,by rw[je]⟩
   ·show 1<4096;omega
   ·exact h _ σ {s with toks:=s.toks+1} (iO.rfl'.toks _) (K.toks _)
  ·cases hx
 ·cases hx
def uw(U:nN C)(S:nU C n r)(hr:i9 A n){iS:Scope}{elt target iter:Expr}{pos p:Pos}{b:Bool}{x:PV}{l:List PV}{st1 p_:St}{use:Option (Value->Sem Unit)}{Q:aa}
  (F:gP C sc env σ s.heap ρ) (K:Ok C σ s st) (tL:G4 iS) (nO:jT iter=false) (ou:lK sc iS=true)
  (h1:r.E sc iter ρ st=some (x,st1)) (h2:gM st1 x=some l) (h3:jl r iS (tO st1.length) elt target [] (iM x st1) l (freeOf iS ρ) (st1++[.bs none])=some p_) (h4:p_[st1.length]? =some (.bs (some b))) (h5:(p_.take st1.length).all (iu st1.length)=true)
  (h:∀acc Cl jh s' f,iO g_ σ s jh s'->Ok C jh s' (p_.take st1.length)->VR C jh s'.heap (.bset b) acc->(∃m,s'.heap.Ns Cl m)->s.heap.get? Cl=none->Cl∉jh->C.h₀.get? Cl=none->compPost C.M A E use Q acc Cl (.ok f) s'):
  wpAny C.M A (comprehension (.SetComp elt [⟨target,iter,[],0⟩] iS pos) iS env p (newSet (.type "set")) false (eval iter env) use) Q E s:=by
 have E7:∀y,(y,NameKind.free)∈iS.names->iw sc y=some .cell\/iw sc y=some .free:=by
  intro y hy;unfold lK at ou;have:=b9.mp ou _ hy;simp only[dR,Bool.false_or,cH,aR]at this;exact this
 have BH:closureFor iS env=pure (sJ env iS.names []):=sD fun y hy=>by
  obtain⟨c,vo,hc,_⟩:=F.cells y (E7 y hy);exact⟨c,hc⟩
 refine wpAny_comprehension_free rfl (D4 nO) BH tL.kind (Ce tL) (S.E sc iter ρ _ _ _ h1 A env σ s _ E hr F K fun xv jh t1 X1 K1 V1=> ?_);refine xx hr.hh K1 h2 V1 fun I W kq lM lH t2 M kX o5 hW g P0=> ?_;refine FY fun led n_=> ?_;have K2:=K1.grow g;obtain⟨K3,X3⟩:=K2.new (c:=.bs none) (o:=iJ "set" #[] 0 (.fresh 0 0 led)) rfl ⟨led,aM _ rfl,n_⟩;have F1:=F.ext X1;have F3:=(F1.ext g.ext).ext X3;have hL:∀(y:Str),iY y (freeOf iS ρ)=if iw iS y==some .free then iY y ρ else none:=fun y=>p5;rw[F.globals];refine sX (BK:=freeOf iS ρ) (ρ:=freeOf iS ρ) (xs:=[]) (vs:=[]) (vals:=[]) tL K3 F.builtins F.code (fun y hy=> ?_) (fun y u hu=> ?_) rfl rfl iL.nil fun qb t4 he X4 K4 F4 wJ=> ?_
 ·have hm:=mem_of_lookup hy;obtain⟨c,vo,e1,e2,e3,e4⟩:=F3.cells y (E7 y hm);refine⟨c,vo,vM hm e1,e2,e3,fun u hu=>e4 u ?_⟩;rw[hL,hy]at hu;simpa using hu
 ·rw[hL]at hu;by_cases q:(iw iS y==some .free)=true
  ·exact aR.mp q
  ·rw[aD q]at hu;cases hu
 have v5:qb.scope=iS:=by rw[he];rfl
 have F5:=F4.relabel (outer:=env) v5;have PK:=M.objs _ _ _ P0;have P3:=M.keep g_ _ _ _ _ _ X3 (fun a ha=>⟨id,K2.notW PK a ha⟩) P0;have v8:=M.objs _ _ _ P3;have P4:=M.keep g_ _ _ _ _ _ X4 (fun a ha=>⟨id,K3.notW v8 a ha⟩) P3;have Ql:iO g_ jh t1 (jh++[t2.heap.objs.size]) t4:=(g.ext.trans X3).trans X4;have tT:∀a,own iS {qb with scope:=PySem.relabel iS env} a->t1.heap.get? a=none:=fun a ha=>by
  cases e:t1.heap.get? a with
  |none=>rfl
  |some o=>
   have:=aG (iJ "set" #[] 0 (.fresh 0 0 led)) (g.keep a o e);have h2:=wJ a ha;rw[show({t2 with heap:=t2.heap.push (iJ "set" #[] 0 (.fresh 0 0 led))}:Shared).heap.get? a=_ from this]at h2;cases h2
 have X0:iO (own iS {qb with scope:=PySem.relabel iS env}) jh t1 (jh++[t2.heap.objs.size]) t4:=Ql.weaken (fun a ha=>(K1.newAddr (tT a ha)).1) fun a o ha e=>by rw[tT a ha]at e;cases e
 have hD:(jh++[t2.heap.objs.size])[st1.length]? =some t2.heap.objs.size:=by
  rw[<-K1.len,bO (aV _)];simp
 have kD:gM (st1++[.bs none]) x=some l:=by
  rw[<-h2];cases x<;>first|rfl|skip
  rename_i k;unfold gM at h2|-;dsimp only at h2|-;split at h2
  ·rename_i l' hl;rw[bk (aF.mp hl).1,hl]
  ·cases h2
 have loop:codeAny C.M A (.compLoop (.SetComp elt [⟨target,iter,[],0⟩] iS pos) 0 (.ref I) (.ref t2.heap.objs.size) {qb with scope:=PySem.relabel iS env}) (compPost C.M A E use Q (.ref t2.heap.objs.size) qb.locals) t4:=by
  refine LZ U S hr M kX HM h3 (fun jk hf=>o5 _ ((lV hf).trans h2)) (o5 _ kD) F5 K4 P4 hD X0 (fun b o e=>K1.base b o e) hW fun Vm s5 X5 K5 U' hNs=> ?_;obtain⟨τ,UR⟩:=X5.pre;have YD:=X5;have Wz:=K5;rw[UR]at YD Wz;have X6:=YD.shrink;have K6:Ok C jh s5 (p_.take st1.length):=by
   have:=Wz.shrink (by rw[K1.len];exact h5);rw[K1.len]at this;exact this
  have V6:VR C jh s5.heap (.bset b) (.ref t2.heap.objs.size):=by
   obtain⟨o,ho,Vb⟩:=K5.cells _ _ _ U' h4;rw[VR];refine⟨_,o,rfl,fun hm=> ?_,ho,Vb⟩;obtain⟨k,hk⟩:=fj.mp hm;have I6:=(aF.mp hk).1;have Ys:=U';rw[UR]at Ys;have h6:(jh++τ)[k]? =some t2.heap.objs.size:=by rw[bk I6];exact hk
   have e1:=aF.mp Ys;have e2:=aF.mp h6;have:=uW Wz.nodup e1.1 e2.1 (e1.2.trans e2.2.symm);have:=K1.len;omega
  have X7:iO g_ jh t1 jh s5:=X6.strip (fun a ha _=>tT a ha) fun _ q=>q.elim;have Jb:=tT qb.locals (.inl rfl);refine h _ qb.locals jh s5 _ (X1.trans X7) K6 V6 hNs ?_ (K1.newAddr Jb).1 (K1.newAddr Jb).2;cases e:s.heap.get? qb.locals with
  |none=>rfl
  |some o=>
   exfalso;by_cases hm:qb.locals∈σ
   ·exact(K1.newAddr Jb).1 (X1.mem hm)
   ·rw[X1.keep _ o e hm id]at Jb;cases Jb
 exact yW loop (M.self A 0 _ t4 _ _ P4 loop)
def Eo(U:nN C)(n:Nat)(r:pK)(S:nU C n r)(sc iS:Scope)(elt target iter:Expr)(pos:Pos)(ρ:ie)(st gV:St)(v:PV)(A:Around)(env:Env)(σ:List Addr)(s:Shared)(Q:aa)(E:aa)(hr:i9 A n)(F:gP C sc env σ s.heap ρ)(K:Ok C σ s st)
  (hx:iI r sc (.SetComp elt [⟨target,iter,[],0⟩] iS pos) ρ st=some (v,gV))
  (h:∀val σ' s',iO g_ σ s σ' s'->Ok C σ' s' gV->VR C σ' s'.heap v val->Q val s'):wpAny C.M A (eval (.SetComp elt [⟨target,iter,[],0⟩] iS pos) env) Q E s:=by
 change (if !r7 iS||jT iter|| !lK sc iS then none else(r.E sc iter ρ st).bind fun(x,st)=>(gM st x).bind fun l=>
   (jl r iS (tO st.length) elt target [] (iM x st) l (freeOf iS ρ) (st++[.bs none])).bind fun gV=>match gV[st.length]? with
    |some (.bs (some b))=>if st.length<=gV.length&&(gV.take st.length).all (iu st.length)then some (PV.bset b,gV.take st.length)else none
    |_=>none)=some (v,gV)at hx
 split at hx
 ·cases hx
 rename_i q;simp only[cH,cC,not_or,eB,fO]at q;obtain⟨⟨x,st1⟩,h1,hx⟩:=ak.mp hx;obtain⟨l,h2,hx⟩:=ak.mp hx;obtain⟨p_,h3,hx⟩:=ak.mp hx
 try dsimp only at hx h2
 split at hx
 ·rename_i b hb;split at hx
  ·rename_i q2;rw[aA]at q2;cases hx;show wpAny C.M A (comprehension (.SetComp elt [⟨target,iter,[],0⟩] iS pos) iS env (firstIterPos [⟨target,iter,[],0⟩] pos) (newSet (.type "set")) false (eval iter env)) Q E s;exact uw (use:=none) U S hr F K (xm q.1.1) q.1.2 q.2 h1 h2 h3 hb q2.2 fun acc Cl jh s' f X K' V hn hf yY h0=>zF h X K' V hn hf yY h0
  ·cases hx
 ·cases hx
end
end
section
open PySem PyProof.Rows
def Ny{C:Cx}:Jq C where
 isets:=LI
 unset:=Ca
 fors:=N8
 tup:=Qw
 disp:=Oc
 setcomp:=Eo Ca
def Nh{C:Cx}(T:qe C):∀n,nU C n (ev n):=JQ T Ny (KO T)
end
section
open PySem PySem.W PyProof.Rows
open_shared pre for PySem.Challenge.pw_ik0206_01 leaving 30
def pq:Program:=PySem.Challenge.pw_ik0206_01
def pF(a b:Nat):List Stmt:=(pq.main.body.take b).drop a
def Vs(f:Nat->Obj)(keep:Nat->Bool):(Nat->Nat)->BT->BT
 |_,.nil=>.nil
 |g,.node v l r=>.node (match keep (g 0)with|true=>v|false=>f (g 0)) (Vs f keep (fun j=>g (2*j+1)) l) (Vs f keep (fun j=>g (2*j+2)) r)
def J3(f:Nat->Obj):Nat->Nat->BT->BT
 |0,_,t=>t
 |k+1,n,t=>J3 f k (n+1) (t.ins n (f n))
noncomputable def Xz (f:Nat->Obj) (toks:Nat) (gens:Array GenState) (w:World) (os:OsState):SharedT:=
 {tree:=J3 f 30 170 (Vs f (fun i=>i<170) id (pre.tree_171 w.params)),n:=200,life:={},gens:=gens,drawn:={},toks:=toks,os:=os}
def Rc:Option (Flow×SharedT×Code×Pos)->Nat
 |some (.next,s,_,_)=>s.n
 |_=>0
def t1(w:World)(f:Nat->Obj)(toks:Nat)(gens:Array GenState)(os:OsState)(b:List Stmt):Rc (segRunT treeTable pq w 11 (some (.ref 6)) 1 3000 (Xz f toks gens w os) (piecesOf (pF 32 55) pre.env_1 (Code.body b pre.env_1) {line:=200,col:=0,endLine:=200,endCol:=8} [topFrame {line:=0,col:=0,endLine:=0,endCol:=0}]))=346:=by kernel_rfl
end
section
open PySem
open Builtin
def Bu:entryFor table "frozenset.__new__"=some Builtin.«frozenset.__new__»:=dc (by kernel_rfl)
def ur:plainId "frozenset.__new__"=true:=by decide+kernel
def Dh(a:Value):checkTypeCall "frozenset" ⟨[a],[]⟩=pure ():=by kernel_rfl
def ER(a:Value):checkBuiltinCall "frozenset.__new__" ⟨[.type "frozenset",a],[]⟩=pure ():=by kernel_rfl
def J8:mroOf (.type "frozenset")=pure [.type "frozenset",.type "object"]:=by rw[mroOf_type];kernel_rfl
def yS:typeLookup (.type "frozenset") "__new__"=pure (some (.builtin "frozenset.__new__")):=by rw[bQ,bh];kernel_rfl
def uq:Slot "frozenset" "__init__" "object.__init__":=
 .of (owner:="object") (n:="__init__") (by rw[bQ,bh];kernel_rfl) (by decide+kernel) (by decide+kernel) (by decide+kernel)
  (by first|exact .inl (by decide+kernel)|exact .inr (by decide+kernel)) (by rw[bE];kernel_rfl)
def uZ:TypeCalled "frozenset" "frozenset.__new__" "object.__init__":=
 ⟨by decide+kernel,by decide+kernel,⟨_,_,J8⟩,madeBy_type J8 yS (by decide+kernel),by decide+kernel,by rw[bE];kernel_rfl,uq⟩
def Br(o a:Value):argsOk "object.__init__" ⟨[o,a],[]⟩:=F.args_object_init_2 o _
def Di(a:Value):Frozenset.newClass "frozenset" ⟨[.type "frozenset",a],[]⟩=pure (.type "frozenset",[a]):=by
 unfold Frozenset.newClass;simp only[isType,zu,pure_bind,dw,az,a_]
def k8:plainId "set.update.loop"=true:=by decide+kernel
def qx:entryFor table "set.update.loop"=some Builtin.«set.update.loop»:=entryFor_of_fast (by kernel_rfl)
section
variable{prog:Program}{w:World}{A:Around}{E:aa}{s:Shared}{a:Addr}
def MI(h h':Heap):Prop:=h'.objs.size=h.objs.size+2/\Kept h h'
def MI.of(h:Heap)(x y:Obj):MI h ((h.push x).push y):=⟨by rw[bM,bM],fun _ _ e=>aG _ (aG _ e)⟩
def IM{it:Addr}{x:Str}{t:Tok}{i:Nat}{Q:Option Value->Shared->Prop}(hh:A.handled=none)
  (oS:s.heap.IsStrIter it "str_ascii_iterator" x t i) (hx:x.cps[i]? =none)
  (hQ:∀h' E9,Heap.SameBut it s.heap h'->MI h' E9->Q none {s with heap:=E9}):wpAny (model prog w) A (pyNext (.ref it)) Q E s:=by
 obtain⟨o,ho,hc,hd⟩:=id oS;unfold pyNext;refine ai (fY (cT (name:=Str.ofString "__next__") oS.typeIs F.slot_str_ascii_iterator_next
  (bW F.slot_str_ascii_iterator_next oS.typeIs F.entry_str_ascii_iterator_next ?_ (F.args_str_ascii_iterator_next_1 _))))
 show wpAny _ _ (field (.ref it) 0 >>= _) _ _ s;refine ai (eO ho hd (x:=.str x t) rfl ?_);show wpAny _ _ (field (.ref it) 1 >>= _) _ _ s;refine ai (eO ho hd (x:=.int i 0) rfl ?_);simp only[bu,hx];refine ai (dD (ai (wpAny_setField ho hd (by simp) (ai (ek ?_)))));show wpAny _ _ (newExc (.type "StopIteration") [] >>= _) _ _ _;refine ai ?_;simp only[newExc,newTuple];refine ai (bS ?_ (by size_fits));refine ai (m:=firstArgMember _ _) (bC (a:=Value.none) (by first|rfl|(simp only[firstArgMember];rfl)) ?_);refine bS ?_ (by size_fits);simp only[raiseNew];refine ai (wpAny_handled ?_);rw[show A.in1.handled=none from hh];refine ai (aj (wpAny_throw ?_));refine ai (cA (T:="StopIteration") (b:=true) ⟨_,aM _ rfl,rfl⟩ isSubtype_stop ?_);exact aj (hQ _ _ (dF ..) (MI.of _ _ _))
def HJ{it:Addr}{x left step:Int}{Q:Option Value->Shared->Prop}(hh:A.handled=none)(oS:IsRangeIter s.heap it x left step)(Ue:left<=0)
  (hQ:∀h',MI s.heap h'->Q none {s with heap:=h'}):wpAny (model prog w) A (pyNext (.ref it)) Q E s:=by
 have hT:s.TypeIs (.ref it) "range_iterator":=⟨_,oS,rfl⟩;unfold pyNext;refine ai (fY (cT (name:=Str.ofString "__next__") hT F.slot_range_iterator_next
  (bW F.slot_range_iterator_next hT F.entry_range_iterator_next ?_ (F.args_range_iterator_next_1 _))))
 show wpAny _ _ (field (.ref it) 0 >>= _) _ _ s;refine ai (eO oS rfl (x:=rawInt x) rfl ?_);show wpAny _ _ (field (.ref it) 1 >>= _) _ _ s;refine ai (eO oS rfl (x:=rawInt left) rfl ?_);show wpAny _ _ (field (.ref it) 2 >>= _) _ _ s;refine ai (eO oS rfl (x:=rawInt step) rfl ?_);show wpAny _ _ (if left<=0 then _ else _) _ _ s;rw[aQ Ue];refine ai (dD ?_);refine ai ?_;show wpAny _ _ (newExc (.type "StopIteration") [] >>= _) _ _ _;refine ai ?_;simp only[newExc,newTuple];refine ai (bS ?_ (by size_fits));refine ai (m:=firstArgMember _ _) (bC (a:=Value.none) (by first|rfl|(simp only[firstArgMember];rfl)) ?_);refine bS ?_ (by size_fits);simp only[raiseNew];refine ai (wpAny_handled ?_);rw[show A.in1.handled=none from hh];refine ai (aj (wpAny_throw ?_));refine ai (cA (T:="StopIteration") (b:=true) ⟨_,aM _ rfl,rfl⟩ isSubtype_stop ?_);exact aj (hQ _ (MI.of _ _ _))
def LV{it:Addr}{x:Str}{t:Tok}{R:Result->Shared->Prop}{T:String}(hh:A.handled=none)(lq:it≠a)(iK:x.cps.size<=100):
  ∀(k i:Nat)(s:Shared)(ks:List Str),x.cps.size-i=k->i<=x.cps.size->s.heap.IsStrIter it "str_ascii_iterator" x t i->gQ (PySem.strKind prog w) T s.heap a ks->ks.length<=i->(∀j,j∈ks↔ ∃c∈x.cps.toList.take i,j=⟨#[c]⟩)->
   (∀h' jt tk,h'.objs.size=s.heap.objs.size+2->(∀b o,b≠a->b≠it->s.heap.get? b=some o->h'.get? b=some o)->gQ (PySem.strKind prog w) T h' a jt->(∀j,j∈jt↔ ∃c∈x.cps.toList,j=⟨#[c]⟩)->jt.length<=x.cps.size->R (.ok (.ret .none)) {s with heap:=h',toks:=tk})->
   codeAny (model prog w) A (.builtin "set.update.loop" ⟨[.ref a,.ref it],[]⟩) R s:=by
 intro k
 induction k with
 |zero=>
  intro i s ks hk hi oS H hl hm h;have qR:i=x.cps.size:=by omega
  refine bx qx ?_;rw[aZ k8 _];show wpAny _ A.in1 (pyNext (.ref it) >>= _) _ _ s;refine ai (IM hh oS (by rw[qR];simp) fun h' E9 hs h2=> ?_);refine aj (h E9 ks s.toks (by rw[h2.1,hs.1]) (fun b o _ hb e=>h2.2 b o ((hs.2 b hb).trans e)) ((H.at (hs.2 a lq.symm)).keep fun o e=>h2.2 a o e) (fun j=> ?_) (by omega));rw[hm j,qR,bT (by simp)]
 |succ k ih=>
  intro i s ks hk hi oS H hl hm h;have jQ:i<x.cps.size:=by omega
  refine bx qx ?_;rw[aZ k8 _];show wpAny _ A.in1 (pyNext (.ref it) >>= _) _ _ s;refine ai (wpAny_pyNext_ascii_item oS (c:=x.cps[i]) (cV jQ) fun jC wZ om=> ?_);show wpAny _ A.in1 (holding [Value.str ⟨#[x.cps[i]]⟩ s.toks] (setAdd a (.str ⟨#[x.cps[i]]⟩ s.toks)) >>= _) _ _ _;refine ai (aX ?_);unfold setAdd;refine aX ?_;refine ai ((PySem.strKind prog w).pyHash (k:=⟨#[x.cps[i]]⟩) (eY _ _ _ _) ?_);have H1:gQ (PySem.strKind prog w) T jC a ks:=H.at (om.2 a lq.symm);have zc:∀j:Str,(∃c∈x.cps.toList.take (i+1),j=⟨#[c]⟩)↔((∃c∈x.cps.toList.take i,j=⟨#[c]⟩)\/j=⟨#[x.cps[i]]⟩):=by
   intro j;rw[bV (by simpa using jQ)];constructor
   ·rintro⟨c,hc,rfl⟩;rcases bl.mp hc with hc|hc
    ·exact .inl ⟨c,hc,rfl⟩
    ·rw[aK]at hc;exact .inr (by rw[hc];simp)
   ·rintro(⟨c,hc,rfl⟩|rfl)
    ·exact⟨c,bg _ hc,rfl⟩
    ·exact⟨x.cps[i],cM _ (by simp),rfl⟩
  have cont:∀nD mz,Heap.SameBut a jC nD->gQ (PySem.strKind prog w) T nD a mz->mz.length<=i+1->(∀j,j∈mz↔(j∈ks\/j=⟨#[x.cps[i]]⟩))->codeAny (model prog w) A (.builtin "set.update.loop" ⟨[.ref a,.ref it],[]⟩) R {s with heap:=nD,toks:=s.toks+1+1}:=by
   intro nD mz nk H2 yz Ad;refine ih (i+1) _ mz (by omega) jQ (let⟨o,ho,r⟩:=wZ;⟨o,(nk.2 it lq).trans ho,r⟩) H2 yz (fun j=>by rw[Ad j,hm j,zc j]) fun h' jt tk qM Sw H' PE vd=> ?_;refine h h' jt tk (by rw[qM];show nD.objs.size+2=_;rw[nk.1,om.1]) (fun b o RZ Ym e=>Sw b o RZ Ym ((nk.2 b RZ).trans ((om.2 b Ym).trans e))) H' PE vd
  refine wY (s:={s with heap:=jC,toks:=s.toks+1+1}) (eY _ _ _ _) rfl H1 (by show ks.length+1<4096;omega) (fun qR=> ?_) fun nD mz nk hp H2 S9=> ?_
  ·exact aj ⟨bD k8 _,cont jC ks (dU a jC) H1 (by omega) fun j=>⟨.inl,fun q=>q.elim id fun q=>q▸qR⟩⟩
  ·exact aj ⟨bD k8 _,cont nD mz nk H2 (by have:=hp.length_eq;simp at this;omega) fun j=>by rw[hp.mem_iff,bl,aK]⟩
def E3{v:Value}{T:String}{Q:Bool->Shared->Prop}(hT:s.TypeIs v T)(h1:isSubtype (.type T) (.type "set")=pure false)(h2:isSubtype (.type T) (.type "frozenset")=pure false)(h:Q false s):wpAny (model prog w) A (Frozenset.isAnySet v) Q E s:=by
 unfold Frozenset.isAnySet orM;exact ai (cA hT h1 (cA hT h2 h))
def CR{nm:String}{v:Value}{T:String}{Q:Unit->Shared->Prop}(hT:s.TypeIs v T)(h1:isSubtype (.type T) (.type "set")=pure false)(h2:isSubtype (.type T) (.type "frozenset")=pure false)(h3:(Value.type T==Value.type "dict")=false)
  (h:wpAny (model prog w) A (pyIter v) (fun it s'=>codeAny (model prog w) A (.builtin "set.update.loop" ⟨[.ref a,it],[]⟩) (fun r uy=>match r with| .ok (.ret _)=>Q () uy| .ok _=>False| .error e=>E e uy) s') E s):wpAny (model prog w) A (Frozenset.updateFrom nm a v) Q E s:=by
 unfold Frozenset.updateFrom;refine ai (E3 hT h1 h2 ?_);simp only[az,a_];refine ai (fS hT ?_);rw[h3];simp only[az,a_];refine ai (bU h (fun it s' hc=> ?_) fun _ _ z=>z);exact ai (wpAny_runValue (codeAny_mono hc fun r uy hr=>by
  cases r with
  |error e=>exact hr
  |ok f=>cases f with
   |ret v=>exact aj hr
   |_=>exact hr))
def yb{v:Value}{T:String}{Q:aa}(hT:s.TypeIs v T)(Wc:∀o,({s with heap:=s.heap.push o}:Shared).TypeIs v T)(h0:(Value.type T==Value.type "frozenset")=false)(h1:isSubtype (.type T) (.type "set")=pure false)(h2:isSubtype (.type T) (.type "frozenset")=pure false)(h3:(Value.type T==Value.type "dict")=false)
  (h:∀led,wpAny (model prog w) A.in1.in1 (pyIter v) (fun it s'=>codeAny (model prog w) A.in1.in1 (.builtin "set.update.loop" ⟨[.ref s.heap.objs.size,it],[]⟩) (fun r uy=>match r with| .ok (.ret _)=>uy.TypeIs (.ref s.heap.objs.size) "frozenset"/\Q (.ref s.heap.objs.size) uy| .ok _=>False| .error _=>False) s') (fun _ _=>False) {s with heap:=s.heap.push (iJ "frozenset" #[] 0 (.fresh 0 0 led))}):
  wpAny (model prog w) A (call (.type "frozenset") [v]) Q E s:=by
 refine callType_codes (Q₁:=fun obj s₁=>s₁.TypeIs obj "frozenset"/\Q obj s₁) uZ (Dh _) F.entry_object_init ?_ fun obj s₁ jC=>
  ⟨jC.1,Br obj _,object_init_meets uZ.init.lookup uZ.made (by decide) prog w A.in1 _ s₁ ⟨jC.1,rfl,jC.2⟩⟩
 refine fX ?_;show wpAny _ A.in1.in1 (do checkBuiltinCall "frozenset.__new__" ⟨[.type "frozenset",v],[]⟩;again (.builtin "frozenset.__new__" ⟨[.type "frozenset",v],[]⟩)) _ _ s;refine ai (bC (ER _) (aj ⟨bD ur _,bx Bu ?_⟩));rw[aZ ur _];unfold Builtin.«frozenset.__new__»;refine ai (bC (Di _) ?_);dsimp only;refine ai (bC uq.lookup ?_);rw[aQ (by decide)];refine ai (bC (a:=()) (by first|rfl|kernel_rfl) ?_);refine ai (bC (a:="frozenset") (by first|rfl|kernel_rfl) ?_);refine ai (bC (a:=()) (by first|rfl|kernel_rfl) ?_);rw[aQ (by simp)];refine ai (fS hT ?_);rw[h0];simp only[az,a_];unfold Frozenset.newFrom;simp only[bind_assoc];refine ai (D7 "frozenset" fun led=> ?_);refine ai (m:=Frozenset.addrOf _) (aj ?_);refine ai (aX ?_);refine CR (Wc _) h1 h2 h3 (bU (h led) (fun it s' hc=>codeAny_mono hc fun r uy hr=> ?_) fun _ _ z=>z.elim);cases r with
 |error e=>exact hr.elim
 |ok f=>cases f with
  |ret v'=>exact aj ⟨hr.1,hr.2⟩
  |_=>exact hr
def rY{x:Str}{t:Tok}{Q:aa}(hh:A.handled=none)(ha:x.cps.all (· <128)=true)(iK:x.cps.size<=100)
  (h:∀h' ks tk,h'.objs.size=s.heap.objs.size+4->Kept s.heap h'->gQ (PySem.strKind prog w) "frozenset" h' s.heap.objs.size ks->(∀j,j∈ks↔ ∃c∈x.cps.toList,j=⟨#[c]⟩)->ks.length<=x.cps.size->Q (.ref s.heap.objs.size) {s with heap:=h',toks:=tk}):
  wpAny (model prog w) A (call (.type "frozenset") [.str x t]) Q E s:=by
 refine yb (T:="str") (cW s x t) (fun o=>cW _ x t) (by decide) (by rw[bE];kernel_rfl) F.sub_str_frozenset (by decide) fun led=> ?_;refine wpAny_pyIter_ascii ha ?_;have hz:(s.heap.push (iJ "frozenset" #[] 0 (.fresh 0 0 led))).objs.size=s.heap.objs.size+1:=bM ..;have k1:Kept s.heap ((s.heap.push (iJ "frozenset" #[] 0 (.fresh 0 0 led))).push {cls:=.type "str_ascii_iterator",data:=.fields #[.str x t,.int 0 0]}):=fun b o e=>aG _ (aG _ e);refine LV (A:=A.in1.in1) (a:=s.heap.objs.size) (it:=(s.heap.push (iJ "frozenset" #[] 0 (.fresh 0 0 led))).objs.size) (T:="frozenset") hh (by rw[hz];exact Nat.succ_ne_self _) iK (x.cps.size-0) 0 {s with heap:=(s.heap.push (iJ "frozenset" #[] 0 (.fresh 0 0 led))).push {cls:=.type "str_ascii_iterator",data:=.fields #[.str x t,.int 0 0]}} [] rfl (dH _) ⟨_,aM _ rfl,rfl,rfl⟩
  ((x9 _ "frozenset" s.heap led).keep fun o e=>aG _ e) (dH _) (fun j=>by simp) fun h' jt tk qM Sw H hm hl=> ?_
 refine⟨H.typeIs (s:={s with heap:=h',toks:=tk}),h h' jt tk ?_ (fun b o e=>Sw b o (pB e).symm (fun q=> ?_) (k1 b o e)) H hm hl⟩
 ·rw[qM];show((s.heap.push _).push _).objs.size+2=_;rw[bM,hz]
 ·have:=bG e;have q':b=(s.heap.push (iJ "frozenset" #[] 0 (.fresh 0 0 led))).objs.size:=q;rw[hz]at q';rw[q']at this;exact absurd this (Nat.not_lt.mpr (fD _))
end
def CC:Manifest.owners.lookup (String.ofList ['t','e','s','n','e','z','o','r','f'].reverse)=some Manifest.sig_frozenset:=by kernel_rfl
def ya:Slot "frozenset" (dunder "or") "frozenset.__or__":=
 .of (owner:="frozenset") (n:="__or__") (by rw[bQ,bh];kernel_rfl) (by decide+kernel) (by decide+kernel) (by decide+kernel)
  (by first|exact .inl (by decide+kernel)|exact .inr (by decide+kernel)) (by rw[bE];kernel_rfl)
def Dj:fillsNumberSlot (.type "frozenset") "or"=pure true:=
 fillsNumberSlot_of (id:="frozenset.__or__") (r:=some (.builtin "frozenset.__ror__")) (by rw[bQ,bh];kernel_rfl) (by decide+kernel) (by rw[bQ,bh];kernel_rfl)
def ES(a b:Value):argsOk "frozenset.__or__" ⟨[a,b],[]⟩:=by
 unfold argsOk;rw[fF (id:="frozenset.__or__") (n:=['_','_','r','o','_','_']) (o:=['t','e','s','n','e','z','o','r','f']) (by kernel_rfl) CC];kernel_rfl
def Dk:entryFor table "frozenset.__or__"=some Builtin.«frozenset.__or__»:=dc (by kernel_rfl)
def vH:Slot "frozenset" (dunder "sub") "frozenset.__sub__":=
 .of (owner:="frozenset") (n:="__sub__") (by rw[bQ,bh];kernel_rfl) (by decide+kernel) (by decide+kernel) (by decide+kernel)
  (by first|exact .inl (by decide+kernel)|exact .inr (by decide+kernel)) (by rw[bE];kernel_rfl)
def Bs:fillsNumberSlot (.type "frozenset") "sub"=pure true:=
 fillsNumberSlot_of (id:="frozenset.__sub__") (r:=some (.builtin "frozenset.__rsub__")) (by rw[bQ,bh];kernel_rfl) (by decide+kernel) (by rw[bQ,bh];kernel_rfl)
def Dl(a b:Value):argsOk "frozenset.__sub__" ⟨[a,b],[]⟩:=by
 unfold argsOk;rw[fF (id:="frozenset.__sub__") (n:=['_','_','b','u','s','_','_']) (o:=['t','e','s','n','e','z','o','r','f']) (by kernel_rfl) CC];kernel_rfl
def Bt:entryFor table "frozenset.__sub__"=some Builtin.«frozenset.__sub__»:=dc (by kernel_rfl)
section
variable{prog:Program}{w:World}{K:Type}[DecidableEq K]{knd:KeyKind prog w K}{A:Around}{E:aa}{s:Shared}{l r a:Addr}{kl kr ks:List K}{k:K}
def Up{Q:aa}(Hl:gQ knd "frozenset" s.heap l kl)(Hr:gQ knd "frozenset" s.heap r kr)(iK:kl.length+kr.length<64)(I6:kl≠[])
  (h:∀h' ks,h'.objs.size=s.heap.objs.size+1->Kept s.heap h'->(∀j,j∈ks↔j∈kl\/j∈kr)->gQ knd "frozenset" h' s.heap.objs.size ks->Q (.ref s.heap.objs.size) {s with heap:=h'}):wpAny (model prog w) A (binaryOp .BitOr (.ref l) (.ref r)) Q E s:=by
 refine gB (T:="frozenset") (id:="frozenset.__or__") Hl.typeIs Hr.typeIs Dj ya ?_;refine bW ya Hl.typeIs Dk ?_ (ES _ _);exact OZ (.inr rfl) (.inr rfl) Hl Hr iK I6 fun h' ks z a b c=>⟨Value.noConfusion,h h' ks z a b c⟩
def Dr(nm:String){o:Addr}{es:Array (Int×Value)}{ep:Nat}{t:SetTable}{Q:Unit->Shared->Prop}(ht:s.heap.get? a=some (iJ "frozenset" es ep t))(hd:t.dummies= #[])(BY:8<=t.mask)(Ha:gQ knd "frozenset" s.heap a ks)(Ho:gQ knd "frozenset" s.heap o [k])(lq:a≠o)(iK:0<ks.length)
  (h:∀h' jt,Heap.SameBut a s.heap h'->(∀j,j∈jt↔j∈ks/\j≠k)->gQ knd "frozenset" h' a jt->Q () {s with heap:=h'}):wpAny (model prog w) A (Frozenset.differenceUpdate nm a (.ref o)) Q E s:=by
 obtain⟨eo,DI,to,ho,ZW,XS,U5,U4⟩:=id Ho;obtain⟨ea,epa,ta,RS,hea,XT,RZ,ZT⟩:=id Ha;have Jj:=bX (RS.symm.trans ht);unfold iJ at Jj;cases Jj;have Zo:eo.size=1:=by have:=ZW.length;rw[show eo.toList.length=eo.size from bf ..]at this;exact this.symm
 unfold Frozenset.differenceUpdate;have h1:(Value.ref o==Value.ref a)=false:=by simp;exact fun e=>lq e.symm
 rw[h1];simp only[az,a_];refine ai (mG (.inr rfl) Ho.typeIs ?_);simp only[bY];refine ai (m:=Frozenset.addrOf _) (aj ?_);unfold Frozenset.sizeOf;refine ai (ai (dG ho rfl U4 (aj ?_)));refine ai (ai (dG RS rfl ZT (aj ?_)));rw[aD (by rw[Zo];simp)];have tidy:∀(h':Heap)(jt:List K),Heap.SameBut a s.heap h'->(∀j,j∈jt↔j∈ks/\j≠k)->gQ knd "frozenset" h' a jt->(∃es ep t',h'.get? a=some (iJ "frozenset" es ep t')/\t'.mask=t.mask/\t'.dummies.size<=1)->
   wpAny (model prog w) A (setTidy a) Q E {s with heap:=h'}:=by
  intro h' jt hs hm H' ⟨Sa,Vf,t2,g2,g3,g4⟩;obtain⟨ea',aaI,ta',Jj,aaF,aaE,aaG,Xh⟩:=id H';have e:=bX (Jj.symm.trans g2);unfold iJ at e;cases e;unfold setTidy;refine ai (bZ Jj rfl Xh ?_);dsimp only;rw[aD (by
   unfold SetTable.tooManyDummies;simp only[aJ];omega)]
  exact aj (h h' jt hs hm H')
 refine ai (fE ho rfl U4 ?_);refine ai (bU (Q:=fun _ s'=>wpAny (model prog w) A (setTidy a) Q E s') (aX ?_) (fun _ s' q=>q) fun _ _ z=>z);refine ai (A0 Ho (others:=[a]) (f:=none) (fun b hb=> ?_) (fun b hb=>by cases hb) fun lT jt h2 DG wF Ja _=> ?_)
 ·rw[aK.mp hb];exact Ha.quiet
 ·have hk:=gC.mp wF;subst hk;have hh:=Ja rfl;subst hh;obtain⟨x,Zh,Py,Zg⟩:∃x,lT.toList=[(knd.hash k,x)]/\knd.is k x=true/\x.scannable=true:=by
   cases e:lT.toList with
   |nil=>rw[e]at DG;rw[je]at DG;cases DG
   |cons p r=>
    rw[e]at DG;rw[je]at DG;obtain⟨k',r',e2,g1,g2,g3,g4⟩:=DG;cases e2;have:r=[]:=cj g4.length.symm;subst this;obtain⟨i,v⟩:=p;have g2':i=knd.hash k:=g2;exact⟨v,by rw[g2'],g1,g3⟩
  refine ai ?_;rw[<-ff,Zh];simp only[b8,dJ,bind_assoc,pure_bind];have e0:({s with heap:=s.heap}:Shared)=s:=by cases s;rfl
  rw[e0];refine ai (aX (vF Py Zg Ha (fun hn=> ?_) fun h' jt hs hm H' qR hT=> ?_))
  ·refine ai (nS ho U4 (aj (aj ?_)));have:=tidy s.heap ks (dU a s.heap) (fun j=>⟨fun hj=>⟨hj,fun e=>hn (e▸hj)⟩,fun hj=>hj.1⟩) Ha ⟨_,_,_,ht,rfl,by rw[hd];decide⟩;rw[e0]at this;exact this
  ·refine ai (nS (s:={s with heap:=h'}) ((hs.2 o lq.symm).trans ho) U4 (aj (aj ?_)));obtain⟨uz,SN,t1,Sa,Vf,t2,g1,g2,g3,g4⟩:=hT;have e1:=bX (g1.symm.trans ht);unfold iJ at e1;cases e1;exact tidy h' jt hs hm H' ⟨_,_,_,g2,g3,by rw[g4,hd];decide⟩
def KA(nm:String){Q:aa}(Hl:gQ knd "frozenset" s.heap l kl)(Hr:gQ knd "frozenset" s.heap r [k])(iK:kl.length<64)(G1:8<=kl.length)
  (h:∀h' ks,h'.objs.size=s.heap.objs.size+1->Kept s.heap h'->(∀j,j∈ks↔j∈kl/\j≠k)->gQ knd "frozenset" h' s.heap.objs.size ks->Q (.ref s.heap.objs.size) {s with heap:=h'}):
  wpAny (model prog w) A (Frozenset.difference nm l (.ref r)) Q E s:=by
 obtain⟨er,epr,tr,Mn,ZV,_,_,E7⟩:=id Hr;obtain⟨el,Yz,tl,PA,DF,_,_,RW⟩:=id Hl;have Zn:er.size=1:=by have:=ZV.length;rw[show er.toList.length=er.size from bf ..]at this;exact this.symm
 have Sp:el.size=kl.length:=by rw[DF.length,bf]
 unfold Frozenset.difference;dsimp only;refine ai (mG (.inr rfl) Hr.typeIs ?_);simp only[dw,az,a_,Bool.false_and,bY];refine ai (m:=Frozenset.addrOf _) (aj ?_);unfold Frozenset.sizeOf;refine ai (ai (dG Mn rfl E7 (aj ?_)));refine ai (ai (dG PA rfl RW (aj ?_)));rw[aQ (by rw[Sp,Zn];omega)];refine ai (dD ?_);refine ai (Gs (.inr rfl) Hl (by omega) fun h1 k1 led r_ qQ H1 ht=> ?_);have zd:=AZ r_;have BL:h1.objs.size=s.heap.objs.size+1:=by rw[r_.1,bM]
 obtain⟨es,ep,t,g1,g2,g3⟩:=ht (fun e=>by rw[e]at G1;simp at G1);refine ai (m:=Frozenset.addrOf _) (aj ?_);refine ai (aX ?_);refine Dr (s:={s with heap:=h1}) nm g1 g2 (by omega) H1 (Hr.keep fun o e=>zd r o e) (pB Mn) (by rw[qQ.length_eq];omega) fun h2 k2 tM hm H2=> ?_;refine aj (h h2 k2 (by rw[tM.1];exact BL) (fun b o e=>(tM.2 b (pB e).symm).trans (zd b o e)) (fun j=> ?_) H2);rw[hm j,qQ.mem_iff]
def Rm{Q:aa}(Hl:gQ knd "frozenset" s.heap l kl)(Hr:gQ knd "frozenset" s.heap r [k])(iK:kl.length<64)(G1:8<=kl.length)
  (h:∀h' ks,h'.objs.size=s.heap.objs.size+1->Kept s.heap h'->(∀j,j∈ks↔j∈kl/\j≠k)->gQ knd "frozenset" h' s.heap.objs.size ks->Q (.ref s.heap.objs.size) {s with heap:=h'}):wpAny (model prog w) A (binaryOp .Sub (.ref l) (.ref r)) Q E s:=by
 refine gB (T:="frozenset") (id:="frozenset.__sub__") Hl.typeIs Hr.typeIs Bs vH ?_;refine bW vH Hl.typeIs Bt ?_ (Dl _ _);unfold Builtin.«frozenset.__sub__»;refine ai (m:=Frozenset.slot1 "__sub__" ⟨[.ref l,.ref r],[]⟩) ?_;refine bC (a:=(.ref l,.ref r)) rfl ?_;dsimp only;refine ai (vc (mG (.inr rfl) Hl.typeIs ⟨rfl,mG (.inr rfl) Hr.typeIs ?_⟩));simp only[dw,az,a_];refine ai (m:=Frozenset.addrOf _) (aj ?_);refine ai (KA _ Hl Hr iK G1 fun h' ks z a b c=> ?_);exact aj ⟨_,rfl,Value.noConfusion,h h' ks z a b c⟩
end
section
variable{prog:Program}{w:World}{A:Around}{E:aa}{s:Shared}
def Dg{env:Env}{c P:Addr}{ps:Array Value}{pos:Pos}{qualname:Str}{scope:Scope}{Q:aa}
  (hc:env.code= .ref c) (vO:s.heap.IsCode c P ps) (DR:s.heap.TableAt c P ps) (Mp:codeAmong pos ps.toList=none) (ou:scope.freeNames=[])
  (hQ:∀h' tk,h'.objs.size=s.heap.objs.size+3->h'.get? P=some {cls:=.none,data:=.fields (ps++ #[rawInt pos.line,rawInt pos.col,.ref (s.heap.objs.size+2)])}->
   (∀b o,b≠P->s.heap.get? b=some o->h'.get? b=some o)->Q (.ref (s.heap.objs.size+2)) {s with heap:=h',toks:=tk}):
  wpAny (model prog w) A (genexprCode env pos qualname scope) Q E s:=by
 obtain⟨o,vs,file,tf,flags,tg,inF,text,tt,op,ho,hd,R9,h2,h7,h9,R_,VB,VA,OI,lq⟩:=id vO;have e1:op={cls:=.none,data:=.fields ps}:=bX (VB.symm.trans DR.2);unfold genexprCode codeAt;rw[hc,aD (show ¬ ((Value.ref c==Value.none)=true)from cL)];refine ai (gn ho hd ?_);rw[R9];refine ai (gn VB VA ?_);rw[Mp,h2,h7,h9,R_];unfold newCode;rw[ou];refine ai ?_;refine ai (wpAny_mkText (ai (wpAny_mkText (ai (wpAny_mkText (ai (wpAny_mkStrs fun fs=>
  ai (wpAny_newObjAsIs_type (ai (wpAny_alloc ?_))))))))))
 generalize hH:(s.heap.push {cls:=.type "tuple",dict:=none,data:=.seq fs.toArray})=H;have hz:H.objs.size=s.heap.objs.size+1:=by rw[<-hH,bM]
 have hk:∀b o,s.heap.get? b=some o->H.get? b=some o:=fun b o e=>hH▸aG _ e;refine ai (aj (ai (aj (ai (aj (ai (wpAny_fresh (ai (wpAny_mkText (bS ?_ (by size_fits)))))))))));have wD:(H.push {cls:=.none,data:=.fields #[]}).objs.size=s.heap.objs.size+2:=by rw[bM,hz]
 generalize Yq:(H.push {cls:=.none,data:=.fields #[]}).push _=H3;have Pw:H3.objs.size=s.heap.objs.size+3:=by rw[<-Yq,bM,wD]
 have MB:∀b o,s.heap.get? b=some o->H3.get? b=some o:=fun b o e=>by rw[<-Yq];exact aG _ (aG _ (hk b o e))
 have S8:=MB _ _ VB;refine ai (wpAny_updateFieldsOfTheText S8 VA ?_);have wJ:(Obj.mapFields (fun vs=>if(codeAmong pos vs.toList).isSome=true then vs else vs++ #[rawInt pos.line,rawInt pos.col,.ref (H.push {cls:=.none,data:=.fields #[]}).objs.size]) op).data=
   .fields (ps++ #[rawInt pos.line,rawInt pos.col,.ref (s.heap.objs.size+2)]):=by
  rw[Obj.data_mapFields VA,Mp,wD];rfl
 have qS:=cG (h:=H3) (fun o=>Obj.mapFields (fun vs=>if(codeAmong pos vs.toList).isSome=true then vs else
  vs++ #[rawInt pos.line,rawInt pos.col,.ref (H.push {cls:=.none,data:=.fields #[]}).objs.size]) o) S8 (Obj.isFreed_of_fields wJ)
 refine ai (gn qS wJ ?_);have hl:(ps++ #[rawInt pos.line,rawInt pos.col,Value.ref (s.heap.objs.size+2)]).toList=ps.toList++[rawInt pos.line,rawInt pos.col,.ref (s.heap.objs.size+2)]:=by simp
 rw[hl,codeAmong_snoc _ OI Mp];refine aj (hQ _ _ (by rw[Heap.size_after_update];exact Pw) ?_ fun b o' hb e=>((dF ..).extBut b o' hb (MB b o' e)));rw[qS,e1];simp only[Obj.mapFields,Mp,wD];rfl
structure wM(mg mb:Str->Option Value)(C I:Addr)(i:Nat)(h:Heap):Prop where
 it:IsRangeIter h I ((i:Nat):Int) ((32:Int)-(i:Nat)) 1
 ns:∃m,h.Ns C m
 g:h.Ns mainGlobals mg
 b:h.Ns builtinsNs mb
structure GenStep(C I:Addr)(h h':Heap):Prop where
 size:h'.objs.size=h.objs.size
 keep:∀b,b≠C->b≠I->h'.get? b=h.get? b
def tP(p1 p2 p3:Pos):Expr:=.Call (.Name "chr" p1) [.Name "i" p2] [] p3
def L0{mg mb:Str->Option Value}{C:Addr}{i:Nat}{t:Tok}{m:Str->Option Value}{p1 p2 p3:Pos}{scope:Scope}{code:Value}{env:Env}{Q:aa}(hk:scope.kind= .function)(h1:scope.names.lookup ("chr":Str)=some .globalImplicit)(h2:scope.names.lookup ("i":Str)=some .local)
  (PF:env.globals=mainGlobals) (hg:s.heap.Ns mainGlobals mg) (hb:s.heap.Ns builtinsNs mb) (wG:mg "chr"=none) (DL:mb "chr"=some (.builtin "chr")) (hn:s.heap.Ns C m) (hv:m "i"=some (.int ((i:Nat):Int) t)) (hi:i<1000)
  (h:Q (.str ⟨#[i]⟩ s.toks) {s with toks:=s.toks+1}):wpAny (model prog w) A (eval (tP p1 p2 p3) (genEnv scope [] C code builtinsNs env)) Q E s:=by
 unfold tP;have he:starEach [Expr.Name "i" p2] (genEnv scope [] C code builtinsNs env)=[(false,eval (.Name "i" p2) (genEnv scope [] C code builtinsNs env))]:=rfl;rw[dW,he];refine ai (wpAny_Name ?_);rw[PyProof.Rows.loadName_read (by exact hk) (by exact h1)];have U3:s.heap.Ns (genEnv scope [] C code builtinsNs env).globals mg:=by show s.heap.Ns env.globals mg;rw[PF];exact hg
 refine d9 U3 wG (show s.heap.Ns (genEnv scope [] C code builtinsNs env).builtins mb from hb) DL ?_;show wpAny _ _ (callWith p3 (.builtin "chr") [] [(false,eval (.Name "i" p2) (genEnv scope [] C code builtinsNs env))] []) _ _ _;refine fQ rfl (fu (e8 (wpAny_Name (wpAny_loadName_local (by exact hk) (by exact h2) (show s.heap.Ns (genEnv scope [] C code builtinsNs env).locals m from hn) hv (gh ?_)))));show wpAny _ _ (call (.builtin "chr") [.int ((i:Nat):Int) t]) _ _ _;exact PyProof.Rows.chr_of_range (by omega) (by omega) (by simpa using h)
def gR:GenEnd:=fun n jo r s₁=>r= .ok .next/\n=0/\∃h',s₁={jo with heap:=h'}/\MI jo.heap h'
def gY(mg mb:Str->Option Value)(C I:Addr):Protocol:=fun m jo v s Zc=>
 (∃t,v= .str ⟨#[31-m]⟩ t)/\(∃h' tk,s={jo with heap:=h',toks:=tk}/\GenStep C I jo.heap h'/\wM mg mb C I (32-m) h')/\∀uy:Shared,wM mg mb C I (32-m) uy.heap->Zc (.send .none) uy
def LQ{mg mb:Str->Option Value}{C I:Addr}{px p1 p2 p3 pos:Pos}{iter:Expr}{scope:Scope}{code:Value}{env:Env}(hh:A.handled=none)(hk:scope.kind= .function)(Mr:scope.isCoroutine=false)(h1:scope.names.lookup ("chr":Str)=some .globalImplicit)(h2:scope.names.lookup ("i":Str)=some .local)
  (PF:env.globals=mainGlobals) (wG:mg "chr"=none) (DL:mb "chr"=some (.builtin "chr")) (Vc:C≠I) (Wn:C≠mainGlobals) (Wm:C≠builtinsNs) (Wk:I≠mainGlobals) (PK:I≠builtinsNs):∀(k i:Nat)(s:Shared),i+k=32->wM mg mb C I i s.heap->
  Seg (model prog w) A gR (gY mg mb C I) k s (.compLoop (.GeneratorExp (tP p1 p2 p3) [⟨.Name "i" px,iter,[],0⟩] scope pos) 0 (.ref I) .none (genEnv scope [] C code builtinsNs env))
   ((model prog w).den (.compLoop (.GeneratorExp (tP p1 p2 p3) [⟨.Name "i" px,iter,[],0⟩] scope pos) 0 (.ref I) .none (genEnv scope [] C code builtinsNs env))) [] s:=by
 have ZP:(A.over (.compLoop (.GeneratorExp (tP p1 p2 p3) [⟨.Name "i" px,iter,[],0⟩] scope pos) 0 (.ref I) .none (genEnv scope [] C code builtinsNs env)) []).handled=none:=hh;intro k
 induction k with
 |zero=>
  intro i s Sy F;show Seg _ A _ _ _ s _ ((compTurn (.GeneratorExp (tP p1 p2 p3) [⟨.Name "i" px,iter,[],0⟩] scope pos) 0 (.ref I) .none (genEnv scope [] C code builtinsNs env)).onRaise (PySem.leaving (genEnv scope [] C code builtinsNs env))) [] s;rw[compTurn_gen,Sem.onRaise_eq_wrap];refine dg (cg ?_);refine dg (HJ ZP F.it (by omega) fun h' GV=> ?_);exact seg_end (.ok .next) ⟨rfl,rfl,h',rfl,GV⟩
 |succ k ih=>
  intro i s Sy F;obtain⟨m,hm⟩:=F.ns;show Seg _ A _ _ _ s _ ((compTurn (.GeneratorExp (tP p1 p2 p3) [⟨.Name "i" px,iter,[],0⟩] scope pos) 0 (.ref I) .none (genEnv scope [] C code builtinsNs env)).onRaise (PySem.leaving (genEnv scope [] C code builtinsNs env))) [] s;rw[compTurn_gen,Sem.onRaise_eq_wrap];refine dg (cg ?_);refine dg (wpAny_pyNext_range_item F.it (by omega) fun jC wZ om=> ?_);refine dg (bC (rfl:letOwnedTupleGo (.Name "i" px) (.ref I) (.int ((i:Nat):Int) s.toks)=pure ()) ?_);have PD:jC.Ns (genEnv scope [] C code builtinsNs env).locals m:=hm.at fun o e=>(om.2 C Vc).trans e;refine dg (fC (wpAny_storeName_local (by exact h2) PD (fun nD O6 nk=> ?_) (by show(scope.kind== .class||(scope.kind== .module&&_))=false;rw[hk];rfl)));refine dg (aj ?_);simp only[bY];have hy:∀v,yieldOut (genEnv scope [] C code builtinsNs env) v=yieldValue v:=fun v=>by
   have:(genEnv scope [] C code builtinsNs env).scope.isCoroutine=false:=Mr;simp only[yieldOut,this,az,a_]
  simp only[hy];rw[Sem.bind_eq_wrap',Sem.bind_eq_wrap',Sem.wrap_wrap,Sem.wrap_wrap];have keep:∀b,b≠C->b≠I->nD.get? b=s.heap.get? b:=fun b U8 U7=>(nk.2 b U8).trans (om.2 b U7);have F2:wM mg mb C I (i+1) nD:=⟨by
    have e1:((i:Nat):Int)+1=((i+1:Nat):Int):=by omega
    have e2:(32:Int)-(i:Nat)-1=(32:Int)-((i+1:Nat):Int):=by omega
    have:=(nk.2 I Vc.symm).trans wZ;rw[e1,e2]at this;exact this,
   ⟨_,O6⟩,F.g.at fun o e=>(keep _ Wn.symm Wk.symm).trans e,F.b.at fun o e=>(keep _ Wm.symm PK.symm).trans e⟩
  refine seg_wrap (L0 (i:=i) (t:=s.toks) hk h1 h2 PF F2.g F2.b wG DL O6 (aQ rfl) (by omega) ?_);have SP:31-k=i:=by omega
  have YC:32-k=i+1:=by omega
  refine seg_at (seg_yield rfl rfl rfl ⟨⟨_,dm (fun n=>Value.str ⟨#[n]⟩ _) SP.symm⟩,⟨nD,_,rfl,⟨by rw[nk.1,om.1],keep⟩,by rw[YC];exact F2⟩,fun uy R2=> ?_⟩);rw[YC]at R2;exact seg_again rfl (ih (i+1) uy (by omega) R2)
def Ck{a:Addr}{g n:Nat}{gs:GenState}{R:GenEnd}{Y:Protocol}{Q:Option Value->Shared->Prop}(hh:A.handled=none)
  (hl:s.heap.NoLimit) (mj:A.depth<recursionLimit)
  (hg:s.heap.IsGen a g) (MC:s.gens[g]? =some gs) (Z7:∀n jo r s₁,R n jo r s₁->r= .ok .next)
  (MD:gs.Goes (model prog w) A.in1 R Y n (.send .none) (s.setGen g .running))
  (hY:∀v s₁ MH,MH.bare=true->Y (n-1) (s.setGen g .running) v s₁ (fun r' uy=>match n with
    |0=>False
    |m+1=>MH.Goes (model prog w) A.in1 R Y m r' uy)->Q (some v) (s₁.setGen g MH))
  (hP:∀r s₁,R n (s.setGen g .running) r s₁->∀h',MI s₁.heap h'->Q none {s₁.setGen g .finished with heap:=h'}):
  wpAny (model prog w) A (pyNext (.ref a)) Q E s:=by
 unfold pyNext;refine ai (fY (cT (name:=Str.ofString "__next__") hg.typeIs slot_gen_next
  (bW slot_gen_next hg.typeIs entry_gen_next ?_ (args_gen_next _))))
 show wpAny _ A.in1 (Builtin.Generator.genWake (.ref a) (.send .none)) _ _ s;unfold Builtin.Generator.genWake;refine ai (aX (wpAny_genNumber hg (ai (wpAny_genState MC ?_))));cases gs with
 |running|finished=>exact MD.elim
 |_=>
  refine ai (wpAny_roomToWake hl mj ?_);show wpAny _ A.in1 (.resume g (.send .none) [] _) _ _ s;refine wpAny_resumeQ MC MD (fun x s₁ hx=> ?_) (fun v s₁ MH hb hv=> ?_)
  ·obtain rfl:=Z7 _ _ _ _ hx;show wpAny _ A.in1 (newExc (.type "StopIteration") [] >>= _) _ _ _;refine ai ?_;simp only[newExc,newTuple];refine ai (bS ?_ (by size_fits));refine ai (m:=firstArgMember _ _) (bC (a:=Value.none) (by first|rfl|(simp only[firstArgMember];rfl)) ?_);refine bS ?_ (by size_fits);simp only[raiseNew];refine ai (ai (wpAny_handled ?_))
   first|rw[show A.in1.handled=none from hh]|rw[hh]
   refine wpAny_throw ?_;refine ai (cA (T:="StopIteration") (b:=true) ⟨_,aM _ rfl,rfl⟩ isSubtype_stop ?_);exact aj (hP _ s₁ hx _ (MI.of _ _ _))
  ·exact aj ⟨v,rfl,aj (hY v s₁ MH hb hv)⟩
structure kU(prog:Program)(w:World)(A:Around)(mg mb:Str->Option Value)(a C I:Addr)(i:Nat)(s:Shared):Prop where
 gen:s.heap.IsGen a 0
 lim:s.heap.NoLimit
 F:wM mg mb C I i s.heap
 one:s.gens.size=1
 go:∃gs,s.gens[0]? =some gs/\∀uy:Shared,wM mg mb C I i uy.heap->gs.Goes (model prog w) A.in1 gR (gY mg mb C I) (32-i) (.send .none) uy
structure Ec(a C I:Addr):Prop where
 aC:a≠C
 aI:a≠I
 CI:C≠I
 C1:C≠mainGlobals
 C2:C≠builtinsNs
 C3:C≠cStatics
 I1:I≠mainGlobals
 I2:I≠builtinsNs
 I3:I≠cStatics
variable{mg mb:Str->Option Value}{a C I:Addr}
def wM.at'{i:Nat}{h h':Heap}(F:wM mg mb C I i h)(e:∀b,b=C\/b=I\/b=mainGlobals\/b=builtinsNs->h'.get? b=h.get? b):wM mg mb C I i h':=
 ⟨(e I (.inr (.inl rfl))).trans F.it,let⟨m,hm⟩:=F.ns;⟨m,hm.at fun o q=>(e C (.inl rfl)).trans q⟩,F.g.at fun o q=>(e _ (.inr (.inr (.inl rfl)))).trans q,F.b.at fun o q=>(e _ (.inr (.inr (.inr rfl)))).trans q⟩
def LR{i:Nat}{Q:Option Value->Shared->Prop}(hh:A.handled=none)(mj:A.depth<recursionLimit)(ap:Ec a C I)(L:kU prog w A mg mb a C I i s)(hi:i<32)
  (h:∀t h' tk gens,GenStep C I s.heap h'->kU prog w A mg mb a C I (i+1) {s with heap:=h',toks:=tk,gens:=gens}->Q (some (.str ⟨#[i]⟩ t)) {s with heap:=h',toks:=tk,gens:=gens}):
  wpAny (model prog w) A (pyNext (.ref a)) Q E s:=by
 obtain⟨gs,MC,MD⟩:=L.go;obtain⟨k,hk⟩:∃k,32-i=k+1:=⟨31-i,by omega⟩;rw[hk]at MD;refine Ck hh L.lim mj L.gen MC (fun _ _ _ _ x=>x.1) (MD _ L.F) (fun v s₁ MH hb hv=> ?_) (fun r s₁ hp=> ?_)
 ·obtain⟨⟨t,rfl⟩,⟨jC,TA,rfl,st,MT⟩,MN⟩:=hv;have e1:31-(k+1-1)=i:=by omega
  have e2:32-(k+1-1)=i+1:=by omega
  rw[e1];rw[e2]at MT MN;refine h t jC TA _ st ⟨?_,?_,MT,?_,MH,setGen_self (gs:=.running) (setGen_self MC),fun uy WB=> ?_⟩
  ·obtain⟨o,nm,qn,ho,r⟩:=L.gen;exact⟨o,nm,qn,(st.keep a ap.aC ap.aI).trans ho,r⟩
  ·obtain⟨mc,OJ,RU⟩:=L.lim;exact⟨mc,OJ.at fun o e=>(st.keep _ ap.C3.symm ap.I3.symm).trans e,RU⟩
  ·show(Shared.setGen _ 0 MH).gens.size=1;simp[Shared.setGen,L.one]
  ·have e3:32-(i+1)=k:=by omega
   rw[e3];exact MN uy WB
 ·exact absurd hp.2.1 (Nat.succ_ne_zero k)
def N5{Q:Option Value->Shared->Prop}(hh:A.handled=none)(mj:A.depth<recursionLimit)(L:kU prog w A mg mb a C I 32 s)
  (h:∀h',h'.objs.size=s.heap.objs.size+4->Kept s.heap h'->Q none {s with heap:=h',gens:= #[.finished]}):wpAny (model prog w) A (pyNext (.ref a)) Q E s:=by
 obtain⟨gs,MC,MD⟩:=L.go;refine Ck hh L.lim mj L.gen MC (fun _ _ _ _ x=>x.1) (MD _ L.F) (fun v s₁ MH hb hv=> ?_) (fun r s₁ hp h' h2=> ?_)
 ·obtain⟨_,⟨jC,_,_,_,MT⟩,MN⟩:=hv;exact(MN {s with heap:=jC} MT).elim
 ·obtain⟨_,_,jC,rfl,h1⟩:=hp;have hg:(Shared.setGen {s.setGen 0 .running with heap:=jC} 0 .finished).gens= #[.finished]:=by
   apply Array.ext
   ·simp[Shared.setGen,L.one]
   ·intro j hj1 ZN;have:j=0:=by simp at ZN;omega
    subst this;simp[Shared.setGen]
  have:=h h' (by rw[h2.1];show jC.objs.size+2=_;rw[h1.1];rfl) fun b o e=>h2.2 b o (h1.2 b o e);have e:({Shared.setGen {s.setGen 0 .running with heap:=jC} 0 .finished with heap:=h'}:Shared)={s with heap:=h',gens:= #[.finished]}:=by
   rw[<-hg];rfl
  rw[e];exact this
def kU.but{i:Nat}{sa:Addr}{h':Heap}{tk:Nat}(L:kU prog w A mg mb a C I i s)(hs:Heap.SameBut sa s.heap h')(n:sa≠a/\sa≠C/\sa≠I/\sa≠mainGlobals/\sa≠builtinsNs/\sa≠cStatics):kU prog w A mg mb a C I i {s with heap:=h',toks:=tk}:=by
 obtain⟨n1,n2,n3,n4,n5,n6⟩:=n;refine⟨?_,?_,L.F.at' fun b hb=>hs.2 b ?_,L.one,L.go⟩
 ·obtain⟨o,nm,qn,ho,r⟩:=L.gen;exact⟨o,nm,qn,(hs.2 a n1.symm).trans ho,r⟩
 ·obtain⟨mc,OJ,RU⟩:=L.lim;exact⟨mc,OJ.at fun o e=>(hs.2 _ n6.symm).trans e,RU⟩
 ·rcases hb with rfl|rfl|rfl|rfl
  ·exact n2.symm
  ·exact n3.symm
  ·exact n4.symm
  ·exact n5.symm
def LW{sa:Addr}{R:Result->Shared->Prop}{T:String}(hh:A.handled=none)(mj:A.depth<recursionLimit)(ap:Ec a C I)(n:sa≠a/\sa≠C/\sa≠I/\sa≠mainGlobals/\sa≠builtinsNs/\sa≠cStatics):
  ∀(k i:Nat)(s:Shared)(ks:List Str),i+k=32->kU prog w A.in1 mg mb a C I i s->gQ (PySem.strKind prog w) T s.heap sa ks->ks.length<=i->(∀j,j∈ks↔ ∃c,c<i/\j=⟨#[c]⟩)->
   (∀h' jt tk,h'.objs.size=s.heap.objs.size+4->(∀b o,b≠sa->b≠C->b≠I->s.heap.get? b=some o->h'.get? b=some o)->gQ (PySem.strKind prog w) T h' sa jt->(∀j,j∈jt↔ ∃c,c<32/\j=⟨#[c]⟩)->jt.length<=32->R (.ok (.ret .none)) {s with heap:=h',toks:=tk,gens:= #[.finished]})->
   codeAny (model prog w) A (.builtin "set.update.loop" ⟨[.ref sa,.ref a],[]⟩) R s:=by
 intro k
 induction k with
 |zero=>
  intro i s ks Sy L H hl hm h;have:i=32:=by omega
  subst this;refine bx qx ?_;rw[aZ k8 _];show wpAny _ A.in1 (pyNext (.ref a) >>= _) _ _ s;refine ai (N5 hh mj L fun h' hz hk=> ?_);exact aj (h h' ks s.toks hz (fun b o _ _ _ e=>hk b o e) (H.keep fun o e=>hk sa o e) hm hl)
 |succ k ih=>
  intro i s ks Sy L H hl hm h;refine bx qx ?_;rw[aZ k8 _];show wpAny _ A.in1 (pyNext (.ref a) >>= _) _ _ s;refine ai (LR hh mj ap L (by omega) fun t jC tk gens st XA=> ?_);show wpAny _ A.in1 (holding [Value.str ⟨#[i]⟩ t] (setAdd sa (.str ⟨#[i]⟩ t)) >>= _) _ _ _;refine ai (aX ?_);unfold setAdd;refine aX ?_;refine ai ((PySem.strKind prog w).pyHash (k:=⟨#[i]⟩) (eY _ _ _ _) ?_);have H1:gQ (PySem.strKind prog w) T jC sa ks:=H.at (st.keep sa n.2.1 n.2.2.1);have cont:∀nD mz,Heap.SameBut sa jC nD->gQ (PySem.strKind prog w) T nD sa mz->mz.length<=i+1->(∀j,j∈mz↔(j∈ks\/j=⟨#[i]⟩))->codeAny (model prog w) A (.builtin "set.update.loop" ⟨[.ref sa,.ref a],[]⟩) R {s with heap:=nD,toks:=tk+1,gens:=gens}:=by
   intro nD mz nk H2 yz Ad;refine ih (i+1) _ mz (by omega) (XA.but (tk:=tk+1) nk n) H2 yz (fun j=> ?_) fun h' jt YW qM Sw H' PE vd=> ?_
   ·rw[Ad j,hm j];constructor
    ·rintro(⟨c,hc,rfl⟩|rfl)
     ·exact⟨c,by omega,rfl⟩
     ·exact⟨i,by omega,rfl⟩
    ·rintro⟨c,hc,rfl⟩;by_cases q:c=i
     ·subst q;exact .inr rfl
     ·exact .inl ⟨c,by omega,rfl⟩
   ·exact h h' jt YW (by rw[qM];show nD.objs.size+4=_;rw[nk.1,st.size]) (fun b o RZ U8 U7 e=>Sw b o RZ U8 U7 ((nk.2 b RZ).trans ((st.keep b U8 U7).trans e))) H' PE vd
  refine wY (s:={s with heap:=jC,toks:=tk+1,gens:=gens}) (eY _ _ _ _) rfl H1 (by show ks.length+1<4096;omega) (fun qR=> ?_) fun nD mz nk hp H2 S9=> ?_
  ·exact aj ⟨bD k8 _,cont jC ks (dU sa jC) H1 (by omega) fun j=>⟨.inl,fun q=>q.elim id fun q=>q▸qR⟩⟩
  ·exact aj ⟨bD k8 _,cont nD mz nk H2 (by have:=hp.length_eq;simp at this;omega) fun j=>by rw[hp.mem_iff,bl,aK]⟩
end
def Cu:Value->Bool
 | .str _ _=>true
 |_=>false
def qj(o:Obj):Bool:=match o.data with
 | .dict es _=>es.toList.all (fun e=>Cu e.key)
 |_=>false
def nsLook(o:Obj)(x:Str):Option Value:=match o.data with
 | .dict es _=>nsFind es x
 |_=>none
def Ri(w:World)(s:Str):Int:=if s.cps.isEmpty then 0 else reduceHash (w.params.strHash s.cps)
def put(w:World)(x:Str)(tk:Nat)(v:Value)(o:Obj):Obj:=Obj.putName x (Ri w x) (.str x tk) v o
def Fi{h:Heap}{a:Addr}{o:Obj}(ho:h.get? a=some o)(g:qj o=true):h.Ns a (nsLook o):=by
 unfold qj at g;split at g
 ·rename_i es ep hd;refine⟨o,es,ep,ho,hd,fun e he=> ?_,fun x=> ?_⟩
  ·have:=b9.mp g e (by simpa using he);unfold Cu at this;split at this
   ·rename_i s t hk;exact⟨s,t,hk⟩
   ·cases this
  ·unfold nsLook;rw[hd]
 ·cases g
section
variable{prog:Program}{w:World}{A:Around}{E:aa}{s:Shared}
def Lg{o:Obj}{es:Array DictEntry}{ep:Nat}(hd:o.data= .dict es ep)(w:World)(x:Str)(tk:Nat)(v:Value):∃lT I7,(put w x tk v o).data= .dict lT I7:=by
 obtain⟨c,d,dt,sl⟩:=o;subst hd;unfold put Obj.putName;dsimp only;generalize nsPutIn _ _ _ _=q;obtain⟨lT,b⟩:=q;cases b<;>exact⟨_,_,rfl⟩
def C6{a:Addr}{o:Obj}{x:Str}{v:Value}{Q:Unit->Shared->Prop}(ho:s.heap.get? a=some o)(g:qj o=true)
  (h:∀h',h'.objs.size=s.heap.objs.size->h'.get? a=some (put w x s.toks v o)->(∀b,b≠a->h'.get? b=s.heap.get? b)->Q () {s with heap:=h',toks:=s.toks+1}):wpAny (model prog w) A (nsSet a x v) Q E s:=by
 obtain⟨o',es,ep,qF,hd,hk,hm⟩:=Fi ho g;cases ho.symm.trans qF;intro Γ p _;simp only[nsSet,strHash,Sem.wp_bind',Sem.wp_cmd_ask,Sem.wp_pure',Sem.wp_cmd_mkText];rw[Sem.wp_loadPart_of _ Γ _ p {s with toks:=s.toks+1} (o:=o) _ ho];have Xp:es.any (·.refKey)=false:=by
  rw[Array.any_eq_false'];intro e he;obtain⟨n,t,h⟩:=hk e he;simp[DictEntry.refKey,h]
 simp only[hd,aRefKeyMayBeTheName_eq,aRefKeyMayBeTheNameByArray,Xp,Bool.and_false,az,a_,Sem.wp_cmd_updatePart];have hs:Heap.SameBut a s.heap (s.heap.update a (put w x s.toks v)):=dF ..;refine⟨by rw[ho];rfl,h _ hs.1 (cG (put w x s.toks v) ho ?_) hs.2⟩;obtain⟨lT,I7,e⟩:=Lg hd w x s.toks v;generalize put w x s.toks v o=q at e|-;obtain⟨qc,qd,qdt,qs⟩:=q;dsimp only at e;subst e;rfl
def G3(env:Env):Prop:=env.scope.kind= .module/\env.locals=env.globals
def Hw{env:Env}{x:Str}{o:Obj}{v:Value}{Q:Unit->Shared->Prop}(hm:G3 env)(hk:env.kindOf x=some .local)(ho:s.heap.get? env.locals=some o)(g:qj o=true)
  (h:∀h',h'.objs.size=s.heap.objs.size->h'.get? env.locals=some (put w x s.toks v o)->(∀b,b≠env.locals->h'.get? b=s.heap.get? b)->Q () {s with heap:=h',toks:=s.toks+1}):wpAny (model prog w) A (storeName env x v) Q E s:=by
 have e:storeName env x v=nsSet env.locals x v:=by
  unfold storeName;simp only[hk,hm.1,hm.2,dR,Bool.and_false,Bool.or_false];rfl
 rw[e];exact C6 ho g h
def l9{env:Env}{x:Str}{xp pos:Pos}{e:Expr}{Q:Flow->Shared->Prop}(hm:G3 env)(hk:env.kindOf x=some .local)(GS:swapsWith e (some (.Name x xp)) pos.line env=pure false)(Zm:swappedStores [.Name x xp] e env=pure none)
  (h:wpAny (model prog w) A (eval e env) (fun v s₁=>∃o,s₁.heap.get? env.locals=some o/\qj o=true/\∀h',h'.objs.size=s₁.heap.objs.size->h'.get? env.locals=some (put w x s₁.toks v o)->(∀b,b≠env.locals->h'.get? b=s₁.heap.get? b)->Q .next {s₁ with heap:=h',toks:=s₁.toks+1}) E s):wpAny (model prog w) A (exec (.Assign [.Name x xp] e pos) env) Q E s:=by
 show wpAny _ A (do
  standAt pos
  if<-swapsWith e (some (.Name x xp)) pos.line env then do
   evalThenUse e env fun v=>assignAll v ((assignEach [.Name x xp] env).map (·.2))
   pure .next
  else do
   let v<-eval e env
   assignStores env v (<-swappedStores [.Name x xp] e env) ((assignEach [.Name x xp] env).map (·.2))) Q E s
 refine ai (cg ?_);rw[GS,Zm];refine ai (aj ?_);rw[aD (by simp)];refine ai (bU h (fun v s₁ jC=> ?_) fun _ _ z=>z);obtain⟨o,ho,g,hQ⟩:=jC;show wpAny _ A (do assign (.Name x xp) env v;pure .next:Sem Flow) Q E s₁;exact ai (fC (Hw hm hk ho g fun h' a b c=>aj (hQ h' a b c)))
end
section
variable{prog:Program}{w:World}{A:Around}{E:aa}{s:Shared}{mg mb:Str->Option Value}{a C I:Addr}
def HG{px p1 p2 p3 pos:Pos}{iter:Expr}{scope:Scope}{code:Value}{env:Env}(hh:A.handled=none)(hk:scope.kind= .function)(Mr:scope.isCoroutine=false)(h1:scope.names.lookup ("chr":Str)=some .globalImplicit)(h2:scope.names.lookup ("i":Str)=some .local)
  (PF:env.globals=mainGlobals) (wG:mg "chr"=none) (DL:mb "chr"=some (.builtin "chr")) (Vc:C≠I) (Wn:C≠mainGlobals) (Wm:C≠builtinsNs) (Wk:I≠mainGlobals) (PK:I≠builtinsNs) (s:Shared) (F:wM mg mb C I 0 s.heap):
  Seg (model prog w) A gR (gY mg mb C I) 32 s (.compStart (.GeneratorExp (tP p1 p2 p3) [⟨.Name "i" px,iter,[],0⟩] scope pos) 0 (.ref I) .none (genEnv scope [] C code builtinsNs env))
   ((model prog w).den (.compStart (.GeneratorExp (tP p1 p2 p3) [⟨.Name "i" px,iter,[],0⟩] scope pos) 0 (.ref I) .none (genEnv scope [] C code builtinsNs env))) [] s:=by
 have loop:=LQ (prog:=prog) (w:=w) (px:=px) (p1:=p1) (p2:=p2) (p3:=p3) (pos:=pos) (iter:=iter) (code:=code) hh hk Mr h1 h2 PF wG DL Vc Wn Wm Wk PK 32 0 s rfl F;have it:=F.it;show Seg _ A _ _ _ s _ ((compStart (.GeneratorExp (tP p1 p2 p3) [⟨.Name "i" px,iter,[],0⟩] scope pos) 0 (.ref I) .none (genEnv scope [] C code builtinsNs env)).onRaise («leaving» (genEnv scope [] C code builtinsNs env))) [] s;unfold compStart;rw[Sem.onRaise_eq_wrap];show Seg _ A _ _ _ s _ ((ask >>= _).wrap _ _ _ _) [] s;refine dg (cR ?_);split
 ·exact seg_again rfl loop
 ·first
   |exact dg (dD (dg (cg (dg (fT it (seg_again rfl loop))))))
   |(refine dg (dD ?_);show Seg _ A _ _ _ s _ ((standAt iter.pos >>= _).wrap _ _ _ _) [] s;exact dg (cg (dg (fT it (seg_again rfl loop)))))
def kU.fresh{px p1 p2 p3 pos:Pos}{iter:Expr}{scope:Scope}{code:Value}{env:Env}(hh:A.handled=none)(hk:scope.kind= .function)(Mr:scope.isCoroutine=false)(h1:scope.names.lookup ("chr":Str)=some .globalImplicit)(h2:scope.names.lookup ("i":Str)=some .local)
  (PF:env.globals=mainGlobals) (wG:mg "chr"=none) (DL:mb "chr"=some (.builtin "chr")) (ap:Ec a C I) (hg:s.heap.IsGen a 0) (hl:s.heap.NoLimit) (F:wM mg mb C I 0 s.heap) (one:s.gens.size=1)
  (MC:s.gens[0]? =some (.fresh (.compStart (.GeneratorExp (tP p1 p2 p3) [⟨.Name "i" px,iter,[],0⟩] scope pos) 0 (.ref I) .none (genEnv scope [] C code builtinsNs env)))):kU prog w A mg mb a C I 0 s:=
 ⟨hg,hl,F,one,_,MC,fun uy WB=>⟨rfl,HG (A:=A.in1) hh hk Mr h1 h2 PF wG DL ap.CI ap.C1 ap.C2 ap.I1 ap.I2 uy WB⟩⟩
def F_{env:Env}{x:Str}{pos:Pos}{v:Value}{Q:aa}(hm:G3 env)(hg:s.heap.Ns env.globals mg)(hb:s.heap.Ns env.builtins mb)(h1:mg x=none)(h2:mb x=some v)(h:Q v s)
  (hd:(x==("__debug__":Str))=false:=by decide):wpAny (model prog w) A (eval (.Name x pos) env) Q E s:=
 Calls.Name_module hm.1 hm.2 (d9 hg h1 hb h2 h) hd
def ze{env:Env}{x:Str}{np pos:Pos}{e:Expr}{T:String}{Q:aa}(kD:starEach [e] env=[(false,eval e env)])(hm:G3 env)(hg:s.heap.Ns env.globals mg)(hb:s.heap.Ns env.builtins mb)(h1:mg x=none)(h2:mb x=some (.type T))
  (h:wpAny (model prog w) A (eval e env) (fun v s₁=>wpAny (model prog w) A (call (.type T) [v]) Q E s₁) E s) (hd:(x==("__debug__":Str))=false:=by decide):wpAny (model prog w) A (eval (.Call (.Name x np) [e] [] pos) env) Q E s:=by
 rw[dW,kD];refine ai (F_ hm hg hb h1 h2 ?_ hd);show wpAny _ _ (callWith pos (.type T) [] [(false,eval e env)] []) _ _ _;exact callWith_type rfl (fu (e8 (bU h (fun v s₁ jC=>gh (by simpa using jC)) fun _ _ z=>z)))
def Ru{env:Env}{x:Str}{np pos:Pos}{e:Expr}{id:String}{Q:aa}(kD:starEach [e] env=[(false,eval e env)])(hm:G3 env)(hg:s.heap.Ns env.globals mg)(hb:s.heap.Ns env.builtins mb)(h1:mg x=none)(h2:mb x=some (.builtin id))
  (h:wpAny (model prog w) A (eval e env) (fun v s₁=>wpAny (model prog w) A (call (.builtin id) [v]) Q E s₁) E s) (hd:(x==("__debug__":Str))=false:=by decide):wpAny (model prog w) A (eval (.Call (.Name x np) [e] [] pos) env) Q E s:=by
 rw[dW,kD];refine ai (F_ hm hg hb h1 h2 ?_ hd);show wpAny _ _ (callWith pos (.builtin id) [] [(false,eval e env)] []) _ _ _;exact fQ rfl (fu (e8 (bU h (fun v s₁ jC=>gh (by simpa using jC)) fun _ _ z=>z)))
end
def qg{n k j:Nat}(h:k≠j):n+k≠n+j:=fun e=>h (Nat.add_left_cancel e)
def nJ{n b k:Nat}(h:b<n):n+k≠b:=fun e=>absurd h (by omega)
def D5{n b k:Nat}(h:b<n):b≠n+k:=fun e=>absurd h (by omega)
section
variable{prog:Program}{w:World}{A:Around}{E:aa}{s:Shared}{mg mb:Str->Option Value}
def Fb(r1 r2 r3:Pos):Expr:=.Call (.Name "range" r1) [.Constant (.int 32) 0 r2] [] r3
structure Lay(env:Env)(mg mb:Str->Option Value)(c P bm:Addr)(h:Heap):Prop where
 m:G3 env
 gl:env.globals=mainGlobals
 bi:env.builtins=builtinsNs
 g:h.Ns mainGlobals mg
 b:h.Ns builtinsNs mb
 lim:h.NoLimit
 code:env.code= .ref c
 bmv:mg "__builtins__"=some (.ref bm)
 bmo:∃o,h.get? bm=some o/\o.cls= .type "module"/\o.dict=some builtinsNs/\o.data= .plain
 bn:bm≠builtinsNs
 Pn:P≠mainGlobals/\P≠builtinsNs/\P≠cStatics/\P≠bm/\P≠c
 names:mg "frozenset"=none/\mg "range"=none/\mg "chr"=none/\mb "frozenset"=some (.type "frozenset")/\mb "range"=some (.type "range")/\mb "chr"=some (.builtin "chr")
def Lay.keeps{env:Env}{c P bm:Addr}{h h':Heap}(L:Lay env mg mb c P bm h)(hk:∀b o,b≠P->h.get? b=some o->h'.get? b=some o):Lay env mg mb c P bm h':=
 {L with
  g:=L.g.at' fun o e=>hk _ o L.Pn.1.symm e
  b:=L.b.at' fun o e=>hk _ o L.Pn.2.1.symm e
  lim:=let⟨mc,a,r⟩:=L.lim;⟨mc,a.at' fun o e=>hk _ o L.Pn.2.2.1.symm e,r⟩
  bmo:=let⟨o,a,r⟩:=L.bmo;⟨o,hk _ o L.Pn.2.2.2.1.symm a,r⟩}
def LP{env:Env}{c P bm:Addr}{ps:Array Value}{px p1 p2 p3 pos r1 r2 r3:Pos}{scope:Scope}{Q:aa}(hh:A.handled=none)(mj:A.depth<recursionLimit)
  (L:Lay env mg mb c P bm s.heap) (vO:s.heap.IsCode c P ps) (DR:s.heap.TableAt c P ps) (Mp:codeAmong pos ps.toList=none) (oq:s.gens= #[])
  (hk:scope.kind= .function) (Mr:scope.isCoroutine=false) (ou:scope.freeNames=[]) (BH:closureFor scope env=pure []) (JE:∀y∈scope.names,y.2≠ .cell) (h0:scope.names.lookup (".0":Str)=some NameKind.local) (h1:scope.names.lookup ("chr":Str)=some .globalImplicit) (h2:scope.names.lookup ("i":Str)=some .local)
  (hQ:∀h' tk gens,h'.objs.size=s.heap.objs.size+7->h'.get? P=some {cls:=.none,data:=.fields (ps++ #[rawInt pos.line,rawInt pos.col,.ref (s.heap.objs.size+4)])}->
   (∀b o,b≠P->s.heap.get? b=some o->h'.get? b=some o)->(∀A':Around,A'.handled=none->kU prog w A' mg mb (s.heap.objs.size+6) (s.heap.objs.size+5) (s.heap.objs.size+1) 0 {s with heap:=h',toks:=tk,gens:=gens})->
   Q (.ref (s.heap.objs.size+6)) {s with heap:=h',toks:=tk,gens:=gens}):
  wpAny (model prog w) A (eval (.GeneratorExp (tP p1 p2 p3) [⟨.Name "i" px,Fb r1 r2 r3,[],0⟩] scope pos) env) Q E s:=by
 have hg:s.heap.Ns env.globals mg:=by rw[L.gl];exact L.g
 have hb:s.heap.Ns env.builtins mb:=by rw[L.bi];exact L.b
 have BX:∀{b o},s.heap.get? b=some o->b<s.heap.objs.size:=fun e=>bG e;refine wpAny_GeneratorExp_make Mr BH JE h0 hk mj ?_ (fun x=>rfl);refine ze (T:="range") rfl L.m hg hb L.names.2.1 L.names.2.2.2.2.1 ?_;refine wpAny_Constant_int ?_;refine call_range_1 ?_;refine wpAny_pyIter_range (IsRange.new _ _ _ _ _ _ _) (by decide) ?_;generalize Wl:(s.heap.push _).push _=H2;have wD:H2.objs.size=s.heap.objs.size+2:=by rw[<-Wl,bM,bM]
 have wH:∀b o,s.heap.get? b=some o->H2.get? b=some o:=fun b o e=>Wl▸aG _ (aG _ e);have Xd:IsRangeIter H2 (s.heap.objs.size+1) ((0:Nat):Int) ((32:Int)-(0:Nat)) 1:=by
  rw[<-Wl,show s.heap.objs.size+1=(s.heap.push _).objs.size from(bM _ _).symm];exact aM _ rfl
 have L2:=L.keeps (h':=H2) fun b o _ e=>wH b o e;refine⟨L2.lim,?_⟩;refine Dg (s:={s with heap:=H2,toks:=_}) L.code (vO.keeps wH) (DR.keeps wH) Mp ou fun h3 GN Pw Z8 MB=> ?_;have GZ:h3.objs.size=s.heap.objs.size+5:=by rw[Pw];show H2.objs.size+3=_;rw[wD]
 have Qf:∀b o,b≠P->H2.get? b=some o->h3.get? b=some o:=MB;have L3:=L2.keeps (h':=h3) Qf;obtain⟨bo,U5,Yn,R0,Z3⟩:=L3.bmo;refine wpAny_builtinsFor (s:={s with heap:=h3,toks:=GN}) (bm:=bm) (by rw[L.gl];exact L3.g) L.bmv L.bn U5 Yn R0 Z3 ?_;intro h4 XW XN;show Q (.ref h4.objs.size) _;have Vy:h4.objs.size=s.heap.objs.size+6:=by rw[XN.1,bM];show h3.objs.size+1=_;rw[GZ]
 have Wh:P<s.heap.objs.size:=vO.lt.2;have hC:h3.objs.size=s.heap.objs.size+5:=GZ;have VL:∀b o,h3.get? b=some o->h4.get? b=some o:=fun b o e=>(XN.2 b (dK (bG e))).trans (aG _ e);rw[Vy];have jQ:∀b o,s.heap.get? b=some o->b<s.heap.objs.size:=fun b o e=>bG e;obtain⟨og,_,_,MD,_⟩:=id L.g;obtain⟨ob,_,_,Xm,_⟩:=id L.b;refine hQ _ _ _ (by rw[bM,Vy]) ?_ (fun b o V_ e=>aG _ (VL b o (Qf b o V_ (wH b o e)))) fun A' hA'=> ?_
 ·have e1:=VL P _ Z8;have e2:({s with heap:=H2}:Shared).heap.objs.size+2=s.heap.objs.size+4:=by show H2.objs.size+2=_;rw[wD]
  have e3:H2.objs.size+2=s.heap.objs.size+4:=by rw[wD]
  simp only[e3]at e1;exact aG _ e1
 ·have lS:cStatics<s.heap.objs.size:=by obtain⟨_,⟨o,_,_,ho,_⟩,_⟩:=L.lim;exact jQ _ _ ho
  have lG:mainGlobals<s.heap.objs.size:=jQ _ _ MD;have lB:builtinsNs<s.heap.objs.size:=jQ _ _ Xm;have k5:∀b o,h3.get? b=some o->(h4.push {cls:=.type "generator",data:=.fields #[.int s.gens.size 0,.str "<genexpr>" (GN+1),.str (env.qual++"<genexpr>") (GN+1+1)]}).get? b=some o:=fun b o e=>aG _ (VL b o e);have L5:=L3.keeps fun b o _ e=>k5 b o e;have hI:IsRangeIter _ (s.heap.objs.size+1) ((0:Nat):Int) ((32:Int)-(0:Nat)) 1:=k5 _ _ (Qf _ _ (nJ Wh) Xd);have U1:s.gens.size=0:=by rw[oq];rfl
  have gx:(h4.push {cls:=.type "generator",data:=.fields #[.int s.gens.size 0,.str "<genexpr>" (GN+1),.str (env.qual++"<genexpr>") (GN+1+1)]}).get? (s.heap.objs.size+6)=some {cls:=.type "generator",data:=.fields #[.int s.gens.size 0,.str "<genexpr>" (GN+1),.str (env.qual++"<genexpr>") (GN+1+1)]}:=by rw[<-Vy];exact aM _ rfl
  have XU:∃m,(h4.push {cls:=.type "generator",data:=.fields #[.int s.gens.size 0,.str "<genexpr>" (GN+1),.str (env.qual++"<genexpr>") (GN+1+1)]}).Ns h3.objs.size m:=⟨_,XW.at' fun o e=>aG _ e⟩;rw[hC]at XU;refine kU.fresh (env:=env) (px:=px) (p1:=p1) (p2:=p2) (p3:=p3) (pos:=pos) (iter:=Fb r1 r2 r3) (scope:=scope) (code:=.ref (H2.objs.size+2)) hA' hk Mr h1 h2 L.gl L.names.2.2.1 L.names.2.2.2.2.2
   ⟨qg (by decide),qg (by decide),qg (by decide),nJ lG,nJ lB,nJ lS,nJ lG,nJ lB,nJ lS⟩ ?_ L5.lim ⟨hI,XU,L5.g,L5.b⟩ (by simp[U1]) ?_
  ·exact⟨_,.str "<genexpr>" (GN+1),.str (env.qual++"<genexpr>") (GN+1+1),gx,rfl,by rw[U1],rfl⟩
  ·rw[oq];show some (GenState.fresh (.compStart _ 0 (.ref ((s.heap.push {cls:=.type "range",data:=.fields #[.int 0 (s.toks+1),.int 32 s.toks,.int 1 (s.toks+1+1)]}).objs.size)) .none (genEnv scope [] h3.objs.size _ _ env)))=some _;rw[bM,hC]
end
section
variable{prog:Program}{w:World}{A:Around}{E:aa}{s:Shared}{mg mb:Str->Option Value}{env:Env}{c P bm:Addr}
def Jw{h:Heap}{a:Addr}{m:Str->Option Value}(n:h.Ns a m):a<h.objs.size:=let⟨_,_,_,ho,_⟩:=n;bG ho
def kU.keeps{a C I:Addr}{i:Nat}{h':Heap}{tk:Nat}(L:kU prog w A mg mb a C I i s)(hk:∀b o,s.heap.get? b=some o->h'.get? b=some o):kU prog w A mg mb a C I i {s with heap:=h',toks:=tk}:=
 ⟨L.gen.keeps hk,let⟨mc,a,r⟩:=L.lim;⟨mc,a.at' fun o e=>hk _ o e,r⟩,⟨hk _ _ L.F.it,let⟨m,hm⟩:=L.F.ns;⟨m,hm.at' fun o e=>hk _ o e⟩,L.F.g.at' fun o e=>hk _ o e,L.F.b.at' fun o e=>hk _ o e⟩,L.one,L.go⟩
def Lz{ps:Array Value}{px p1 p2 p3 pos r1 r2 r3 np cp:Pos}{scope:Scope}{Q:aa}(hh:A.handled=none)(mj:A.depth<recursionLimit)
  (L:Lay env mg mb c P bm s.heap) (vO:s.heap.IsCode c P ps) (DR:s.heap.TableAt c P ps) (Mp:codeAmong pos ps.toList=none) (oq:s.gens= #[])
  (hk:scope.kind= .function) (Mr:scope.isCoroutine=false) (ou:scope.freeNames=[]) (BH:closureFor scope env=pure []) (JE:∀y∈scope.names,y.2≠ .cell) (h0:scope.names.lookup (".0":Str)=some NameKind.local) (h1:scope.names.lookup ("chr":Str)=some .globalImplicit) (h2:scope.names.lookup ("i":Str)=some .local)
  (hQ:∀h' tk ks,h'.objs.size=s.heap.objs.size+12->h'.get? P=some {cls:=.none,data:=.fields (ps++ #[rawInt pos.line,rawInt pos.col,.ref (s.heap.objs.size+4)])}->
   (∀b o,b≠P->s.heap.get? b=some o->h'.get? b=some o)->gQ (PySem.strKind prog w) "frozenset" h' (s.heap.objs.size+7) ks->(∀j,j∈ks↔ ∃c,c<32/\j=⟨#[c]⟩)->ks.length<=32->
   Q (.ref (s.heap.objs.size+7)) {s with heap:=h',toks:=tk,gens:= #[.finished]}):
  wpAny (model prog w) A (eval (.Call (.Name "frozenset" np) [.GeneratorExp (tP p1 p2 p3) [⟨.Name "i" px,Fb r1 r2 r3,[],0⟩] scope pos] [] cp) env) Q E s:=by
 refine ze (T:="frozenset") rfl L.m (by rw[L.gl];exact L.g) (by rw[L.bi];exact L.b) L.names.1 L.names.2.2.2.1 ?_;refine LP (c:=c) (P:=P) (bm:=bm) (ps:=ps) hh mj L vO DR Mp oq hk Mr ou BH JE h0 h1 h2 fun ve GO JJ BL U_ I_ O7=> ?_;have live:=O7 A hh;have Wh:P<s.heap.objs.size:=vO.lt.2;have lS:cStatics<s.heap.objs.size:=by obtain⟨_,n,_⟩:=L.lim;exact Jw n
 have lG:mainGlobals<s.heap.objs.size:=Jw L.g;have lB:builtinsNs<s.heap.objs.size:=Jw L.b;have hT:=live.gen.typeIs;refine yb (T:="generator") (s:={s with heap:=ve,toks:=GO,gens:=JJ}) hT (fun o=>(live.keeps (h':=ve.push o) (tk:=GO) fun b o' e=>aG _ e).gen.typeIs) (by decide) (by rw[bE];kernel_rfl) (by rw[bE];kernel_rfl) (by decide) fun led=> ?_;have P1:({s with heap:=ve,toks:=GO,gens:=JJ}:Shared).heap.objs.size=s.heap.objs.size+7:=BL;rw[P1];have O0:=(O7 A.in1.in1.in1 hh).keeps (h':=ve.push (iJ "frozenset" #[] 0 (.fresh 0 0 led))) (tk:=GO) fun b o' e=>aG _ e;refine wpAny_pyIter_gen O0.gen ?_;have wJ:=x9 (PySem.strKind prog w) "frozenset" ve led;rw[BL]at wJ;refine LW (A:=A.in1.in1) (T:="frozenset") (sa:=s.heap.objs.size+7) hh mj ⟨qg (by decide),qg (by decide),qg (by decide),nJ lG,nJ lB,nJ lS,nJ lG,nJ lB,nJ lS⟩ ⟨qg (by decide),qg (by decide),qg (by decide),nJ lG,nJ lB,nJ lS⟩
  32 0 {s with heap:=ve.push (iJ "frozenset" #[] 0 (.fresh 0 0 led)),toks:=GO,gens:=JJ} [] rfl O0 wJ (dH _) (fun j=>by simp) fun h2 ks ux wD wH H hm hl=> ?_
 have Tc:∀b o,b<s.heap.objs.size->ve.get? b=some o->h2.get? b=some o:=fun b o hb e=>wH b o (D5 hb) (D5 hb) (D5 hb) (aG _ e);refine⟨H.typeIs (s:={s with heap:=h2,toks:=ux,gens:= #[.finished]}),hQ h2 ux ks ?_ (Tc P _ Wh U_) (fun b o V_ e=>Tc b o (bG e) (I_ b o V_ e)) H hm hl⟩;rw[wD,bM,BL]
def Rt{Q:aa}{np p1 cp:Pos}(L:Lay env mg mb c P bm s.heap)(h:Q (.str ⟨#[127]⟩ (s.toks+1)) {s with toks:=s.toks+1+1}):
  wpAny (model prog w) A (eval (.Call (.Name "chr" np) [.Constant (.int 127) 0 p1] [] cp) env) Q E s:=by
 refine Ru rfl L.m (by rw[L.gl];exact L.g) (by rw[L.bi];exact L.b) L.names.2.2.1 L.names.2.2.2.2.2 ?_;refine wpAny_Constant_int ?_;exact PyProof.Rows.chr_of_range (by omega) (by omega) h
end
end
section
open PySem PySem.W PyProof.Rows
open Builtin
noncomputable def T0 (w:World):BT:=pre.tree_171 w.params
noncomputable def kW (w:World) (a:Nat):Obj:=((T0 w).get a).getD default
structure Md(w:World)(o3 qL:Obj)(n:Nat)(s:Shared):Prop where
 size:s.heap.objs.size=n
 ns:s.heap.get? 3=some o3
 tab:s.heap.get? 12=some qL
 old:∀b,b<170->b≠3->b≠12->s.heap.get? b=(T0 w).get b
def Fo(T:String):Option Value->Bool
 |some (.type t)=>t==T
 |_=>false
def Jx(T:String):Option Value->Bool
 |some (.builtin t)=>t==T
 |_=>false
def Ct{T:String}{o:Option Value}(h:Fo T o=true):o=some (.type T):=by
 unfold Fo at h;split at h
 ·rw[aR]at h;rw[h]
 ·cases h
def LK{T:String}{o:Option Value}(h:Jx T o=true):o=some (.builtin T):=by
 unfold Jx at h;split at h
 ·rw[aR]at h;rw[h]
 ·cases h
def D6:Option Value->Bool
 |some (.ref 4)=>true
 |_=>false
def Ij{o:Option Value}(h:D6 o=true):o=some (.ref 4):=by
 unfold D6 at h;split at h
 ·rfl
 ·cases h
def mw(o:Obj):Bool:=qj o&&(nsLook o "frozenset").isNone&&(nsLook o "range").isNone&&(nsLook o "chr").isNone&&D6 (nsLook o "__builtins__")
def Pe(o:Obj):Bool:=qj o&&Fo "frozenset" (nsLook o "frozenset")&&Fo "range" (nsLook o "range")&&Jx "chr" (nsLook o "chr")
def Tt(o:Obj):Bool:=(match o.cls with| .type c=>c=="module"|_=>false)&&(match o.dict with|some d=>d==0|none=>false)&&(match o.data with| .plain=>true|_=>false)
def O1(o:Obj):Bool:=qj o&&(nsLook o "sys.recursionlimit").isNone
def LC(w:World):Pe (kW w 0)=true:=by kernel_rfl
def LB(w:World):O1 (kW w 2)=true:=by kernel_rfl
def NQ(w:World):Tt (kW w 4)=true:=by kernel_rfl
def Cn(w:World):mw (kW w 3)=true:=by kernel_rfl
def kZ{w:World}{a:Nat}(h:((T0 w).get a).isSome=true):(T0 w).get a=some (kW w a):=by
 unfold kW;cases e:(T0 w).get a with
 |none=>rw[e]at h;cases h
 |some o=>rfl
def TQ(w:World):((T0 w).get 0).isSome=true:=by kernel_rfl
def TP(w:World):((T0 w).get 2).isSome=true:=by kernel_rfl
def TN(w:World):((T0 w).get 4).isSome=true:=by kernel_rfl
def QL(w:World):((T0 w).get 13).isSome=true:=by kernel_rfl
def q7{w:World}{o3 qL:Obj}{n:Nat}{s:Shared}(M:Md w o3 qL n s)(hm:mw o3=true):Lay pre.env_1 (nsLook o3) (nsLook (kW w 0)) 13 12 4 s.heap:=by
 have b0:=LC w;have b2:=LB w;have b4:=NQ w;simp only[mw,Pe,O1,Tt,aA,fk]at hm b0 b2 b4;have e0:s.heap.get? builtinsNs=some (kW w 0):=(M.old 0 (by decide) (by decide) (by decide)).trans (kZ (TQ w));have e2:s.heap.get? cStatics=some (kW w 2):=(M.old 2 (by decide) (by decide) (by decide)).trans (kZ (TP w));have e4:s.heap.get? 4=some (kW w 4):=(M.old 4 (by decide) (by decide) (by decide)).trans (kZ (TN w));refine⟨⟨rfl,rfl⟩,rfl,rfl,Fi M.ns hm.1.1.1.1,Fi e0 b0.1.1.1,⟨_,Fi e2 b2.1,b2.2⟩,rfl,Ij hm.2,⟨_,e4,?_,?_,?_⟩,by decide,⟨by decide,by decide,by decide,by decide,by decide⟩,
  hm.1.1.1.2,hm.1.1.2,hm.1.2,Ct b0.1.1.2,Ct b0.1.2,LK b0.2⟩
 ·have:=b4.1.1;split at this
  ·rename_i c hc;rw[aR]at this;rw[hc,this]
  ·cases this
 ·have:=b4.1.2;split at this
  ·rename_i c hc;rw[aR]at this;rw[hc,this];rfl
  ·cases this
 ·have:=b4.2;split at this
  ·rename_i hc;exact hc
  ·cases this
def J9(o:Obj):Bool:=(match o.cls with| .type c=>c=="code"|_=>false)&&(match o.data with
 | .fields vs=>(match(vs[11]? :Option Value)with|some (.ref 12)=>true|_=>false)&&(match(vs.getD 11 .none:Value)with| .ref 12=>true|_=>false)&&(match(vs.getD 18 .none:Value)with| .str _ _=>true|_=>false)&&(match(vs.getD 7 .none:Value)with| .int _ _=>true|_=>false)&&(match(vs.getD 9 .none:Value)with| .bool _=>true|_=>false)&&(match(vs.getD 10 .none:Value)with| .int _ _=>true|_=>false)
 |_=>false)
def Ie(w:World):J9 (kW w 13)=true:=by kernel_rfl
def r6(o:Obj):Array Value:=match o.data with| .fields vs=>vs|_=> #[]
def As:List Value->Bool
 |[]=>true
 | .int _ _:: .int _ _::_::rest=>As rest
 |_=>false
def Hh:∀l,As l=true->TriplesOk l:=by
 intro l
 fun_induction As l with
 |case1=>intro _;trivial
 |case2 a t b u x rest ih=>intro h;unfold TriplesOk;exact ih h
 |case3=>intro h;cases h
def OS(pos:Pos)(o:Obj):Bool:=(match o.cls with| .none=>true|_=>false)&&o.dict.isNone&&(match o.data with| .fields vs=>As vs.toList&&(codeAmong pos vs.toList).isNone|_=>false)&&o.slots.isEmpty
def LA(w:World):OS ⟨201,23,201,50⟩ (kW w 12)=true:=by kernel_rfl
def Ic{o:Obj}(h:(match o.cls with| .type c=>c=="code"|_=>false)=true):o.cls= .type "code":=by
 split at h
 ·rename_i c hc;rw[aR]at h;rw[hc,h]
 ·cases h
def Oi{w:World}{o3:Obj}{n:Nat}{s:Shared}(M:Md w o3 (kW w 12) n s):s.heap.IsCode 13 12 (r6 (kW w 12))/\s.heap.TableAt 13 12 (r6 (kW w 12))/\codeAmong ⟨201,23,201,50⟩ (r6 (kW w 12)).toList=none:=by
 have Wx:s.heap.get? 13=some (kW w 13):=(M.old 13 (by decide) (by decide) (by decide)).trans (kZ (QL w));have c:=Ie w;have t:=LA w;have Wy:=M.tab;generalize kW w 13=XH at c Wx;generalize kW w 12=qL at t Wy;obtain⟨cls,dict,data,slots⟩:=qL;unfold OS at t;simp only[aA]at t;obtain⟨⟨⟨t1,t2⟩,t3⟩,t4⟩:=t;have Xl:cls= .none:=by split at t1<;>first|rfl|(rename_i h;exact h)|cases t1
 subst Xl;have Um:dict=none:=by simpa using t2
 subst Um;have Rd:slots= #[]:=by simpa using t4
 subst Rd;split at t3
 case h_2=>cases t3
 rename_i x vs;simp only[aA,fk]at t3;unfold J9 at c;simp only[aA]at c;obtain⟨c0,c⟩:=c;have hc:=Ic c0;split at c
 case h_2=>cases c
 rename_i ws UT;simp only[aA]at c;obtain⟨⟨⟨⟨⟨c1,c2⟩,c3⟩,c4⟩,c5⟩,c6⟩:=c;have d1:ws[11]? =some (.ref 12):=by split at c1<;>first|(rename_i h;exact h)|cases c1
 have d2:ws.getD 11 .none= .ref 12:=by split at c2<;>first|(rename_i h;exact h)|cases c2
 obtain⟨f,ft,d3⟩:∃f ft,ws.getD 18 .none= .str f ft:=by split at c3<;>first|(rename_i h;exact⟨_,_,h⟩)|cases c3
 obtain⟨g,gt,d4⟩:∃g gt,ws.getD 7 .none= .int g gt:=by split at c4<;>first|(rename_i h;exact⟨_,_,h⟩)|cases c4
 obtain⟨b,d5⟩:∃b,ws.getD 9 .none= .bool b:=by split at c5<;>first|(rename_i h;exact⟨_,h⟩)|cases c5
 obtain⟨i,it,d6⟩:∃i it,ws.getD 10 .none= .int i it:=by split at c6<;>first|(rename_i h;exact⟨_,_,h⟩)|cases c6
 exact⟨⟨XH,ws,f,ft,g,gt,b,i,it,_,Wx,UT,d2,d3,d4,d5,d6,Wy,rfl,Hh _ t3.1,by decide⟩,⟨⟨XH,ws,Wx,hc,UT,d1⟩,Wy⟩,t3.2⟩
def Rk:Scope:={kind:=.function,names:=[(Str.ofString ".0",.local),(Str.ofString "i",.local),(Str.ofString "chr",.globalImplicit)],isGenerator:=true,isCoroutine:=false,more:=[]}
def Tj:Expr:=.GeneratorExp (tP ⟨201,24,201,27⟩ ⟨201,28,201,29⟩ ⟨201,24,201,30⟩) [⟨.Name "i" ⟨201,35,201,36⟩,Fb ⟨201,40,201,45⟩ ⟨201,46,201,48⟩ ⟨201,40,201,49⟩,[],0⟩] Rk ⟨201,23,201,50⟩
def Ww:Expr:=.BinOp (.Call (.Name "frozenset" ⟨201,13,201,22⟩) [Tj] [] ⟨201,13,201,51⟩) .BitOr (.Call (.Name "frozenset" ⟨201,54,201,63⟩) [.Call (.Name "chr" ⟨201,64,201,67⟩) [.Constant (.int 127) 0 ⟨201,68,201,71⟩] [] ⟨201,64,201,72⟩] [] ⟨201,54,201,73⟩) ⟨201,13,201,73⟩
def Wv:Expr:=.BinOp (.Name "ASCII_CTRL" ⟨202,26,202,36⟩) .Sub (.Call (.Name "frozenset" ⟨202,39,202,48⟩) [.Constant (.str "\t") 0 ⟨202,49,202,53⟩] [] ⟨202,39,202,54⟩) ⟨202,26,202,54⟩
def Wu:Expr:=.Name "ILLEGAL_BASIC_STR_CHARS" ⟨203,28,203,51⟩
def Wt:Expr:=.Call (.Name "frozenset" ⟨204,10,204,19⟩) [.Constant (.str " \t") 0 ⟨204,20,204,25⟩] [] ⟨204,10,204,26⟩
def Ws:Expr:=.Constant (.str "0123456789") 0 ⟨205,9,205,21⟩
def Wr:Expr:=.BinOp (.BinOp (.Name "digits" ⟨206,12,206,18⟩) .Add (.Constant (.str "abcdef") 0 ⟨206,21,206,29⟩) ⟨206,12,206,29⟩) .Add (.Constant (.str "ABCDEF") 0 ⟨206,32,206,40⟩) ⟨206,12,206,40⟩
def SP:Expr:=.Call (.Name "frozenset" ⟨207,17,207,26⟩) [.Name "hexdigits" ⟨207,27,207,36⟩] [] ⟨207,17,207,37⟩
def Pr:List Stmt:=[.Assign [.Name "ASCII_CTRL" ⟨201,0,201,10⟩] Ww ⟨201,0,201,73⟩,.Assign [.Name "ILLEGAL_BASIC_STR_CHARS" ⟨202,0,202,23⟩] Wv ⟨202,0,202,54⟩,.Assign [.Name "ILLEGAL_LITERAL_STR_CHARS" ⟨203,0,203,25⟩] Wu ⟨203,0,203,51⟩,
 .Assign [.Name "TOML_WS" ⟨204,0,204,7⟩] Wt ⟨204,0,204,26⟩,.Assign [.Name "digits" ⟨205,0,205,6⟩] Ws ⟨205,0,205,21⟩,.Assign [.Name "hexdigits" ⟨206,0,206,9⟩] Wr ⟨206,0,206,40⟩,.Assign [.Name "HEXDIGIT_CHARS" ⟨207,0,207,14⟩] SP ⟨207,0,207,37⟩]
def XE:pF 25 32=Pr:=by kernel_rfl
section
variable{w:World}{A:Around}{E:aa}{s:Shared}
abbrev Mq(w:World):Model:=model pq w
abbrev KS(w:World):KeyKind pq w Str:=PySem.strKind pq w
def Md.keep{o3 qL:Obj}{n n':Nat}{h':Heap}{tk:Nat}{gens:Array GenState}(M:Md w o3 qL n s)(hz:h'.objs.size=n')(hk:Kept s.heap h')(nP:∀b,b<170->((T0 w).get b).isSome=true):Md w o3 qL n' {s with heap:=h',toks:=tk,gens:=gens}:=
 ⟨hz,hk _ _ M.ns,hk _ _ M.tab,fun b hb h3 y9=>(hk b _ ((M.old b hb h3 y9).trans (kZ (nP b hb)))).trans (kZ (nP b hb)).symm⟩
def Md.put{o3 qL o':Obj}{n:Nat}{h':Heap}{tk:Nat}(M:Md w o3 qL n s)(hz:h'.objs.size=s.heap.objs.size)(h3:h'.get? 3=some o')(hk:∀b,b≠3->h'.get? b=s.heap.get? b):Md w o' qL n {s with heap:=h',toks:=tk}:=
 ⟨hz.trans M.size,h3,(hk 12 (by decide)).trans M.tab,fun b hb n3 UN=>(hk b n3).trans (M.old b hb n3 UN)⟩
end
def Ox(w:World):((List.range 170).all fun b=>((T0 w).get b).isSome)=true:=by kernel_rfl
def pX(w:World)(b:Nat)(h:b<170):((T0 w).get b).isSome=true:=b9.mp (Ox w) b (bK.mpr h)
def ch(c:Nat):Str:=⟨#[c]⟩
def I0:List Str:=(List.range 32).map ch++[ch 127]
def Ih:I0.Nodup:=by decide+kernel
def Gk(j:Str):j∈I0↔(∃c,c<32/\j=ch c)\/j=ch 127:=by
 unfold I0;rw[bl,b_,aK];constructor
 ·rintro(⟨c,hc,rfl⟩|h)
  ·exact .inl ⟨c,bK.mp hc,rfl⟩
  ·exact .inr h
 ·rintro(⟨c,hc,rfl⟩|h)
  ·exact .inl ⟨c,bK.mpr hc,rfl⟩
  ·exact .inr h
section
variable{w:World}{A:Around}{E:aa}{s:Shared}
noncomputable def MJ (w:World):Obj:={cls:=.none,data:=.fields (r6 (kW w 12)++ #[rawInt 201,rawInt 23,.ref 174])}
def Md.kept{o3 qL:Obj}{n n':Nat}{h':Heap}{tk:Nat}{gens:Array GenState}(M:Md w o3 qL n s)(hz:h'.objs.size=n')(hk:Kept s.heap h'):Md w o3 qL n' {s with heap:=h',toks:=tk,gens:=gens}:=M.keep hz hk (pX w)
def WN{Q:Flow->Shared->Prop}(hh:A.handled=none)(mj:A.depth<recursionLimit)(M:Md w (kW w 3) (kW w 12) 170 s)(oq:s.gens= #[])
  (hQ:∀h' tk GP ks,Md w (put w "ASCII_CTRL" GP (.ref 186) (kW w 3)) (MJ w) 187 {s with heap:=h',toks:=tk,gens:= #[.finished]}->gQ (KS w) "frozenset" h' 186 ks->(∀j,j∈ks↔j∈I0)->Q .next {s with heap:=h',toks:=tk,gens:= #[.finished]}):
  wpAny (Mq w) A (exec (.Assign [.Name "ASCII_CTRL" ⟨201,0,201,10⟩] Ww ⟨201,0,201,73⟩) pre.env_1) Q E s:=by
 have L:=q7 M (Cn w);obtain⟨vO,DR,Mp⟩:=Oi M;have hz:=M.size;refine l9 L.m (by kernel_rfl) (by first|rfl|kernel_rfl) (by first|rfl|kernel_rfl) ?_;unfold Ww Tj;refine wpAny_BinOp ?_;refine Lz (c:=13) (P:=12) (bm:=4) hh mj L vO DR Mp oq rfl rfl (by decide+kernel) (by rfl) (by decide+kernel) (by decide+kernel) (by decide+kernel) (by decide+kernel) fun h1 GO k1 BL U_ I_ H1 PD Su=> ?_;rw[hz]at BL U_ H1|-;have L1:=L.keeps I_;refine ze (T:="frozenset") (s:={s with heap:=h1,toks:=GO,gens:= #[.finished]}) rfl L1.m L1.g L1.b L1.names.1 L1.names.2.2.2.1 ?_;refine Rt (s:={s with heap:=h1,toks:=GO,gens:= #[.finished]}) L1 ?_;refine rY (s:={s with heap:=h1,toks:=GO+1+1,gens:= #[.finished]}) hh (by decide+kernel) (by decide) fun h2 k2 ux wD wH H2 Ad yz=> ?_;have P1:({s with heap:=h1,toks:=GO+1+1,gens:= #[.finished]}:Shared).heap.objs.size=182:=BL;rw[P1]at wD H2|-;have PN:=H1.keep fun o e=>wH _ o e;have c2:∀j,j∈k2↔j=ch 127:=fun j=>by
  rw[Ad j];exact⟨fun⟨c,hc,e⟩=>by rw[aK.mp hc]at e;exact e,fun e=>⟨127,by simp,e⟩⟩
 refine Up (s:={s with heap:=h2,toks:=ux,gens:= #[.finished]}) PN H2 (by have:k2.length<=1:=yz;omega) (fun e=>by
   have:=(PD ⟨#[0]⟩).mpr ⟨0,by decide,rfl⟩;rw[e]at this;cases this) fun h3 k3 Pw MB VG H3=> ?_
 have GZ:h3.objs.size=187:=by rw[Pw];show h2.objs.size+1=_;rw[wD]
 have PZ:({s with heap:=h2,toks:=ux,gens:= #[.finished]}:Shared).heap.objs.size=186:=wD;rw[PZ]at H3|-;have old:∀b o,b≠12->s.heap.get? b=some o->h3.get? b=some o:=fun b o hb e=>MB _ _ (wH _ _ (I_ b o hb e));refine⟨kW w 3,old 3 _ (by decide) M.ns,by have:=Cn w;simp only[mw,aA]at this;exact this.1.1.1.1,fun h4 z4 e4 k4=> ?_⟩;refine hQ h4 (ux+1) ux k3 ⟨z4.trans GZ,e4,?_,fun b hb n3 UN=> ?_⟩ (H3.at (k4 186 (by decide))) fun j=> ?_
 ·exact(k4 12 (by decide)).trans (MB _ _ (wH _ _ U_))
 ·have vP:=kZ (pX w b hb);exact(k4 b n3).trans ((old b _ UN ((M.old b hb n3 UN).trans vP)).trans vP.symm)
 ·rw[VG j,c2 j,Gk,PD j];rfl
def rP{o:Obj}(h:mw o=true):qj o=true:=by simp only[mw,aA]at h;exact h.1.1.1.1
def MP{n:Nat}{o3 qL:Obj}{x:Str}{pos:Pos}{v:Value}{Q:aa}(M:Md w o3 qL n s)(hm:mw o3=true)(hv:nsLook o3 x=some v)(h:Q v s)(hd:(x==("__debug__":Str))=false:=by decide):wpAny (Mq w) A (eval (.Name x pos) pre.env_1) Q E s:=
 Calls.Name_module rfl rfl (fK (q7 M hm).g hv h) hd
def WM{o3 qL:Obj}{ks:List Str}{Q:Flow->Shared->Prop}(hh:A.handled=none)(M:Md w o3 qL 187 s)(hm:mw o3=true)(hv:nsLook o3 "ASCII_CTRL"=some (.ref 186))(H:gQ (KS w) "frozenset" s.heap 186 ks)(MA:∀j,j∈ks↔j∈I0)
  (hQ:∀h' tk GP ks,Md w (put w "ILLEGAL_BASIC_STR_CHARS" GP (.ref 191) o3) qL 192 {s with heap:=h',toks:=tk}->gQ (KS w) "frozenset" h' 191 ks->(∀j,j∈ks↔j∈I0/\j≠ch 9)->Q .next {s with heap:=h',toks:=tk}):
  wpAny (Mq w) A (exec (.Assign [.Name "ILLEGAL_BASIC_STR_CHARS" ⟨202,0,202,23⟩] Wv ⟨202,0,202,54⟩) pre.env_1) Q E s:=by
 have L:=q7 M hm;refine l9 L.m (by kernel_rfl) (by first|rfl|kernel_rfl) (by first|rfl|kernel_rfl) ?_;unfold Wv;refine wpAny_BinOp (MP M hm hv ?_);refine ze (T:="frozenset") rfl L.m L.g L.b L.names.1 L.names.2.2.2.1 ?_;refine fV ?_;refine rY (s:={s with toks:=s.toks+1}) hh (by decide+kernel) (by decide) fun h2 k2 ux wD wH H2 Ad yz=> ?_;have BL:({s with toks:=s.toks+1}:Shared).heap.objs.size=187:=M.size;rw[BL]at wD H2|-;have c2:∀j,j∈k2↔j=ch 9:=fun j=>by
  rw[Ad j];exact⟨fun⟨c,hc,e⟩=>by rw[show(Str.ofString "\t").cps.toList=[9]from by decide+kernel,aK]at hc;rw[hc]at e;exact e,fun e=>⟨9,by rw[show(Str.ofString "\t").cps.toList=[9]from by decide+kernel];simp,e⟩⟩
 have PN:=H.keep fun o e=>wH _ o e;have Su:k2.length<=1:=yz;have I_:k2=[ch 9]:=by
  cases hk:k2 with
  |nil=>have:=(c2 (ch 9)).mpr rfl;rw[hk]at this;cases this
  |cons a r=>
   rw[hk]at Su;have:r=[]:=cj (by simp at Su;simpa using Su);subst this;rw[(c2 a).mp (by rw[hk];simp)]
 subst I_;have n1:ks.length<=I0.length:=nX H.nodup fun x hx=>(MA x).mp hx;have n2:I0.length<=ks.length:=nX Ih fun x hx=>(MA x).mpr hx;have n3:I0.length=33:=by decide+kernel
 refine Rm (s:={s with heap:=h2,toks:=ux}) PN H2 (by omega) (by omega) fun h3 k3 Pw MB VG H3=> ?_;have GZ:h3.objs.size=192:=by rw[Pw];show h2.objs.size+1=_;rw[wD]
 have PZ:({s with heap:=h2,toks:=ux}:Shared).heap.objs.size=191:=wD;rw[PZ]at H3|-;have M3:Md w o3 qL 192 {s with heap:=h3,toks:=ux}:=M.kept GZ fun b o e=>MB _ _ (wH _ _ e);refine⟨o3,M3.ns,rP hm,fun h4 z4 e4 k4=> ?_⟩;refine hQ h4 (ux+1) ux k3 (M3.put (h':=h4) (tk:=ux+1) z4 e4 k4) (H3.at (k4 191 (by decide))) fun j=> ?_;rw[VG j,MA j]
def WL{o3 qL:Obj}{Q:Flow->Shared->Prop}(M:Md w o3 qL 192 s)(hm:mw o3=true)(hv:nsLook o3 "ILLEGAL_BASIC_STR_CHARS"=some (.ref 191))
  (hQ:∀h' tk GP,Md w (put w "ILLEGAL_LITERAL_STR_CHARS" GP (.ref 191) o3) qL 192 {s with heap:=h',toks:=tk}->(∀b,b≠3->h'.get? b=s.heap.get? b)->Q .next {s with heap:=h',toks:=tk}):
  wpAny (Mq w) A (exec (.Assign [.Name "ILLEGAL_LITERAL_STR_CHARS" ⟨203,0,203,25⟩] Wu ⟨203,0,203,51⟩) pre.env_1) Q E s:=by
 have L:=q7 M hm;refine l9 L.m (by kernel_rfl) (by first|rfl|kernel_rfl) (by first|rfl|kernel_rfl) ?_;unfold Wu;exact MP M hm hv ⟨o3,M.ns,rP hm,fun h4 z4 e4 k4=>hQ h4 _ _ (M.put (tk:=s.toks+1) z4 e4 k4) k4⟩
def WK{o3 qL:Obj}{Q:Flow->Shared->Prop}(hh:A.handled=none)(M:Md w o3 qL 192 s)(hm:mw o3=true)
  (hQ:∀h' tk GP ks,Md w (put w "TOML_WS" GP (.ref 192) o3) qL 196 {s with heap:=h',toks:=tk}->(∀b o,b≠3->s.heap.get? b=some o->h'.get? b=some o)->gQ (KS w) "frozenset" h' 192 ks->(∀j,j∈ks↔j=ch 32\/j=ch 9)->Q .next {s with heap:=h',toks:=tk}):
  wpAny (Mq w) A (exec (.Assign [.Name "TOML_WS" ⟨204,0,204,7⟩] Wt ⟨204,0,204,26⟩) pre.env_1) Q E s:=by
 have L:=q7 M hm;refine l9 L.m (by kernel_rfl) (by first|rfl|kernel_rfl) (by first|rfl|kernel_rfl) ?_;unfold Wt;refine ze (T:="frozenset") rfl L.m L.g L.b L.names.1 L.names.2.2.2.1 ?_;refine fV ?_;refine rY (s:={s with toks:=s.toks+1}) hh (by decide+kernel) (by decide) fun h2 k2 ux wD wH H2 Ad yz=> ?_;have BL:({s with toks:=s.toks+1}:Shared).heap.objs.size=192:=M.size;rw[BL]at wD H2|-;have M2:Md w o3 qL 196 {s with heap:=h2,toks:=ux}:=M.kept wD wH;refine⟨o3,M2.ns,rP hm,fun h4 z4 e4 k4=> ?_⟩;refine hQ h4 (ux+1) ux k2 (M2.put (h':=h4) (tk:=ux+1) z4 e4 k4) (fun b o hb e=>(k4 b hb).trans (wH b o e)) (H2.at (k4 192 (by decide))) fun j=> ?_;rw[Ad j];have e0:(Str.ofString " \t").cps.toList=[32,9]:=by decide+kernel
 constructor
 ·rintro⟨c,hc,rfl⟩;rw[e0]at hc;rcases aY.mp hc with rfl|hc
  ·exact .inl rfl
  ·rw[aK]at hc;subst hc;exact .inr rfl
 ·rintro(rfl|rfl)
  ·exact⟨32,by rw[e0];simp,rfl⟩
  ·exact⟨9,by rw[e0];simp,rfl⟩
def WJ{o3 qL:Obj}{Q:Flow->Shared->Prop}(M:Md w o3 qL 196 s)(hm:mw o3=true)
  (hQ:∀h' tk GP t,Md w (put w "digits" GP (.str "0123456789" t) o3) qL 196 {s with heap:=h',toks:=tk}->(∀b,b≠3->h'.get? b=s.heap.get? b)->Q .next {s with heap:=h',toks:=tk}):
  wpAny (Mq w) A (exec (.Assign [.Name "digits" ⟨205,0,205,6⟩] Ws ⟨205,0,205,21⟩) pre.env_1) Q E s:=by
 have L:=q7 M hm;refine l9 L.m (by kernel_rfl) (by first|rfl|kernel_rfl) (by first|rfl|kernel_rfl) ?_;unfold Ws;exact fV ⟨o3,M.ns,rP hm,fun h4 z4 e4 k4=>hQ h4 _ _ _ (M.put (tk:=s.toks+1+1) z4 e4 k4) k4⟩
def uJ:Str:=Str.ofString "0123456789"++Str.ofString "abcdef"++Str.ofString "ABCDEF"
def WI{o3 qL:Obj}{t0:Tok}{Q:Flow->Shared->Prop}(M:Md w o3 qL 196 s)(hm:mw o3=true)(hv:nsLook o3 "digits"=some (.str "0123456789" t0))
  (hQ:∀h' tk GP t,Md w (put w "hexdigits" GP (.str uJ t) o3) qL 196 {s with heap:=h',toks:=tk}->(∀b,b≠3->h'.get? b=s.heap.get? b)->Q .next {s with heap:=h',toks:=tk}):
  wpAny (Mq w) A (exec (.Assign [.Name "hexdigits" ⟨206,0,206,9⟩] Wr ⟨206,0,206,40⟩) pre.env_1) Q E s:=by
 have L:=q7 M hm;refine l9 L.m (by kernel_rfl) (by first|rfl|kernel_rfl) (by first|rfl|kernel_rfl) ?_;unfold Wr;refine wpAny_BinOp (wpAny_BinOp (MP M hm hv (fV (PyProof.Rows.add_str (fun t1 GO=>fV (PyProof.Rows.add_str (fun t2 ux=> ?_) (by decide+kernel))) (by decide+kernel)))));exact⟨o3,M.ns,rP hm,fun h4 z4 e4 k4=>hQ h4 _ _ _ (M.put (tk:=ux+1) z4 e4 k4) k4⟩
def WH{o3 qL:Obj}{t0:Tok}{Q:Flow->Shared->Prop}(hh:A.handled=none)(M:Md w o3 qL 196 s)(hm:mw o3=true)(hv:nsLook o3 "hexdigits"=some (.str uJ t0))
  (hQ:∀h' tk GP ks,Md w (put w "HEXDIGIT_CHARS" GP (.ref 196) o3) qL 200 {s with heap:=h',toks:=tk}->(∀b o,b≠3->s.heap.get? b=some o->h'.get? b=some o)->gQ (KS w) "frozenset" h' 196 ks->(∀j,j∈ks↔ ∃c∈uJ.cps.toList,j=ch c)->Q .next {s with heap:=h',toks:=tk}):
  wpAny (Mq w) A (exec (.Assign [.Name "HEXDIGIT_CHARS" ⟨207,0,207,14⟩] SP ⟨207,0,207,37⟩) pre.env_1) Q E s:=by
 have L:=q7 M hm;refine l9 L.m (by kernel_rfl) (by first|rfl|kernel_rfl) (by first|rfl|kernel_rfl) ?_;unfold SP;refine ze (T:="frozenset") rfl L.m L.g L.b L.names.1 L.names.2.2.2.1 ?_;refine MP M hm hv ?_;refine rY hh (by decide+kernel) (by decide+kernel) fun h2 k2 ux wD wH H2 Ad yz=> ?_;have BL:=M.size;rw[BL]at wD H2|-;have M2:Md w o3 qL 200 {s with heap:=h2,toks:=ux}:=M.kept wD wH;refine⟨o3,M2.ns,rP hm,fun h4 z4 e4 k4=> ?_⟩;exact hQ h4 (ux+1) ux k2 (M2.put (h':=h4) (tk:=ux+1) z4 e4 k4) (fun b o hb e=>(k4 b hb).trans (wH b o e)) (H2.at (k4 196 (by decide))) Ad
end
noncomputable def n1 (w:World) (t1:Nat):Obj:=put w "ASCII_CTRL" t1 (.ref 186) (kW w 3)
noncomputable def n2 (w:World) (t1 t2:Nat):Obj:=put w "ILLEGAL_BASIC_STR_CHARS" t2 (.ref 191) (n1 w t1)
noncomputable def n3 (w:World) (t1 t2 t3:Nat):Obj:=put w "ILLEGAL_LITERAL_STR_CHARS" t3 (.ref 191) (n2 w t1 t2)
noncomputable def n4 (w:World) (t1 t2 t3 t4:Nat):Obj:=put w "TOML_WS" t4 (.ref 192) (n3 w t1 t2 t3)
noncomputable def n5 (w:World) (t1 t2 t3 t4 t5:Nat) (d:Tok):Obj:=put w "digits" t5 (.str "0123456789" d) (n4 w t1 t2 t3 t4)
noncomputable def n6 (w:World) (t1 t2 t3 t4 t5 t6:Nat) (d e:Tok):Obj:=put w "hexdigits" t6 (.str uJ e) (n5 w t1 t2 t3 t4 t5 d)
noncomputable def n7 (w:World) (t1 t2 t3 t4 t5 t6 t7:Nat) (d e:Tok):Obj:=put w "HEXDIGIT_CHARS" t7 (.ref 196) (n6 w t1 t2 t3 t4 t5 t6 d e)
def m1(w t1):mw (n1 w t1)=true:=by kernel_rfl
def m2(w t1 t2):mw (n2 w t1 t2)=true:=by kernel_rfl
def m3(w t1 t2 t3):mw (n3 w t1 t2 t3)=true:=by kernel_rfl
def m4(w t1 t2 t3 t4):mw (n4 w t1 t2 t3 t4)=true:=by kernel_rfl
def m5(w t1 t2 t3 t4 t5 d):mw (n5 w t1 t2 t3 t4 t5 d)=true:=by kernel_rfl
def m6(w t1 t2 t3 t4 t5 t6 d e):mw (n6 w t1 t2 t3 t4 t5 t6 d e)=true:=by kernel_rfl
section
variable{w:World}{A:Around}{E:aa}{s:Shared}
def lZ{st:Stmt}{rest:List Stmt}{env:Env}{M:Model}{Q:Flow->Shared->Prop}(h:wpAny M A (exec st env) (fun f s'=>f= .next/\wpAny M A (execs rest env) Q E s') E s):wpAny M A (execs (st::rest) env) Q E s:=by
 show wpAny M A (exec st env >>= _) Q E s;exact ai (bU h (fun f s' hf=>by obtain⟨rfl,hf⟩:=hf;exact hf) fun _ _ z=>z)
structure w7(w:World)(s:Shared):Prop where
 md:∃t1 t2 t3 t4 t5 t6 t7 d e,Md w (n7 w t1 t2 t3 t4 t5 t6 t7 d e) (MJ w) 200 s
 gens:s.gens= #[.finished]
 lit:∃ks,gQ (KS w) "frozenset" s.heap 191 ks/\∀j,j∈ks↔j∈I0/\j≠ch 9
 ws:∃ks,gQ (KS w) "frozenset" s.heap 192 ks/\∀j,j∈ks↔j=ch 32\/j=ch 9
 hex:∃ks,gQ (KS w) "frozenset" s.heap 196 ks/\∀j,j∈ks↔ ∃c∈uJ.cps.toList,j=ch c
def NI{Q:Flow->Shared->Prop}(hh:A.handled=none)(mj:A.depth<recursionLimit)(M:Md w (kW w 3) (kW w 12) 170 s)(oq:s.gens= #[])
  (hQ:∀h' tk,w7 w {s with heap:=h',toks:=tk,gens:= #[.finished]}->Q .next {s with heap:=h',toks:=tk,gens:= #[.finished]}):wpAny (Mq w) A (execs Pr pre.env_1) Q E s:=by
 unfold Pr;refine lZ (WN hh mj M oq fun h1 GO t1 k1 M1 H1 c1=>⟨rfl,?_⟩);refine lZ (WM (s:={s with heap:=h1,toks:=GO,gens:= #[.finished]}) hh M1 (m1 w t1) (by kernel_rfl) H1 c1 fun h2 ux t2 k2 M2 H2 c2=>⟨rfl,?_⟩);refine lZ (WL (s:={s with heap:=h2,toks:=ux,gens:= #[.finished]}) M2 (m2 w t1 t2) (by kernel_rfl) fun h3 GN t3 M3 K3=>⟨rfl,?_⟩);refine lZ (WK (s:={s with heap:=h3,toks:=GN,gens:= #[.finished]}) hh M3 (m3 w t1 t2 t3) fun h4 YV t4 k4 M4 K4 H4 c4=>⟨rfl,?_⟩);refine lZ (WJ (s:={s with heap:=h4,toks:=YV,gens:= #[.finished]}) M4 (m4 w t1 t2 t3 t4) fun h5 YU t5 d M5 K5=>⟨rfl,?_⟩);refine lZ (WI (s:={s with heap:=h5,toks:=YU,gens:= #[.finished]}) M5 (m5 w t1 t2 t3 t4 t5 d) (t0:=d) (by kernel_rfl) fun h6 YT t6 e M6 K6=>⟨rfl,?_⟩);refine lZ (WH (s:={s with heap:=h6,toks:=YT,gens:= #[.finished]}) hh M6 (m6 w t1 t2 t3 t4 t5 t6 d e) (t0:=e) (by kernel_rfl) fun h7 YS t7 k7 M7 K7 H7 c7=>⟨rfl,?_⟩);show wpAny _ _ (pure Flow.next:Sem Flow) _ _ _;refine aj (hQ h7 YS ⟨⟨t1,t2,t3,t4,t5,t6,t7,d,e,M7⟩,rfl,⟨k2,?_,c2⟩,⟨k4,?_,c4⟩,⟨k7,H7,c7⟩⟩)
 ·exact((((H2.at (K3 191 (by decide))).keep fun o x=>K4 191 o (by decide) x).at (K5 191 (by decide))).at (K6 191 (by decide))).keep fun o x=>K7 191 o (by decide) x
 ·exact((H4.at (K5 192 (by decide))).at (K6 192 (by decide))).keep fun o x=>K7 192 o (by decide) x
end
end
section
open PySem PySem.W PyProof.Rows
def wI(p:Program)(w:World)(s:Shared)(t:Thread)(o:Outcome)(r:Shared):Prop:=
 (∃N,runN (denote table) p w N s t= .halted o r)/\∀k s₁ sF,runN (denote table) p w k s t= .running s₁ sF->sF.calm=true
section
variable{p:Program}{w:World}{yF:Nat}{ann:Option Value}
def vt{t:Thread}(h:stepOk yF ann t=true):t.calm=true:=by
 unfold stepOk at h;exact(Bool.and_eq_true_iff.mp h).1
def wI.step{s s' r:Shared}{t t':Thread}{o:Outcome}(hc:t.calm=true)(hs:step (denote table) p w s t= .go s' t')(h:wI p w s' t' o r):wI p w s t o r:=by
 obtain⟨⟨N,hN⟩,hk⟩:=h;refine⟨⟨N+1,by simp only[runN,hs];exact hN⟩,fun k s₁ sF e=> ?_⟩;cases k with
 |zero=>cases e;exact hc
 |succ k=>simp only[runN,hs]at e;exact hk k s₁ sF e
def Gu:∀{m:Nat}{s s' r:Shared}{t t':Thread}{o:Outcome},topGo table p w yF ann m s t=some (s',t')->wI p w s' t' o r->wI p w s t o r
 |0,s,s',r,t,t',o,h,k=>by
  obtain⟨rfl,rfl⟩:s=s'/\t=t':=by simpa[topGo]using h
  exact k
 |m+1,s,s',r,t,t',o,h,k=>by
  unfold topGo at h;cases ht:through t with
  |true=>rw[ht]at h;cases h
  |false=>
   rw[ht]at h;cases hk:stepOk yF ann t with
   |false=>rw[hk]at h;cases h
   |true=>
    rw[hk]at h;cases hs:step (denote table) p w s t with
    |halt o jy=>rw[hs]at h;cases h
    |go jy DN=>rw[hs]at h;exact wI.step (vt hk) hs (Gu h k)
end
section
variable{α:Type}{p:Program}{w:World}{yF:Nat}{ann:Option Value}{B:List Frame}{K':α->Sem Fin}{H':Value->Sem Fin}{gd:Bool->Bool}{lv:List Value->List Value}{res:α->Flow}
def xj(hB:splitAtGen B=none):∀(n:Nat)(s:Shared)(t t':Thread)(f:Flow)(s':Shared)(c':Code)(p':Pos),Rel2 (fun a=>.pure (.done (res a))) K' deadEnd H' gd lv B t t'->
  segRun table p w yF ann B.length n s t=some (f,s',c',p')->∃a,res a=f/\∀o r,wI p w s' ⟨K' a,c',p',B⟩ o r->wI p w s t' o r
 |0,_,_,_,_,_,_,_,_,h=>by simp[segRun]at h
 |n+1,s,⟨cur,code,pos,st⟩,⟨Tp,YN,aaz,gV⟩,f,s',c',p',R,h=>by
  obtain⟨e1,e2,R⟩:=R;dsimp only at e1 e2 R;subst e1 e2;unfold segRun at h;cases he:endAt B.length ⟨cur,code,pos,st⟩with
  |some g=>
   rw[he]at h;obtain⟨rfl,rfl,rfl,rfl⟩:g=f/\s=s'/\code=c'/\pos=p':=by simpa using h
   rcases R with⟨rfl,rfl,x,rfl,rfl⟩|⟨rfl,F⟩
   ·cases x with
    |pure a=>
     simp only[endAt,Sem.wrap,bJ,aW]at he;exact⟨a,he,fun o r k=>k⟩
    |_=>simp[endAt,Sem.wrap]at he
   ·have l:=F.longer.1;have:((st.length==B.length)=false):=aO.mpr (Nat.ne_of_gt l);simp only[endAt,this]at he;cases he
  |none=>
   rw[he]at h;cases hk:stepOk yF ann ⟨cur,code,pos,st⟩with
   |false=>rw[hk]at h;cases h
   |true=>
    rw[hk]at h;cases hs:step (denote table) p w s ⟨cur,code,pos,st⟩with
    |halt o jy=>rw[hs]at h;cases h
    |go jy DN=>
     rw[hs]at h;obtain⟨k1,E_,k3,R'⟩:stepOk yF ann ⟨Tp,code,pos,gV⟩=true/\∃E_,step (denote table) p w s ⟨Tp,code,pos,gV⟩= .go jy E_/\Rel2 (fun a=>.pure (.done (res a))) K' deadEnd H' gd lv B DN E_:=by
      rcases R with⟨rfl,rfl,x,rfl,rfl⟩|⟨rfl,F⟩
      ·have hp:∀a,x≠ .pure a:=by
        rintro a rfl;simp[endAt,Sem.wrap]at he
       have hr:∀e,x≠ .raise e:=by
        rintro e rfl;simp only[Sem.wrap,PySem.step]at hs;cases hs
       exact⟨(okOuter (K':=K') (H':=H') hp hr hk).1,step_outer hB hp hs⟩
      ·exact⟨(okInner hB F hk).1,step_inner hB F hs⟩
     obtain⟨a,ha,q⟩:=xj hB n jy DN E_ f s' c' p' R' h;exact⟨a,ha,fun o r k=>wI.step (vt k1) k3 (q o r k)⟩
end
section
variable{p:Program}{w:World}{yF:Nat}{ann:Option Value}{env:Env}{q:Pos}
def vA{n:Nat}{s s' r:Shared}{l rest:List Stmt}{c:Code}{pos p':Pos}{o:Outcome}(h:segRun table p w yF ann 1 n s (piecesOf l env c pos [topFrame q])=some (.next,s',c,p'))
  (k:wI p w s' (restOf rest env c p' [topFrame q]) o r):wI p w s (restOf (l++rest) env c pos [topFrame q]) o r:=by
 obtain⟨a,ha,hN⟩:=xj (res:=id) (K':=fun f=>match f with| .next=>(execs rest env).wrap doneF (leaveH env) id id|f=>doneF f) (H':=leaveH env) (B:=[topFrame q]) rfl n s (piecesOf l env c pos [topFrame q])
  ⟨(execs l env).wrap (fun f=>match f with| .next=>(execs rest env).wrap doneF (leaveH env) id id|f=>doneF f) (leaveH env) id id,c,pos,[topFrame q]⟩ _ _ _ _ ⟨rfl,rfl,.inl ⟨rfl,rfl,_,rfl,rfl⟩⟩ h
 obtain rfl:a= .next:=ha
 have:=hN o r k;unfold restOf;rw[execs_app_wrap];exact this
def E0{n:Nat}{s s' r:Shared}{b:List Stmt}{c:Code}{pos p':Pos}{o:Outcome}(h:segRun table p w yF ann 1 n s (blockOf b env c pos [topFrame q])=some (.next,s',c,p'))
  (k:wI p w s' (restOf b env c p' [topFrame q]) o r):wI p w s ⟨denote table (.body b env),c,pos,[topFrame q]⟩ o r:=by
 obtain⟨a,ha,hN⟩:=xj (res:=fun _:Unit=>Flow.next) (K':=fun _=>(execs b env).wrap doneF (leaveH env) id id) (H':=Sem.raise) (B:=[topFrame q]) rfl n s (blockOf b env c pos [topFrame q])
  ⟨(blockStart b env).wrap (fun _=>(execs b env).wrap doneF (leaveH env) id id) .raise id id,c,pos,[topFrame q]⟩ _ _ _ _ ⟨rfl,rfl,.inl ⟨rfl,rfl,_,rfl,rfl⟩⟩ h
 rw[body_wrap];exact hN o r k
def LY{s:Shared}{c:Code}{pos:Pos}(hg:leftWithCleanup s.gens=false):wI p w s (restOf [] env c pos [topFrame q]) (.done (.ret .none)) s:=by
 refine wI.step (s':=s) (t':=⟨.pure (.done (.ret .none)),.builtin "claim.caller" {},q,[]⟩) rfl rfl ?_;refine⟨⟨1,?_⟩,fun k s₁ sF e=> ?_⟩
 ·show(match step (denote table) p w s _ with| .go s' t'=>_| .halt o s'=>Run.halted o s')=_;simp only[PySem.step,PySem.finish,hg,az,a_]
 ·cases k with
  |zero=>cases e;rfl
  |succ k=>
   simp only[runN,PySem.step,PySem.finish,hg,az,a_]at e;cases e
end
def S4(f:Nat->Obj):Nat->Nat->BT->BT
 |0,_,t=>t
 |k+1,n,t=>S4 f k (n+1) (t.ins n (f n))
noncomputable def T2 (w:World) (a b:Obj) (f:Nat->Obj):BT:=S4 f 30 170 (((T0 w).set 3 (fun _=>a)).set 12 (fun _=>b))
def OA(w:World)(a b:Obj)(f:Nat->Obj):((List.range 200).map fun i=>(T2 w a b f).get i)=(List.range 200).map fun i=>match Nat.beq i 3,Nat.beq i 12,Nat.blt i 170 with
  |true,_,_=>some a
  |_,true,_=>some b
  |_,_,true=>(T0 w).get i
  |_,_,_=>some (f i):=by kernel_rfl
def RE(w:World)(a b:Obj)(f:Nat->Obj)(i:Nat)(h:i<200):(T2 w a b f).get i=if i=3 then some a else if i=12 then some b else if i<170 then(T0 w).get i else some (f i):=by
 have e:=dm (fun l=>l[i]?) (OA w a b f);simp only[br,fJ h,au,aW]at e;rw[e];rw[BT.beq_eq,BT.beq_eq];by_cases h3:i=3
 ·simp[h3]
 ·by_cases y9:i=12
  ·simp[y9]
  ·by_cases hl:i<170
   ·have:Nat.blt i 170=true:=by simpa[Nat.blt_eq]using hl
    simp[h3,y9,hl,this]
   ·have:Nat.blt i 170=false:=by rw[Bool.eq_false_iff];intro q;rw[Nat.blt_eq]at q;exact hl q
    simp[h3,y9,hl,this]
def rz{h:Heap}{a:Addr}{o:Obj}(e:h.get? a=some o):h.objs[a]? =some o:=by
 unfold Heap.get? at e;split at e
 ·cases e
 ·exact e
def N1{w:World}{a b:Obj}{s:Shared}(M:Md w a b 200 s):s.heap=absHeap (T2 w a b fun i=>(s.heap.objs[i]?).getD default) 200 s.heap.life:=by
 cases hs:s.heap with
 |mk objs life=>
  have e:objs=(absHeap (T2 w a b fun i=>(s.heap.objs[i]?).getD default) 200 life).objs:=by
   apply Array.ext_getElem?;intro i;rw[absHeap_at];have hz:objs.size=200:=by have:=M.size;rw[hs]at this;exact this
   by_cases hi:i<200
   ·rw[aQ hi,RE _ _ _ _ _ hi];by_cases h3:i=3
    ·subst h3;have:=rz M.ns;rw[hs]at this;simpa using this
    ·by_cases y9:i=12
     ·subst y9;have:=rz M.tab;rw[hs]at this;simpa using this
     ·by_cases hl:i<170
      ·have:=rz ((M.old i hl h3 y9).trans (kZ (pX w i hl)));rw[hs]at this;rw[aD h3,aD y9,aQ hl,kZ (pX w i hl)];exact this
      ·rw[aD h3,aD y9,aD hl,hs];show objs[i]? =some ((objs[i]?).getD default);rw[cV (by omega)];rfl
   ·rw[aD hi];exact Array.getElem?_eq_none (by omega)
  rw[hs]at e;show Heap.mk objs life=Heap.mk _ _;exact dm (Heap.mk · life) e
section
variable{w:World}{q pos:Pos}{c:Code}
def Be{p:Program}{s r:Shared}{t:Sem Fin}{st:List Frame}(h:wI p w s ⟨t,c,pos,st⟩ (.done (.ret .none)) r):
  ∃s',Runs (model p w) ⟨c,none,none,[],none⟩ pos t st s (.ret (.ok (.ret .none))) s'/\leftWithCleanup s'.gens=false/\s'.forget=r.forget:=by
 obtain⟨⟨N,hN⟩,hc⟩:=h;obtain⟨n,s',h1,h2⟩:=(halts_real_iff (M:=model p w) (r:=.ok (.ret .none)) (s:=s) (t:=t) (c:=c) (p:=pos) (st:=st) r.forget).mp ⟨N,r,hN,rfl,hc⟩;obtain⟨h3,h4⟩:=halts_iff.mp ⟨n,h1⟩;exact⟨s',h3,h4,h2⟩
def Bq{p:Program}{s s':Shared}{t:Sem Fin}{st:List Frame}(h:Runs (model p w) ⟨c,none,none,[],none⟩ pos t st s (.ret (.ok (.ret .none))) s')(hg:leftWithCleanup s'.gens=false):
  ∃r,wI p w s ⟨t,c,pos,st⟩ (.done (.ret .none)) r/\r.forget=s'.forget:=by
 obtain⟨n,hn⟩:=halts_iff.mpr ⟨h,hg⟩;obtain⟨N,r,h1,h2,h3⟩:=(halts_real_iff (M:=model p w) (r:=.ok (.ret .none)) (s:=s) (t:=t) (c:=c) (p:=pos) (st:=st) s'.forget).mpr ⟨n,s',hn,rfl⟩;exact⟨r,⟨⟨N,h1⟩,h3⟩,h2⟩
def PO(c:Code)(q:Pos):Around:={handled:=none,depth:=frameCount [(Code.builtin "claim.caller" {},q)]+c.weight,frames:=none,guards:=none,units:=((⟨c,none,none,[],none⟩:Ctx).over [topFrame q]).units}
def Lr{s:Shared}{UJ:List Stmt}{Ψ:af}(hc:frameCount [(Code.builtin "claim.caller" {},q)]+c.weight<recursionLimit)(Vv:∀a b:Shared,a.forget=b.forget->Ψ a->Ψ b)(M0:Md w (kW w 3) (kW w 12) 170 s)(oq:s.gens= #[])
  (k:∀s' p',w7 w s'->s'.os=s.os->s'.drawn=s.drawn->∃r,Ψ r/\wI pq w s' (restOf UJ pre.env_1 c p' [topFrame q]) (.done (.ret .none)) r):
  ∃r,Ψ r/\wI pq w s (restOf (Pr++UJ) pre.env_1 c pos [topFrame q]) (.done (.ret .none)) r:=by
 have qR:((⟨c,none,none,[],none⟩:Ctx).over [topFrame q]).In (PO c q):=by
  refine⟨rfl,aV _,?_,?_,aV _⟩
  all_goals intro l hl;exact absurd hl (by simp[PO])
 have Zi:=NI (A:=PO c q) (E:=fun _ _=>False) (w:=w) (s:=s) (Q:=fun f s'=>f= .next/\w7 w s'/\s'.os=s.os/\s'.drawn=s.drawn) rfl hc M0 oq (fun h' tk m=>⟨rfl,m,rfl,rfl⟩) ((⟨c,none,none,[],none⟩:Ctx).over [topFrame q]) pos qR;obtain⟨e,uy,hr,rfl,hg,r,W3,hf⟩:=runs_wrap_of_wp (M:=model pq w) (Γ:=⟨c,none,none,[],none⟩) (fs:=[topFrame q]) (Φ:=fun e uy=>e= .ret (.ok (.ret .none))/\leftWithCleanup uy.gens=false/\∃r,Ψ r/\uy.forget=r.forget)
  (fun f=>match f with| .next=>(execs UJ pre.env_1).wrap doneF (leaveH pre.env_1) id id|f=>doneF f) (leaveH pre.env_1) id id (execs Pr pre.env_1) Zi
  (fun f p' s'⟨hf,m,ho,hd⟩=>by
   subst hf;obtain⟨r,h1,h2⟩:=k s' p' m ho hd;obtain⟨uy,a,b,d⟩:=Be h2;exact⟨_,uy,a,rfl,b,r,h1,d⟩) (fun _ _ _ h=>h.elim)
 obtain⟨r',h1,h2⟩:=Bq hr hg;refine⟨r',Vv r r' (hf.symm.trans h2.symm) W3,?_⟩;unfold restOf;rw[execs_app_wrap];exact h1
end
abbrev q0:Pos:={line:=0,col:=0,endLine:=0,endCol:=0}
noncomputable abbrev Vi (w:World) (os:OsState):SharedT:={tree:=pre.tree_4 w.params,n:=15,life:={},gens:= #[],drawn:={},toks:=187,os:=os}
noncomputable abbrev JK (w:World) (os:OsState):SharedT:={tree:=pre.tree_171 w.params,n:=170,life:={},gens:= #[],drawn:={},toks:=413,os:=os}
def Nx(w:World)(b:List Stmt)(os:OsState):segRunT treeTable pq w 11 (some (.ref 6)) 1 1070 (Vi w os) (piecesOf (pF 0 25) pre.env_1 (Code.body b pre.env_1) q0 [topFrame q0])=
  some (Flow.next,JK w os,Code.body b pre.env_1,{line:=200,col:=0,endLine:=200,endCol:=8}):=by kernel_rfl
noncomputable abbrev b0 (w:World) (os:OsState):Shared:=⟨boot_heap w.params,#[],boot_drawn,boot_toks,os⟩
noncomputable abbrev qZ:Code:=.body pq.main.body pre.env_1
def Oo(w:World)(os:OsState):topGo treeTable pq w 11 (some (.ref 6)) 12 (b0 w os) (topStub pq)=some ((Vi w os).abs,⟨denote treeTable qZ,qZ,q0,[topFrame q0]⟩):=by kernel_rfl
def IE(w:World)(os:OsState):segRun treeTable pq w 11 (some (.ref 6)) 1 1 (Vi w os).abs (blockOf pq.main.body pre.env_1 qZ q0 [topFrame q0])=some (.next,(Vi w os).abs,qZ,q0):=by kernel_rfl
def EZ:pq.main.body=pF 0 25++(Pr++pF 32 55):=by kernel_rfl
def HT(w:World):(fencedOpening treeTable pq w 1000).map (fun s=>(s.heap,s.gens,s.drawn,s.toks))=some (boot_heap w.params,Array.mk [],boot_drawn,boot_toks):=
 boot_open (p:=pq) (N:=1000) (by kernel_rfl) (by rfl) (fun s=>by rfl) w
def YZ(w:World)(os:OsState):Md w (kW w 3) (kW w 12) 170 (JK w os).abs:=by
 have hz:(absHeap (T0 w) 170 {}).objs.size=170:=absHeap_size ..;have Lm:∀b,b<170->alive (kW w b)=some (kW w b):=by
  have h:((List.range 170).all fun b=>match kW w b with|⟨_,_,.freed,_⟩=>false|_=>true)=true:=by kernel_rfl
  intro b hb;have:=b9.mp h b (bK.mpr hb);generalize kW w b=o at this;obtain⟨c,d,dt,sl⟩:=o;cases dt<;>first|rfl|cases this
 have get:∀b,b<170->(absHeap (T0 w) 170 {}).get? b=some (kW w b):=fun b hb=>(abs_get hb (kZ (pX w b hb))).trans (Lm b hb);exact⟨hz,get 3 (by decide),get 12 (by decide),fun b hb _ _=>(get b hb).trans (kZ (pX w b hb)).symm⟩
def YQ:frameCount [(Code.builtin "claim.caller" {},q0)]+qZ.weight<recursionLimit:=by
 have h:(Nat.ble (frameCount [(Code.builtin "claim.caller" {},q0)]+qZ.weight+1) recursionLimit)=true:=by kernel_rfl
 exact Nat.le_of_ble_eq_true h
def Kv(w:World)(os:OsState){Ψ:af}(Vv:∀a b:Shared,a.forget=b.forget->Ψ a->Ψ b)
  (k:∀s' p',w7 w s'->s'.os=os->s'.drawn={}->∃r,Ψ r/\wI pq w s' (restOf (pF 32 55) pre.env_1 qZ p' [topFrame q0]) (.done (.ret .none)) r):
  ∃r,Ψ r/\wI pq w (b0 w os) (topStub pq) (.done (.ret .none)) r:=by
 obtain⟨r,h1,h2⟩:=Lr (w:=w) (q:=q0) (pos:={line:=200,col:=0,endLine:=200,endCol:=8}) (c:=qZ) (s:=(JK w os).abs) (UJ:=pF 32 55) (Ψ:=Ψ) YQ Vv (YZ w os) rfl k;refine⟨r,h1,?_⟩;have e:=Oo w os;have e2:=IE w os;have e3:=segRun_of (Nx w pq.main.body os);rw[<-table_eq_tree]at e e2 e3;refine Gu e (E0 e2 ?_);have:=vA (rest:=Pr++pF 32 55) e3 h2;rw[<-EZ]at this;exact this
def freeNames:List Str:=["len","range","list","sum","max","min","all","ord","chr","int","isinstance","issubclass","type","frozenset","tuple","map","reversed","enumerate","str","bytes"]
def S2:List Str:=importedModules pq.main.body
noncomputable def looks (MS:Heap) (s:Shared):=
 (staticsOk S2 MS s.heap&&namesBound pq s.heap&&gensDone s&&laidKept MS s.heap,
  PyProof.Rows.seen ((recsOf pq).map (·.name)) [] [] {s with gens:= #[]},
  s.heap.bltView,
  s.heap.accountedOkI S2&&s.heap.isNs mainGlobals&&s.heap.isNs builtinsNs&&s.heap.bmainOk&&freeNames.all (fun x=>(s.heap.nsMap mainGlobals x).isNone),
  s.heap.nsMap mainGlobals "TOML_WS",s.heap.nsMap mainGlobals "ILLEGAL_LITERAL_STR_CHARS",s.heap.nsMap mainGlobals "HEXDIGIT_CHARS",
  s.heap.objs[191]?, s.heap.objs[192]?, s.heap.objs[196]?,
  [0,1,4,5,7,8,9,10].map (fun b=>s.heap.objs[b]?))
noncomputable def nZ (MS:Heap) (f:Nat->Obj):=
 (true,expectedOf pq,bltViewBooted,true,some (Value.ref 192),some (Value.ref 191),some (Value.ref 196),some (f 191),some (f 192),some (f 196),[0,1,4,5,7,8,9,10].map (fun b=>MS.objs[b]?))
def Ky(w:World)(f:Nat->Obj)(t1 t2 t3 t4 t5 t6 t7:Nat)(d e:Tok)(toks:Nat)(life:Life)(os:OsState)(p':Pos):
  (segRunT treeTable pq w 11 (some (.ref 6)) 1 3000 {tree:=T2 w (n7 w t1 t2 t3 t4 t5 t6 t7 d e) (MJ w) f,n:=200,life:=life,gens:= #[.finished],drawn:={},toks:=toks,os:=os} (piecesOf (pF 32 55) pre.env_1 qZ p' [topFrame q0])).map
   (fun r=>(r.1,r.2.2.1,r.2.1.n,r.2.1.life,r.2.1.gens,r.2.1.drawn,r.2.1.os,looks (boot_heap w.params) r.2.1.abs))=some (Flow.next,qZ,346,life,#[.finished],{},os,nZ (boot_heap w.params) f):=by kernel_rfl
def uo{p:Program}{w:World}{f:Flow}:∀(N:Nat)(s r:Shared)(t:Thread),s.asleep->runN (denote table) p w N s t= .halted (.done f) r->(∀k s₁ sF,runN (denote table) p w k s t= .running s₁ sF->sF.calm=true)->
  ∃n sF,schedN (denote table) p w n (.single s t)= .running (.single r sF)/\through sF=true
 |0,_,_,_,_,h,_=>by cases h
 |N+1,s,r,t,hz,h,hc=>by
  have e:=sstep_single (denote table) p w s t (hc 0 s t rfl) hz;simp only[runN]at h;cases hs:step (denote table) p w s t with
  |go jy DN=>
   rw[hs]at h e;have e:sstep (denote table) p w (.single s t)= .go (.single jy DN):=by
    rcases e with e|e
    ·rw[e];rfl
    ·cases e
   obtain⟨n,sF,a,b⟩:=uo N jy r DN (Shared.asleep_of_life (step_life (denote table) p w s jy t DN hs) hz) h fun k s₁ sF q=>hc (k+1) s₁ sF (by simp only[runN,hs];exact q);exact⟨n+1,sF,by simp only[schedN,e];exact a,b⟩
  |halt o jy=>
   rw[hs]at h;cases h;refine⟨0,t,?_,?_⟩
   ·rw[step_halt_same (denote table) p w s r t _ hs];rfl
   ·obtain⟨heap,gens,drawn,toks,os⟩:=s;obtain⟨cur,code,pos,stack⟩:=t;cases cur<;>simp only[step,PySem.finish]at hs<;>(repeat' split at hs)<;>first
     |(simp_all [through];done)
     |(by_cases hl:leftWithCleanup gens=true<;>simp_all [PySem.finish,through];done)
structure q9(w:World)(os:OsState)(r:Shared):Prop where
 looks:∃f oU,r.forget=oU.forget/\Mine.looks (boot_heap w.params) oU=nZ (boot_heap w.params) f/\oU.gens= #[.finished]/\oU.os=os
 lit:∃ks,gQ (KS w) "frozenset" r.heap 191 ks/\∀j,j∈ks↔j∈I0/\j≠ch 9
 ws:∃ks,gQ (KS w) "frozenset" r.heap 192 ks/\∀j,j∈ks↔j=ch 32\/j=ch 9
 hex:∃ks,gQ (KS w) "frozenset" r.heap 196 ks/\∀j,j∈ks↔ ∃c∈uJ.cps.toList,j=ch c
def q9.forget{w:World}{os:OsState}{a b:Shared}(e:a.forget=b.forget)(h:q9 w os a):q9 w os b:=by
 have eh:b.heap=a.heap:=(dm Shared.heap e).symm;obtain⟨⟨f,oU,h1,h2⟩,h3,h4,h5⟩:=h;exact⟨⟨f,oU,e.symm.trans h1,h2⟩,by rw[eh];exact h3,by rw[eh];exact h4,by rw[eh];exact h5⟩
def vG{h h':Heap}{a:Addr}(e:h'.objs[a]? =h.objs[a]?):h'.get? a=h.get? a:=by
 unfold Heap.get?;rw[e]
def Kz{w:World}{os:OsState}{s':Shared}{p':Pos}(M:w7 w s')(ho:s'.os=os)(hd:s'.drawn={}):
  ∃r,q9 w os r/\wI pq w s' (restOf (pF 32 55) pre.env_1 qZ p' [topFrame q0]) (.done (.ret .none)) r:=by
 obtain⟨⟨t1,t2,t3,t4,t5,t6,t7,d,e,md⟩,hg,Xb,UT,Xf⟩:=M;have hz:=md.size;have Uj:=N1 md;obtain⟨⟨fl,jy,aaJ,aay⟩,hr,hl⟩:=aq.mp (Ky w (fun i=>(s'.heap.objs[i]?).getD default) t1 t2 t3 t4 t5 t6 t7 d e s'.toks s'.heap.life os p');simp only[d_]at hl;obtain⟨rfl,rfl,hn,JA,oq,hdr,ZE,XZ⟩:=hl;have run:=segRun_of hr;have es:(SharedT.abs {tree:=T2 w (n7 w t1 t2 t3 t4 t5 t6 t7 d e) (MJ w) fun i=>(s'.heap.objs[i]?).getD default,n:=200,life:=s'.heap.life,gens:= #[.finished],drawn:={},toks:=s'.toks,os:=os})=s':=by
  unfold SharedT.abs;dsimp only;rw[<-Uj,<-hg,<-hd,<-ho]
 rw[es,<-table_eq_tree]at run;have h3:=vA (rest:=[]) (o:=.done (.ret .none)) (r:=jy.abs) run (LY (by show leftWithCleanup jy.gens=false;rw[oq];decide+kernel));rw[cI]at h3;refine⟨jy.abs,?_,h3⟩;have S_:=XZ;simp only[looks,nZ,d_]at S_;obtain⟨_,_,_,_,_,_,_,o1,o2,o3,_⟩:=S_;have back:∀i:Nat,i<200->jy.abs.heap.objs[i]? =some ((s'.heap.objs[i]?).getD default)->jy.abs.heap.get? i=s'.heap.get? i:=fun i hi e=>vG (e.trans (by rw[cV (by omega)];rfl));refine⟨⟨_,jy.abs,rfl,XZ,oq,ZE⟩,?_,?_,?_⟩
 ·obtain⟨ks,H,m⟩:=Xb;exact⟨ks,H.at (back 191 (by decide) o1),m⟩
 ·obtain⟨ks,H,m⟩:=UT;exact⟨ks,H.at (back 192 (by decide) o2),m⟩
 ·obtain⟨ks,H,m⟩:=Xf;exact⟨ks,H.at (back 196 (by decide) o3),m⟩
def Kw(w:World)(os:OsState):∃r,q9 w os r/\wI pq w (b0 w os) (topStub pq) (.done (.ret .none)) r:=
 Kv w os (fun _ _ e h=>h.forget e) fun _ _ m ho hd=>Kz m ho hd
def EU{g:GenState}(h:g.forget= .finished):g= .finished:=by
 cases g<;>simp[GenState.forget]at h|-
def LO{r oU:Shared}(e:r.forget=oU.forget)(h:oU.gens= #[.finished]):r.gens= #[.finished]:=by
 have e2:r.gens.map GenState.forget=oU.gens.map GenState.forget:=dm Shared.gens e;rw[h]at e2;have hz:r.gens.size=1:=by have:=dm Array.size e2;simpa using this
 apply Array.ext
 ·simpa using hz
 ·intro i h1 h2;have hi:i=0:=by simp at h2;omega
  subst hi;have:=dm (fun a:Array GenState=>a[0]?) e2;simp only[Array.getElem?_map,cV h1,au]at this;have:=bX this;exact EU this
def Kd(w:World):(∃s,AfterRun (opening pq) w s)/\∀s,AfterRun (opening pq) w s->∃jo,fenceModules? pq s=some jo/\jo.gens= #[]/\∃s₁,TopRan pq w jo s₁/\s₁.asleep/\s₁.gens= #[.finished]/\q9 w jo.os s₁:=by
 have h:=HT w;rw[<-table_eq_tree]at h;obtain⟨jo,h1,h2⟩:=aq.mp h;obtain⟨s,h4,h5⟩:=ak.mp h1;have A:=AfterImport.of_importEnds h4;refine⟨⟨s,A⟩,fun s' v5=> ?_⟩;obtain rfl:s'=s:=AfterImport.unique v5 A;have z:jo.asleep:=Shared.asleep_of_life (fence_lifeW h5) A.life;obtain⟨heap,gens,drawn,toks,os⟩:=jo;simp only[d_]at h2;obtain⟨rfl,rfl,rfl,rfl⟩:=h2;obtain⟨r,E,⟨N,hN⟩,hc⟩:=Kw w os;obtain⟨f,oU,e,hl,hg,ho⟩:=id E.looks;have eh:r.heap=oU.heap:=show r.forget.heap=oU.forget.heap from dm (fun s:Shared=>s.heap) e;have eo:r.os=oU.os:=show r.forget.os=oU.forget.os from dm (fun s:Shared=>s.os) e;have Yh:=LO e hg;have JA:r.heap.life=(boot_heap w.params).life:=runN_life (s:=b0 w os) _ _ _ hN;simp only[looks,nZ,d_]at hl;obtain⟨l1,l2,l3,l4,l5,l6,l7,o1,o2,o3,l8⟩:=hl;rw[<-eh]at l1 l3 l4 l8;simp only[aA]at l1 l4;obtain⟨⟨⟨a1,a2⟩,_⟩,a4⟩:=l1;obtain⟨⟨⟨⟨b1,b2⟩,b3⟩,b4⟩,_⟩:=l4;have keep:∀b,b∈([0,1,4,5,7,8,9,10]:ah)->r.heap.get? b=(boot_heap w.params).get? b:=fun b hb=>by
  apply vG;have key:∀(l:ah)(g g':Nat->Option Obj),l.map g=l.map g'->∀b∈l,g b=g' b:=by
   intro l g g' e b hb;exact List.map_inj_left.mp e b hb
  exact key _ _ _ l8 b hb
 have Z1:(boot_heap w.params).objs.size=11:=by kernel_rfl
 have Xq:(boot_heap w.params).nsMap mainGlobals "__annotations__"=some (.ref 6):=by kernel_rfl
 have Ui:(boot_heap w.params).isNs mainGlobals=true:=by kernel_rfl
 refine⟨⟨boot_heap w.params,Array.mk [],boot_drawn,boot_toks,os⟩,h5,rfl,r,⟨uo N _ _ _ z hN hc,JA,Shared.rest_eq (eo.trans ho),fun b o hb hn=> ?_,Heap.accountedI_of_ok b1,statics_of_ok a1,Pin.keysAreStrs_of b2,
  fun x hx=>(Pin.builtinOf_eq b3 x).trans (Heap.of_bltView b3 l3 x hx),?_,?_,names_of_bound a2,laid_of_kept a4⟩,Shared.asleep_of_life JA z,Yh,E⟩
 ·have jQ:b<11:=by have:=bG hb;rw[show({heap:=boot_heap w.params,gens:=Array.mk [],drawn:=boot_drawn,toks:=boot_toks,os:=os}:Shared).heap.objs.size=11 from Z1]at this;exact this
  have n1:b≠3:=fun q=>hn (.inl q);have n2:b≠2:=fun q=>hn (.inr (.inl q));have n3:b≠6:=fun q=>hn (.inr (.inr ((Pin.globalOf_eq Ui _).trans (q▸Xq))));refine(keep b ?_).trans hb;have:∀b:Nat,b<11->b≠3->b≠2->b≠6->b∈([0,1,4,5,7,8,9,10]:ah):=by
   intro b h1 h2 h3 h4;simp only[aY,fN,or_false];omega
  exact this b jQ n1 n2 n3
 ·obtain⟨bm,ob,a,_,c,d,f,_⟩:=Heap.bmainOk_spec b4;exact⟨bm,ob,(Pin.globalOf_eq b2 _).trans a,c,d,f⟩
 ·intro g U3;rw[Yh]at U3;have:g= .finished:=by simpa using U3
  rw[this];trivial
noncomputable abbrev cx (w:World) (h:Heap):Cx:=⟨pq,w,h,h.nsMap mainGlobals⟩
def L4{l:ah}{x:Str}:DW l x=true↔ ∃c∈l,x=ch c:=by
 unfold DW;constructor
 ·intro h;split at h
  ·rename_i c hc;refine⟨c,by simpa using h,?_⟩;obtain⟨a⟩:=x;show Str.mk a=Str.mk #[c];congr 1;apply Array.ext';exact hc
  ·cases h
 ·rintro⟨c,hc,rfl⟩;show(match[c]with|[c]=>l.contains c|_=>false)=true;simpa using hc
def A7{w:World}{h:Heap}{a:Addr}{ks:List Str}{l:ah}(H:gQ (KS w) "frozenset" h a ks)(hm:∀j,j∈ks↔ ∃c∈l,j=ch c)(hl:l.length<=200):∃o,h.get? a=some o/\GK pq w o l:=by
 have n:ks.length<=(l.map ch).length:=nX H.nodup fun x hx=>by
  obtain⟨c,hc,rfl⟩:=(hm x).mp hx;exact b_.mpr ⟨c,hc,rfl⟩
 obtain⟨es,ep,t,ho,he,ZF,hb,hf⟩:=H;refine⟨_,ho,es.size,?_,es,ep,t,rfl,he.elems,fun k=> ?_,rfl,hf⟩
 ·have h1:ks.length=es.toList.length:=he.length;have h2:es.toList.length=es.size:=bf ..;rw[aH]at n;show es.size<=200;omega
 ·rw[<-he.mem k,hm k,L4]
def EV:(recsOf pq).map (fun d=>fnOf d.name)=(recsOf pq).map (fun d=>some (d.params,d.body,d.scope)):=by kernel_rfl
def defNames:List Stmt->List Str
 |[]=>[]
 | .FunctionDef m _ _ _ _ _ _ _ _ _::r=>m::defNames r
 |_::r=>defNames r
def yV:defNames pq.main.body=(recsOf pq).map (·.name):=by kernel_rfl
def Bk{n:Str}{x:Arguments×List Stmt×Scope}:∀{l:List Stmt},mJ n l=some x->n∈defNames l:=by
 intro l
 fun_induction mJ n l with
 |case1=>intro h;cases h
 |case2 m a b _ _ _ sc _ _ _ r hm=>intro _;rw[aR]at hm;subst hm;exact aU ..
 |case3 m a b _ _ _ sc _ _ _ r hm ih=>intro h;exact ay _ (ih h)
 |case4 st r hn ih=>
  intro h;have:=ih h;unfold defNames;split
  ·rename_i e;cases e
  ·rename_i q e;cases e;exact(hn _ _ _ _ _ _ _ _ _ _ rfl).elim
  ·rename_i e;cases e;exact this
def LU{n:Str}{a:Arguments}{b:List Stmt}{sc:Scope}(h:fnOf n=some (a,b,sc)):∃(i:Nat)(d:DefRec),(recsOf pq)[i]? =some d/\d.name=n/\d.params=a/\d.body=b/\d.scope=sc:=by
 have hm:n∈defNames pq.main.body:=Bk h;rw[yV]at hm;obtain⟨d,hd,rfl⟩:=b_.mp hm;have e:=List.map_inj_left.mp EV d hd;rw[h]at e;obtain⟨e1,e2,e3⟩:a=d.params/\b=d.body/\sc=d.scope:=by simpa using e
 obtain⟨i,hi,hg⟩:=List.getElem_of_mem hd;exact⟨i,d,by rw[aP hi,hg],rfl,e1.symm,e2.symm,e3.symm⟩
def N7:jf++(["tuple","map","reversed","enumerate","str","bytes"]:List Str)=freeNames:=by kernel_rfl
def NK(j:Str):(j∈I0/\j≠ch 9)↔ ∃c∈wQ,j=ch c:=by
 have inj:∀a b,ch a=ch b->a=b:=fun a b e=>by
  have:(#[a]:Array Nat)= #[b]:=dm Str.cps e;simpa using this
 rw[Gk];unfold wQ;constructor
 ·rintro⟨⟨c,hc,rfl⟩|rfl,hn⟩
  ·refine⟨c,bg _ (dz.mpr ⟨bK.mpr hc,?_⟩),rfl⟩;simp only[bne_iff_ne,ne_eq];exact fun e=>hn (by rw[e])
  ·exact⟨127,cM _ (by simp),rfl⟩
 ·rintro⟨c,hc,rfl⟩;rcases bl.mp hc with hc|hc
  ·obtain⟨h1,h2⟩:=dz.mp hc;simp only[bne_iff_ne,ne_eq]at h2;exact⟨.inl ⟨c,bK.mp h1,rfl⟩,fun e=>h2 (inj _ _ e)⟩
  ·rw[aK]at hc;subst hc;exact⟨.inr rfl,fun e=>by have:=inj _ _ e;omega⟩
def WE(w:World)(os:OsState)(r:Shared)(E:q9 w os r):qe (cx w r.heap):=by
 obtain⟨⟨f,oU,e,hl,hg,ho⟩,⟨k1,H1,m1⟩,⟨k2,H2,m2⟩,⟨k3,H3,m3⟩⟩:=E;have eh:r.heap=oU.heap:=show r.forget.heap=oU.forget.heap from dm (fun s:Shared=>s.heap) e;simp only[looks,nZ,d_]at hl;obtain⟨l1,l2,l3,l4,l5,l6,l7,o1,o2,o3,l8⟩:=hl;rw[<-eh]at l3 l4 l5 l6 l7;simp only[aA,b9,fk]at l4;obtain⟨⟨⟨⟨b1,b2⟩,b3⟩,b4⟩,b5⟩:=l4;have fn:∀(i:Nat)(d:DefRec),(recsOf pq)[i]? =some d->∃a o pm code doc,r.heap.nsMap mainGlobals d.name=some (.ref a)/\r.heap.get? a=some o/\o.data= .func (Calls.docDef d.name d.params d.body d.scope pm code doc)/\r.heap.CodeRec code d.name:=by
  intro i d hd;rw[eh];have q:=seen_fn (d:=d) l2 i (by rw[br,hd];rfl) (by show((recsOf pq).map fun d=>some d.shape)[i]? =_;rw[br,hd];rfl);exact q
 refine⟨?_,⟨_,?_,fun x hx=>Heap.of_bltView b3 l3 x hx⟩,?_,?_,?_,?_,?_,?_⟩
 ·show r.heap.Ns mainGlobals _;rw[eh];have q:=seen_globals l2 (by rfl);exact q
 ·show r.heap.Ns builtinsNs _;rw[eh];have q:=seen_builtins l2 (by rfl);exact q
 ·show r.heap.NoLimit;rw[eh];have q:=seen_noLimit l2 (by rfl);exact q
 ·show∃mc,r.heap.Ns cStatics mc/\_;rw[eh];have q:=seen_noDigits l2 (by rfl);exact q
 ·intro x hx;rw[N7]at hx;exact b5 x hx
 ·intro n a body sc h;obtain⟨i,d,hd,rfl,rfl,rfl,rfl⟩:=LU h;obtain⟨fa,o,pm,code,doc,h1,h2,h3,h4⟩:=fn i d hd;exact⟨fa,o,pm,code,doc,.none,.none,h1,h2,h3,h4,fun _=>rfl⟩
 ·intro x l h;unfold nQ at h;split at h
  ·rename_i hx;rw[aR]at hx;subst hx;cases h;obtain⟨o,g,c⟩:=A7 (l:=[32,9]) H2 (fun j=>by rw[m2 j];simp) (by decide);refine⟨.ref 192,l5,fun σ yY=> ?_⟩;rw[VR];refine⟨192,o,rfl,?_,g,c⟩;intro q;have hq:r.heap.get? 192=none:=yY 192 q;rw[g]at hq;cases hq
  ·split at h
   ·rename_i hx;rw[aR]at hx;subst hx;cases h;obtain⟨o,g,c⟩:=A7 (l:=wQ) H1 (fun j=>by rw[m1 j,NK]) (by decide+kernel);refine⟨.ref 191,l6,fun σ yY=> ?_⟩;rw[VR];refine⟨191,o,rfl,?_,g,c⟩;intro q;have hq:r.heap.get? 191=none:=yY 191 q;rw[g]at hq;cases hq
   ·split at h
    ·rename_i hx;rw[aR]at hx;subst hx;cases h;obtain⟨o,g,c⟩:=A7 (l:=ny) H3 (fun j=>by rw[m3 j];exact Iff.of_eq (by congr 1)) (by decide+kernel);refine⟨.ref 196,l7,fun σ yY=> ?_⟩;rw[VR];refine⟨196,o,rfl,?_,g,c⟩;intro q;have hq:r.heap.get? 196=none:=yY 196 q;rw[g]at hq;cases hq
    ·repeat' split at h
     all_goals cases h
 ·have h7:((recsOf pq)[7]?).map (fun d:DefRec=>d.name)=some (Str.ofString "fspath"):=by kernel_rfl
  obtain⟨d,h1,h2⟩:=aq.mp h7;obtain⟨fa,o,pm,code,doc,g1,_⟩:=fn 7 d h1;rw[h2]at g1;show r.heap.nsMap mainGlobals "fspath"≠none;rw[g1];intro q;cases q
def GH:Prop:=∀ns:List Int,ns.length<=63->(ev 27).C "law" [.list (ns.map .int)] [] []=some (.bool true,[])
abbrev sM:OpenRow:=PySem.Challenge.rw_ik0206_01.row
noncomputable abbrev lQ:ClaimW:=sM.toRowW.claim
def Lj{args:List WData}(h:lQ.pre args=true):∃ns:List Int,args=[.list (ns.map .int)]/\ns.length<=63:=by
 obtain⟨h1,h2⟩:=pre_splitW (r:=sM.toRowW) h;obtain⟨d,r,rfl,hd,hr⟩:=hasAllW_cons h1;obtain rfl:=hasAllW_nil hr;obtain⟨xs,rfl,hx⟩:=hasW_list hd;have items:∀xs:List WData,WShape.hasItems ([]:WRecords) xs .int=true->∃ns:List Int,xs=ns.map .int:=by
  intro xs
  induction xs with
  |nil=>intro _;exact⟨[],rfl⟩
  |cons x xs ih=>
   intro h;rw[WShape.hasItems,aA]at h;obtain⟨i,rfl⟩:=hasW_int h.1;obtain⟨ns,rfl⟩:=ih h.2;exact⟨i::ns,rfl⟩
 obtain⟨ns,rfl⟩:=items xs hx;refine⟨ns,rfl,?_⟩;have GV:WTm.holds ([]:WRecords) (.and (.not (.lt (.lit (.int 63)) (.len (.arg 0)))) (.lit (.bool true))) {args:=[.list (ns.map .int)]}=true:=h2;simp[WTm.holds,WTm.value]at GV;by_cases BF:ns.length<=63
 ·exact BF
 ·exfalso;have e:less? (.int 63) (.int (ns.length:Int))=some true:=by
   show some (decide ((63:Int)<(ns.length:Int)))=some true;rw[aT (by omega)]
  rw[e]at GV;simp at GV
def G9{P:Params}{h:Heap}:∀(ns:List Int)(vs:List Value),WellAll P h vs (ns.map .int)->vs.length=ns.length/\∀C:Cx,∀σ h',iL C σ h' (ns.map .int) vs:=by
 intro ns
 induction ns with
 |nil=>
  intro vs r;cases r;exact⟨rfl,fun C σ h'=>iL.nil⟩
 |cons n ns ih=>
  intro vs r;rw[aL]at r;cases r with
  |cons r1 r2=>
   cases r1;obtain⟨h1,h⟩:=ih _ r2;exact⟨by simp[h1],fun C σ h'=>iL.cons (kB _ _) (h C σ h')⟩
def NS:∃d:DefRec,(recsOf pq)[35]? =some d/\d.name="law"/\d.params.defaults=[]/\kwWritten? d.params.kwonlyargs d.params.kw_defaults=some []:=by
 have h:((recsOf pq)[35]?).map (fun d:DefRec=>(d.name,d.params.defaults,kwWritten? d.params.kwonlyargs d.params.kw_defaults))=some (Str.ofString "law",[],some []):=by kernel_rfl
 obtain⟨d,h1,h2⟩:=aq.mp h;simp only[d_]at h2;exact⟨d,h1,h2.1,h2.2.1,h2.2.2⟩
def EL{w:World}{os:OsState}{r:Shared}(E:q9 w os r):isTheDefsW pq r.heap "law":=by
 obtain⟨d,hd,hn,ZX,ZH⟩:=NS;obtain⟨f,oU,e,hl,_,_⟩:=E.looks;have eh:r.heap=oU.heap:=show r.forget.heap=oU.forget.heap from dm (fun s:Shared=>s.heap) e;simp only[looks,nZ,d_]at hl;obtain⟨_,l2,_,l4,_⟩:=hl;simp only[aA]at l4;have hg:oU.heap.isNs mainGlobals=true:=l4.1.1.1.2;have q:=seen_fn (d:=d) l2 35 (by rw[br,hd];rfl) (by show((recsOf pq).map fun d=>some d.shape)[35]? =_;rw[br,hd];rfl);obtain⟨a,o,pm,code,doc,h1,h2,h3,_⟩:=q;obtain⟨t1,_⟩:=recsOf_ok d (bL hd);rw[eh];refine⟨a,o,_,d.params,d.body,d.scope,(Pin.globalOf_eq hg _).trans (hn▸h1),h2,h3,hn▸t1,hn,hn,rfl,rfl,rfl,rfl,rfl,rfl,.inl ⟨ZX,rfl⟩,[],ZH,.inl ⟨rfl,rfl⟩⟩
def HN(args:List WData):lQ.post args (.bool true) args=true:=by
 show(WShape.has ([]:WRecords) (.bool true) .bool&&WTm.holds ([]:WRecords) (.eq .res (.lit (.bool true))) ⟨args,some (.bool true),args,[]⟩)=true;rw[aA];exact⟨by decide+kernel,by simp[WTm.holds,WTm.value,PySem.W.same]⟩
def L7(P:GH)(w:World)(r:Shared)(T:qe (cx w r.heap)){s₁:Shared}{fv:Value}(hg:s₁.gens= #[])(hf:r.heap.nsMap mainGlobals "law"=some fv)(keeps:∀b o,r.heap.get? b=some o->s₁.heap.get? b=some o){cl:Str->Option Addr}{mean:ExcName->Option Value}{args:List WData}{vs:List Value}
  (DT:lQ.pre args=true) (Pz:WellAll w.params s₁.heap vs args):
  wpAny (model pq w) callerA (call fv vs) (fun v s'=>GoodW lQ cl mean args s₁ (.ok (.ret v)) s') (fun e s'=>GoodW lQ cl mean args s₁ (.error e) s') s₁:=by
 obtain⟨ns,rfl,iK⟩:=Lj DT;have S:=Nh T 27;cases Pz with
 |cons r1 r2=>
  cases r2;cases r1 with
  |list ho nP=>
   rename_i a vs;obtain⟨hl,hv⟩:=G9 ns vs nP;have K:Ok (cx w r.heap) [] s₁ []:=⟨keeps,fun a h=>(fN h).elim,rfl,fc,fun k a c h=>absurd h (by simp)⟩;refine S.C' "law" [.list (ns.map .int)] [] [] (.bool true) [] (P ns iK) callerA [] s₁ [.ref a] [] fv _ _ ⟨rfl,by decide+kernel,by decide+kernel⟩ K (iL.cons ?_ iL.nil) iL.nil hf fun val σ' s' X K' V=> ?_
   ·rw[VR];exact⟨a,_,vs,rfl,by simp,ho,⟨0,rfl,by rw[hl];exact dB iK (by decide+kernel)⟩,hv _ _ _⟩
   ·rw[VR]at V;subst V;refine⟨.inl ⟨_,.bool true,[],rfl,fun cls=>rfl,.bool true,HN _,fun _=>⟨fc,fun a h=>(fN h).elim⟩⟩,fun b o e=>X.keep b o e (by simp) (fun h=>h.elim),X.os,X.gens.trans hg⟩
def Ou:pq.bare:=by
 unfold Program.bare;exact⟨rfl,rfl,rfl,rfl,by kernel_rfl,by kernel_rfl⟩
def UG(P:GH):PySem.Challenge.rw_ik0206_01.Holds:=by
 o_law
 rename_i said;have hi:∀a b,lQ.ident a b=true:=by
  intro a b;exact ident_freeW (r:=sM.toRowW) rfl rfl rfl a b
 refine⟨said,⟨[.list []],by decide+kernel,by decide+kernel⟩,⟨Ou,by kernel_rfl,rfl⟩,⟨[.list []],by decide+kernel,by decide+kernel⟩,fun w=>⟨(Kd w).1,fun s hs=> ?_⟩⟩;obtain⟨jo,hf,U1,r,hT,hz,oq,E⟩:=(Kd w).2 s hs;refine⟨jo,hf,U1,r,hT,fun n hn=> ?_,fun x hx=>(nomatch hx),fun x hx=>(nomatch hx),?_⟩
 ·have:n="law":=by
   have h:(if sM.pinned then[sM.name]else[])=[Str.ofString "law"]:=rfl;rw[h]at hn;simpa using hn
  subst this;exact EL E
 ·have T:=WE w _ r E;refine ClaimW.callFrom_of_specN (c:=lQ) hz (by rw[oq];decide+kernel) fun args DT Xc ord S7=> ?_;obtain⟨⟨vs,s₁⟩,B0⟩:=Option.isSome_iff_exists.mp (layAllW_isSome (R:=lQ.records) (cl:=classAt r.heap) (P:=w.params) (ord:=ord) (fun c hc=>(nomatch hc)) args sM.args r (pre_splitW (r:=sM.toRowW) DT).1);have keeps:=layAllW_keeps _ _ _ B0;have R2:=layAllW_rest _ _ _ B0;obtain⟨as,Zu,qR,W9⟩:=reads_layAllW S7 _ _ _ B0 Xc s₁.heap (fun _ _ e=>e);obtain⟨f,o,pm,cd,doc,dV,kV,SA,_⟩:=T.fns "law" _ _ _ (by rfl);have h:=L7 P w r T (s₁:={s₁ with gens:= #[]}) (cl:=classAt r.heap) (mean:=ExcName.means r.heap) rfl SA keeps DT (well_layAllW S7 args r _ B0 _ fun _ _ e=>e);have Xg:(cx w r.heap).mg PySem.Challenge.rw_ik0206_01.row.name=some (.ref f):=SA;have fin:∀(res:Result) s',GoodW lQ (classAt r.heap) (ExcName.means r.heap) args {s₁ with gens:= #[]} res s'->_:=fun res s' g=>g.endsN (c:=lQ) (r:=res) rfl rfl hi Zu W9 R2.2.2.1;refine⟨vs,s₁,B0,ai (wpAny_nsGet (T.g.keeps keeps) ?_)⟩;rw[Xg];refine ai (bU h (fun v s' g=>aj ⟨_,rfl,?_⟩) fun e s' g=> ?_)
  all_goals have z:=fin _ _ g;exact⟨z.1,z.2.1,z.2.2,fun q=>by cases q⟩
end
section
open PySem
mutual
def sh(m:Nat):PV->PV
 | .tup l=>.tup (i_ m l)
 | .list l=>.list (i_ m l)
 | .lst k=>.lst (k+m)
 | .dct k=>.dct (k+m)
 | .none=>.none
 | .bool b=>.bool b
 | .int i=>.int i
 | .str s=>.str s
 | .iset l=>.iset l
 | .cset l=>.cset l
 | .bset b=>.bset b
 | .fn n=>.fn n
 | .typ t=>.typ t
 | .rng a b=>.rng a b
def i_(m:Nat):List PV->List PV
 |[]=>[]
 |a::l=>sh m a::i_ m l
end
def qP(m:Nat):jv->jv
 | .lst l=>.lst (i_ m l)
 | .dct l=>.dct (l.map fun kv=>(kv.1,sh m kv.2))
 | .bs o=>.bs o
def kO(m:Nat)(ρ:ie):ie:=ρ.map fun xv=>(xv.1,sh m xv.2)
def jN(m:Nat)(l:List PV):i_ m l=l.map (sh m):=by
 induction l with
 |nil=>rw[i_];rfl
 |cons a l ih=>rw[i_,ih];rfl
section
variable(m:Nat)
def u5(a b:PV):jY (sh m a) (sh m b)=jY a b:=by cases a<;>cases b<;>simp[sh,jY]
def zU(a b:PV):mE (sh m a) (sh m b)=mE a b:=by cases a<;>cases b<;>simp[sh,mE]
def B6:∀a b:List PV,qT (i_ m a) (i_ m b)=qT a b
 |[],[]=>by simp[i_,qT]
 |[],_::_=>by simp[i_,qT]
 |_::_,[]=>by simp[i_,qT]
 |a::l,b::k=>by simp only[i_,qT,u5,B6 l k]
def lY(l:List PV):(i_ m l).length=l.length:=by rw[jN,aH]
def Nt(a b:PV):Jg (sh m a) (sh m b)=Jg a b:=by cases a<;>cases b<;>simp[sh,Jg,B6,lY]
def tw:∀a b:List PV,iz (i_ m a) (i_ m b)=iz a b
 |[],[]=>by simp[i_,iz]
 |[],_::_=>by simp[i_,iz]
 |_::_,[]=>by simp[i_,iz]
 |a::l,b::k=>by simp only[i_,iz,u5,zU,tw l k]
def FT(a b:PV):uA (sh m a) (sh m b)=uA a b:=by cases a<;>cases b<;>simp[sh,uA,tw]
def zj:∀l:List PV,mD (i_ m l)=mD l
 |[]=>by simp[i_,mD]
 |a::l=>by cases a<;>simp[i_,sh,mD,zj l]
def xG:∀l:List PV,kR (i_ m l)=kR l
 |[]=>by simp[i_,kR]
 |a::l=>by cases a<;>simp[i_,sh,kR,xG l]
def nV:∀l:List PV,jI (i_ m l)=jI l
 |[]=>by simp[i_,jI]
 |a::l=>by cases a<;>simp[i_,sh,jI,nV l]
def AP(a b:Int):i_ m (ng a b)=ng a b:=by
 rw[jN,ng,bw];rfl
def Cv(a:PV):pQ (sh m a)=pQ a:=by cases a<;>simp[sh,pQ]
def LJ(a:PV):o4 (sh m a)=o4 a:=by cases a<;>simp[sh,o4]
def nW(l:List PV):iP (i_ m l)=iP l:=by unfold iP;rw[lY]
def oF(a b:List PV):i_ m (a++b)=i_ m a++i_ m b:=by simp only[jN,bR]
def vE(l:List PV):(i_ m l).isEmpty=l.isEmpty:=by cases l<;>simp[i_]
def GA(a b:Nat):(a+m==b+m)=(a==b):=by
 by_cases h:a=b
 ·subst h;simp
 ·have:¬ a+m=b+m:=by omega
  rw[aO.mpr h,aO.mpr this]
mutual
def zD:∀a b:PV,jS (sh m a) (sh m b)=jS a b
 | .tup a,b=>by cases b<;>simp[sh,jS,qv a]
 | .list a,b=>by cases b<;>simp[sh,jS,qv a]
 | .lst _,b=>by cases b<;>simp[sh,jS,GA]
 | .dct _,b=>by cases b<;>simp[sh,jS,GA]
 | .none,b=>by cases b<;>simp[sh,jS]
 | .bool _,b=>by cases b<;>simp[sh,jS]
 | .int _,b=>by cases b<;>simp[sh,jS]
 | .str _,b=>by cases b<;>simp[sh,jS]
 | .iset _,b=>by cases b<;>simp[sh,jS]
 | .cset _,b=>by cases b<;>simp[sh,jS]
 | .bset _,b=>by cases b<;>simp[sh,jS]
 | .fn _,b=>by cases b<;>simp[sh,jS]
 | .typ _,b=>by cases b<;>simp[sh,jS]
 | .rng _ _,b=>by cases b<;>simp[sh,jS]
def qv:∀a b:List PV,kT (i_ m a) (i_ m b)=kT a b
 |[],b=>by cases b<;>simp[i_,kT]
 |a::l,b=>by cases b<;>simp[i_,kT,zD a,qv l]
end
def CH:∀a b:List (ah×PV),qY (a.map fun kv=>(kv.1,sh m kv.2)) (b.map fun kv=>(kv.1,sh m kv.2))=qY a b
 |[],b=>by cases b<;>simp[qY]
 |(a,v)::l,b=>by
  cases b with
  |nil=>simp[qY]
  |cons c k=>obtain⟨c,u⟩:=c;simp[qY,zD,CH l k]
def Dv(a b:jv):oB (qP m a) (qP m b)=oB a b:=by cases a<;>cases b<;>simp[qP,oB,qv,CH]
mutual
def Mg(n:Nat):∀a:PV,below (n+m) (sh m a)=below n a
 | .tup a=>by simp[sh,below,p7 n a]
 | .list a=>by simp[sh,below,p7 n a]
 | .lst _=>by simp[sh,below]
 | .dct _=>by simp[sh,below]
 | .none| .bool _| .int _| .str _| .iset _| .cset _| .bset _| .fn _| .typ _| .rng _ _=>by simp[sh,below]
def p7(n:Nat):∀a:List PV,h_ (n+m) (i_ m a)=h_ n a
 |[]=>by simp[i_,h_]
 |a::l=>by simp[i_,h_,Mg n a,p7 n l]
end
mutual
def Mf(n:Nat):∀a:PV,below m a=true->below (n+m) a=true
 | .tup a=>by simp only[below];exact n9 n a
 | .list a=>by simp only[below];exact n9 n a
 | .lst _=>by simp only[below,aJ];omega
 | .dct _=>by simp only[below,aJ];omega
 | .none| .bool _| .int _| .str _| .iset _| .cset _| .bset _| .fn _| .typ _| .rng _ _=>by simp[below]
def n9(n:Nat):∀a:List PV,h_ m a=true->h_ (n+m) a=true
 |[]=>by simp[h_]
 |a::l=>by simp only[h_,aA];exact fun⟨h1,h2⟩=>⟨Mf n a h1,n9 n l h2⟩
end
def IK(n:Nat)(c:jv):iu (n+m) (qP m c)=iu n c:=by
 cases c with
 |lst l=>simp[qP,iu,p7]
 |dct l=>simp only[qP,iu,bw];rw[<-p7 m n,jN,bw];rfl
 |bs o=>simp[qP,iu]
def IJ(n:Nat)(c:jv)(h:iu m c=true):iu (n+m) c=true:=by
 cases c with
 |lst l=>exact n9 m n _ h
 |dct l=>exact n9 m n _ h
 |bs o=>rfl
end
def jz(s0 st:St):St:=s0++st.map (qP s0.length)
section
variable(s0:St)
def kL(st:St)(k:Nat):(jz s0 st)[k+s0.length]? =(st[k]?).map (qP s0.length):=by
 unfold jz;rw[bO (by omega),Nat.add_sub_cancel,br]
def j3(st:St):(jz s0 st).length=st.length+s0.length:=by simp[jz,Nat.add_comm]
def rM(st:St)(k:Nat)(c:jv):(jz s0 st).set (k+s0.length) (qP s0.length c)=jz s0 (st.set k c):=by
 unfold jz;rw[List.set_append_right _ _ (by omega),Nat.add_sub_cancel,List.map_set]
def mW(st:St)(c:jv):jz s0 st++[qP s0.length c]=jz s0 (st++[c]):=by simp[jz]
def xh(st:St)(n:Nat):(jz s0 st).take (n+s0.length)=jz s0 (st.take n):=by
 unfold jz;rw[List.take_append,bT (by omega),Nat.add_sub_cancel,List.map_take]
def uS(hs:s0.all (iu s0.length)=true)(st:St)(n:Nat):(jz s0 st).all (iu (n+s0.length))=st.all (iu n):=by
 unfold jz;rw[List.all_append,List.all_map];have h1:s0.all (iu (n+s0.length))=true:=by
  rw[b9]at hs|-;intro c hc;exact IJ _ n c (hs c hc)
 rw[h1,gF];congr 1;funext c;exact IK _ n c
def jM(st:St)(x:PV):gM (jz s0 st) (sh s0.length x)=(gM st x).map (i_ s0.length):=by
 cases x with
 |lst k=>
  simp only[sh,gM,kL];cases st[k]? with
  |none=>rfl
  |some c=>cases c<;>simp[qP]
 |rng a b=>simp[sh,gM,AP]
 |_=>simp[sh,gM]
def sQ(st:St)(x:PV):iT (jz s0 st) (sh s0.length x)=iT st x:=by
 cases x with
 |lst k=>
  simp only[sh,iT,kL];cases st[k]? with
  |none=>rfl
  |some c=>cases c<;>simp[qP,vE]
 |_=>simp[sh,iT,vE]
def Nk(st:St)(x:PV):seen (jz s0 st) (sh s0.length x)=(seen st x).map (sh s0.length):=by
 cases x with
 |lst k=>
  simp only[sh,seen,kL];cases st[k]? with
  |none=>rfl
  |some c=>cases c<;>simp[qP,sh]
 |_=>simp[sh,seen]
def Oz(st:St)(x y:PV):(match gM (jz s0 st) (sh s0.length x),gM (jz s0 st) (sh s0.length y)with
   |some a,some b=>if pQ (sh s0.length x)&&pQ (sh s0.length y)&&iP (a++b)then some (PV.list (a++b))else none
   |_,_=>none)=(match gM st x,gM st y with
   |some a,some b=>if pQ x&&pQ y&&iP (a++b)then some (PV.list (a++b))else none
   |_,_=>none).map (sh s0.length):=by
 rw[jM,jM,Cv,Cv];cases gM st x with
 |none=>rfl
 |some a=>
  cases gM st y with
  |none=>rfl
  |some b=>
   simp only[au,<-oF,nW];split<;>simp[sh]
def Ma(st:St)(op:Operator)(x y:PV):jm (jz s0 st) op (sh s0.length x) (sh s0.length y)=(jm st op x y).map (sh s0.length):=by
 have add:=Oz s0 st x y;cases x<;>cases y<;>cases op<;>first
  |rfl
  |(simp only[sh,jm]at add |-; first|rfl|exact add|((repeat' split)<;>simp[sh];done))
  |(simp only[sh]at add |-; exact add)
def xB(st:St)(op:CmpOp)(x y:PV):iN (jz s0 st) op (sh s0.length x) (sh s0.length y)=iN st op x y:=by
 cases op with
 |Eq=>
  simp only[iN,Nk];cases seen st x with
  |none=>rfl
  |some a=>cases seen st y with
   |none=>rfl
   |some b=>exact Nt _ a b
 |NotEq=>simp only[iN,u5]
 |Lt=>
  have h:=zU s0.length x y;cases x<;>cases y<;>simp only[sh,iN,tw]at h|- <;>first|rfl|exact h
 |In=>
  cases x with
  |str s=>
   cases y with
   |lst k=>
    have h:=jM s0 st (.lst k);simp only[sh,iN]at h|-;rw[h];cases s with
    |nil=>cases gM st (.lst k)<;>simp[nV]
    |cons c s=>cases s<;>cases gM st (.lst k)<;>simp[nV]
   |list l=>cases s with
    |nil=>simp[sh,iN,nV]
    |cons c s=>cases s<;>simp[sh,iN,nV]
   |_=>cases s with
    |nil=>simp[sh,iN]
    |cons c s=>cases s<;>simp[sh,iN]
  |_=>cases y<;>simp[sh,iN]
 |_=>cases x<;>cases y<;>simp[sh,iN]
def idx_map{α β:Type}(f:α->β)(l:List α)(i:Int):idx (l.map f) i=(idx l i).map f:=by
 unfold idx;rw[aH]
 repeat' split
 all_goals simp
def EJ(m:Nat)(k:ah)(l:List (ah×PV)):m8 k (l.map fun kv=>(kv.1,sh m kv.2))=(m8 k l).map (sh m):=by
 unfold m8;rw[List.find?_map];simp only[Function.comp_def];cases l.find? (fun kv=>kv.1==k)<;>rfl
def Nu(m:Nat)(k:ah)(v:PV)(l:List (ah×PV)):Ai k (sh m v) (l.map fun kv=>(kv.1,sh m kv.2))=(Ai k v l).map fun kv=>(kv.1,sh m kv.2):=by
 unfold Ai;rw[List.any_map];simp only[Function.comp_def];split
 ·simp only[bw];apply dh;intro a _;simp only[Function.comp_def];split<;>rfl
 ·simp
def Df(st:St)(x y:PV):gZ (jz s0 st) (sh s0.length x) (sh s0.length y)=(gZ st x y).map (sh s0.length):=by
 have h:=jM s0 st x;cases y with
 |int i=>
  cases x with
  |str s=>simp[sh,gZ];cases idx s i<;>simp[sh]
  |rng a b=>simp[sh,gZ]
  |dct k=>simp[sh,gZ,gM]
  |_=>
   simp only[sh,gZ]at h|-;rw[h];cases gM st _ with
   |none=>rfl
   |some l=>simp only[au];rw[jN,idx_map]
 |str s=>
  cases x with
  |dct k=>
   simp only[sh,gZ,kL];cases st[k]? with
   |none=>rfl
   |some c=>cases c<;>simp[qP,EJ]
  |_=>simp[sh,gZ]
 |_=>cases x<;>simp[sh,gZ]
def CY(st:St)(x y v:PV):jr (jz s0 st) (sh s0.length x) (sh s0.length y) (sh s0.length v)=(jr st x y v).map (jz s0):=by
 cases x with
 |lst k=>
  cases y with
  |int i=>
   simp only[sh,jr,kL];cases st[k]? with
   |none=>rfl
   |some c=>
    cases c with
    |lst l=>
     simp only[au,qP,lY];split
     ·simp only[au];rw[<-rM];simp only[qP,jN,List.map_set]
     ·rfl
    |_=>rfl
  |_=>simp[sh,jr]
 |dct k=>
  cases y with
  |str s=>
   simp only[sh,jr,kL];cases st[k]? with
   |none=>rfl
   |some c=>
    cases c with
    |dct l=>
     simp only[au,qP,aH];split
     ·simp only[au];rw[<-rM];simp only[qP,Nu]
     ·rfl
    |_=>rfl
  |_=>simp[sh,jr]
 |_=>cases y<;>simp[sh,jr]
def xR{α β:Type}(f:α->β)(l:List α)(lo hi:Option Int):kg (l.map f) lo hi=(kg l lo hi).map (List.map f):=by
 unfold kg;rw[aH];split<;>simp_all
def uu{α β:Type}(f:α->β)(n:Int)(l:List α)(a:Int):mH n (l.map f) a=(mH n l a).map f:=by
 unfold mH;rw[aH,List.map_filterMap];congr 1;funext i;simp
def HE(st:St)(x:PV)(lo hi s:Option Int):jj (jz s0 st) (sh s0.length x) lo hi s=(jj st x lo hi s).map (sh s0.length):=by
 have h:=jM s0 st x;cases s with
 |none=>
  cases x with
  |str s=>simp only[sh,jj];cases kg s lo hi<;>simp[sh]
  |list l=>simp only[sh,jj,jN,xR];cases kg l lo hi<;>simp[sh,jN]
  |lst k=>
   simp only[sh,jj]at h|-;rw[h];cases gM st (.lst k)with
   |none=>rfl
   |some l=>simp only[au,jN,xR];cases kg l lo hi<;>simp[sh,jN]
  |_=>simp[sh,jj]
 |some n=>
  cases x with
  |rng a b=>simp[sh,jj]
  |tup l=>simp[sh,jj]
  |_=>
   simp only[sh,jj]at h|-;rw[h];cases gM st _ with
   |none=>rfl
   |some l=>
    simp only[au];cases lo<;>cases hi<;>simp only[eF]<;>first|rfl|(split<;>simp[sh,jN,uu])
abbrev nc(q:PV×St):PV×St:=(sh s0.length q.1,jz s0 q.2)
def Dd(m:Nat)(l:List PV):(i_ m l).getLast?=l.getLast?.map (sh m):=by rw[jN,List.getLast?_map]
def By(m:Nat)(l:List PV):(i_ m l).dropLast=i_ m l.dropLast:=by rw[jN,jN,List.map_dropLast]
def K_(m:Nat)(l:List (ah)):i_ m (l.map .str)=l.map .str:=by
 rw[jN,bw];rfl
def Ib(st:St)(k:Nat)(name:Str)(args:List PV):methP (jz s0 st) (.lst (k+s0.length)) name (i_ s0.length args)=(methP st (.lst k) name args).map (nc s0):=by
 cases args with
 |nil=>
  simp only[i_,methP,kL];split
  ·cases st[k]? with
   |none=>rfl
   |some c=>
    cases c with
    |lst l=>
     simp only[au,qP,Dd];cases l.getLast? with
     |none=>rfl
     |some v=>simp only[au,nc,By,<-rM,qP]
    |_=>rfl
  ·rfl
 |cons v r=>
  cases r with
  |nil=>
   simp only[i_,methP,kL];split
   ·cases st[k]? with
    |none=>rfl
    |some c=>
     cases c with
     |lst l=>
      simp only[au,qP,nW];split
      ·simp only[au,nc,<-rM,qP,oF,i_,sh]
      ·rfl
     |_=>rfl
   ·rfl
  |cons u r=>simp[i_,methP]
def Ia(st:St)(s:ah)(name:Str)(args:List PV):methP (jz s0 st) (.str s) name (i_ s0.length args)=(methP st (.str s) name args).map (nc s0):=by
 have join:∀x:PV,(if(name==("join":Str)&& !o4 (sh s0.length x))=true then match gM (jz s0 st) (sh s0.length x)with
   |some l=>match jI l with
    |some ps=>if(iP (iV s ps)&&ps.length<=1000&&s.length<=10)=true then some (PV.str (iV s ps),jz s0 st)else none
    |none=>none
   |none=>none
  else none)=(if(name==("join":Str)&& !o4 x)=true then match gM st x with
   |some l=>match jI l with
    |some ps=>if(iP (iV s ps)&&ps.length<=1000&&s.length<=10)=true then some (PV.str (iV s ps),st)else none
    |none=>none
   |none=>none
  else none).map (nc s0):=by
  intro x;rw[LJ,jM];split
  ·cases gM st x with
   |none=>rfl
   |some l=>
    simp only[au,nV];cases jI l with
    |none=>rfl
    |some ps=>dsimp only;split<;>simp[nc,sh]
  ·rfl
 cases args with
 |nil=>simp[i_,methP]
 |cons x r=>
  cases r with
  |nil=>
   cases x with
   |str t=>
    cases t with
    |nil=>exact join (.str [])
    |cons c t=>
     cases t with
     |nil=>
      simp only[i_,sh,methP]
      repeat' split
      all_goals simp[nc,sh,K_]
     |cons d t=>exact join (.str (c::d::t))
   |none=>exact join .none
   |bool b=>exact join (.bool b)
   |int b=>exact join (.int b)
   |tup b=>exact join (.tup b)
   |list b=>exact join (.list b)
   |lst b=>exact join (.lst b)
   |dct b=>exact join (.dct b)
   |iset b=>exact join (.iset b)
   |cset b=>exact join (.cset b)
   |bset b=>exact join (.bset b)
   |fn b=>exact join (.fn b)
   |typ b=>exact join (.typ b)
   |rng a b=>exact join (.rng a b)
  |cons y r=>
   cases r with
   |nil=>
    cases x with
    |str t=>
     cases t with
     |nil=>cases y<;>simp[i_,sh,methP]
     |cons c t=>
      cases t with
      |nil=>
       cases y with
       |int p=>
        simp only[i_,sh,methP];split
        ·split
         ·cases q8 s c p.toNat<;>simp[nc,sh]
         ·rfl
        ·rfl
       |_=>simp[i_,sh,methP]
      |cons d t=>cases y<;>simp[i_,sh,methP]
    |_=>cases y<;>simp[i_,sh,methP]
   |cons z r=>cases x<;>cases y<;>simp[i_,sh,methP]
def ED(st:St)(l:ah)(name:Str)(args:List PV):methP (jz s0 st) (.cset l) name (i_ s0.length args)=(methP st (.cset l) name args).map (nc s0):=by
 cases args with
 |nil=>simp[i_,methP]
 |cons x r=>
  cases r with
  |nil=>
   cases x with
   |str s=>
    simp only[i_,sh,methP]
    repeat' split
    all_goals simp[nc,sh]
   |_=>simp[i_,sh,methP]
  |cons y r=>cases x<;>simp[i_,sh,methP]
def Lv(st:St)(o:PV)(name:Str)(args:List PV):methP (jz s0 st) (sh s0.length o) name (i_ s0.length args)=(methP st o name args).map (nc s0):=by
 cases o with
 |lst k=>exact Ib s0 st k name args
 |str s=>exact Ia s0 st s name args
 |cset l=>exact ED s0 st l name args
 |_=>cases args with
  |nil=>simp[sh,i_,methP]
  |cons x r=>cases r<;>simp[sh,i_,methP]
def Ga(m:Nat):∀(l:List PV)(a:PV),vR (sh m a) (i_ m l)=(vR a l).map (sh m)
 |[],a=>by simp[i_,vR]
 |b::l,a=>by
  simp only[i_,vR,FT];cases uA b a with
  |none=>rfl
  |some c=>cases c<;>simp[Ga m l]
def Gb(m:Nat):∀(l:List PV)(a:PV),qN (sh m a) (i_ m l)=(qN a l).map (sh m)
 |[],a=>by simp[i_,qN]
 |b::l,a=>by
  simp only[i_,qN,FT];cases uA a b with
  |none=>rfl
  |some c=>cases c<;>simp[Gb m l]
def NT{α β:Type}(f:α->β)(c:Bool)(a b:Option α):(if c=true then a else b).map f=if c=true then a.map f else b.map f:=by cases c<;>rfl
def Ra(st:St)(args:List PV):(match i_ s0.length args with
  |[.str s]=>some (PV.int s.length)
  |[.iset l]=>some (.int l.length)
  |[.rng _ _]=>none
  |[x]=>(gM (jz s0 st) x).map fun(l:List PV)=>PV.int l.length
  |_=>none)=(match args with
  |[.str s]=>some (PV.int s.length)
  |[.iset l]=>some (.int l.length)
  |[.rng _ _]=>none
  |[x]=>(gM st x).map fun(l:List PV)=>PV.int l.length
  |_=>none).map (sh s0.length):=by
 cases args with
 |nil=>rfl
 |cons x r=>
  cases r with
  |cons y r=>simp only[i_];cases x<;>rfl
  |nil=>
   have h:=jM s0 st x;cases x with
   |str s=>rfl
   |iset s=>rfl
   |rng a b=>rfl
   |_=>
    simp only[i_,sh]at h|-;rw[h];cases gM st _<;>simp[sh,lY]
def L8(st:St)(f:Str)(args:List PV):iR (jz s0 st) f (i_ s0.length args)=(iR st f args).map (sh s0.length):=by
 unfold iR;simp only[NT];refine eX rfl (fun _=>Ra s0 st args) fun _=> ?_;refine eX rfl (fun _=> ?_) fun _=> ?_
 ·rcases args with _|⟨x,_|⟨y,_|⟨z,r⟩⟩⟩
  ·rfl
  ·cases x<;>simp only[i_,sh]<;>first|rfl|(split<;>simp[sh])
  ·cases x<;>cases y<;>simp only[i_,sh]<;>first|rfl|(split<;>simp[sh])
  ·cases x<;>cases y<;>simp only[i_,sh]<;>rfl
 refine eX rfl (fun _=> ?_) fun _=> ?_
 ·rcases args with _|⟨x,_|⟨y,r⟩⟩
  ·rfl
  ·cases x<;>simp[i_,sh,AP]
  ·cases x<;>simp[i_,sh]
 refine eX rfl (fun _=> ?_) fun _=> ?_
 ·rcases args with _|⟨x,_|⟨y,r⟩⟩
  ·rfl
  ·cases x with
   |list l=>simp only[i_,sh,zj];cases mD l<;>simp[sh]
   |_=>simp[i_,sh]
  ·cases x<;>simp[i_,sh]
 refine eX rfl (fun _=> ?_) fun _=> ?_
 ·rcases args with _|⟨x,_|⟨y,_|⟨z,r⟩⟩⟩
  ·rfl
  ·cases x with
   |list l=>cases l with
    |nil=>simp[i_,sh]
    |cons a l=>simp only[i_,sh,Gb]
   |_=>simp[i_,sh]
  all_goals cases x<;>cases y<;>simp[i_,sh]
 refine eX rfl (fun _=> ?_) fun _=> ?_
 ·rcases args with _|⟨x,_|⟨y,r⟩⟩
  ·rfl
  ·cases x with
   |list l=>cases l with
    |nil=>simp[i_,sh]
    |cons a l=>simp only[i_,sh,Ga]
   |_=>simp[i_,sh]
  ·cases x with
   |list l=>cases l<;>simp[i_,sh]
   |_=>simp[i_,sh]
 refine eX rfl (fun _=> ?_) fun _=> ?_
 ·rcases args with _|⟨x,_|⟨y,r⟩⟩
  ·rfl
  ·cases x with
   |list l=>simp only[i_,sh,xG];cases kR l<;>simp[sh]
   |_=>simp[i_,sh]
  ·cases x<;>simp[i_,sh]
 refine eX rfl (fun _=> ?_) fun _=> ?_
 ·rcases args with _|⟨x,_|⟨y,r⟩⟩
  ·rfl
  ·cases x with
   |str s=>rcases s with _|⟨c,_|⟨d,s⟩⟩<;>simp[i_,sh]
   |_=>simp[i_,sh]
  ·cases x with
   |str s=>rcases s with _|⟨c,_|⟨d,s⟩⟩<;>simp[i_,sh]
   |_=>simp[i_,sh]
 refine eX rfl (fun _=> ?_) fun _=> ?_
 ·rcases args with _|⟨x,_|⟨y,r⟩⟩
  ·rfl
  ·cases x<;>simp only[i_,sh]<;>first|rfl|(split<;>simp[sh])
  ·cases x<;>simp[i_,sh]
 refine eX rfl (fun _=> ?_) fun _=> ?_
 ·rcases args with _|⟨x,_|⟨y,_|⟨z,r⟩⟩⟩
  ·rfl
  ·cases x with
   |str s=>cases s<;>simp[i_,sh]
   |_=>simp[i_,sh]
  ·cases x with
   |str s=>cases s with
    |nil=>cases y<;>simp[i_,sh]
    |cons c s=>
     cases y with
     |int i=>
      simp only[i_,sh];by_cases hi:i=16
      ·subst hi;show(if s.length<=10 then(lJ 0 (c::s)).map fun(n:Nat)=>PV.int (n:Int)else none)=(if s.length<=10 then(lJ 0 (c::s)).map fun(n:Nat)=>PV.int (n:Int)else none).map (sh s0.length);by_cases hl:s.length<=10
       ·rw[aQ hl];cases lJ 0 (c::s)<;>rfl
       ·rw[aD hl];rfl
      ·split
       ·rename_i h;simp at h;exact absurd h.2 hi
       ·rfl
     |_=>simp[i_,sh]
   |_=>cases y<;>simp[i_,sh]
  ·cases x with
   |str s=>cases s<;>cases y<;>simp[i_,sh]
   |_=>cases y<;>simp[i_,sh]
 refine eX rfl (fun _=> ?_) fun _=> ?_
 ·rcases args with _|⟨x,_|⟨y,_|⟨z,r⟩⟩⟩
  ·rfl
  ·cases x<;>simp[i_,sh]
  ·cases x<;>cases y<;>simp only[i_,sh]<;>first|rfl|(split<;>simp[sh])
  ·cases x<;>cases y<;>simp[i_,sh]
 refine eX rfl (fun _=> ?_) fun _=> ?_
 ·rcases args with _|⟨x,_|⟨y,_|⟨z,r⟩⟩⟩
  ·rfl
  ·cases x<;>simp[i_,sh]
  ·cases x with
   |typ t=>
    cases y with
    |tup l=>
     rcases l with _|⟨a,_|⟨b,_|⟨c,l⟩⟩⟩
     ·simp[i_,sh]
     ·cases a<;>simp[i_,sh]
     ·cases a<;>cases b<;>simp only[i_,sh]<;>first|rfl|(split<;>simp[sh])
     ·cases a<;>cases b<;>simp[i_,sh]
    |_=>simp[i_,sh]
   |_=>cases y<;>simp[i_,sh]
  ·cases x with
   |typ t=>
    cases y with
    |tup l=>
     rcases l with _|⟨a,_|⟨b,_|⟨c,l⟩⟩⟩
     ·simp[i_,sh]
     ·cases a<;>simp[i_,sh]
     all_goals cases a<;>cases b<;>simp[i_,sh]
    |_=>simp[i_,sh]
   |_=>cases y<;>simp[i_,sh]
 refine eX rfl (fun _=> ?_) fun _=> ?_
 ·rcases args with _|⟨x,_|⟨y,r⟩⟩
  ·rfl
  all_goals cases x<;>simp[i_,sh]
 refine eX rfl (fun _=> ?_) fun _=>rfl;cases args<;>simp[i_,sh]
end
section
variable(s0:St)
def Vq(m:Nat):iE->iE
 | .next=>.next
 | .brk=>.brk
 | .cont=>.cont
 | .ret v=>.ret (sh m v)
abbrev Pq(q:Bool×St):Bool×St:=(q.1,jz s0 q.2)
abbrev Ab(q:iE×ie×St):iE×ie×St:=(Vq s0.length q.1,kO s0.length q.2.1,jz s0 q.2.2)
abbrev UK(q:List PV×St):List PV×St:=(i_ s0.length q.1,jz s0 q.2)
def IY(m:Nat)(l:List (Str×PV)):List (Str×PV):=l.map fun xv=>(xv.1,sh m xv.2)
abbrev SV(q:List (Str×PV)×St):List (Str×PV)×St:=(IY s0.length q.1,jz s0 q.2)
structure Fr(r:pK):Prop where
 E:∀sc e ρ st,r.E sc e (kO s0.length ρ) (jz s0 st)=(r.E sc e ρ st).map (nc s0)
 T:∀sc e ρ st,r.T sc e (kO s0.length ρ) (jz s0 st)=(r.T sc e ρ st).map (Pq s0)
 S:∀sc e ρ st,r.S sc e (kO s0.length ρ) (jz s0 st)=(r.S sc e ρ st).map (Ab s0)
 C:∀f a k st,r.C f (i_ s0.length a) (IY s0.length k) (jz s0 st)=(r.C f a k st).map (nc s0)
def pU(m:Nat)(x:Str):∀ρ:ie,iY x (kO m ρ)=(iY x ρ).map (sh m)
 |[]=>rfl
 |(y,v)::ρ=>by
  have ih:=pU m x ρ;unfold kO at ih|-;simp only[aL,iY];split
  ·rfl
  ·exact ih
def FU(m:Nat)(x:Str)(v:PV):∀ρ:ie,Ah x (sh m v) (kO m ρ)=kO m (Ah x v ρ)
 |[]=>rfl
 |(y,u)::ρ=>by
  have ih:=FU m x v ρ;unfold kO at ih|-;simp only[aL,Ah];split
  ·rfl
  ·simp only[aL,ih]
def EP(m:Nat)(x:Str):(nQ x).map (sh m)=nQ x:=by
 unfold nQ
 repeat' split
 all_goals rfl
def Lp(m:Nat)(sc:Scope)(x:Str)(ρ:ie):oZ sc x (kO m ρ)=(oZ sc x ρ).map (sh m):=by
 unfold oZ;rw[pU];cases iY x ρ with
 |some v=>rfl
 |none=>
  simp only[eF];split
  ·exact(EP m x).symm
  ·rfl
def rT(m:Nat)(sc:Scope)(x:Str)(v:PV)(ρ:ie):kc sc x (sh m v) (kO m ρ)=(kc sc x v ρ).map (kO m):=by
 unfold kc;split<;>simp[FU]
def o9(m:Nat)(sc:Scope):∀(xs:List Str)(vs:List PV)(ρ:ie),storeAll sc xs (i_ m vs) (kO m ρ)=(storeAll sc xs vs ρ).map (kO m)
 |[],[],ρ=>rfl
 |[],_::_,ρ=>rfl
 |_::_,[],ρ=>rfl
 |x::xs,v::vs,ρ=>by
  simp only[i_,storeAll,rT];cases kc sc x v ρ with
  |none=>rfl
  |some ji=>exact o9 m sc xs vs ji
def tE(sc:Scope)(st:St)(t:Expr)(v:PV)(ρ:ie):i8 sc (jz s0 st) t (sh s0.length v) (kO s0.length ρ)=(i8 sc st t v ρ).map (kO s0.length):=by
 cases t with
 |Name x p=>exact rT _ sc x v ρ
 |Tuple es k p=>
  simp only[i8];cases namesOf es with
  |none=>rfl
  |some xs=>
   have tup:∀l,(if(xs.length==(i_ s0.length l).length)=true then storeAll sc xs (i_ s0.length l) (kO s0.length ρ)else none)=(if(xs.length==l.length)=true then storeAll sc xs l ρ else none).map (kO s0.length):=by
    intro l;rw[lY];split
    ·exact o9 _ sc xs l ρ
    ·rfl
   have bs:∀b,storeAll sc xs [.bool b] (kO s0.length ρ)=(storeAll sc xs [.bool b] ρ).map (kO s0.length):=fun b=>o9 _ sc xs [.bool b] ρ;rcases xs with _|⟨x,_|⟨y,xs⟩⟩<;>cases v<;>simp only[sh]<;>first|rfl|exact tup _|exact bs _
 |_=>rfl
variable{s0}
def p6{f:Expr->ie->St->Option (PV×St)}(F:∀e ρ st,f e (kO s0.length ρ) (jz s0 st)=(f e ρ st).map (nc s0))(ρ:ie):∀(es:List Expr)(st:St),ja f (kO s0.length ρ) es (jz s0 st)=(ja f ρ es st).map (UK s0)
 |[],st=>rfl
 |e::es,st=>by
  simp only[ja];split
  ·rfl
  ·rw[F];cases f e ρ st with
   |none=>rfl
   |some q=>
    simp only[au,ao,p6 F ρ es];cases ja f ρ es q.2<;>rfl
def Gl{f:Expr->ie->St->Option (PV×St)}(F:∀e ρ st,f e (kO s0.length ρ) (jz s0 st)=(f e ρ st).map (nc s0))(ρ:ie):∀(es:List Keyword)(st:St),nC f (kO s0.length ρ) es (jz s0 st)=(nC f ρ es st).map (SV s0)
 |[],st=>rfl
 |⟨none,e,_⟩::es,st=>rfl
 |⟨some n,e,_⟩::es,st=>by
  simp only[nC];rw[F];cases f e ρ st with
  |none=>rfl
  |some q=>
   simp only[au,ao,Gl F ρ es];cases nC f ρ es q.2<;>rfl
def AW{f:Expr->ie->St->Option (PV×St)}(F:∀e ρ st,f e (kO s0.length ρ) (jz s0 st)=(f e ρ st).map (nc s0))(ρ:ie)(e:Option Expr)(st:St):pn f (kO s0.length ρ) e (jz s0 st)=(pn f ρ e st).map fun q=>(q.1,jz s0 q.2):=by
 cases e with
 |none=>rfl
 |some e=>
  simp only[pn];rw[F];cases f e ρ st with
  |none=>rfl
  |some q=>obtain⟨v,gV⟩:=q;cases v<;>rfl
def u9{f:Expr->ie->St->Option (PV×St)}(F:∀e ρ st,f e (kO s0.length ρ) (jz s0 st)=(f e ρ st).map (nc s0))(ρ:ie):∀(ops:List CmpOp)(es:List Expr)(a:PV)(st:St),jJ f (kO s0.length ρ) (sh s0.length a) ops es (jz s0 st)=(jJ f ρ a ops es st).map (Pq s0)
 |[],es,a,st=>by cases es<;>rfl
 |[op],[],a,st=>rfl
 |[op],[e],a,st=>by
  simp only[jJ];rw[F];cases f e ρ st with
  |none=>rfl
  |some q=>
   simp only[au,ao,xB];cases iN q.2 op a q.1<;>rfl
 |[op],e::e'::es,a,st=>by
  simp only[jJ];rw[F];cases f e ρ st with
  |none=>rfl
  |some q=>
   simp only[au,ao,xB];cases iN q.2 op a q.1 with
   |none=>rfl
   |some b=>cases b<;>rfl
 |op::GR::ops,[],a,st=>rfl
 |op::GR::ops,e::es,a,st=>by
  simp only[jJ];rw[F];cases f e ρ st with
  |none=>rfl
  |some q=>
   simp only[au,ao,xB];cases iN q.2 op a q.1 with
   |none=>rfl
   |some b=>
    cases b with
    |false=>rfl
    |true=>exact u9 F ρ (GR::ops) es q.1 q.2
def zm{t:Expr->ie->St->Option (Bool×St)}(F:∀e ρ st,t e (kO s0.length ρ) (jz s0 st)=(t e ρ st).map (Pq s0))(ρ:ie):∀(es:List Expr)(st:St),lX t (kO s0.length ρ) es (jz s0 st)=(lX t ρ es st).map (Pq s0)
 |[],st=>rfl
 |e::es,st=>by
  simp only[lX];rw[F];cases t e ρ st with
  |none=>rfl
  |some q=>
   obtain⟨b,gV⟩:=q;cases b with
   |false=>rfl
   |true=>exact zm F ρ es gV
def Gf{c:List PV->St->Option (PV×St)}{put BQ:PV->St->Option St}{fit uD:St->Bool}(Fc:∀a st,c (i_ s0.length a) (jz s0 st)=(c a st).map (nc s0))(Fp:∀x st,BQ (sh s0.length x) (jz s0 st)=(put x st).map (jz s0))(Ff:∀st,uD (jz s0 st)=fit st):
  ∀(l:List PV)(st:St),pM c BQ uD (i_ s0.length l) (jz s0 st)=(pM c put fit l st).map (jz s0)
 |[],st=>rfl
 |v::l,st=>by
  simp only[i_,pM];have:=Fc [v] st;simp only[i_]at this;rw[this];cases c [v] st with
  |none=>rfl
  |some q=>
   simp only[au,ao,Fp];cases put q.1 q.2 with
   |none=>rfl
   |some jk=>
    simp only[au,ao,Ff];split
    ·exact Gf Fc Fp Ff l jk
    ·rfl
def u0(m:Nat)(sc:Scope):∀ρ:ie,freeOf sc (kO m ρ)=kO m (freeOf sc ρ)
 |[]=>rfl
 |(x,v)::ρ=>by
  have ih:=u0 m sc ρ;unfold kO at ih|-;simp only[aL,freeOf];split
  ·simp only[aL,ih]
  ·exact ih
def FW(n:Nat)(x:PV)(st:St):putL (n+s0.length) (sh s0.length x) (jz s0 st)=(putL n x st).map (jz s0):=by
 unfold putL;rw[kL];cases st[n]? with
 |none=>rfl
 |some c=>
  cases c with
  |lst l=>
   simp only[au,qP,nW];split
   ·simp only[au,<-rM,qP,oF,i_]
   ·rfl
  |_=>rfl
def Nv(n:Nat)(x:PV)(st:St):tO (n+s0.length) (sh s0.length x) (jz s0 st)=(tO n x st).map (jz s0):=by
 unfold tO;rw[kL];cases x with
 |bool b=>
  simp only[sh];cases st[n]? with
  |none=>rfl
  |some c=>
   cases c with
   |bs o=>
    cases o with
    |none=>simp only[au,qP,<-rM]
    |some c=>simp only[au,qP];split<;>rfl
   |_=>rfl
 |_=>cases st[n]? <;>rfl
def rU(x:PV)(st gV:St):iM (sh s0.length x) (jz s0 st) (jz s0 gV)=iM x st gV:=by
 cases x with
 |lst k=>
  simp only[sh,iM,kL];cases st[k]? with
  |none=>rfl
  |some c=>cases gV[k]? with
   |none=>rfl
   |some c'=>exact Dv _ c c'
 |_=>rfl
def CX(x:PV)(st:St):lO (jz s0 st) (sh s0.length x)=lO st x:=by
 cases x with
 |lst k=>
  simp only[sh,lO,kL];cases st[k]? with
  |none=>rfl
  |some c=>cases c<;>rfl
 |_=>rfl
def ue{r:pK}(F:Fr s0 r)(sc:Scope){put BQ:PV->St->Option St}{fit uD:St->Bool}(Fp:∀x st,BQ (sh s0.length x) (jz s0 st)=(put x st).map (jz s0))(Ff:∀st,uD (jz s0 st)=fit st)(elt target:Expr)(ifs:List Expr):
  ∀(l:List PV)(ρ:ie)(st:St),jl r sc BQ elt target ifs uD (i_ s0.length l) (kO s0.length ρ) (jz s0 st)=(jl r sc put elt target ifs fit l ρ st).map (jz s0)
 |[],ρ,st=>rfl
 |v::l,ρ,st=>by
  simp only[i_,jl,tE];cases i8 sc st target v ρ with
  |none=>rfl
  |some ji=>
   simp only[au,ao,zm (F.T sc)];cases lX (r.T sc) ji ifs st with
   |none=>rfl
   |some q=>
    obtain⟨b,gV⟩:=q;simp only[au,ao];cases b with
    |false=>
     simp only[az,a_,Ff];split
     ·exact ue F sc Fp Ff elt target ifs l ji gV
     ·rfl
    |true=>
     simp only[bY,F.E];cases r.E sc elt ji gV with
     |none=>rfl
     |some q=>
      simp only[au,ao,Fp];cases put q.1 q.2 with
      |none=>rfl
      |some jk=>
       simp only[au,ao,Ff];split
       ·exact ue F sc Fp Ff elt target ifs l ji jk
       ·rfl
def wg(m:Nat){f f':PV->Option PV}(F:∀v,f' (sh m v)=(f v).map (sh m)):∀l:List PV,kj f' (i_ m l)=(kj f l).map (i_ m)
 |[]=>rfl
 |v::l=>by
  simp only[i_,kj,F];cases f v with
  |none=>rfl
  |some x=>
   simp only[au,ao,wg m F l];cases kj f l<;>rfl
def yc(st:St)(n:Nat):∀(fuel:Nat)(v:PV),ia (jz s0 st) (n+s0.length) fuel (sh s0.length v)=(ia st n fuel v).map (sh s0.length)
 |0,_=>rfl
 |fuel+1,v=>by
  have ih:=yc st n fuel;cases v with
  |tup l=>simp only[sh,ia,wg _ ih];cases kj (ia st n fuel) l<;>rfl
  |list l=>simp only[sh,ia,wg _ ih];cases kj (ia st n fuel) l<;>rfl
  |lst k=>
   simp only[sh,ia,Nat.add_lt_add_iff_right,kL];split
   ·rfl
   ·cases st[k]? with
    |none=>rfl
    |some c=>
     cases c with
     |lst l=>simp only[au,qP,wg _ ih];cases kj (ia st n fuel) l<;>rfl
     |_=>rfl
  |dct k=>
   simp only[sh,ia,Nat.add_lt_add_iff_right];split<;>rfl
  |_=>rfl
def u6(hs:s0.all (iu s0.length)=true)(n:Nat)(st:St)(v:PV):finish (n+s0.length) (jz s0 st) (sh s0.length v)=(finish n st v).map (nc s0):=by
 unfold finish;rw[j3,xh,uS s0 hs,yc];have:decide (n+s0.length<=st.length+s0.length)=decide (n<=st.length):=by
  by_cases h:n<=st.length
  ·rw[aT h,aT (by omega)]
  ·rw[bP h,bP (by omega)]
 rw[this];split
 ·cases ia st n 6 v<;>rfl
 ·rfl
end
section
variable{s0:St}{r:pK}
def lA{f:Stmt->ie->St->Option (iE×ie×St)}(F:∀e ρ st,f e (kO s0.length ρ) (jz s0 st)=(f e ρ st).map (Ab s0)):∀(l:List Stmt)(ρ:ie)(st:St),gT f l (kO s0.length ρ) (jz s0 st)=(gT f l ρ st).map (Ab s0)
 |[],ρ,st=>rfl
 |s::l,ρ,st=>by
  simp only[gT,F];cases f s ρ st with
  |none=>rfl
  |some q=>
   obtain⟨fl,ji,gV⟩:=q;cases fl with
   |next=>exact lA F l ji gV
   |_=>rfl
def tZ{body:ie->St->Option (iE×ie×St)}(F:∀ρ st,body (kO s0.length ρ) (jz s0 st)=(body ρ st).map (Ab s0))(sc:Scope)(target:Expr){fit uD:St->Bool}(Ff:∀st,uD (jz s0 st)=fit st):∀(l:List PV)(ρ:ie)(st:St),j_ body sc target uD (i_ s0.length l) (kO s0.length ρ) (jz s0 st)=(j_ body sc target fit l ρ st).map (Ab s0)
 |[],ρ,st=>rfl
 |v::l,ρ,st=>by
  simp only[i_,j_,tE];cases i8 sc st target v ρ with
  |none=>rfl
  |some ji=>
   simp only[au,ao,F];cases body ji st with
   |none=>rfl
   |some q=>
    obtain⟨fl,yy,jk⟩:=q;cases fl with
    |ret v=>rfl
    |brk=>rfl
    |next=>
     simp only[au,ao,Ab,Vq,Ff];split
     ·exact tZ F sc target Ff l yy jk
     ·rfl
    |cont=>
     simp only[au,ao,Ab,Vq,Ff];split
     ·exact tZ F sc target Ff l yy jk
     ·rfl
def zg{test:ie->St->Option (Bool×St)}{body:ie->St->Option (iE×ie×St)}(Ft:∀ρ st,test (kO s0.length ρ) (jz s0 st)=(test ρ st).map (Pq s0))(F:∀ρ st,body (kO s0.length ρ) (jz s0 st)=(body ρ st).map (Ab s0)):∀(n:Nat)(ρ:ie)(st:St),jR test body n (kO s0.length ρ) (jz s0 st)=(jR test body n ρ st).map (Ab s0)
 |0,_,_=>rfl
 |n+1,ρ,st=>by
  simp only[jR,Ft];cases test ρ st with
  |none=>rfl
  |some q=>
   obtain⟨b,gV⟩:=q;cases b with
   |false=>rfl
   |true=>
    simp only[au,ao,bY,F];cases body ρ gV with
    |none=>rfl
    |some q=>
     obtain⟨fl,yy,jk⟩:=q;cases fl with
     |ret v=>rfl
     |brk=>rfl
     |next|cont=>exact zg Ft F n yy jk
def Me(m:Nat)(a:Arguments)(args:List PV)(kws:List (Str×PV)):q6 a (i_ m args) (IY m kws)=(q6 a args kws).map fun q=>(q.1,i_ m q.2):=by
 unfold q6;have he:(IY m kws).isEmpty=kws.isEmpty:=by unfold IY;cases kws<;>rfl
 have hn:(IY m kws).map (·.1)=kws.map (·.1):=by unfold IY;rw[bw];rfl
 have hv:(IY m kws).map (·.2)=i_ m (kws.map (·.2)):=by unfold IY;rw[bw,jN,bw];rfl
 rw[he,hn,hv,lY,nW];split
 ·split<;>rfl
 ·split
  ·simp only[au,oF,i_,sh];simp only[jN,List.map_take,List.map_drop]
  ·rfl
 ·split
  ·simp only[au,oF]
  ·rfl
 ·rfl
def KN(hs:s0.all (iu s0.length)=true)(F:Fr s0 r)(f:Str)(a:List PV)(k:List (Str×PV))(st:St):tR r f (i_ s0.length a) (IY s0.length k) (jz s0 st)=(tR r f a k st).map (nc s0):=by
 unfold tR;cases fnOf f with
 |none=>rfl
 |some q=>
  obtain⟨ar,body,sc⟩:=q;simp only[ao];split
  ·rfl
  ·rw[Me];cases q6 ar a k with
   |none=>rfl
   |some q=>
    simp only[au,ao];have:=o9 s0.length sc q.1 q.2 [];rw[show kO s0.length []=[]from rfl]at this;rw[this];cases storeAll sc q.1 q.2 []with
    |none=>rfl
    |some ρ=>
     simp only[au,ao,lA (F.S sc)];cases gT (r.S sc) body ρ st with
     |none=>rfl
     |some w=>
      obtain⟨fl,ji,gV⟩:=w;simp only[au,ao,Ab,j3];rw[<-u6 hs];congr 1;cases fl<;>rfl
def KG(F:Fr s0 r)(sc:Scope)(e:Expr)(ρ:ie)(st:St):stepT r sc e (kO s0.length ρ) (jz s0 st)=(stepT r sc e ρ st).map (Pq s0):=by
 have dflt:((r.E sc e (kO s0.length ρ) (jz s0 st)).bind fun q=>(iT q.2 q.1).map fun b=>(b,q.2))=((r.E sc e ρ st).bind fun q=>(iT q.2 q.1).map fun b=>(b,q.2)).map (Pq s0):=by
  rw[F.E];cases r.E sc e ρ st with
  |none=>rfl
  |some q=>
   simp only[au,ao,nc,sQ];cases iT q.2 q.1<;>rfl
 cases e with
 |UnaryOp op a p=>
  cases op with
  |Not=>
   simp only[stepT,F.T];cases r.T sc a ρ st<;>rfl
  |_=>exact dflt
 |BoolOp op es p=>
  cases es with
  |nil=>rfl
  |cons a es=>
   simp only[stepT,F.T];cases r.T sc a ρ st with
   |none=>rfl
   |some q=>obtain⟨b,gV⟩:=q;cases op<;>cases b<;>first|rfl|exact F.T _ _ _ _
 |Compare a ops es p=>
  simp only[stepT];split
  ·rfl
  ·rw[F.E];cases r.E sc a ρ st with
   |none=>rfl
   |some q=>exact u9 (F.E sc) ρ ops es q.1 q.2
 |IfExp=>rfl
 |_=>exact dflt
def nM{α:Type}{a b:Option (PV×St)}{f g:PV×St->Option α}{h:α->α}(e:b=a.map (nc s0))(k:∀q,f (nc s0 q)=(g q).map h):b.bind f=(a.bind g).map h:=by
 subst e;cases a with
 |none=>rfl
 |some q=>exact k q
def RJ(F:Fr s0 r)(hs:s0.all (iu s0.length)=true)(sc:Scope)(f:Str)(np:Pos)(args:List Expr)(kws:List Keyword)(pos:Pos)(ρ:ie)(st:St):
  iI r sc (.Call (.Name f np) args kws pos) (kO s0.length ρ) (jz s0 st)=(iI r sc (.Call (.Name f np) args kws pos) ρ st).map (nc s0):=by
 have plain:((ja (r.E sc) (kO s0.length ρ) args (jz s0 st)).bind fun q=>(nC (r.E sc) (kO s0.length ρ) kws q.2).bind fun k=>
    if jf.contains f=true then(match k.1 with
     |[]=>(iR k.2 f q.1).map fun v=>(v,k.2)
     |_=>none)
    else if(fnOf f).isNone=true then none else r.C f q.1 k.1 k.2)=((ja (r.E sc) ρ args st).bind fun q=>(nC (r.E sc) ρ kws q.2).bind fun k=>
    if jf.contains f=true then(match k.1 with
     |[]=>(iR k.2 f q.1).map fun v=>(v,k.2)
     |_=>none)
    else if(fnOf f).isNone=true then none else r.C f q.1 k.1 k.2).map (nc s0):=by
  rw[p6 (F.E sc)];cases ja (r.E sc) ρ args st with
  |none=>rfl
  |some q=>
   simp only[au,ao,UK,Gl (F.E sc)];cases nC (r.E sc) ρ kws q.2 with
   |none=>rfl
   |some k=>
    obtain⟨k,jk⟩:=k;simp only[au,ao,SV];split
    ·cases k with
     |nil=>
      show((iR (jz s0 jk) f (i_ s0.length q.1)).map fun v=>(v,jz s0 jk))=_;rw[L8];cases iR jk f q.1<;>rfl
     |cons x k=>rfl
    ·split
     ·rfl
     ·exact F.C f q.1 k jk
 have WS:∀(m:Str)(g xs:Expr),(if(m==("map":Str)&&(iY m (kO s0.length ρ)).isNone&&iw sc m==some .globalImplicit&& !jx g&& !jx xs)=true then
     (r.E sc g (kO s0.length ρ) (jz s0 st)).bind fun q=>(r.E sc xs (kO s0.length ρ) q.2).bind fun x=>match q.1,x.1 with
      | .fn n,.lst k=>match gM x.2 (.lst k)with
       |some l=>(pM (fun a st=>r.C n a [] st) (putL x.2.length) (iM (.lst k) x.2) l (x.2++[.lst []])).bind fun gV=>(finish x.2.length gV (.lst x.2.length)).bind fun w=>match w.1 with
        | .list vs=>some (PV.tup vs,w.2)
        |_=>none
       |none=>none
      |_,_=>none
    else none)=(if(m==("map":Str)&&(iY m ρ).isNone&&iw sc m==some .globalImplicit&& !jx g&& !jx xs)=true then
     (r.E sc g ρ st).bind fun q=>(r.E sc xs ρ q.2).bind fun x=>match q.1,x.1 with
      | .fn n,.lst k=>match gM x.2 (.lst k)with
       |some l=>(pM (fun a st=>r.C n a [] st) (putL x.2.length) (iM (.lst k) x.2) l (x.2++[.lst []])).bind fun gV=>(finish x.2.length gV (.lst x.2.length)).bind fun w=>match w.1 with
        | .list vs=>some (PV.tup vs,w.2)
        |_=>none
       |none=>none
      |_,_=>none
    else none).map (nc s0):=by
  intro m g xs;rw[pU,show((iY m ρ).map (sh s0.length)).isNone=(iY m ρ).isNone by cases iY m ρ<;>rfl];split
  ·refine nM (F.E sc g ρ st) fun q=>nM (F.E sc xs ρ q.2) fun x=> ?_;obtain⟨gv,st1⟩:=q;obtain⟨xv,jk⟩:=x;cases gv with
   |fn n=>
    cases xv with
    |lst k=>
     have hc:=jM s0 jk (.lst k);simp only[sh]at hc;simp only[nc,sh,hc];cases gM jk (.lst k)with
     |none=>rfl
     |some l=>
      simp only[au,j3];have h:=Gf (s0:=s0) (c:=fun a st=>r.C n a [] st) (put:=putL jk.length) (BQ:=putL (jk.length+s0.length)) (fit:=iM (.lst k) jk) (uD:=iM (.lst (k+s0.length)) (jz s0 jk))
       (fun a st=>F.C n a [] st) (fun x st=>FW _ x st) (fun st=>rU (.lst k) jk st) l (jk++[.lst []])
      rw[<-mW]at h;simp only[qP,i_]at h;rw[h];cases pM (fun a st=>r.C n a [] st) (putL jk.length) (iM (.lst k) jk) l (jk++[.lst []])with
      |none=>rfl
      |some j6=>
       simp only[au,ao];have hf:=u6 hs jk.length j6 (.lst jk.length);simp only[sh]at hf;rw[hf];cases finish jk.length j6 (.lst jk.length)with
       |none=>rfl
       |some w=>obtain⟨w,DE⟩:=w;cases w<;>rfl
    |_=>rfl
   |_=>cases xv<;>rfl
  ·rfl
 simp only[iI];rw[pU];cases iY f ρ with
 |some v=>rfl
 |none=>
  simp only[eF];cases iw sc f with
  |none=>rfl
  |some k=>
   cases k with
   |globalImplicit=>
    dsimp only;split
    ·exact WS _ _ _
    ·exact plain
   |_=>rfl
def E5(F:Fr s0 r)(hs:s0.all (iu s0.length)=true)(sc iS:Scope)(elt target iter:Expr)(ifs:List Expr)(ρ:ie)(st:St):
  (if(!r7 iS||jT iter|| !lK sc iS)=true then none else(r.E sc iter (kO s0.length ρ) (jz s0 st)).bind fun q=>(gM q.2 q.1).bind fun l=>
   (jl r iS (putL q.2.length) elt target ifs (iM q.1 q.2) l (freeOf iS (kO s0.length ρ)) (q.2++[.lst []])).bind fun gV=>finish q.2.length gV (.lst q.2.length))=
  (if(!r7 iS||jT iter|| !lK sc iS)=true then none else(r.E sc iter ρ st).bind fun q=>(gM q.2 q.1).bind fun l=>
   (jl r iS (putL q.2.length) elt target ifs (iM q.1 q.2) l (freeOf iS ρ) (q.2++[.lst []])).bind fun gV=>finish q.2.length gV (.lst q.2.length)).map (nc s0):=by
 split
 ·rfl
 ·refine nM (F.E sc iter ρ st) fun q=> ?_;obtain⟨x,st1⟩:=q;simp only[nc,jM,u0,j3];cases gM st1 x with
  |none=>rfl
  |some l=>
   simp only[au,ao];have h:=ue F iS (put:=putL st1.length) (BQ:=putL (st1.length+s0.length)) (fit:=iM x st1) (uD:=iM (sh s0.length x) (jz s0 st1)) (fun x st=>FW _ x st) (fun st=>rU x st1 st) elt target ifs l (freeOf iS ρ) (st1++[.lst []]);rw[<-mW]at h;simp only[qP,i_]at h;rw[h];cases jl r iS (putL st1.length) elt target ifs (iM x st1) l (freeOf iS ρ) (st1++[.lst []])with
   |none=>rfl
   |some j6=>
    simp only[au,ao];have hf:=u6 hs st1.length j6 (.lst st1.length);simp only[sh]at hf;exact hf
def Rv(hs:s0.all (iu s0.length)=true)(st1 j6:St):(match(jz s0 j6)[st1.length+s0.length]? with
    |some (.bs (some b))=>if(decide (st1.length+s0.length<=(jz s0 j6).length)&&((jz s0 j6).take (st1.length+s0.length)).all (iu (st1.length+s0.length)))=true then some (PV.bset b,(jz s0 j6).take (st1.length+s0.length))else none
    |_=>none)=(match j6[st1.length]? with
    |some (.bs (some b))=>if(decide (st1.length<=j6.length)&&(j6.take st1.length).all (iu st1.length))=true then some (PV.bset b,j6.take st1.length)else none
    |_=>none).map (nc s0):=by
 rw[kL,xh,uS s0 hs,j3];have:decide (st1.length+s0.length<=j6.length+s0.length)=decide (st1.length<=j6.length):=by
  by_cases h:st1.length<=j6.length
  ·rw[aT h,aT (by omega)]
  ·rw[bP h,bP (by omega)]
 rw[this];cases j6[st1.length]? with
 |none=>rfl
 |some c=>
  cases c with
  |bs o=>
   cases o with
   |none=>rfl
   |some b=>
    simp only[au,qP];split<;>rfl
  |_=>rfl
def IW(F:Fr s0 r)(hs:s0.all (iu s0.length)=true)(sc iS:Scope)(elt target iter:Expr)(ρ:ie)(st:St):
  (if(!r7 iS||jT iter|| !lK sc iS)=true then none else(r.E sc iter (kO s0.length ρ) (jz s0 st)).bind fun q=>(gM q.2 q.1).bind fun l=>
   (jl r iS (tO q.2.length) elt target [] (iM q.1 q.2) l (freeOf iS (kO s0.length ρ)) (q.2++[.bs none])).bind fun gV=>match gV[q.2.length]? with
    |some (.bs (some b))=>if(decide (q.2.length<=gV.length)&&(gV.take q.2.length).all (iu q.2.length))=true then some (PV.bset b,gV.take q.2.length)else none
    |_=>none)=
  (if(!r7 iS||jT iter|| !lK sc iS)=true then none else(r.E sc iter ρ st).bind fun q=>(gM q.2 q.1).bind fun l=>
   (jl r iS (tO q.2.length) elt target [] (iM q.1 q.2) l (freeOf iS ρ) (q.2++[.bs none])).bind fun gV=>match gV[q.2.length]? with
    |some (.bs (some b))=>if(decide (q.2.length<=gV.length)&&(gV.take q.2.length).all (iu q.2.length))=true then some (PV.bset b,gV.take q.2.length)else none
    |_=>none).map (nc s0):=by
 split
 ·rfl
 ·refine nM (F.E sc iter ρ st) fun q=> ?_;obtain⟨x,st1⟩:=q;simp only[nc,jM,u0,j3];cases gM st1 x with
  |none=>rfl
  |some l=>
   simp only[au,ao];have h:=ue F iS (put:=tO st1.length) (BQ:=tO (st1.length+s0.length)) (fit:=iM x st1) (uD:=iM (sh s0.length x) (jz s0 st1)) (fun x st=>Nv _ x st) (fun st=>rU x st1 st) elt target [] l (freeOf iS ρ) (st1++[.bs none]);rw[<-mW]at h;simp only[qP]at h;rw[h];cases jl r iS (tO st1.length) elt target [] (iM x st1) l (freeOf iS ρ) (st1++[.bs none])with
   |none=>rfl
   |some j6=>
    simp only[au,ao];have:=Rv (s0:=s0) hs st1 j6;simp only[j3]at this|-;exact this
def UB(F:Fr s0 r)(hs:s0.all (iu s0.length)=true)(sc:Scope)(a:Expr)(ρ:ie)(st:St):
  (if jx a=true then none else(r.E sc a (kO s0.length ρ) (jz s0 st++[.bs none])).bind fun q=>match q.1,q.2[(jz s0 st).length]? with
  | .int i,some (.bs none)=>if(decide ((jz s0 st).length<=q.2.length)&&(q.2.take (jz s0 st).length).all (iu (jz s0 st).length))=true then some (PV.iset [i],q.2.take (jz s0 st).length)else none
  |_,_=>none)=(if jx a=true then none else(r.E sc a ρ (st++[.bs none])).bind fun q=>match q.1,q.2[st.length]? with
  | .int i,some (.bs none)=>if(decide (st.length<=q.2.length)&&(q.2.take st.length).all (iu st.length))=true then some (PV.iset [i],q.2.take st.length)else none
  |_,_=>none).map (nc s0):=by
 split
 ·rfl
 ·have h:=F.E sc a ρ (st++[.bs none]);rw[<-mW]at h;simp only[qP]at h;refine nM h fun q=> ?_;obtain⟨x,j6⟩:=q;simp only[nc];rw[j3,kL,xh,uS s0 hs,j3];have:decide (st.length+s0.length<=j6.length+s0.length)=decide (st.length<=j6.length):=by
   by_cases h:st.length<=j6.length
   ·rw[aT h,aT (by omega)]
   ·rw[bP h,bP (by omega)]
  rw[this];cases x with
  |int i=>
   simp only[sh];cases j6[st.length]? with
   |none=>rfl
   |some c=>
    cases c with
    |bs o=>
     cases o with
     |none=>
      simp only[au,qP];split<;>rfl
     |some b=>rfl
    |_=>rfl
  |_=>cases j6[st.length]? <;>rfl
def RI(F:Fr s0 r)(sc:Scope)(o:Expr)(name:Str)(apos pos:Pos)(args:List Expr)(ρ:ie)(st:St):
  iI r sc (.Call (.Attribute o name apos) args [] pos) (kO s0.length ρ) (jz s0 st)=(iI r sc (.Call (.Attribute o name apos) args [] pos) ρ st).map (nc s0):=by
 simp only[iI];split
 ·rfl
 ·refine nM (F.E sc o ρ st) fun q=> ?_;obtain⟨x,st1⟩:=q;simp only[nc,CX];split
  ·rfl
  ·rw[p6 (F.E sc)];cases ja (r.E sc) ρ args st1 with
   |none=>rfl
   |some w=>exact Lv s0 w.2 x name w.1
def UA(F:Fr s0 r)(sc:Scope)(a i:Expr)(p:Pos)(ρ:ie)(st:St):
  iI r sc (.Subscript a i p) (kO s0.length ρ) (jz s0 st)=(iI r sc (.Subscript a i p) ρ st).map (nc s0):=by
 have plain:((r.E sc a (kO s0.length ρ) (jz s0 st)).bind fun q=>(r.E sc i (kO s0.length ρ) q.2).bind fun w=>(gZ w.2 q.1 w.1).map fun v=>(v,w.2))=((r.E sc a ρ st).bind fun q=>(r.E sc i ρ q.2).bind fun w=>(gZ w.2 q.1 w.1).map fun v=>(v,w.2)).map (nc s0):=by
  refine nM (F.E sc a ρ st) fun q=>nM (F.E sc i ρ q.2) fun w=> ?_;simp only[nc,Df];cases gZ w.2 q.1 w.1<;>rfl
 cases i with
 |Slice lo hi step p2=>
  simp only[iI];refine nM (F.E sc a ρ st) fun q=> ?_;obtain⟨x,st1⟩:=q;simp only[nc,AW (F.E sc)];cases pn (r.E sc) ρ lo st1 with
  |none=>rfl
  |some l=>
   simp only[au,ao,AW (F.E sc)];cases pn (r.E sc) ρ hi l.2 with
   |none=>rfl
   |some h=>
    simp only[au,ao,AW (F.E sc)];cases pn (r.E sc) ρ step h.2 with
    |none=>rfl
    |some s=>
     simp only[au,ao,HE];cases jj s.2 x l.1 h.1 s.1<;>rfl
 |_=>exact plain
def GJ{elt t i:Expr}{ifs:List Expr}{Mx:Int}{sc iS:Scope}{p:Pos}{ρ:ie}{st:St}(h:Mx≠0):iI r sc (.ListComp elt [⟨t,i,ifs,Mx⟩] iS p) ρ st=none:=by
 unfold iI;split<;>simp_all
def CQ{elt:Expr}{g g':Comprehension}{gs:List Comprehension}{sc iS:Scope}{p:Pos}{ρ:ie}{st:St}:iI r sc (.ListComp elt (g::g'::gs) iS p) ρ st=none:=by
 unfold iI;split<;>simp_all
def GG{elt t i:Expr}{ifs:List Expr}{Mx:Int}{sc iS:Scope}{p:Pos}{ρ:ie}{st:St}(h:¬ (Mx=0/\ifs=[])):iI r sc (.SetComp elt [⟨t,i,ifs,Mx⟩] iS p) ρ st=none:=by
 unfold iI;split<;>simp_all
def CP{elt:Expr}{g g':Comprehension}{gs:List Comprehension}{sc iS:Scope}{p:Pos}{ρ:ie}{st:St}:iI r sc (.SetComp elt (g::g'::gs) iS p) ρ st=none:=by
 unfold iI;split<;>simp_all
def KL(hs:s0.all (iu s0.length)=true)(F:Fr s0 r)(sc:Scope)(e:Expr)(ρ:ie)(st:St):iI r sc e (kO s0.length ρ) (jz s0 st)=(iI r sc e ρ st).map (nc s0):=by
 cases e with
 |Constant c k p=>
  cases c<;>simp only[iI]<;>first|rfl|(split<;>rfl)
 |Name x p=>
  simp only[iI,Lp];split
  ·rfl
  ·cases oZ sc x ρ<;>rfl
 |BinOp a op b p=>
  simp only[iI];refine nM (F.E sc a ρ st) fun q=>nM (F.E sc b ρ q.2) fun w=> ?_;simp only[nc,Ma];cases jm w.2 op q.1 w.1<;>rfl
 |UnaryOp op a p=>
  cases op with
  |USub=>
   simp only[iI];refine nM (F.E sc a ρ st) fun q=> ?_;obtain⟨x,st1⟩:=q;cases x<;>rfl
  |Not=>
   simp only[iI];refine nM (F.E sc a ρ st) fun q=> ?_;simp only[nc,sQ];cases iT q.2 q.1<;>rfl
  |_=>rfl
 |IfExp t a b p=>
  simp only[iI,F.T];cases r.T sc t ρ st with
  |none=>rfl
  |some q=>
   obtain⟨c,st1⟩:=q;cases c
   ·exact F.E sc b ρ st1
   ·exact F.E sc a ρ st1
 |BoolOp op es p=>
  rcases es with _|⟨a,_|⟨b,es⟩⟩
  ·rfl
  ·exact F.E sc a ρ st
  ·simp only[iI];refine nM (F.E sc a ρ st) fun q=> ?_;simp only[nc,sQ];cases iT q.2 q.1 with
   |none=>rfl
   |some t=>cases op<;>cases t<;>first|rfl|exact F.E sc _ ρ q.2
 |Compare a ops es p=>
  simp only[iI];split
  ·rfl
  ·refine nM (F.E sc a ρ st) fun q=> ?_;simp only[nc,u9 (F.E sc)];cases jJ (r.E sc) ρ q.1 ops es q.2<;>rfl
 |List es p=>
  simp only[iI,p6 (F.E sc)];cases ja (r.E sc) ρ es st with
  |none=>rfl
  |some q=>
   obtain⟨vs,st1⟩:=q;simp only[au,ao,UK,nW];split
   ·simp only[au,nc,sh,j3,<-mW,qP]
   ·rfl
 |Tuple es k p=>
  simp only[iI,p6 (F.E sc)];cases ja (r.E sc) ρ es st with
  |none=>rfl
  |some q=>
   simp only[au,ao,UK,nW];split<;>rfl
 |Set es k p=>
  rcases es with _|⟨a,_|⟨b,es⟩⟩
  ·rfl
  ·cases k with
   |zero=>exact UB F hs sc a ρ st
   |succ k=>rfl
  ·rfl
 |Dict ks vs p=>
  cases ks with
  |nil=>
   cases vs with
   |nil=>
    simp only[iI,au,nc,sh,j3,<-mW,qP,eL]
   |cons v vs=>rfl
  |cons k ks=>rfl
 |Subscript a i p=>exact UA F sc a i p ρ st
 |ListComp elt gens iS p=>
  rcases gens with _|⟨⟨target,iter,ifs,Mx⟩,_|⟨g,gens⟩⟩
  ·rfl
  ·by_cases h0:Mx=0
   ·subst h0;exact E5 F hs sc iS elt target iter ifs ρ st
   ·rw[GJ h0,GJ h0];rfl
  ·rw[CQ,CQ];rfl
 |SetComp elt gens iS p=>
  rcases gens with _|⟨⟨target,iter,ifs,Mx⟩,_|⟨g,gens⟩⟩
  ·rfl
  ·by_cases h0:Mx=0/\ifs=[]
   ·obtain⟨rfl,rfl⟩:=h0;exact IW F hs sc iS elt target iter ρ st
   ·rw[GG h0,GG h0];rfl
  ·rw[CP,CP];rfl
 |Call f args kws p=>
  cases f with
  |Name x np=>exact RJ F hs sc x np args kws p ρ st
  |Attribute o name apos=>
   cases kws with
   |nil=>exact RI F sc o name apos p args ρ st
   |cons k kws=>rfl
  |_=>rfl
 |_=>rfl
def ql{a b:Option (PV×St)}{f g:PV×St->Option (iE×ie×St)}(e:b=a.map (nc s0))(k:∀q,f (nc s0 q)=(g q).map (Ab s0)):b.bind f=(a.bind g).map (Ab s0):=nM e k
def IV(F:Fr s0 r)(sc:Scope)(t e:Expr)(ρ:ie)(st:St):(if((isTuple t&&isTuple e)||(!isTuple t&&sN e))=true then none else(r.E sc e (kO s0.length ρ) (jz s0 st)).bind fun q=>(i8 sc q.2 t q.1 (kO s0.length ρ)).map fun ρ=>(iE.next,ρ,q.2))=
  (if((isTuple t&&isTuple e)||(!isTuple t&&sN e))=true then none else(r.E sc e ρ st).bind fun q=>(i8 sc q.2 t q.1 ρ).map fun ρ=>(iE.next,ρ,q.2)).map (Ab s0):=by
 split
 ·rfl
 ·refine ql (F.E sc e ρ st) fun q=> ?_;simp only[nc,tE];cases i8 sc q.2 t q.1 ρ<;>rfl
def DC(F:Fr s0 r)(sc:Scope)(a i e:Expr)(ρ:ie)(st:St):((r.E sc e (kO s0.length ρ) (jz s0 st)).bind fun q=>(r.E sc a (kO s0.length ρ) q.2).bind fun x=>(r.E sc i (kO s0.length ρ) x.2).bind fun y=>(jr y.2 x.1 y.1 q.1).map fun st=>(iE.next,kO s0.length ρ,st))=
  ((r.E sc e ρ st).bind fun q=>(r.E sc a ρ q.2).bind fun x=>(r.E sc i ρ x.2).bind fun y=>(jr y.2 x.1 y.1 q.1).map fun st=>(iE.next,ρ,st)).map (Ab s0):=by
 refine ql (F.E sc e ρ st) fun q=>ql (F.E sc a ρ q.2) fun x=>ql (F.E sc i ρ x.2) fun y=> ?_;simp only[nc,CY];cases jr y.2 x.1 y.1 q.1<;>rfl
def Pj(F:Fr s0 r)(sc:Scope)(target iter:Expr)(body:List Stmt)(ρ:ie)(st:St):((r.E sc iter (kO s0.length ρ) (jz s0 st)).bind fun q=>(gM q.2 q.1).bind fun l=>j_ (gT (r.S sc) body) sc target (iM q.1 q.2) l (kO s0.length ρ) q.2)=
  ((r.E sc iter ρ st).bind fun q=>(gM q.2 q.1).bind fun l=>j_ (gT (r.S sc) body) sc target (iM q.1 q.2) l ρ q.2).map (Ab s0):=by
 refine ql (F.E sc iter ρ st) fun q=> ?_;obtain⟨x,st1⟩:=q;simp only[nc,jM];cases gM st1 x with
 |none=>rfl
 |some l=>exact tZ (lA (F.S sc) body) sc target (fun st=>rU x st1 st) l ρ st1
def Mi(F:Fr s0 r)(sc:Scope)(target a:Expr)(body:List Stmt)(ρ:ie)(st:St):(if jx a=true then none else(r.E sc a (kO s0.length ρ) (jz s0 st)).bind fun q=>match q.1 with
    | .rng p q'=>j_ (gT (r.S sc) body) sc target (fun _=>true) (ng p q').reverse (kO s0.length ρ) q.2
    |_=>none)=(if jx a=true then none else(r.E sc a ρ st).bind fun q=>match q.1 with
    | .rng p q'=>j_ (gT (r.S sc) body) sc target (fun _=>true) (ng p q').reverse ρ q.2
    |_=>none).map (Ab s0):=by
 split
 ·rfl
 ·refine ql (F.E sc a ρ st) fun q=> ?_;obtain⟨x,st1⟩:=q;cases x with
  |rng p q=>
   have h:=tZ (lA (F.S sc) body) sc target (fit:=fun _=>true) (uD:=fun _=>true) (fun st=>rfl) (ng p q).reverse ρ st1;have e:i_ s0.length (ng p q).reverse=(ng p q).reverse:=by
    have:=AP s0.length p q;rw[jN]at this|-;rw[List.map_reverse,this]
   rw[e]at h;exact h
  |_=>rfl
def IU(F:Fr s0 r)(sc:Scope)(target a:Expr)(body:List Stmt)(ρ:ie)(st:St):(if(jx a|| !isTuple target)=true then none else(r.E sc a (kO s0.length ρ) (jz s0 st)).bind fun q=>match q.1 with
    | .list l=>j_ (gT (r.S sc) body) sc target (fun _=>true) ((List.zipWith (fun(i:Nat) v=>PV.tup [.int (i:Int),v]) (List.range l.length) l)) (kO s0.length ρ) q.2
    |_=>none)=(if(jx a|| !isTuple target)=true then none else(r.E sc a ρ st).bind fun q=>match q.1 with
    | .list l=>j_ (gT (r.S sc) body) sc target (fun _=>true) ((List.zipWith (fun(i:Nat) v=>PV.tup [.int (i:Int),v]) (List.range l.length) l)) ρ q.2
    |_=>none).map (Ab s0):=by
 split
 ·rfl
 ·refine ql (F.E sc a ρ st) fun q=> ?_;obtain⟨x,st1⟩:=q;cases x with
  |list l=>
   have h:=tZ (lA (F.S sc) body) sc target (fit:=fun _=>true) (uD:=fun _=>true) (fun st=>rfl) (List.zipWith (fun(i:Nat) v=>PV.tup [.int (i:Int),v]) (List.range l.length) l) ρ st1;have e:i_ s0.length (List.zipWith (fun(i:Nat) v=>PV.tup [.int (i:Int),v]) (List.range l.length) l)=List.zipWith (fun(i:Nat) v=>PV.tup [.int (i:Int),v]) (List.range (i_ s0.length l).length) (i_ s0.length l):=by
    rw[lY,jN,jN,List.zipWith_map_right,List.map_zipWith];congr 1
   rw[e]at h;exact h
  |_=>rfl
def KJ(F:Fr s0 r)(sc:Scope)(s:Stmt)(ρ:ie)(st:St):kG r sc s (kO s0.length ρ) (jz s0 st)=(kG r sc s ρ st).map (Ab s0):=by
 cases s with
 |Pass p=>rfl
 |Break p=>rfl
 |Continue p=>rfl
 |Return e p=>
  cases e with
  |none=>rfl
  |some e=>
   simp only[kG,F.E];cases r.E sc e ρ st<;>rfl
 |Expr e p=>
  cases e with
  |Call f a k q=>
   simp only[kG];refine ql (F.E sc _ ρ st) fun q=> ?_;obtain⟨x,st1⟩:=q;cases x<;>rfl
  |_=>rfl
 |Assign ts e p=>
  rcases ts with _|⟨t,_|⟨t',ts⟩⟩
  ·rfl
  ·cases t with
   |Subscript a i q=>cases i with
    |Slice=>rfl
    |_=>exact DC F sc a _ e ρ st
   |_=>exact IV F sc _ e ρ st
  ·cases t<;>rfl
 |AugAssign t op e p=>
  cases t with
  |Name x q=>
   cases op with
   |Add=>
    simp only[kG,pU];cases iY x ρ with
    |none=>rfl
    |some a=>
     simp only[au,ao];refine ql (F.E sc e ρ st) fun q=> ?_;obtain⟨b,st1⟩:=q;cases a<;>cases b<;>simp only[sh]<;>first
      |rfl
      |(rename_i m n
        have h:=rT s0.length sc x (.int (m+n)) ρ;simp only[sh]at h;rw[h];cases kc sc x (.int (m+n)) ρ<;>rfl)
      |(rename_i m n
        have h:=rT s0.length sc x (.str (m++n)) ρ;simp only[sh]at h;rw[h];split
        ·cases kc sc x (.str (m++n)) ρ<;>rfl
        ·rfl)
   |_=>rfl
  |_=>rfl
 |If t a b p=>
  simp only[kG,F.T];cases r.T sc t ρ st with
  |none=>rfl
  |some q=>
   obtain⟨c,st1⟩:=q;cases c
   ·exact lA (F.S sc) b ρ st1
   ·exact lA (F.S sc) a ρ st1
 |While t body orelse p=>
  cases orelse with
  |nil=>exact zg (F.T sc t) (lA (F.S sc) body) 40 ρ st
  |cons s ss=>rfl
 |For target iter body orelse p=>
  cases orelse with
  |cons s ss=>rfl
  |nil=>
   have gen:∀iter,(if jT iter=true then none else((r.E sc iter (kO s0.length ρ) (jz s0 st)).bind fun q=>(gM q.2 q.1).bind fun l=>j_ (gT (r.S sc) body) sc target (iM q.1 q.2) l (kO s0.length ρ) q.2))=
     (if jT iter=true then none else((r.E sc iter ρ st).bind fun q=>(gM q.2 q.1).bind fun l=>j_ (gT (r.S sc) body) sc target (iM q.1 q.2) l ρ q.2)).map (Ab s0):=by
    intro iter;split
    ·rfl
    ·exact Pj F sc target iter body ρ st
   cases iter with
   |Call f a k q=>
    cases f with
    |Name x np=>
     rcases a with _|⟨a,_|⟨b,as⟩⟩
     ·exact gen (.Call (.Name x np) [] k q)
     ·cases k with
      |nil=>
       simp only[kG];rw[pU];have g:=Pj F sc target (.Call (.Name x np) [a] [] q) body ρ st;cases iY x ρ with
       |some v=>exact g
       |none=>
        simp only[eF];cases iw sc x with
        |none=>exact g
        |some kd=>
         cases kd<;>first
          |exact g
          |(cases x==("reversed":Str)<;>cases x==("enumerate":Str)<;>first
            |exact g
            |exact Mi F sc target a body ρ st
            |exact IU F sc target a body ρ st)
      |cons k ks=>exact gen (.Call (.Name x np) [a] (k::ks) q)
     ·cases k<;>exact gen (.Call (.Name x np) (a::b::as) _ q)
    |_=>exact gen (.Call _ a k q)
   |_=>simp only[kG];exact gen _
 |Try body hs oe fb p=>
  cases hs with
  |nil=>cases oe<;>cases fb<;>rfl
  |cons h hs=>
   cases oe with
   |nil=>cases fb with
    |nil=>exact lA (F.S sc) body ρ st
    |cons s ss=>rfl
   |cons s ss=>cases fb<;>rfl
 |_=>rfl
def B4(hs:s0.all (iu s0.length)=true):∀n,Fr s0 (ev n)
 |0=>⟨fun _ _ _ _=>rfl,fun _ _ _ _=>rfl,fun _ _ _ _=>rfl,fun _ _ _ _=>rfl⟩
 |n+1=>⟨KL hs (B4 hs n),KG (B4 hs n),KJ (B4 hs n),KN hs (B4 hs n)⟩
mutual
def AN(m:Nat):∀v:PV,below 0 v=true->sh m v=v
 | .tup l,h=>by simp only[below]at h;simp only[sh,t8 m l h]
 | .list l,h=>by simp only[below]at h;simp only[sh,t8 m l h]
 | .lst k,h=>by simp[below]at h
 | .dct k,h=>by simp[below]at h
 | .none,_| .bool _,_| .int _,_| .str _,_| .iset _,_| .cset _,_| .bset _,_| .fn _,_| .typ _,_| .rng _ _,_=>by simp[sh]
def t8(m:Nat):∀l:List PV,h_ 0 l=true->i_ m l=l
 |[],_=>by simp[i_]
 |v::l,h=>by
  simp only[h_,aA]at h;simp only[i_,AN m v h.1,t8 m l h.2]
end
def Good(st:St):Prop:=st.all (iu st.length)=true
def frame{n:Nat}{f:Str}{args:List PV}{kws:List (Str×PV)}{v:PV}{st:St}(hs:Good st)(h:(ev n).C f args kws []=some (v,[]))(ha:h_ 0 args=true)(hk:h_ 0 (kws.map (·.2))=true)(hv:below 0 v=true):(ev n).C f args kws st=some (v,st):=by
 have e:=(B4 (s0:=st) hs n).C f args kws [];have k:IY st.length kws=kws:=by
  clear h e
  induction kws with
  |nil=>rfl
  |cons x kws ih=>
   obtain⟨x,u⟩:=x;simp only[aL,h_,aA]at hk;unfold IY at ih|-;rw[aL,ih hk.2,AN _ u hk.1]
 rw[t8 _ _ ha,k,h]at e;simp only[au,nc,AN _ _ hv]at e;have z:jz st []=st:=by simp[jz]
 rw[z]at e;exact e
end
def oh(n:Nat):(ev (n+1)).E=iI (ev n):=rfl
def DV(n:Nat):(ev (n+1)).T=stepT (ev n):=rfl
def wK(n:Nat):(ev (n+1)).S=kG (ev n):=rfl
def Xv(n:Nat):(ev (n+1)).C=tR (ev n):=rfl
def OY:iE->PV
 | .ret v=>v
 |_=>.none
section
variable{n:Nat}{sc:Scope}{ρ kJ yy:ie}{st st1 jk j6:St}{p q:Pos}{x y z v:PV}
def WQ{f:Str}{args:List PV}{kws:List (Str×PV)}{a:Arguments}{body:List Stmt}{xs:List Str}{vs:List PV}{fl:iE}{u:PV}(h:fnOf f=some (a,body,sc))(hs:(!r7 sc|| !sc.names.all (fun x=>x.2 != .free))=false)(hb:q6 a args kws=some (xs,vs))(ha:storeAll sc xs vs []=some ρ)
  (hr:gT ((ev n).S sc) body ρ st=some (fl,kJ,st1)) (hf:finish st.length st1 (OY fl)=some (u,jk)):(ev (n+1)).C f args kws st=some (u,jk):=by
 rw[Xv];unfold tR;rw[h,ao];dsimp only;rw[hs];simp only[az,a_];rw[hb,ao];dsimp only;rw[ha,ao,hr,ao];cases fl<;>exact hf
def iX{f:Stmt->ie->St->Option (iE×ie×St)}:gT f [] ρ st=some (.next,ρ,st):=rfl
def gO{f:Stmt->ie->St->Option (iE×ie×St)}{s:Stmt}{r:List Stmt}{R:iE×ie×St}(h:f s ρ st=some (.next,kJ,st1))(k:gT f r kJ st1=some R):gT f (s::r) ρ st=some R:=by
 simp only[gT,h,ao];exact k
def ku{e:Expr}{r:List Stmt}(h:(ev n).E sc e ρ st=some (v,st1)):gT ((ev (n+1)).S sc) (.Return (some e) p::r) ρ st=some (.ret v,ρ,st1):=by
 simp only[gT,wK,kG,h,au,ao]
def jX{e:Expr}(hc:(match e with| .Call .. =>true|_=>false)=true)(h:(ev n).E sc e ρ st=some (.none,st1)):(ev (n+1)).S sc (.Expr e p) ρ st=some (.next,ρ,st1):=by
 cases e with
 |Call=>simp only[wK,kG,h,ao]
 |_=>cases hc
def Nq{e:Expr}{s:ah}(hc:(match e with| .Call .. =>true|_=>false)=true)(h:(ev n).E sc e ρ st=some (.str s,st1)):(ev (n+1)).S sc (.Expr e p) ρ st=some (.next,ρ,st1):=by
 cases e with
 |Call=>simp only[wK,kG,h,ao]
 |_=>cases hc
def Lf{t e:Expr}(ht:(match t with| .Subscript .. =>false|_=>true)=true)(hc:((isTuple t&&isTuple e)||(!isTuple t&&sN e))=false)(h:(ev n).E sc e ρ st=some (v,st1))(ha:i8 sc st1 t v ρ=some kJ):(ev (n+1)).S sc (.Assign [t] e p) ρ st=some (.next,kJ,st1):=by
 have e1:kG (ev n) sc (.Assign [t] e p) ρ st=if((isTuple t&&isTuple e)||(!isTuple t&&sN e))=true then none else((ev n).E sc e ρ st).bind fun q=>(i8 sc q.2 t q.1 ρ).map fun ρ=>(.next,ρ,q.2):=by
  cases t<;>first|rfl|cases ht
 rw[wK,e1,hc];simp only[az,a_,h,ao,ha,au]
def oz{a i e:Expr}(hi:(match i with| .Slice .. =>false|_=>true)=true)(h:(ev n).E sc e ρ st=some (v,st1))(h2:(ev n).E sc a ρ st1=some (x,jk))(h3:(ev n).E sc i ρ jk=some (y,j6)){DE:St}(hs:jr j6 x y v=some DE):
  (ev (n+1)).S sc (.Assign [.Subscript a i q] e p) ρ st=some (.next,ρ,DE):=by
 have e1:kG (ev n) sc (.Assign [.Subscript a i q] e p) ρ st=((ev n).E sc e ρ st).bind fun w=>((ev n).E sc a ρ w.2).bind fun x=>((ev n).E sc i ρ x.2).bind fun y=>(jr y.2 x.1 y.1 w.1).map fun st=>(.next,ρ,st):=by
  cases i<;>first|rfl|cases hi
 rw[wK,e1];simp only[h,h2,h3,hs,ao,au]
def Fg{x:Str}{e:Expr}{a b:PV}(h1:iY x ρ=some a)(h:(ev n).E sc e ρ st=some (b,st1))(h2:(match a,b with
   | .int m,.int n=>(kc sc x (.int (m+n)) ρ)
   | .str m,.str n=>if iP (m++n)then(kc sc x (.str (m++n)) ρ)else none
   |_,_=>none)=some kJ):(ev (n+1)).S sc (.AugAssign (.Name x q) .Add e p) ρ st=some (.next,kJ,st1):=by
 simp only[wK,kG,h1,h,ao];cases a<;>cases b<;>simp only at h2|- <;>first
  |cases h2
  |(rw[h2];rfl)
  |(split at h2
    ·rename_i hs;rw[aQ hs,h2];rfl
    ·cases h2)
def S0{t:Expr}{a b:List Stmt}{c:Bool}{R:iE×ie×St}(h:(ev n).T sc t ρ st=some (c,st1))(k:(match c with|true=>gT ((ev n).S sc) a ρ st1|false=>gT ((ev n).S sc) b ρ st1)=some R):(ev (n+1)).S sc (.If t a b p) ρ st=some R:=by
 simp only[wK,kG,h,ao];cases c<;>exact k
def oX{t:Expr}{a b:List Stmt}{R:iE×ie×St}(h:(ev n).T sc t ρ st=some (true,st1))(k:gT ((ev n).S sc) a ρ st1=some R):(ev (n+1)).S sc (.If t a b p) ρ st=some R:=S0 h k
def lN{t:Expr}{a b:List Stmt}{R:iE×ie×St}(h:(ev n).T sc t ρ st=some (false,st1))(k:gT ((ev n).S sc) b ρ st1=some R):(ev (n+1)).S sc (.If t a b p) ρ st=some R:=S0 h k
def rO{t:Expr}{body:List Stmt}{R:iE×ie×St}(k:jR ((ev n).T sc t) (gT ((ev n).S sc) body) 40 ρ st=some R):(ev (n+1)).S sc (.While t body [] p) ρ st=some R:=k
def wW{T:ie->St->Option (Bool×St)}{B:ie->St->Option (iE×ie×St)}{k:Nat}(h:T ρ st=some (false,st1)):jR T B (k+1) ρ st=some (.next,ρ,st1):=by
 simp only[jR,h,ao,az,a_]
def BV{T:ie->St->Option (Bool×St)}{B:ie->St->Option (iE×ie×St)}{k:Nat}{fl:iE}{R:iE×ie×St}(h:T ρ st=some (true,st1))(hb:B ρ st1=some (fl,yy,jk))(hf:fl= .next\/fl= .cont)(h2:jR T B k yy jk=some R):jR T B (k+1) ρ st=some R:=by
 simp only[jR,h,hb,ao,bY];rcases hf with rfl|rfl<;>exact h2
def QT{T:ie->St->Option (Bool×St)}{B:ie->St->Option (iE×ie×St)}{k:Nat}(h:T ρ st=some (true,st1))(hb:B ρ st1=some (.brk,yy,jk)):jR T B (k+1) ρ st=some (.next,yy,jk):=by
 simp only[jR,h,hb,ao,bY]
def qU{target iter:Expr}{body:List Stmt}{l:List PV}{R:iE×ie×St}(hi:(match iter with| .Call (.Name f _) [_] [] _=>f==("range":Str)|e=> !jT e)=true)(h:(ev n).E sc iter ρ st=some (x,st1))(hc:gM st1 x=some l)(k:j_ (gT ((ev n).S sc) body) sc target (iM x st1) l ρ st1=some R):
  (ev (n+1)).S sc (.For target iter body [] p) ρ st=some R:=by
 have e1:kG (ev n) sc (.For target iter body [] p) ρ st=((ev n).E sc iter ρ st).bind fun q=>(gM q.2 q.1).bind fun l=>j_ (gT ((ev n).S sc) body) sc target (iM q.1 q.2) l ρ q.2:=by
  have gen:∀iter:Expr,jT iter=false->(if jT iter=true then none else((ev n).E sc iter ρ st).bind fun q=>(gM q.2 q.1).bind fun l=>j_ (gT ((ev n).S sc) body) sc target (iM q.1 q.2) l ρ q.2)=((ev n).E sc iter ρ st).bind fun q=>(gM q.2 q.1).bind fun l=>j_ (gT ((ev n).S sc) body) sc target (iM q.1 q.2) l ρ q.2:=by
   intro iter h;rw[h];rfl
  cases iter with
  |Call f a k q=>
   cases f with
   |Name f fp=>
    rcases a with _|⟨a,_|⟨b,as⟩⟩
    ·exact gen (.Call (.Name f fp) [] k q) rfl
    ·cases k with
     |nil=>
      simp only at hi;simp only[kG];rw[aR]at hi;subst hi;have r1:(("range":Str)==("reversed":Str))=false:=by decide+kernel
      have r2:(("range":Str)==("enumerate":Str))=false:=by decide+kernel
      rw[r1,r2];cases iY ("range":Str) ρ<;>cases iw sc ("range":Str)<;>first|rfl|(rename_i kd;cases kd<;>rfl)
     |cons k ks=>exact gen (.Call (.Name f fp) [a] (k::ks) q) rfl
    ·cases k<;>exact gen (.Call (.Name f fp) (a::b::as) _ q) rfl
   |_=>exact gen (.Call _ a k q) rfl
  |Set=>simp[jT]at hi
  |_=>simp only[kG];exact gen _ rfl
 rw[wK,e1];simp only[h,hc,ao];exact k
def Aw{B:ie->St->Option (iE×ie×St)}{target:Expr}{fit:St->Bool}:j_ B sc target fit [] ρ st=some (.next,ρ,st):=rfl
def nI{B:ie->St->Option (iE×ie×St)}{target:Expr}{fit:St->Bool}{l:List PV}{fl:iE}{R:iE×ie×St}{qa:ie}(ha:i8 sc st target v ρ=some kJ)(hb:B kJ st=some (fl,qa,jk))(hf:fl= .next\/fl= .cont)(jW:fit jk=true)(k:j_ B sc target fit l qa jk=some R):j_ B sc target fit (v::l) ρ st=some R:=by
 simp only[j_,ha,hb,ao];rcases hf with rfl|rfl<;>(simp only[jW,bY];exact k)
def Q3{B:ie->St->Option (iE×ie×St)}{target:Expr}{fit:St->Bool}{l:List PV}{qa:ie}(ha:i8 sc st target v ρ=some kJ)(hb:B kJ st=some (.brk,qa,jk)):j_ B sc target fit (v::l) ρ st=some (.next,qa,jk):=by
 simp only[j_,ha,hb,ao]
def BW{body:List Stmt}{h1:ExceptHandler}{hs:List ExceptHandler}{R:iE×ie×St}(h:gT ((ev n).S sc) body ρ st=some R):(ev (n+1)).S sc (.Try body (h1::hs) [] [] p) ρ st=some R:=h
def uI{nm:Str}(h1:(sc.names.lookup nm==none)=false)(h2:oZ sc nm ρ=some v):(ev (n+1)).E sc (.Name nm p) ρ st=some (v,st):=by
 simp only[oh,iI];rw[h1];simp only[az,a_,h2,au]
def iD{a b:Expr}{op:Operator}(h1:(ev n).E sc a ρ st=some (x,st1))(h2:(ev n).E sc b ρ st1=some (y,jk))(h3:jm jk op x y=some v):(ev (n+1)).E sc (.BinOp a op b p) ρ st=some (v,jk):=by
 simp only[oh,iI,h1,h2,h3,ao,au]
def YH{a:Expr}{b:Bool}(h1:(ev n).E sc a ρ st=some (x,st1))(h2:iT st1 x=some b):(ev (n+1)).E sc (.UnaryOp .Not a p) ρ st=some (.bool !b,st1):=by
 simp only[oh,iI,h1,h2,ao,au]
def YI{a:Expr}{i:Int}(h1:(ev n).E sc a ρ st=some (.int i,st1)):(ev (n+1)).E sc (.UnaryOp .USub a p) ρ st=some (.int (-i),st1):=by
 simp only[oh,iI,h1,ao]
def JT{t a b:Expr}{R:PV×St}(h:(ev n).T sc t ρ st=some (true,st1))(k:(ev n).E sc a ρ st1=some R):(ev (n+1)).E sc (.IfExp t a b p) ρ st=some R:=by
 simp only[oh,iI,h,ao,bY];exact k
def JU{t a b:Expr}{R:PV×St}(h:(ev n).T sc t ρ st=some (false,st1))(k:(ev n).E sc b ρ st1=some R):(ev (n+1)).E sc (.IfExp t a b p) ρ st=some R:=by
 simp only[oh,iI,h,ao,az,a_];exact k
def Nr{op:BoolOp}{a:Expr}{R:PV×St}(h:(ev n).E sc a ρ st=some R):(ev (n+1)).E sc (.BoolOp op [a] p) ρ st=some R:=h
def AR{a b:Expr}{es:List Expr}{R:PV×St}(h:(ev n).E sc a ρ st=some (x,st1))(h2:iT st1 x=some true)(k:(ev n).E sc (.BoolOp .And (b::es) p) ρ st1=some R):(ev (n+1)).E sc (.BoolOp .And (a::b::es) p) ρ st=some R:=by
 simp only[oh,iI,h,h2,ao,bY];exact k
def UD{a b:Expr}{es:List Expr}(h:(ev n).E sc a ρ st=some (x,st1))(h2:iT st1 x=some false):(ev (n+1)).E sc (.BoolOp .And (a::b::es) p) ρ st=some (x,st1):=by
 simp only[oh,iI,h,h2,ao,az,a_]
def XC{a b:Expr}{es:List Expr}{R:PV×St}(h:(ev n).E sc a ρ st=some (x,st1))(h2:iT st1 x=some false)(k:(ev n).E sc (.BoolOp .Or (b::es) p) ρ st1=some R):(ev (n+1)).E sc (.BoolOp .Or (a::b::es) p) ρ st=some R:=by
 simp only[oh,iI,h,h2,ao,az,a_];exact k
def Np{a b:Expr}{es:List Expr}(h:(ev n).E sc a ρ st=some (x,st1))(h2:iT st1 x=some true):(ev (n+1)).E sc (.BoolOp .Or (a::b::es) p) ρ st=some (x,st1):=by
 simp only[oh,iI,h,h2,ao,bY]
def wO{a:Expr}{ops:List CmpOp}{es:List Expr}{b:Bool}(hl:(lastMarks ops es||ops.length !=es.length)=false)(h:(ev n).E sc a ρ st=some (x,st1))(h2:jJ ((ev n).E sc) ρ x ops es st1=some (b,jk)):(ev (n+1)).E sc (.Compare a ops es p) ρ st=some (.bool b,jk):=by
 simp only[oh,iI];rw[hl];simp only[az,a_,h,h2,ao,au]
def jg{f:Expr->ie->St->Option (PV×St)}{op:CmpOp}{e:Expr}{b:Bool}(h:f e ρ st=some (y,st1))(h2:iN st1 op x y=some b):jJ f ρ x [op] [e] st=some (b,st1):=by
 simp only[jJ,h,h2,ao,au]
def Q4{f:Expr->ie->St->Option (PV×St)}{op GR:CmpOp}{ops:List CmpOp}{e:Expr}{es:List Expr}{R:Bool×St}(h:f e ρ st=some (y,st1))(h2:iN st1 op x y=some true)(k:jJ f ρ y (GR::ops) es st1=some R):jJ f ρ x (op::GR::ops) (e::es) st=some R:=by
 cases es with
 |nil=>cases ops<;>simp[jJ]at k
 |cons e' es=>simp only[jJ,h,h2,ao,bY];exact k
def QY{es:List Expr}{vs:List PV}(h:ja ((ev n).E sc) ρ es st=some (vs,st1))(hs:iP vs=true):(ev (n+1)).E sc (.List es p) ρ st=some (.lst st1.length,st1++[.lst vs]):=by
 simp only[oh,iI,h,hs,ao,bY]
def o8{es:List Expr}{k:Nat}{vs:List PV}(h:ja ((ev n).E sc) ρ es st=some (vs,st1))(hs:iP vs=true):(ev (n+1)).E sc (.Tuple es k p) ρ st=some (.tup vs,st1):=by
 simp only[oh,iI,h,hs,ao,bY]
def iZ{f:Expr->ie->St->Option (PV×St)}:ja f ρ [] st=some ([],st):=rfl
def gX{f:Expr->ie->St->Option (PV×St)}{e:Expr}{es:List Expr}{vs:List PV}(hi:jx e=false)(h:f e ρ st=some (v,st1))(h2:ja f ρ es st1=some (vs,jk)):ja f ρ (e::es) st=some (v::vs,jk):=by
 simp only[ja,hi,az,a_,h,h2,ao,au]
def TY{a i:Expr}(hi:(match i with| .Slice .. =>false|_=>true)=true)(h1:(ev n).E sc a ρ st=some (x,st1))(h2:(ev n).E sc i ρ st1=some (y,jk))(h3:gZ jk x y=some v):(ev (n+1)).E sc (.Subscript a i p) ρ st=some (v,jk):=by
 have e1:iI (ev n) sc (.Subscript a i p) ρ st=((ev n).E sc a ρ st).bind fun w=>((ev n).E sc i ρ w.2).bind fun z=>(gZ z.2 w.1 z.1).map fun v=>(v,z.2):=by
  cases i<;>first|rfl|cases hi
 rw[oh,e1];simp only[h1,h2,h3,ao,au]
def jO{a:Expr}{lo hi step:Option Expr}{l h s:Option Int}{DE:St}(h1:(ev n).E sc a ρ st=some (x,st1))(h2:pn ((ev n).E sc) ρ lo st1=some (l,jk))(h3:pn ((ev n).E sc) ρ hi jk=some (h,j6))(h4:pn ((ev n).E sc) ρ step j6=some (s,DE))(h5:jj DE x l h s=some v):(ev (n+1)).E sc (.Subscript a (.Slice lo hi step q) p) ρ st=some (v,DE):=by
 simp only[oh,iI,h1,h2,h3,h4,h5,ao,au]
def ly{f:Expr->ie->St->Option (PV×St)}:pn f ρ none st=some (none,st):=rfl
def nh{f:Expr->ie->St->Option (PV×St)}{e:Expr}{i:Int}(h:f e ρ st=some (.int i,st1)):pn f ρ (some e) st=some (some i,st1):=by
 simp only[pn,h,ao]
def JV{elt target iter:Expr}{ifs:List Expr}{iS:Scope}{l:List PV}(hc:(!r7 iS||jT iter|| !lK sc iS)=false)(h:(ev n).E sc iter ρ st=some (x,st1))(hl:gM st1 x=some l)
  (k:jl (ev n) iS (putL st1.length) elt target ifs (iM x st1) l (freeOf iS ρ) (st1++[.lst []])=some jk) (hf:finish st1.length jk (.lst st1.length)=some (v,j6)):(ev (n+1)).E sc (.ListComp elt [⟨target,iter,ifs,0⟩] iS p) ρ st=some (v,j6):=by
 simp only[oh,iI];rw[hc];simp only[az,a_,h,hl,k,ao];exact hf
def QX{o:Expr}{name:Str}{args:List Expr}{vs:List PV}{R:PV×St}(hc:(rR o&&q.endLine==p.line&&decide (args.length<20))=true)(h:(ev n).E sc o ρ st=some (x,st1))(hs:lO st1 x=true)(h2:ja ((ev n).E sc) ρ args st1=some (vs,jk))(h3:methP jk x name vs=some R):(ev (n+1)).E sc (.Call (.Attribute o name q) args [] p) ρ st=some R:=by
 simp only[oh,iI];rw[hc];simp only[dw,az,a_,h,hs,h2,ao];exact h3
def TZ{f:Str}{args:List Expr}{vs:List PV}(hn:iY f ρ=none)(hk:iw sc f=some .globalImplicit)(ht:(f==("tuple":Str))=false)(hb:jf.contains f=true)(h2:ja ((ev n).E sc) ρ args st=some (vs,st1))(h3:iR st1 f vs=some v):(ev (n+1)).E sc (.Call (.Name f q) args [] p) ρ st=some (v,st1):=by
 simp only[oh,iI,hn,hk,ht,h2,nC,ao,hb,bY,h3,au]
def Q5{f:Str}{args:List Expr}{vs:List PV}{R:PV×St}(hn:iY f ρ=none)(hk:iw sc f=some .globalImplicit)(ht:(f==("tuple":Str))=false)(hb:jf.contains f=false)(hf:(fnOf f).isNone=false)(h2:ja ((ev n).E sc) ρ args st=some (vs,st1))(h3:(ev n).C f vs [] st1=some R):(ev (n+1)).E sc (.Call (.Name f q) args [] p) ρ st=some R:=by
 simp only[oh,iI,hn,hk,ht,h2,nC,ao,hb,hf,az,a_];exact h3
def AQ{f:Str}{args:List Expr}{kws:List Keyword}{vs:List PV}{ks:List (Str×PV)}{R:PV×St}(hn:iY f ρ=none)(hk:iw sc f=some .globalImplicit)(ht:(f==("tuple":Str))=false)(hb:jf.contains f=false)(hf:(fnOf f).isNone=false)(h2:ja ((ev n).E sc) ρ args st=some (vs,st1))(GV:nC ((ev n).E sc) ρ kws st1=some (ks,jk))(h3:(ev n).C f vs ks jk=some R):(ev (n+1)).E sc (.Call (.Name f q) args kws p) ρ st=some R:=by
 simp only[oh,iI,hn,hk,ht,h2,GV,ao,hb,hf,az,a_];exact h3
def OT{a:Expr}{b:Bool}(h:(ev n).T sc a ρ st=some (b,st1)):(ev (n+1)).T sc (.UnaryOp .Not a p) ρ st=some (!b,st1):=by
 simp only[DV,stepT,h,au]
def mF{a:Expr}{es:List Expr}{R:Bool×St}(h:(ev n).T sc a ρ st=some (true,st1))(k:(ev n).T sc (.BoolOp .And es p) ρ st1=some R):(ev (n+1)).T sc (.BoolOp .And (a::es) p) ρ st=some R:=by
 simp only[DV,stepT,h,ao];exact k
def q_{a:Expr}{es:List Expr}(h:(ev n).T sc a ρ st=some (false,st1)):(ev (n+1)).T sc (.BoolOp .And (a::es) p) ρ st=some (false,st1):=by
 simp only[DV,stepT,h,ao]
def nE{a:Expr}{es:List Expr}{R:Bool×St}(h:(ev n).T sc a ρ st=some (false,st1))(k:(ev n).T sc (.BoolOp .Or es p) ρ st1=some R):(ev (n+1)).T sc (.BoolOp .Or (a::es) p) ρ st=some R:=by
 simp only[DV,stepT,h,ao];exact k
def tV{a:Expr}{es:List Expr}(h:(ev n).T sc a ρ st=some (true,st1)):(ev (n+1)).T sc (.BoolOp .Or (a::es) p) ρ st=some (true,st1):=by
 simp only[DV,stepT,h,ao]
def OU{op:BoolOp}:(ev (n+1)).T sc (.BoolOp op [] p) ρ st=some (op== .And,st):=rfl
def TH{a:Expr}{ops:List CmpOp}{es:List Expr}{R:Bool×St}(hl:(lastMarks ops es||ops.length !=es.length)=false)(h:(ev n).E sc a ρ st=some (x,st1))(h2:jJ ((ev n).E sc) ρ x ops es st1=some R):(ev (n+1)).T sc (.Compare a ops es p) ρ st=some R:=by
 simp only[DV,stepT];rw[hl];simp only[az,a_,h,h2,ao]
def mO{e:Expr}{b:Bool}(hc:(match e with| .UnaryOp .Not _ _=>false| .BoolOp .. =>false| .Compare .. =>false| .IfExp .. =>false|_=>true)=true)(h:(ev n).E sc e ρ st=some (x,st1))(h2:iT st1 x=some b):(ev (n+1)).T sc e ρ st=some (b,st1):=by
 have e1:stepT (ev n) sc e ρ st=((ev n).E sc e ρ st).bind fun q=>(iT q.2 q.1).map fun b=>(b,q.2):=by
  cases e with
  |UnaryOp op a p=>cases op<;>first|rfl|cases hc
  |BoolOp|Compare|IfExp=>cases hc
  |_=>rfl
 rw[DV,e1];simp only[h,h2,ao,au]
def Fw{put:PV->St->Option St}{elt target:Expr}{ifs:List Expr}{fit:St->Bool}:jl (ev n) sc put elt target ifs fit [] ρ st=some st:=rfl
def qO{put:PV->St->Option St}{elt target:Expr}{ifs:List Expr}{fit:St->Bool}{l:List PV}{DE:St}(ha:i8 sc st target v ρ=some kJ)(ht:lX ((ev n).T sc) kJ ifs st=some (true,st1))(he:(ev n).E sc elt kJ st1=some (x,jk))(hp:put x jk=some j6)(hf:fit j6=true)(k:jl (ev n) sc put elt target ifs fit l kJ j6=some DE):jl (ev n) sc put elt target ifs fit (v::l) ρ st=some DE:=by
 simp only[jl,ha,ht,he,hp,hf,ao,bY];exact k
def AB{put:PV->St->Option St}{elt target:Expr}{ifs:List Expr}{fit:St->Bool}{l:List PV}{DE:St}(ha:i8 sc st target v ρ=some kJ)(ht:lX ((ev n).T sc) kJ ifs st=some (false,st1))(hf:fit st1=true)(k:jl (ev n) sc put elt target ifs fit l kJ st1=some DE):jl (ev n) sc put elt target ifs fit (v::l) ρ st=some DE:=by
 simp only[jl,ha,ht,hf,ao,az,a_,bY];exact k
def oj{t:Expr->ie->St->Option (Bool×St)}:lX t ρ [] st=some (true,st):=rfl
def vh{t:Expr->ie->St->Option (Bool×St)}{e:Expr}{b:Bool}(h:t e ρ st=some (b,st1)):lX t ρ [e] st=some (b,st1):=by
 simp only[lX,h,ao];cases b<;>rfl
def jV{f:Str}{args:List PV}{kws:List (Str×PV)}{a:Arguments}{body:List Stmt}{xs:List Str}{vs:List PV}{fl:iE}{u:PV}(b:fnOf f=some (a,body,sc):=by rfl)(c:(!r7 sc|| !sc.names.all (fun x=>x.2 != .free))=false:=by decide +kernel)(d:q6 a args kws=some (xs,vs):=by rfl)(e:storeAll sc xs vs []=some ρ:=by rfl)(k:gT ((ev n).S sc) body ρ st=some (fl,kJ,st1))(h:finish st.length st1 (OY fl)=some (u,jk):=by rfl):(ev (n+1)).C f args kws st=some (u,jk):=WQ b c d e k h
def gK{t e:Expr}(b:(match t with| .Subscript .. =>false|_=>true)=true:=by rfl)(c:((isTuple t&&isTuple e)||(!isTuple t&&sN e))=false:=by rfl)(h:(ev n).E sc e ρ st=some (v,st1))(d:i8 sc st1 t v ρ=some kJ:=by rfl):(ev (n+1)).S sc (.Assign [t] e p) ρ st=some (.next,kJ,st1):=Lf b c h d
def iH{f:Str}{args:List Expr}{vs:List PV}{R:PV×St}(b:iY f ρ=none:=by rfl)(c:iw sc f=some .globalImplicit:=by rfl)(d:(f==("tuple":Str))=false:=by rfl)(e:jf.contains f=false:=by rfl)(i:(fnOf f).isNone=false:=by rfl)(g:ja ((ev n).E sc) ρ args st=some (vs,st1):=by rfl)(h:(ev n).C f vs [] st1=some R):(ev (n+1)).E sc (.Call (.Name f q) args [] p) ρ st=some R:=Q5 b c d e i g h
def iC{a i:Expr}(b:(match i with| .Slice .. =>false|_=>true)=true:=by rfl)(c:(ev n).E sc a ρ st=some (x,st1):=by rfl)(d:(ev n).E sc i ρ st1=some (y,jk):=by rfl)(h:gZ jk x y=some v):(ev (n+1)).E sc (.Subscript a i p) ρ st=some (v,jk):=TY b c d h
def jw{f:Str}{args:List Expr}{vs:List PV}(b:iY f ρ=none:=by rfl)(c:iw sc f=some .globalImplicit:=by rfl)(d:(f==("tuple":Str))=false:=by rfl)(e:jf.contains f=true:=by rfl)(g:ja ((ev n).E sc) ρ args st=some (vs,st1):=by rfl)(h:iR st1 f vs=some v):(ev (n+1)).E sc (.Call (.Name f q) args [] p) ρ st=some (v,st1):=TZ b c d e g h
def iW{o:Expr}{name:Str}{args:List Expr}{vs:List PV}{R:PV×St}(b:(rR o&&q.endLine==p.line&&decide (args.length<20))=true:=by rfl)(c:(ev n).E sc o ρ st=some (x,st1):=by rfl)(d:lO st1 x=true:=by rfl)(g:ja ((ev n).E sc) ρ args st1=some (vs,jk):=by rfl)(h:methP jk x name vs=some R):(ev (n+1)).E sc (.Call (.Attribute o name q) args [] p) ρ st=some R:=QX b c d g h
def ju{elt target iter:Expr}{ifs:List Expr}{iS:Scope}{l:List PV}(b:(!r7 iS||jT iter|| !lK sc iS)=false:=by rfl)(c:(ev n).E sc iter ρ st=some (x,st1):=by rfl)(d:gM st1 x=some l:=by rfl)(a:jl (ev n) iS (putL st1.length) elt target ifs (iM x st1) l (freeOf iS ρ) (st1++[.lst []])=some jk)(h:finish st1.length jk (.lst st1.length)=some (v,j6)):(ev (n+1)).E sc (.ListComp elt [⟨target,iter,ifs,0⟩] iS p) ρ st=some (v,j6):=JV b c d a h
def i6{a:Expr}{ops:List CmpOp}{es:List Expr}{R:Bool×St}(b:(lastMarks ops es||ops.length !=es.length)=false:=by rfl)(c:(ev n).E sc a ρ st=some (x,st1):=by rfl)(h:jJ ((ev n).E sc) ρ x ops es st1=some R):(ev (n+1)).T sc (.Compare a ops es p) ρ st=some R:=TH b c h
end
def xF(l:List Int):mD (l.map .int)=some l:=by
 induction l with
 |nil=>rfl
 |cons a l ih=>simp[mD,ih]
def oA(st:St)(k:Int)(ns:List Int):iR st "sum" [.list (mH 7 (ns.map PV.int) k)]=some (.int (mH 7 ns k).sum):=by
 rw[uu];show(mD ((mH 7 ns k).map PV.int)).map (fun ns=>PV.int ns.sum)=_;rw[xF];rfl
def QH:List Int:=[1356,1104,1843,691,2454,1279,1956]
def qE(ns:List Int)(k:Nat):Int:=(QH.getD k 0)+(mH 7 ns (k:Int)).sum
def NC(n:Nat)(ns:List Int):(ev (n+7)).C "_law_numbers" [.list (ns.map .int)] [] []=some (.list [.int (qE ns 0),.int (qE ns 1),.int (qE ns 2),.int (qE ns 3),.int (qE ns 4),.int (qE ns 5),.int (qE ns 6)],[]):=by
 refine jV (k:=gO (gK (h:=by rfl)) (ku (ju (a:=qO (by rfl) oj (iD (by rfl) (jw (g:=gX (by rfl) (by rfl) iZ) (h:=by exact oA _ _ _)) (by rfl)) (by rfl) (by rfl) (qO (by rfl) oj (iD (by rfl) (jw (g:=gX (by rfl) (by rfl) iZ) (h:=by exact oA _ _ _)) (by rfl)) (by rfl) (by rfl) (qO (by rfl) oj (iD (by rfl) (jw (g:=gX (by rfl) (by rfl) iZ) (h:=by exact oA _ _ _)) (by rfl)) (by rfl) (by rfl) (qO (by rfl) oj (iD (by rfl) (jw (g:=gX (by rfl) (by rfl) iZ) (h:=by exact oA _ _ _)) (by rfl)) (by rfl) (by rfl) (qO (by rfl) oj (iD (by rfl) (jw (g:=gX (by rfl) (by rfl) iZ) (h:=by exact oA _ _ _)) (by rfl)) (by rfl) (by rfl) (qO (by rfl) oj (iD (by rfl) (jw (g:=gX (by rfl) (by rfl) iZ) (h:=by exact oA _ _ _)) (by rfl)) (by rfl) (by rfl) (qO (by rfl) oj (iD (by rfl) (jw (g:=gX (by rfl) (by rfl) iZ) (h:=by exact oA _ _ _)) (by rfl)) (by rfl) (by rfl) Fw))))))) (h:=by rfl))))
abbrev UM(a b c d e f g:Int):PV:=.list [.int a,.int b,.int c,.int d,.int e,.int f,.int g]
def Uz(n:Nat)(a b c d e f g:Int):(ev (n+7)).C "_law_above" [UM a b c d e f g] [] []=some (UM 0 (Int.fmod b 1) (Int.fmod c 2) (Int.fmod d 3) (Int.fmod e 4) (Int.fmod f 5) (Int.fmod g 6),[]):=by rfl
def sI(d:Nat):Nat:=if d<10 then 48+d else 87+d
def lF(d:Nat):ah:=[sI (d / 4096%16),sI (d / 256%16),sI (d / 16%16),sI (d%16)]
def Qk:ah:=(Str.ofString "0123456789abcdef").cps.toList
def fdm(d m k:Nat):Int.fmod (Int.fdiv (d:Int) (m:Int)) (k:Int)=((d / m%k:Nat):Int):=by
 rw[Int.fdiv_eq_ediv_of_nonneg _ (cz m),Int.fmod_eq_emod_of_nonneg _ (cz k)];rfl
def Ro(j:Nat)(h:j<16):idx Qk (j:Int)=some (sI j):=by
 have:∀j:Nat,j<16->idx Qk (j:Int)=some (sI j):=by decide+kernel
 exact this j h
def uc(d m:Nat):(idx Qk (Int.fmod (Int.fdiv (d:Int) (m:Int)) (16:Nat))).map (fun c=>PV.str [c])=some (.str [sI (d / m%16)]):=by
 rw[fdm,Ro _ (e_ _ (by decide))];rfl
def Gx(n:Nat)(d:Nat):(ev (n+9)).C "_law_figures" [.int d] [] []=some (.str (lF d),[]):=by
 have h:lF d=[sI (d / 4096%16),sI (d / 256%16),sI (d / 16%16),sI (d / 1%16)]:=by rw[Nat.div_one];rfl
 rw[h];refine jV (k:=gO (gK (h:=by rfl)) (gO (qU (by rfl) (by rfl) (by rfl) (nI (by rfl) (gO (gK (h:=iD (iC (h:=by exact uc d 1)) (by rfl) (by rfl))) iX) (.inl rfl) (by rfl) (nI (by rfl) (gO (gK (h:=iD (iC (h:=by exact uc d 16)) (by rfl) (by rfl))) iX) (.inl rfl) (by rfl) (nI (by rfl) (gO (gK (h:=iD (iC (h:=by exact uc d 256)) (by rfl) (by rfl))) iX) (.inl rfl) (by rfl) (nI (by rfl) (gO (gK (h:=iD (iC (h:=by exact uc d 4096)) (by rfl) (by rfl))) iX) (.inl rfl) (by rfl) Aw))))) (ku (by rfl))))
def qh:ah:=[97,98,99,100,101,102]
def Po(a:Nat->Nat):Nat->Nat->ah
 |0,_=>[]
 |f+1,k=>if k=0 then[]else Po a f (a k)++[k]
def wd(a:Nat->Nat)(k:Nat):ah:=Po a k k
def S(w:ah):ah:=w.flatMap fun c=>47::qh.take c
def Tree(a:Nat->Nat):Prop:=∀k,0<k->a k<k
def w9{a:Nat->Nat}(T:Tree a):∀(f k:Nat),k<=f->Po a f k=Po a k k
 |0,k,h=>by
   have:k=0:=by omega
   subst this;rfl
 |f+1,k,h=>by
  cases k with
  |zero=>rfl
  |succ k=>
   have h1:=T (k+1) (dS k);rw[Po,Po,aD (Nat.succ_ne_zero k),aD (Nat.succ_ne_zero k),w9 T f (a (k+1)) (by omega),w9 T k (a (k+1)) (by omega)]
def o6(a:Nat->Nat):wd a 0=[]:=rfl
def kK{a:Nat->Nat}(T:Tree a)(k:Nat)(h:0<k):wd a k=wd a (a k)++[k]:=by
 cases k with
 |zero=>omega
 |succ k=>
  have h1:=T (k+1) h;unfold wd;rw[Po,aD (Nat.succ_ne_zero k),w9 T k (a (k+1)) (by omega)]
def Pg:S []=[]:=rfl
def RG(u:ah)(k:Nat):S (u++[k])=S u++47::qh.take k:=by
 unfold S;rw[List.flatMap_append];simp
def Kg(u:ah)(k:Nat):S (k::u)=47::(qh.take k++S u):=by
 unfold S;rw[List.flatMap_cons];rfl
def Tv{a:Nat->Nat}(T:Tree a)(k:Nat)(h:0<k):S (wd a k)=S (wd a (a k))++47::qh.take k:=by rw[kK T k h,RG]
def Ph{a:Nat->Nat}(T:Tree a):∀(f k:Nat),k<=f->(S (wd a k)).length<=7*k
 |f,k,hf=>by
  cases k with
  |zero=>simp[o6,Pg]
  |succ k=>
   cases f with
   |zero=>omega
   |succ f=>
    have h1:=T (k+1) (dS k);have ih:=Ph T f (a (k+1)) (by omega);have hn:qh.length=6:=rfl;have h0:0<k+1:=dS k;rw[Tv T (k+1) h0];simp only[aB,aE,bI];omega
def Kf{a:Nat->Nat}(T:Tree a)(k:Nat):(S (wd a k)).length<=7*k:=Ph T k k (aV k)
def pZ{α:Type}(g:Nat->α)(k j:Nat)(h:j<k):idx ((List.range k).map g) ((j:Nat):Int)=some (g j):=by
 unfold idx;rw[aQ (cz j),bu,br,fJ h];rfl
def add_str(st:St){x y:ah}(h:(x++y).length<=yE):jm st .Add (.str x) (.str y)=some (.str (x++y)):=by
 show(if iP (x++y)=true then some (PV.str (x++y))else none)=_;rw[aQ (by unfold iP;exact aT h)]
def tx(a:Nat->Nat)(k:Nat):ah:=S (wd a k)
def uG{a:Nat->Nat}(T:Tree a)(st:St)(k:Nat)(h:0<k)(h6:k<=6):jm st .Add (.str (tx a (a k)++[47])) (.str (qh.take k))=some (.str (tx a k)):=by
 have e:tx a k=(tx a (a k)++[47])++qh.take k:=by unfold tx;rw[Tv T k h];simp
 have l:=Kf T k;unfold tx at e;have l2:((tx a (a k)++[47])++qh.take k).length<=yE:=by
  unfold tx;rw[<-e];unfold yE;omega
 rw[add_str st l2];unfold tx;rw[e]
def rL{a:Nat->Nat}(T:Tree a)(st:St)(k:Nat)(h:0<k)(h6:k<=6):jm st .Add (.str (tx a (a k))) (.str [47])=some (.str (tx a (a k)++[47])):=by
 have l:=Kf T (a k);have l1:=T k h;refine add_str st ?_;unfold tx yE;simp only[aB,aE,bB];omega
def mV{a:Nat->Nat}(T:Tree a)(k:Nat)(h:0<k):(idx ((List.range k).map fun j=>PV.str (tx a j)) ((a k:Nat):Int))=some (.str (tx a (a k))):=pZ (fun j=>PV.str (tx a j)) k (a k) (T k h)
def TF{a:Nat->Nat}(T:Tree a)(n:Nat):(ev (n+9)).C "_law_texts" [UM 0 (a 1) (a 2) (a 3) (a 4) (a 5) (a 6)] [] []=some (.list [.str [47],.str (tx a 1),.str (tx a 2),.str (tx a 3),.str (tx a 4),.str (tx a 5),.str (tx a 6)],[]):=by
 refine jV (k:=gO (gK (h:=by rfl)) (gO (qU (by rfl) (by rfl) (by rfl) (nI (by rfl) (gO (jX (by rfl) (iW (g:=gX (by rfl) (iD (iD (iC (h:=by exact mV T 1 (by decide))) (by rfl) (by exact rL T _ 1 (by decide) (by decide))) (by rfl) (by exact uG T _ 1 (by decide) (by decide))) iZ) (h:=by rfl))) iX) (.inl rfl) (by rfl) (nI (by rfl) (gO (jX (by rfl) (iW (g:=gX (by rfl) (iD (iD (iC (h:=by exact mV T 2 (by decide))) (by rfl) (by exact rL T _ 2 (by decide) (by decide))) (by rfl) (by exact uG T _ 2 (by decide) (by decide))) iZ) (h:=by rfl))) iX) (.inl rfl) (by rfl) (nI (by rfl) (gO (jX (by rfl) (iW (g:=gX (by rfl) (iD (iD (iC (h:=by exact mV T 3 (by decide))) (by rfl) (by exact rL T _ 3 (by decide) (by decide))) (by rfl) (by exact uG T _ 3 (by decide) (by decide))) iZ) (h:=by rfl))) iX) (.inl rfl) (by rfl) (nI (by rfl) (gO (jX (by rfl) (iW (g:=gX (by rfl) (iD (iD (iC (h:=by exact mV T 4 (by decide))) (by rfl) (by exact rL T _ 4 (by decide) (by decide))) (by rfl) (by exact uG T _ 4 (by decide) (by decide))) iZ) (h:=by rfl))) iX) (.inl rfl) (by rfl) (nI (by rfl) (gO (jX (by rfl) (iW (g:=gX (by rfl) (iD (iD (iC (h:=by exact mV T 5 (by decide))) (by rfl) (by exact rL T _ 5 (by decide) (by decide))) (by rfl) (by exact uG T _ 5 (by decide) (by decide))) iZ) (h:=by rfl))) iX) (.inl rfl) (by rfl) (nI (by rfl) (gO (jX (by rfl) (iW (g:=gX (by rfl) (iD (iD (iC (h:=by exact mV T 6 (by decide))) (by rfl) (by exact rL T _ 6 (by decide) (by decide))) (by rfl) (by exact uG T _ 6 (by decide) (by decide))) iZ) (h:=by rfl))) iX) (.inl rfl) (by rfl) Aw))))))) (ku (by rfl))))
def rN(i:Int):Nat:=(Int.fmod (Int.fdiv i 6) 3).toNat
def hN(i:Int):Nat:=(Int.fmod (Int.fdiv i 18) 6).toNat
def bN(i:Int):Nat:=(Int.fmod (Int.fdiv i 108) 3).toNat
def dN(i:Int):Nat:=(Int.fmod (Int.fdiv i 324) 55296).toNat
def k6(x:Int)(m:Nat)(h:0<m):((Int.fmod x m).toNat:Int)=Int.fmod x m/\(Int.fmod x m).toNat<m:=by
 have h1:0<=Int.fmod x m:=Int.fmod_nonneg_of_pos x (by omega);have h2:Int.fmod x m<m:=Int.fmod_lt_of_pos x (by omega);exact⟨Int.toNat_of_nonneg h1,by omega⟩
def T3(i:Int):rN i<3:=(k6 (Int.fdiv i 6) 3 (by decide)).2
def O_(i:Int):hN i<6:=(k6 (Int.fdiv i 18) 6 (by decide)).2
def Uy(i:Int):bN i<3:=(k6 (Int.fdiv i 108) 3 (by decide)).2
def Ur(i:Int):dN i<55296:=(k6 (Int.fdiv i 324) 55296 (by decide)).2
def v_(j:Nat):ah:=([[47],[],[47,46,47],[47,122,47,46,46,47],[47,47,47],[46,46,47]]:List (ah)).getD j []
def v9(j:Nat):ah:=([[],[32,35,32,39,1],[9,39]]:List (ah)).getD j []
def CO(i:Int):idx ((List.range 6).map fun j=>PV.str (v_ j)) (Int.fmod (Int.fdiv i 18) 6)=some (.str (v_ (hN i))):=by
 have h:=k6 (Int.fdiv i 18) 6 (by decide);have e:Int.fmod (Int.fdiv i 18) 6=((hN i:Nat):Int):=h.1.symm;rw[e];exact pZ (fun j=>PV.str (v_ j)) 6 (hN i) (O_ i)
def CN(i:Int):idx ((List.range 3).map fun j=>PV.str (v9 j)) (Int.fmod (Int.fdiv i 108) 3)=some (.str (v9 (bN i))):=by
 have h:=k6 (Int.fdiv i 108) 3 (by decide);have e:Int.fmod (Int.fdiv i 108) 3=((bN i:Nat):Int):=h.1.symm;rw[e];exact pZ (fun j=>PV.str (v9 j)) 3 (bN i) (Uy i)
def ri(st:St)(s:ah)(j:Nat):jj st (.str s) none (some ((j:Nat):Int)) none=some (.str (s.take j)):=by
 show(kg s none (some (j:Int))).map PV.str=_;unfold kg;have:nG s.length ((j:Nat):Int)=some (min j s.length):=by unfold nG;rw[aQ (cz j)];rfl
 simp only[eF,au,eS,eU,this,List.drop_zero,fq];congr 2;rw[List.take_eq_take_iff];omega
def qu(st:St)(s:ah)(j:Nat):jj st (.str s) (some ((j:Nat):Int)) none none=some (.str (s.drop j)):=by
 show(kg s (some (j:Int)) none).map PV.str=_;unfold kg;have:nG s.length ((j:Nat):Int)=some (min j s.length):=by unfold nG;rw[aQ (cz j)];rfl
 simp only[eF,au,eS,eU,this];congr 2;by_cases h:j<=s.length
 ·rw[gH h];exact bT (by simp)
 ·rw[Nat.min_eq_right (by omega),Nat.sub_self,List.take_zero,dQ (by omega)]
def FE(st:St)(i:Int):jj st (.str [9,32]) none (some (Int.fmod (Int.fdiv i 6) 3)) none=some (.str (([9,32]:ah).take (rN i))):=by
 have h:=k6 (Int.fdiv i 6) 3 (by decide);have e:Int.fmod (Int.fdiv i 6) 3=((rN i:Nat):Int):=h.1.symm;rw[e];exact ri st [9,32] (rN i)
def Sk(r h:Nat)(t:ah)(b:Nat):ah:=(((((([9,32]:ah).take r++[39])++v_ h)++t)++[39])++v9 b)++[10]
def GF(j:Nat):(v_ j).length<=6:=by
 unfold v_
 match j with
 |0|1|2|3|4|5=>decide
 |j+6=>simp
def A_(j:Nat):(v9 j).length<=5:=by
 unfold v9
 match j with
 |0|1|2=>decide
 |j+3=>simp
def nH(st:St){x y:ah}(hx:x.length<=1000)(hy:y.length<=1000):jm st .Add (.str x) (.str y)=some (.str (x++y)):=by
 refine add_str st ?_;rw[aB];unfold yE;omega
def kN(st:St)(r h:Nat)(t:ah)(b:Nat)(ht:t.length<=500):
  jm st .Add (.str (([9,32]:ah).take r)) (.str [39])=some (.str (([9,32]:ah).take r++[39]))/\
  jm st .Add (.str (([9,32]:ah).take r++[39])) (.str (v_ h))=some (.str ((([9,32]:ah).take r++[39])++v_ h))/\
  jm st .Add (.str ((([9,32]:ah).take r++[39])++v_ h)) (.str t)=some (.str (((([9,32]:ah).take r++[39])++v_ h)++t))/\
  jm st .Add (.str (((([9,32]:ah).take r++[39])++v_ h)++t)) (.str [39])=some (.str ((((([9,32]:ah).take r++[39])++v_ h)++t)++[39]))/\
  jm st .Add (.str ((((([9,32]:ah).take r++[39])++v_ h)++t)++[39])) (.str (v9 b))=some (.str (((((([9,32]:ah).take r++[39])++v_ h)++t)++[39])++v9 b))/\
  jm st .Add (.str (((((([9,32]:ah).take r++[39])++v_ h)++t)++[39])++v9 b)) (.str [10])=some (.str (Sk r h t b)):=by
 have l0:(([9,32]:ah).take r).length<=2:=by rw[bI];exact Nat.min_le_right ..
 have l1:=GF h;have l2:=A_ b;refine⟨nH st ?_ ?_,nH st ?_ ?_,nH st ?_ ?_,nH st ?_ ?_,nH st ?_ ?_,nH st ?_ ?_⟩<;>
  (first|omega|(simp only[aB,aE,bB];omega))
def jP(f:Str)(i:Nat):List Stmt:=match fnOf f with
 |some (_,b,_)=>match b[i]? with
  |some (.For _ _ body _ _)=>body
  |some (.While _ body _ _)=>body
  |_=>[]
 |none=>[]
def ir(f:Str):Scope:=match fnOf f with
 |some (_,_,sc)=>sc
 |none=>default
def m_{B:ie->St->Option (iE×ie×St)}{sc:Scope}{target:Expr}{fit:St->Bool}(I:Nat->ie->St->Prop):∀(l:List PV)(j:Nat)(ρ:ie)(st:St),I j ρ st->
  (∀i v ρ st,l[i]? =some v->I (j+i) ρ st->∃kJ fl yy jk,i8 sc st target v ρ=some kJ/\B kJ st=some (fl,yy,jk)/\(fl= .next\/fl= .cont)/\fit jk=true/\I (j+(i+1)) yy jk)->
  ∃ji gV,j_ B sc target fit l ρ st=some (.next,ji,gV)/\I (j+l.length) ji gV
 |[],j,ρ,st,h,_=>⟨ρ,st,rfl,h⟩
 |v::l,j,ρ,st,h,step=>by
  obtain⟨kJ,fl,yy,jk,h1,h2,h3,h4,h5⟩:=step 0 v ρ st rfl h;obtain⟨ji,gV,h6,h7⟩:=m_ I l (j+1) yy jk (by simpa using h5) (fun i v ρ st hv hI=>by
   have e:j+(i+1)=j+1+i:=by omega
   have:=step (i+1) v ρ st hv (by rw[e];exact hI);rw[show j+(i+1+1)=j+1+(i+1) by omega]at this;exact this)
  refine⟨ji,gV,nI h1 h2 h3 h4 h6,?_⟩;rw[aE,show j+(l.length+1)=j+1+l.length by omega];exact h7
def pe(st:St)(vs:List PV)(i:Int)(v:PV)(h:idx vs i=some v):gZ (st++[.lst vs]) (.lst st.length) (.int i)=some v:=by
 show(match gM (st++[.lst vs]) (.lst st.length)with|some l=>idx l i|none=>none)=_;have:gM (st++[.lst vs]) (.lst st.length)=some vs:=by
  simp[gM]
 rw[this];exact h
def append_at(st:St)(k:Nat)(L:List PV)(v:PV)(h:st[k]? =some (.lst L))(hl:L.length<=1000):methP st (.lst k) "append" [v]=some (.none,st.set k (.lst (L++[v]))):=by
 have e:(("append":Str)==("append":Str))=true:=by decide+kernel
 show(if(("append":Str)==("append":Str))=true then match st[k]? with
   |some (.lst l)=>if iP l=true then some (PV.none,st.set k (.lst (l++[v])))else none
   |_=>none
  else none)=_
 rw[aQ e,h];show(if iP L=true then _ else _)=_;rw[aQ (by unfold iP yE;exact aT (by omega))]
def uf{st:St}{k:Nat}{L:List PV}(h:st[k]? =some (.lst L)):lO st (.lst k)=true:=by
 show(match st[k]? with|some (.lst _)=>true|_=>false)=true;rw[h]
def nY(f:PV->Option PV)(hf:∀s,f (.str s)=some (.str s)):∀L:List (ah),kj f (L.map .str)=some (L.map .str)
 |[]=>rfl
 |s::L=>by simp only[aL,kj,hf,ao,nY f hf L,au]
def Dm{st:St}{k:Nat}{L:List (ah)}(h:st[k]? =some (.lst (L.map .str))):finish 0 st (.lst k)=some (.list (L.map .str),[]):=by
 unfold finish;have h1:ia st 0 6 (.lst k)=some (.list (L.map .str)):=by
  show(if k<0 then some (PV.lst k)else match st[k]? with
   |some (.lst l)=>(kj (ia st 0 5) l).map PV.list
   |_=>none)=_
  rw[aD (Nat.not_lt_zero k),h];show(kj (ia st 0 5) (L.map PV.str)).map PV.list=_;rw[nY (ia st 0 5) (fun s=>rfl)];rfl
 rw[h1];rfl
def m9{st:St}{k:Nat}{c:jv}(x:jv)(h:st[k]? =some c):(st++[x])[k]? =some c:=by
 have hk:k<st.length:=by
  rcases Nat.lt_or_ge k st.length with h'|h'
  ·exact h'
  ·rw[dI h']at h;cases h
 rw[bk hk];exact h
def N4{st:St}{k:Nat}{c:jv}(x:jv)(h:st[k]? =some c):(st.set k x)[k]? =some x:=by
 have hk:k<st.length:=by
  rcases Nat.lt_or_ge k st.length with h'|h'
  ·exact h'
  ·rw[dI h']at h;cases h
 rw[List.getElem?_set_self hk]
def Eu(n:Nat){nums Pp:List PV}{k i:Int}{t:ah}{st:St}{L:List PV}{a0 b0:PV}(hi:∀st,gZ st (.list nums) (.int k)=some (.int i))(ht:∀st,gZ st (.list Pp) (.int k)=some (.str t))(l1:t.length<=100)(kD:st[0]? =some (.lst L))(hl:L.length<=1000):
  gT ((ev (n+13)).S (ir "_law_rests")) (jP "_law_rests" 1) [("numbers",.list nums),("texts",.list Pp),("rests",.lst 0),("k",.int k)] st=some (iE.next,([("numbers",.list nums),("texts",.list Pp),("rests",.lst 0),("k",.int k),("ahead",.str (v_ (hN i))),("behind",.str (v9 (bN i)))]:ie),
   ((st++[jv.lst ((List.range 6).map fun j=>PV.str (v_ j))])++[jv.lst ((List.range 3).map fun j=>PV.str (v9 j))]).set 0 (jv.lst (L++[PV.str (Sk (rN i) (hN i) (t.drop 1) (bN i))]))):=by
 exact gO (gK (h:=iC (d:=iD (iD (iC (h:=by exact hi _)) (by rfl) (by rfl)) (by rfl) (by rfl)) (h:=by exact pe _ _ _ _ (CO i)))) (gO (gK (h:=iC (d:=iD (iD (iC (h:=by exact hi _)) (by rfl) (by rfl)) (by rfl) (by rfl)) (h:=by exact pe _ _ _ _ (CN i)))) (gO (jX (by rfl) (iW (d:=by exact uf (m9 _ (m9 _ kD))) (g:=gX (by rfl) (iD (iD (iD (iD (iD (iD (jO (by rfl) ly (nh (iD (iD (iC (h:=by exact hi _)) (by rfl) (by rfl)) (by rfl) (by rfl))) ly (by exact FE _ i)) (by rfl) (by exact(kN _ (rN i) (hN i) (t.drop 1) (bN i) (by rw[bH];omega)).1)) (by rfl) (by exact(kN _ (rN i) (hN i) (t.drop 1) (bN i) (by rw[bH];omega)).2.1)) (jO (iC (h:=by exact ht _)) (nh (by rfl)) ly ly (by exact qu _ _ 1)) (by exact(kN _ (rN i) (hN i) (t.drop 1) (bN i) (by rw[bH];omega)).2.2.1)) (by rfl) (by exact(kN _ (rN i) (hN i) (t.drop 1) (bN i) (by rw[bH];omega)).2.2.2.1)) (by rfl) (by exact(kN _ (rN i) (hN i) (t.drop 1) (bN i) (by rw[bH];omega)).2.2.2.2.1)) (by rfl) (by exact(kN _ (rN i) (hN i) (t.drop 1) (bN i) (by rw[bH];omega)).2.2.2.2.2)) iZ) (h:=by exact append_at _ 0 L _ (m9 _ (m9 _ kD)) hl))) iX))
def Et(n:Nat){nums Pp:List PV}{k i:Int}{t:ah}{st:St}{L:List PV}{a0 b0:PV}(hi:∀st,gZ st (.list nums) (.int k)=some (.int i))(ht:∀st,gZ st (.list Pp) (.int k)=some (.str t))(l1:t.length<=100)(kD:st[0]? =some (.lst L))(hl:L.length<=1000):
  gT ((ev (n+13)).S (ir "_law_rests")) (jP "_law_rests" 1) [("numbers",.list nums),("texts",.list Pp),("rests",.lst 0),("k",.int k),("ahead",a0),("behind",b0)] st=some (iE.next,([("numbers",.list nums),("texts",.list Pp),("rests",.lst 0),("k",.int k),("ahead",.str (v_ (hN i))),("behind",.str (v9 (bN i)))]:ie),
   ((st++[jv.lst ((List.range 6).map fun j=>PV.str (v_ j))])++[jv.lst ((List.range 3).map fun j=>PV.str (v9 j))]).set 0 (jv.lst (L++[PV.str (Sk (rN i) (hN i) (t.drop 1) (bN i))]))):=by
 exact gO (gK (h:=iC (d:=iD (iD (iC (h:=by exact hi _)) (by rfl) (by rfl)) (by rfl) (by rfl)) (h:=by exact pe _ _ _ _ (CO i)))) (gO (gK (h:=iC (d:=iD (iD (iC (h:=by exact hi _)) (by rfl) (by rfl)) (by rfl) (by rfl)) (h:=by exact pe _ _ _ _ (CN i)))) (gO (jX (by rfl) (iW (d:=by exact uf (m9 _ (m9 _ kD))) (g:=gX (by rfl) (iD (iD (iD (iD (iD (iD (jO (by rfl) ly (nh (iD (iD (iC (h:=by exact hi _)) (by rfl) (by rfl)) (by rfl) (by rfl))) ly (by exact FE _ i)) (by rfl) (by exact(kN _ (rN i) (hN i) (t.drop 1) (bN i) (by rw[bH];omega)).1)) (by rfl) (by exact(kN _ (rN i) (hN i) (t.drop 1) (bN i) (by rw[bH];omega)).2.1)) (jO (iC (h:=by exact ht _)) (nh (by rfl)) ly ly (by exact qu _ _ 1)) (by exact(kN _ (rN i) (hN i) (t.drop 1) (bN i) (by rw[bH];omega)).2.2.1)) (by rfl) (by exact(kN _ (rN i) (hN i) (t.drop 1) (bN i) (by rw[bH];omega)).2.2.2.1)) (by rfl) (by exact(kN _ (rN i) (hN i) (t.drop 1) (bN i) (by rw[bH];omega)).2.2.2.2.1)) (by rfl) (by exact(kN _ (rN i) (hN i) (t.drop 1) (bN i) (by rw[bH];omega)).2.2.2.2.2)) iZ) (h:=by exact append_at _ 0 L _ (m9 _ (m9 _ kD)) hl))) iX))
abbrev gU{α:Type}(f:Nat->α):List α:=(List.range 7).map f
def jB(st:St)(f:Nat->PV)(k:Nat)(h:k<7):gZ st (.list (gU f)) (.int ((k:Nat):Int))=some (f k):=by
 show idx (gU f) (k:Int)=_;exact pZ f 7 k h
def JR{a b:Nat}{i:Nat}{v:PV}(h:(ng (a:Int) (b:Int))[i]? =some v):v= .int ((a+i:Nat):Int)/\a+i<b:=by
 unfold ng at h;rw[br]at h;obtain⟨j,hj,rfl⟩:=aq.mp h;obtain⟨jQ,rfl⟩:=aF.mp hj;simp only[di]at jQ;simp only[List.getElem_range];exact⟨by simp,by omega⟩
def AO(a b:Nat):(ng (a:Int) (b:Int)).length=b-a:=by
 unfold ng;rw[aH,di];omega
def row(i:Nat->Int)(t:Nat->ah)(k:Nat):ah:=Sk (rN (i k)) (hN (i k)) ((t k).drop 1) (bN (i k))
def TX(i:Nat->Int)(t:Nat->ah)(j:Nat)(ρ:ie)(st:St):Prop:=
 st[0]? =some (.lst (((List.range j).map (row i t)).map .str))/\((ρ=([("numbers",.list (gU fun k=>.int (i k))),("texts",.list (gU fun k=>.str (t k))),("rests",.lst 0)]:ie))\/
  ∃k a b,ρ=([("numbers",.list (gU fun k=>.int (i k))),("texts",.list (gU fun k=>.str (t k))),("rests",.lst 0),("k",k),("ahead",a),("behind",b)]:ie))
def TV(n:Nat)(i:Nat->Int)(t:Nat->ah)(ht:∀k,k<7->(t k).length<=100):
  (ev (n+15)).C "_law_rests" [.list (gU fun k=>.int (i k)),.list (gU fun k=>.str (t k))] [] []=some (.list ((gU (row i t)).map .str),[]):=by
 have loop:=m_ (B:=gT ((ev (n+13)).S (ir "_law_rests")) (jP "_law_rests" 1)) (sc:=ir "_law_rests") (target:=.Name "k" ⟨275,8,275,9⟩) (fit:=iM (.rng 0 7) [.lst []]) (TX i t) (ng ((0:Nat):Int) ((7:Nat):Int)) 0
  ([("numbers",.list (gU fun k=>.int (i k))),("texts",.list (gU fun k=>.str (t k))),("rests",.lst 0)]:ie) [.lst []] ⟨rfl,.inl rfl⟩ (by
   intro j v ρ st hv hI;obtain⟨rfl,hj⟩:=JR hv;rw[bz]at hI hj|-;rw[bz];obtain⟨kD,kC⟩:=hI;have hl:(((List.range j).map (row i t)).map PV.str).length<=1000:=by simp;omega
   have fin:∀(x y:jv),(((st++[x])++[y]).set 0 (.lst (((List.range j).map (row i t)).map PV.str++[.str (row i t j)])))[0]? =some (.lst (((List.range (j+1)).map (row i t)).map .str)):=by
    intro x y;rw[N4 _ (m9 _ (m9 _ kD)),eH,bR,bR];rfl
   rcases kC with rfl|⟨k,a,b,rfl⟩
   ·exact⟨_,_,_,_,rfl,Eu n (k:=(j:Int)) (fun st=>jB st _ j hj) (fun st=>jB st _ j hj) (ht j hj) kD hl (a0:=.none) (b0:=.none),.inl rfl,rfl,fin _ _,.inr ⟨_,_,_,rfl⟩⟩
   ·exact⟨_,_,_,_,rfl,Et n (k:=(j:Int)) (fun st=>jB st _ j hj) (fun st=>jB st _ j hj) (ht j hj) kD hl,.inl rfl,rfl,fin _ _,.inr ⟨_,_,_,rfl⟩⟩)
 obtain⟨ji,gV,h1,h2,h3⟩:=loop;rw[AO]at h2;have DS:iY "rests" ji=some (.lst 0):=by
  rcases h3 with rfl|⟨k,a,b,rfl⟩<;>rfl
 refine jV (k:=gO (gK (h:=by rfl)) (gO (qU (by rfl) (by rfl) (by rfl) (by exact h1)) (ku (uI (by rfl) (by unfold oZ;rw[DS]))))) (h:=by exact Dm h2)
def wV{n:Nat}{sc:Scope}{ρ:ie}{st st1:St}{p:Pos}{a:Expr}(h:(ev n).T sc a ρ st=some (true,st1)):(ev (n+1)).T sc (.UnaryOp .Not a p) ρ st=some (false,st1):=OT h
def Qz{n:Nat}{sc:Scope}{ρ:ie}{st st1:St}{p:Pos}{a:Expr}(h:(ev n).T sc a ρ st=some (false,st1)):(ev (n+1)).T sc (.UnaryOp .Not a p) ρ st=some (true,st1):=OT h
def EX(n a:Nat):nG n (a:Int)=some (min a n):=by
 unfold nG;rw[aQ (cz a)];rfl
def HD(st:St)(s:ah)(a b:Nat)(h:b<=s.length):jj st (.str s) (some (a:Int)) (some (b:Int)) none=some (.str ((s.drop a).take (b-a))):=by
 show(kg s (some (a:Int)) (some (b:Int))).map PV.str=_;unfold kg;simp only[au,eU,EX];congr 2;rw[gH h];by_cases ha:a<=s.length
 ·rw[gH ha]
 ·rw[show b-min a s.length=0 by omega,List.take_zero,show b-a=0 by omega,List.take_zero]
def NJ(pre u post:ah)(a b:Nat)(ha:a=pre.length)(hb:b=pre.length+u.length):((pre++(u++post)).drop a).take (b-a)=u:=by
 subst ha hb;rw[List.drop_left,Nat.add_sub_cancel_left,gp]
def AL(st:St)(pre u post:ah)(a b:Nat)(ha:a=pre.length)(hb:b=pre.length+u.length):jj st (.str (pre++(u++post))) (some (a:Int)) (some (b:Int)) none=some (.str u):=by
 rw[HD st _ a b (by rw[hb];simp),NJ pre u post a b ha hb]
def Pc(st:St)(pre post:ah)(c:Nat)(a:Nat)(ha:a=pre.length):gZ st (.str (pre++c::post)) (.int (a:Int))=some (.str [c]):=by
 show(idx (pre++c::post) (a:Int)).map (fun c=>PV.str [c])=_;unfold idx;rw[aQ (cz a),bu,ha];simp
def nT(c:Nat):∀(u post:ah),c∉u->(u++c::post).findIdx? (· ==c)=some u.length
 |[],post,_=>by simp[fU]
 |x::u,post,h=>by
  have hx:(x==c)=false:=aO.mpr fun e=>h (e▸aU ..);rw[eW,fU];simp only[hx,az,a_];rw[nT c u post fun m=>h (ay _ m)];rfl
def LL(pre u post:ah)(c a:Nat)(ha:a=pre.length)(hc:c∉u):q8 (pre++(u++c::post)) c a=some (a+u.length):=by
 unfold q8;subst ha;rw[List.drop_left,nT c u post hc];rfl
def C4(st:St)(pre u post:ah)(c a:Nat)(ha:a=pre.length)(hc:c∉u):methP st (.str (pre++(u++c::post))) "index" [.str [c],.int (a:Int)]=some (.int ((a+u.length:Nat):Int),st):=by
 have e:(("index":Str)==("index":Str))=true:=by decide+kernel
 show(if(("index":Str)==("index":Str))=true then
   if 0<=(a:Int)then(q8 (pre++(u++c::post)) c (a:Int).toNat).map fun(i:Nat)=>(PV.int (i:Int),st)else none
  else none)=_
 rw[aQ e,aQ (cz a),bu,LL pre u post c a ha hc];rfl
def H9(st:St)(l s:ah)(h:s.all (fun c=> !l.contains c)=true):methP st (.cset l) "isdisjoint" [.str s]=some (.bool true,st):=by
 have e:(("isdisjoint":Str)==("isdisjoint":Str))=true:=by decide+kernel
 show(if(("isdisjoint":Str)==("isdisjoint":Str))=true then some (PV.bool (s.all fun c=> !l.contains c),st)
  else if(("isdisjoint":Str)==("issuperset":Str))=true then some (.bool (s.all fun c=>l.contains c),st)
  else none)=_
 rw[aQ e,h]
def AM(st:St)(pre u post:ah)(p q:Int)(hp:p=(pre.length:Int))(hq:q=p+(u.length:Int)):jj st (.str (pre++(u++post))) (some p) (some q) none=some (.str u):=by
 have e:q=((pre.length+u.length:Nat):Int):=by omega
 subst hp;rw[e];exact AL st pre u post _ _ rfl rfl
def NU(st:St)(pre u post:ah)(c:Nat)(p:Int)(hp:p=(pre.length:Int))(hc:c∉u):methP st (.str (pre++(u++c::post))) "index" [.str [c],.int p]=some (.int (p+(u.length:Int)),st):=by
 subst hp;exact C4 st pre u post c _ rfl hc
def xS(n:Nat)(pre u post:ah)(c:Nat)(p:Int)(l:ah)(hp:p=(pre.length:Int))(hc:c∉u)(hd:u.all (fun c=> !l.contains c)=true):
  (ev (n+7)).C "skip_until" [.str (pre++(u++c::post)),.int p,.str [c]] [("error_on",.cset l),("error_on_eof",.bool true)] []=some (.int (p+(u.length:Int)),[]):=by
 refine jV (k:=gO (BW (gO (gK (h:=iW (h:=by exact NU _ pre u post c p hp hc))) iX))
  (gO (lN (wV (mO (by rfl) (iW (g:=gX (by rfl) (jO (by rfl) (nh (by rfl)) (nh (by rfl)) ly (by exact AM _ pre u (c::post) p _ hp rfl)) iZ) (h:=by exact H9 _ l u hd)) (by rfl))) iX) (ku (by rfl))))
def J_(st:St)(a b:Int)(h:a<=b):iN st .LtE (.int a) (.int b)=some true:=by
 show some (decide (a<=b))=_;rw[aT h]
def Ol(st:St)(a b:Int)(h:a<b):iN st .Lt (.int a) (.int b)=some true:=by
 show some (decide (a<b))=_;rw[aT h]
def Om(st:St)(a b:Int)(h:b<=a):iN st .Lt (.int a) (.int b)=some false:=by
 show some (decide (a<b))=_;rw[bP (by omega)]
def QN(n:Nat)(d:Nat)(h:d<55296):(ev (n+5)).C "is_unicode_scalar_value" [.int (d:Int)] [] []=some (.bool true,[]):=by
 exact jV (k:=ku (Np (wO (by rfl) (by rfl) (Q4 (by rfl) (by exact J_ _ _ _ (cz d)) (jg (by rfl) (by exact J_ _ _ _ (by omega))))) (by rfl)))
def rm(d:Nat)(h:d<16):ny.contains (sI d)=true/\pD (sI d)=some d:=by
 have:∀d,d<16->ny.contains (sI d)=true/\pD (sI d)=some d:=by decide+kernel
 exact this d h
def N9(st:St)(d:Nat):methP st (.cset ny) "issuperset" [.str (lF d)]=some (.bool true,st):=by
 have e1:(("issuperset":Str)==("isdisjoint":Str))=false:=by decide+kernel
 have e2:(("issuperset":Str)==("issuperset":Str))=true:=by decide+kernel
 show(if(("issuperset":Str)==("isdisjoint":Str))=true then some (PV.bool ((lF d).all fun c=> !ny.contains c),st)
  else if(("issuperset":Str)==("issuperset":Str))=true then some (.bool ((lF d).all fun c=>ny.contains c),st)
  else none)=_
 rw[e1,e2];have h:((lF d).all fun c=>ny.contains c)=true:=by
  unfold lF;simp only[fG,List.all_nil,gG];rw[(rm _ (e_ _ (by decide))).1,(rm _ (e_ _ (by decide))).1,(rm _ (e_ _ (by decide))).1,(rm _ (e_ _ (by decide))).1];rfl
 rw[h];rfl
def N_(d:Nat)(h:d<65536):lJ 0 (lF d)=some d:=by
 unfold lF;simp only[lJ,(rm _ (e_ _ (show 0<16 by decide))).2];congr 1;omega
def Oa(st:St)(d:Nat)(h:d<65536):iR st "int" [.str (lF d),.int 16]=some (.int (d:Int)):=by
 show(if 3<=10 then(lJ 0 (lF d)).map fun(n:Nat)=>PV.int (n:Int)else none)=_;rw[aQ (by decide),N_ d h];rfl
def Rr(st:St)(d:Nat)(h:d<55296):iR st "chr" [.int (d:Int)]=some (.str [d]):=by
 have e:∀i:Int,iR st "chr" [.int i]=if 0<=i&&i<55296 then some (PV.str [i.toNat])else none:=fun i=>rfl;rw[e,aQ,bu];rw[aA,aJ,aJ];omega
def wu(d:Nat):(lF d).length=4:=rfl
def HS(n:Nat)(pre post:ah)(d:Nat)(p:Int)(hp:p=(pre.length:Int))(hd:d<55296):(ev (n+10)).C "parse_hex_char" [.str (pre++(lF d++post)),.int p,.int 4] [] []=some (.tup [.int (p+4),.str [d]],[]):=by
 exact jV (k:=gO (gK (h:=jO (by rfl) (nh (by rfl)) (nh (by rfl)) ly (by exact AM _ pre (lF d) post p _ hp rfl)))
  (gO (lN (nE (by rfl) (nE (wV (mO (by rfl) (iW (h:=by exact N9 _ d)) (by rfl))) OU)) iX)
  (gO (Fg (by rfl) (by rfl) (by rfl))
  (gO (gK (h:=jw (h:=by exact Oa _ d (by omega))))
  (gO (lN (wV (mO (by rfl) (iH (h:=by exact QN n d hd)) (by rfl))) iX)
  (ku (o8 (gX (by rfl) (by rfl) (gX (by rfl) (jw (h:=by exact Rr _ d hd)) iZ)) (by rfl))))))))
def clean(s:ah):Prop:=39∉s/\s.all (fun c=> !wQ.contains c)=true
def HR(n:Nat)(pre s post:ah)(p:Int)(hp:p=(pre.length:Int))(hs:clean s):(ev (n+10)).C "parse_literal_str" [.str (pre++39::(s++39::post)),.int p] [] []=some (.tup [.int (p+1+(s.length:Int)+1),.str s],[]):=by
 have e:pre++39::(s++39::post)=(pre++[39])++(s++39::post):=by simp
 rw[e];have hq:p+1=((pre++[39]).length:Int):=by rw[hp,aB];rfl
 have sk:=xS n (pre++[39]) s post 39 (p+1) wQ hq hs.1 hs.2;exact jV (k:=gO (Fg (by rfl) (by rfl) (by rfl)) (gO (gK (h:=by rfl))
  (gO (gK (h:=AQ (by rfl) (by rfl) (by rfl) (by rfl) (by rfl) (by rfl) (by rfl) (by exact sk)))
  (ku (o8 (gX (by rfl) (by rfl) (gX (by rfl) (jO (by rfl) (nh (by rfl)) (nh (by rfl)) ly (by exact AM _ (pre++[39]) s (39::post) (p+1) _ hq rfl)) iZ)) (by rfl))))))
def Ml(f:Str):Expr×List Stmt:=match fnOf f with
 |some (_,b,_)=>(b.findSome? fun s=>match s with
  | .While t b _ _=>some (t,b)
  | .Try (.While t b _ _::_) _ _ _ _=>some (t,b)
  |_=>none).getD default
 |none=>default
def yh(n:Nat)(l:ah)(c:Nat)(post:ah)(hc:l.contains c=false):∀(ws pre:ah)(k:Nat)(p:Int),ws.length<k->p=(pre.length:Int)->(∀x∈ws,l.contains x=true)->
  jR ((ev (n+3)).T (ir "skip_chars") (Ml "skip_chars").1) (gT ((ev (n+3)).S (ir "skip_chars")) (Ml "skip_chars").2) k ([("src",.str (pre++(ws++c::post))),("pos",.int p),("chars",.cset l)]:ie) []=
   some (.next,([("src",.str (pre++(ws++c::post))),("pos",.int (p+(ws.length:Int))),("chars",.cset l)]:ie),[])
 |[],pre,k+1,p,hk,hp,_=>by
  have hg:gZ [] (.str (pre++([]++c::post))) (.int p)=some (.str [c]):=by subst hp;exact Pc [] pre post c _ rfl
  have BN:iN [] .In (.str [c]) (.cset l)=some false:=by show some (l.contains c)=_;rw[hc]
  have:=wW (k:=k) (B:=gT ((ev (n+3)).S (ir "skip_chars")) (Ml "skip_chars").2) (T:=(ev (n+3)).T (ir "skip_chars") (Ml "skip_chars").1) (ρ:=([("src",.str (pre++([]++c::post))),("pos",.int p),("chars",.cset l)]:ie)) (st:=[]) (st1:=[]) (by
   exact i6 (c:=iC (h:=by exact hg)) (h:=jg (by rfl) (by exact BN)))
  rw[this];simp
 |x::ws,pre,k+1,p,hk,hp,hw=>by
  have hg:gZ [] (.str (pre++(x::ws++c::post))) (.int p)=some (.str [x]):=by subst hp;exact Pc [] pre (ws++c::post) x _ rfl
  have BN:iN [] .In (.str [x]) (.cset l)=some true:=by show some (l.contains x)=_;rw[hw x (aU ..)]
  have e:pre++(x::ws++c::post)=(pre++[x])++(ws++c::post):=by simp
  have ih:=yh n l c post hc ws (pre++[x]) k (p+1) (by simpa using hk) (by rw[hp];simp) fun y hy=>hw y (ay _ hy);rw[<-e]at ih;have:=BV (k:=k) (B:=gT ((ev (n+3)).S (ir "skip_chars")) (Ml "skip_chars").2) (T:=(ev (n+3)).T (ir "skip_chars") (Ml "skip_chars").1) (ρ:=([("src",.str (pre++(x::ws++c::post))),("pos",.int p),("chars",.cset l)]:ie)) (st:=[]) (st1:=[]) (by
   exact i6 (c:=iC (h:=by exact hg)) (h:=jg (by rfl) (by exact BN))) (by exact gO (Fg (by rfl) (by rfl) (by rfl)) iX) (.inl rfl) ih
  rw[this];have e2:p+1+(ws.length:Int)=p+((x::ws).length:Int):=by rw[aE];omega
  rw[e2]
def Em(n:Nat)(l pre ws post:ah)(c:Nat)(p:Int)(hc:l.contains c=false)(hw:∀x∈ws,l.contains x=true)(hl:ws.length<40)(hp:p=(pre.length:Int)):
  (ev (n+6)).C "skip_chars" [.str (pre++(ws++c::post)),.int p,.cset l] [] []=some (.int (p+(ws.length:Int)),[]):=by
 exact jV (k:=gO (BW (gO (rO (by exact yh n l c post hc ws pre 40 p hl hp hw)) iX)) (ku (by rfl)))
structure Rw where
 d:Nat
 r:Nat
 s:ah
 b:Nat
def pP(r:Nat)(s:ah)(b:Nat):ah:=([9,32]:ah).take r++39::(s++39::(v9 b++[10]))
def tN(x:Rw):ah:=lF x.d++pP x.r x.s x.b
def textOf(L:List Rw):ah:=L.flatMap tN
structure Rw.ok(x:Rw):Prop where
 d:x.d<55296
 r:x.r<3
 s:clean x.s
def wN(p:Nat)(x:Rw):PV:=.tup [.int (p:Int),.int (x.d:Int),.int (x.r:Int),.str x.s]
def iU:Nat->List Rw->List PV
 |_,[]=>[]
 |p,x::L=>wN p x::iU (p+(tN x).length) L
def rZ:∀(L:List Rw)(p m:Nat),h_ m (iU p L)=true
 |[],_,_=>rfl
 |x::L,p,m=>by
  show(below m (wN p x)&&h_ m (iU (p+(tN x).length) L))=true;rw[rZ L];rfl
def xU:∀(L:List Rw)(p:Nat)(x:Rw),iU p (L++[x])=iU p L++[wN (p+(textOf L).length) x]
 |[],p,x=>by simp[iU,textOf]
 |y::L,p,x=>by
  simp only[eW,iU,xU L];unfold textOf;simp only[List.flatMap_cons,aB,Nat.add_assoc]
def JM(r:Nat)(h:r<3):(([9,32]:ah).take r).length=r:=by
 rw[bI];simp only[aE,bB];omega
def Tz(r:Nat):∀x∈([9,32]:ah).take r,([32,9]:ah).contains x=true:=by
 intro x hx;have:=cU hx;simp only[aY,fN,or_false]at this;rcases this with rfl|rfl<;>rfl
def Rx(b:Nat):10∉v9 b:=by
 unfold v9
 match b with
 |0|1|2=>decide
 |b+3=>simp
abbrev RM(text:ah)(p:Int)(tl:ie):ie:=("text",.str text)::("rows",.lst 0)::("start",.int p)::tl
def Az{n:Nat}{f:Str}{args:List PV}{kws:List (Str×PV)}{v:PV}{L:List PV}(hL:h_ 1 L=true)(h:(ev n).C f args kws []=some (v,[]))(ha:h_ 0 args=true)(hk:h_ 0 (kws.map (·.2))=true)(hv:below 0 v=true):(ev n).C f args kws [.lst L]=some (v,[.lst L]):=by
 refine frame ?_ h ha hk hv;unfold Good;simp only[fG,List.all_nil,gG,aE,bB,iu];exact hL
def tD(m:Nat):∀a b:List PV,h_ m (a++b)=(h_ m a&&h_ m b)
 |[],b=>rfl
 |x::a,b=>by
  show(below m x&&h_ m (a++b))=(below m x&&h_ m a&&h_ m b);rw[tD m a b,Bool.and_assoc]
section
variable(n:Nat)(pre post:ah)(x:Rw)(L:List PV)
def HH(tl:ie)(DK:tl=[]\/∃a b c d e,tl=([("place",a),("sign",b),("mark",c),("end",d),("string",e)]:ie))(hx:x.ok)(hL:h_ 1 L=true)(hl:L.length<=1000)(p:Int)(hp:p=(pre.length:Int)):
  ∃Mm,(∃a b c d e,Mm=([("place",a),("sign",b),("mark",c),("end",d),("string",e)]:ie))/\
  gT ((ev (n+12)).S (ir "_law_read")) (Ml "_law_read").2 (RM (pre++(tN x++post)) p tl) [.lst L]=some (.next,RM (pre++(tN x++post)) (p+4+(([9,32]:ah).take x.r).length+1+x.s.length+1+(v9 x.b).length+1) Mm,
   [.lst (L++[.tup [.int p,.int (x.d:Int),.int (p+4+((([9,32]:ah).take x.r).length:Int)-(p+4)),.str x.s]])]):=by
 generalize hT:pre++(tN x++post)=T;have e1:T=pre++(lF x.d++(pP x.r x.s x.b++post)):=by rw[<-hT];unfold tN;simp
 have e2:T=(pre++lF x.d)++(([9,32]:ah).take x.r++39::(x.s++39::(v9 x.b++10::post))):=by rw[e1];unfold pP;simp
 have e3:T=((pre++lF x.d)++([9,32]:ah).take x.r)++39::(x.s++39::(v9 x.b++10::post)):=by rw[e2];simp
 have e4:T=(((pre++lF x.d)++([9,32]:ah).take x.r)++39::(x.s++[39]))++(v9 x.b++10::post):=by rw[e3];simp
 have c1:(ev (n+10)).C "parse_hex_char" [.str T,.int p,.int 4] [] [.lst L]=some (.tup [.int (p+4),.str [x.d]],[.lst L]):=
  Az hL (by rw[e1];exact HS n pre _ x.d p hp hx.d) rfl rfl rfl
 have c2:(ev (n+10)).C "skip_chars" [.str T,.int (p+4),.cset [32,9]] [] [.lst L]=some (.int (p+4+((([9,32]:ah).take x.r).length:Int)),[.lst L]):=
  Az hL (by rw[e2];exact Em (n+4) [32,9] (pre++lF x.d) _ _ 39 (p+4) (by decide) (Tz x.r) (by rw[JM _ hx.r];have:=hx.r;omega) (by rw[hp,aB,wu];rfl)) rfl rfl rfl
 have c3:(ev (n+10)).C "parse_literal_str" [.str T,.int (p+4+((([9,32]:ah).take x.r).length:Int))] [] [.lst L]=some (.tup [.int (p+4+((([9,32]:ah).take x.r).length:Int)+1+(x.s.length:Int)+1),.str x.s],[.lst L]):=
  Az hL (by rw[e3];exact HR n ((pre++lF x.d)++([9,32]:ah).take x.r) x.s _ _ (by rw[hp];simp only[aB,wu];omega) hx.s) rfl rfl rfl
 have c4:(ev (n+9)).C "skip_until" [.str T,.int (p+4+((([9,32]:ah).take x.r).length:Int)+1+(x.s.length:Int)+1),.str [10]] [("error_on",.cset []),("error_on_eof",.bool true)] [.lst (L++[.tup [.int p,.int (x.d:Int),.int (p+4+((([9,32]:ah).take x.r).length:Int)-(p+4)),.str x.s]])]=some (.int (p+4+((([9,32]:ah).take x.r).length:Int)+1+(x.s.length:Int)+1+((v9 x.b).length:Int)),[.lst (L++[.tup [.int p,.int (x.d:Int),.int (p+4+((([9,32]:ah).take x.r).length:Int)-(p+4)),.str x.s]])]):=
  Az (by rw[tD,hL];rfl) (by rw[e4];exact xS (n+2) (((pre++lF x.d)++([9,32]:ah).take x.r)++39::(x.s++[39])) (v9 x.b) post 10 _ [] (by rw[hp];simp only[aB,aE,bB,wu];omega) (Rx x.b) (by simp)) rfl rfl rfl
 clear e1 e2 e3 e4 hT;generalize hm:p+4+((([9,32]:ah).take x.r).length:Int)=m at c2 c3 c4|-;generalize he:m+1+(x.s.length:Int)+1=en at c3 c4|-;have ap:=fun v=>append_at [.lst L] 0 L v rfl hl;rcases DK with rfl|⟨a,b,c,d,e,rfl⟩
 ·exact⟨_,⟨_,_,_,_,_,rfl⟩,gO (gK (h:=iH (h:=by exact c1)))
   (gO (gK (h:=iH (h:=by exact c2)))
   (gO (gK (h:=iH (h:=by exact c3)))
   (gO (jX (by rfl) (iW (h:=by exact ap _)))
   (gO (gK (h:=iD (AQ (by rfl) (by rfl) (by rfl) (by rfl) (by rfl) (by rfl) (by rfl) (by exact c4)) (by rfl) (by rfl))) iX))))⟩
 ·exact⟨_,⟨_,_,_,_,_,rfl⟩,gO (gK (h:=iH (h:=by exact c1)))
   (gO (gK (h:=iH (h:=by exact c2)))
   (gO (gK (h:=iH (h:=by exact c3)))
   (gO (jX (by rfl) (iW (h:=by exact ap _)))
   (gO (gK (h:=iD (AQ (by rfl) (by rfl) (by rfl) (by rfl) (by rfl) (by rfl) (by rfl) (by exact c4)) (by rfl) (by rfl))) iX))))⟩
end
def sR(a b:List Rw):textOf (a++b)=textOf a++textOf b:=by unfold textOf;rw[List.flatMap_append]
def k9(x:Rw)(b:List Rw):textOf (x::b)=tN x++textOf b:=by unfold textOf;rw[List.flatMap_cons]
def Cg(x:Rw):(tN x).length=4+(([9,32]:ah).take x.r).length+1+x.s.length+1+(v9 x.b).length+1:=by
 unfold tN pP;simp only[aB,aE,bB,wu];omega
def oG:∀(L:List Rw)(p:Nat),(iU p L).length=L.length
 |[],_=>rfl
 |x::L,p=>by simp[iU,oG L]
def zC(n:Nat):∀(Rs done:List Rw)(k:Nat)(tl:ie)(p:Int),(∀x∈Rs,x.ok)->(tl=[]\/∃a b c d e,tl=([("place",a),("sign",b),("mark",c),("end",d),("string",e)]:ie))->Rs.length<k->done.length+Rs.length<=1000->p=((textOf done).length:Int)->
  ∃p' Mm,(Mm=[]\/∃a b c d e,Mm=([("place",a),("sign",b),("mark",c),("end",d),("string",e)]:ie))/\jR ((ev (n+12)).T (ir "_law_read") (Ml "_law_read").1) (gT ((ev (n+12)).S (ir "_law_read")) (Ml "_law_read").2) k (RM (textOf done++textOf Rs) p tl) [.lst (iU 0 done)]=
   some (.next,RM (textOf done++textOf Rs) p' Mm,[.lst (iU 0 (done++Rs))])
 |[],done,k+1,tl,p,_,DK,_,_,hp=>by
  have hc:iN [.lst (iU 0 done)] .Lt (.int p) (.int ((textOf done++textOf []).length:Int))=some false:=Om _ _ _ (by rw[hp];simp[textOf]);refine⟨p,tl,DK,?_⟩;rw[cI];rcases DK with rfl|⟨a,b,c,d,e,rfl⟩
  all_goals exact wW (by exact i6 (h:=jg (by rfl) (by exact hc)))
 |x::Rs,done,k+1,tl,p,vO,DK,hk,BF,hp=>by
  have hx:=vO x (aU ..);have hc:iN [.lst (iU 0 done)] .Lt (.int p) (.int ((textOf done++textOf (x::Rs)).length:Int))=some true:=Ol _ _ _ (by
   rw[hp,k9,aB,aB,Cg];omega)
  obtain⟨YR,UW,turn⟩:=HH n (textOf done) (textOf Rs) x (iU 0 done) tl DK hx (rZ _ _ _) (by rw[oG];omega) p hp;have eT:textOf done++textOf (x::Rs)=textOf done++(tN x++textOf Rs):=by rw[k9]
  have eT2:textOf done++textOf (x::Rs)=textOf (done++[x])++textOf Rs:=by rw[sR,k9,k9];simp[textOf]
  have W6:iU 0 done++[.tup [.int p,.int (x.d:Int),.int (p+4+((([9,32]:ah).take x.r).length:Int)-(p+4)),.str x.s]]=iU 0 (done++[x]):=by
   rw[xU,bz];congr 1;unfold wN;rw[JM _ hx.r,<-hp];have:p+4+(x.r:Int)-(p+4)=(x.r:Int):=by omega
   rw[this]
  rw[W6]at turn;have GU:p+4+((([9,32]:ah).take x.r).length:Int)+1+(x.s.length:Int)+1+((v9 x.b).length:Int)+1=((textOf (done++[x])).length:Int):=by
   rw[sR,k9,aB,aB,Cg,hp];simp[textOf];omega
  obtain⟨p',Mm,XM,ih⟩:=zC n Rs (done++[x]) k YR _ (fun y hy=>vO y (ay _ hy)) (.inr UW) (by simpa using hk) (by simp at BF |-; omega) GU;refine⟨p',Mm,XM,?_⟩;rw[<-eT2,cE,f7]at ih;rw[<-eT]at turn;have test:(ev (n+12)).T (ir "_law_read") (Ml "_law_read").1 (RM (textOf done++textOf (x::Rs)) p tl) [.lst (iU 0 done)]=some (true,[.lst (iU 0 done)]):=by
   generalize textOf done++textOf (x::Rs)=T at hc|-;rcases DK with rfl|⟨a,b,c,d,e,rfl⟩
   all_goals exact i6 (h:=jg (by rfl) (by exact hc))
  exact BV test turn (.inl rfl) ih
def vJ(st:St):∀(L:List Rw)(p:Nat),kj (ia st 0 5) (iU p L)=some (iU p L)
 |[],_=>rfl
 |x::L,p=>by
  have h:ia st 0 5 (wN p x)=some (wN p x):=rfl;simp only[iU,kj,h,ao,vJ st L,au]
def xw(n:Nat)(Rs:List Rw)(vO:∀x∈Rs,x.ok)(hl:Rs.length<40):(ev (n+14)).C "_law_read" [.str (textOf Rs)] [] []=some (.list (iU 0 Rs),[]):=by
 obtain⟨p',Mm,XM,loop⟩:=zC n Rs [] 40 [] 0 vO (.inl rfl) hl (by simp;omega) (by simp[textOf]);have e:textOf []++textOf Rs=textOf Rs:=by simp[textOf]
 rw[e,aS]at loop;generalize textOf Rs=T at loop|-;have fin:finish 0 [.lst (iU 0 Rs)] (.lst 0)=some (.list (iU 0 Rs),[]):=by
  show((kj (ia [.lst (iU 0 Rs)] 0 5) (iU 0 Rs)).map PV.list).map (fun v=>(v,([]:St)))=_;rw[vJ];rfl
 have DS:iY "rows" (RM T p' Mm)=some (.lst 0):=rfl;exact jV (k:=gO (gK (h:=by rfl)) (gO (gK (h:=by rfl)) (gO (rO (by exact loop)) (ku (uI (by rfl) (by exact DS)))))) (h:=by exact fin)
abbrev nm(c:Nat):ah:=qh.take c
def wc(w:ah):Prop:=w.length<=6/\∀c∈w,1<=c/\c<=6
def jA(w:ah):ah:=iV [47] (w.map nm)
def P(w:ah):ah:=47::jA w
def j9(c:Nat)(h:1<=c/\c<=6):47∉nm c/\nm c≠[]/\nm c≠[46]/\nm c≠[46,46]/\(nm c).length<=6/\(nm c).getLast?≠some 47/\39∉nm c/\(nm c).all (fun c=> !wQ.contains c)=true:=by
 have e:c=1\/c=2\/c=3\/c=4\/c=5\/c=6:=by omega
 rcases e with rfl|rfl|rfl|rfl|rfl|rfl<;>exact⟨by decide,by decide,by decide,by decide,by decide,by decide,by decide,by decide+kernel⟩
def JX(c d:Nat)(hc:1<=c/\c<=6)(hd:1<=d/\d<=6)(h:nm c=nm d):c=d:=by
 have:∀c,c<7->∀d,d<7->nm c=nm d->1<=c->1<=d->c=d:=by decide+kernel
 exact this c (by omega) d (by omega) h hc.1 hd.1
def x8(sep:ah):∀(l:List (ah))(x:ah),l≠[]->iV sep (l++[x])=iV sep l++sep++x
 |[],_,h=>absurd rfl h
 |[a],x,_=>by simp[iV]
 |a::b::l,x,_=>by
  have ih:=x8 sep (b::l) x (by simp);show a++sep++iV sep (b::l++[x])=a++sep++iV sep (b::l)++sep++x;rw[ih];simp only[cE]
def Kl(u:ah)(c:Nat)(h:u≠[]):P (u++[c])=P u++47::nm c:=by
 unfold P jA;rw[bR,fh,x8 _ _ _ (by simpa using h)];simp
def Fx(c:Nat):P [c]=47::nm c:=rfl
def AG(c:Nat)(w:ah)(h:w≠[]):P (c::w)=47::(nm c++P w):=by
 unfold P jA;cases w with
 |nil=>exact absurd rfl h
 |cons d w=>simp[iV]
def Kn:∀w:ah,w≠[]->P w=S w
 |[],h=>absurd rfl h
 |[c],_=>by rw[Fx,Kg,Pg];simp
 |c::d::w,_=>by rw[AG c (d::w) (by simp),Kg,Kn (d::w) (by simp)]
def zf:∀w:ah,(∀c∈w,1<=c/\c<=6)->(P w).length<=1+7*w.length
 |[],_=>by simp[P,jA,iV]
 |[c],h=>by have:=(j9 c (h c (aU ..))).2.2.2.2.1;rw[Fx];simp only[aE,bB];omega
 |c::d::w,h=>by
  have h1:=(j9 c (h c (aU ..))).2.2.2.2.1;have ih:=zf (d::w) fun x hx=>h x (ay _ hx);rw[AG c (d::w) (by simp)];simp only[aE,aB]at ih|-;omega
def GI:∀w:ah,w≠[]->(∀c∈w,1<=c/\c<=6)->(P w).count 47=w.length
 |[],h,_=>absurd rfl h
 |[c],_,h=>by
  have h1:=(j9 c (h c (aU ..))).1;rw[Fx,List.count_cons_self,List.count_eq_zero_of_not_mem h1];rfl
 |c::d::w,_,h=>by
  have h1:=(j9 c (h c (aU ..))).1;rw[AG c (d::w) (by simp),List.count_cons_self,List.count_append,List.count_eq_zero_of_not_mem h1,GI (d::w) (by simp) fun x hx=>h x (ay _ hx)];simp
def RH(w:ah)(h:∀c∈w,1<=c/\c<=6):(P w==[47])=w.isEmpty:=by
 cases w with
 |nil=>rfl
 |cons c w=>
  have h1:=(j9 c (h c (aU ..))).2.1;rw[aO.mpr]
  ·rfl
  ·intro e;cases w with
   |nil=>rw[Fx]at e;exact h1 (gE e).2
   |cons d w=>rw[AG c (d::w) (by simp)]at e;exact h1 (List.append_eq_nil_iff.mp (gE e).2).1
def XF(n:Nat)(s:ah):(ev (n+6)).C "fspath" [.str s] [] []=some (.str s,[]):=by rfl
def Vj(n:Nat)(s:ah):(ev (n+5)).C "_get_sep" [.str s] [] []=some (.str [47],[]):=by rfl
def AA(n:Nat)(w:ah)(h:∀c∈w,1<=c/\c<=6):(ev (n+5)).C "_law_depth" [.str (P w)] [] []=some (.int (w.length:Int),[]):=by
 have hc:iN [] .Eq (.str (P w)) (.str [47])=some w.isEmpty:=by
  show some (P w==[47])=_;rw[RH w h]
 cases w with
 |nil=>rfl
 |cons c w=>
  have hm:methP [] (.str (P (c::w))) "count" [.str [47]]=some (.int ((P (c::w)).count 47:Int),[]):=rfl;rw[GI (c::w) (by simp) h]at hm;generalize P (c::w)=p at hc hm|-;exact jV (k:=ku (JU (i6 (h:=jg (by rfl) (by exact hc))) (iW (h:=by exact hm))))
def OD(c:Nat)(y rest:ah)(h:c∉y):(y++c::rest).findIdx? (· ==c)=some y.length:=nT c y rest h
def Ci(X Y:ah)(c:Nat)(h:c∉Y):qf (X++c::Y) c=(X.length:Int):=by
 unfold qf;have e:(X++c::Y).reverse=Y.reverse++c::X.reverse:=by simp
 rw[e,nT c Y.reverse X.reverse (by simpa using h)];simp only[cN,aB,aE];omega
def Er(X:ah)(c:Nat)(h:X.getLast?≠some c):qp c (X++[c])=X:=by
 unfold qp;rw[List.reverse_append];simp only[List.reverse_cons,List.reverse_nil,aS,eW];rw[List.dropWhile_cons_of_pos (by simp)];cases hr:X.reverse with
 |nil=>simp at hr;subst hr;rfl
 |cons a r=>
  have ha:X.getLast?=some a:=by rw[List.getLast?_eq_head?_reverse,hr];rfl
  have hn:(a==c)=false:=aO.mpr fun e=>h (by rw[ha,e]);rw[List.dropWhile_cons_of_neg (by simp[hn]),<-hr,gk]
def Km(u:ah)(hu:u≠[])(h:∀c∈u,1<=c/\c<=6):(P u).getLast?≠some 47:=by
 obtain⟨v,c,rfl⟩:∃v c,u=v++[c]:=⟨u.dropLast,u.getLast hu,(c9 hu).symm⟩;have hc:=j9 c (h c (by simp));have e:∃X,P (v++[c])=X++nm c:=by
  by_cases hv:v=[]
  ·subst hv;exact⟨[47],rfl⟩
  ·exact⟨P v++[47],by rw[Kl v c hv];simp⟩
 obtain⟨X,e⟩:=e;rw[e,List.getLast?_append];cases hl:(nm c).getLast? with
 |none=>rw[List.getLast?_eq_none_iff]at hl;exact absurd hl hc.2.1
 |some a=>
  intro q;exact hc.2.2.2.2.2.1 (by rw[hl];exact q)
def NG(st:St)(k:Nat)(h:k<=1000):jm st .Mult (.str [47]) (.int (k:Int))=some (.str (List.replicate k 47)):=by
 have e:∀i:Int,jm st .Mult (.str [47]) (.int i)=if 0<=i&&i<=1000&&([47]:ah).length<=1000 then some (.str (List.replicate i.toNat [47]).flatten)else none:=fun i=>rfl;rw[e,aQ]
 ·rw[bu];congr 2
  induction k with
  |zero=>rfl
  |succ k ih=>rw[gz,gc,ih (by omega),gz];rfl
 ·simp only[aA,aJ];refine⟨⟨by omega,by omega⟩,by decide⟩
def Od(n:Nat)(w:ah)(h:wc w):(ev (n+9)).C "dirname" [.str (P w)] [] []=some (.str (P w.dropLast),[]):=by
 by_cases hw:w=[]
 ·subst hw;rfl
 ·obtain⟨u,c,rfl⟩:∃u c,w=u++[c]:=⟨w.dropLast,w.getLast hw,(c9 hw).symm⟩;have hc:=j9 c (h.2 c (by simp));rw[gq];by_cases hu:u=[]
  ·subst hu;have hp:P ([]++[c])=[]++47::nm c:=rfl;have hr:qf (P ([]++[c])) 47=0:=by rw[hp,Ci [] (nm c) 47 hc.1];rfl
   have hm:methP [] (.str (P ([]++[c]))) "rfind" [.str [47]]=some (.int 0,[]):=by
    show some (PV.int (qf (P ([]++[c])) 47),([]:St))=_;rw[hr]
   have hs:jj [] (.str (P ([]++[c]))) none (some 1) none=some (.str [47]):=by
    have:=ri [] (P ([]++[c])) 1;rw[hp]at this|-;exact this
   generalize P ([]++[c])=p at hm hs|-;exact jV (k:=gO (gK (h:=by rfl)) (gO (gK (h:=by rfl))
    (gO (gK (h:=iD (iW (h:=by exact hm)) (by rfl) (by rfl)))
    (gO (gK (h:=jO (by rfl) ly (nh (by rfl)) ly (by exact hs))) (by rfl)))))
  ·have hp:P (u++[c])=P u++47::nm c:=Kl u c hu;have hr:qf (P (u++[c])) 47=((P u).length:Int):=by rw[hp,Ci (P u) (nm c) 47 hc.1]
   have hm:methP [] (.str (P (u++[c]))) "rfind" [.str [47]]=some (.int ((P u).length:Int),[]):=by
    show some (PV.int (qf (P (u++[c])) 47),([]:St))=_;rw[hr]
   have hs:jj [] (.str (P (u++[c]))) none (some (((P u).length:Int)+1)) none=some (.str (P u++[47])):=by
    have:=ri [] (P (u++[c])) ((P u).length+1);rw[hp]at this|-;rw[show((((P u).length+1:Nat):Nat):Int)=((P u).length:Int)+1 by omega]at this;rw[this];congr 2;rw[show P u++47::nm c=(P u++[47])++nm c by simp];have:(P u).length+1=(P u++[47]).length:=by simp
    rw[this,gp]
   have P_:∀x∈u,1<=x/\x<=6:=fun x hx=>h.2 x (bg _ hx);have iK:=zf u P_;have RO:u.length<=6:=by have:=h.1;simp at this;omega
   have Qd:=NG [] (P u++[47]).length (by simp;omega);have lq:(P u++[47]==List.replicate (P u++[47]).length 47)=false:=by
    rw[aO];intro e;obtain⟨x,hx,Py⟩:∃x∈P u,x≠47:=by
     have hl:=Km u hu P_;cases hq:(P u).getLast? with
     |none=>rw[List.getLast?_eq_none_iff]at hq;unfold P at hq;cases hq
     |some a=>exact⟨a,List.mem_of_getLast? hq,fun q=>hl (by rw[hq,q])⟩
    have:x∈List.replicate (P u++[47]).length 47:=by rw[<-e];exact bg _ hx
    exact Py (List.eq_of_mem_replicate this)
   have BN:iN [] .NotEq (.str (P u++[47])) (.str (List.replicate (P u++[47]).length 47))=some true:=by
    show(some (P u++[47]==List.replicate (P u++[47]).length 47)).map (!·)=_;rw[lq];rfl
   have OI:iT [] (.str (P u++[47]))=some true:=by
    show some (!(P u++[47]).isEmpty)=_;simp
   have kD:methP [] (.str (P u++[47])) "rstrip" [.str [47]]=some (.str (P u),[]):=by
    show some (PV.str (qp 47 (P u++[47])),([]:St))=_;rw[Er _ _ (Km u hu P_)]
   generalize P (u++[c])=p at hm hs|-;have BZ:iR [] "len" [.str (P u++[47])]=some (.int ((P u++[47]).length:Int)):=rfl;generalize (P u++[47]).length=k at Qd BN BZ;generalize List.replicate k 47=rr at Qd BN;generalize P u++[47]=hd at hs BN OI kD BZ;generalize P u=pu at kD hm hs|-;exact jV (k:=gO (gK (h:=by rfl)) (gO (gK (h:=by rfl))
    (gO (gK (h:=iD (iW (h:=by exact hm)) (by rfl) (by rfl)))
    (gO (gK (h:=jO (by rfl) ly (nh (by rfl)) ly (by exact hs)))
    (gO (oX (mF (mO (by rfl) (by rfl) (by exact OI)) (mF (i6 (h:=jg (iD (by rfl) (jw (h:=by exact BZ)) (by exact Qd)) (by exact BN))) OU))
     (gO (gK (h:=iW (h:=by exact kD))) iX)) (ku (by rfl)))))))
def up(w:ah)(r:Nat):ah:=w.take (w.length-r)
def M8(w:ah):up w 0=w:=by unfold up;rw[fq,d8]
def M9(w:ah)(r:Nat):(up w r).dropLast=up w (r+1):=by
 unfold up;rw[f9,bI,List.take_take];congr 1;omega
def wc.up{w:ah}(h:wc w)(r:Nat):wc (up w r):=by
 refine⟨?_,fun c hc=>h.2 c (cU hc)⟩;have:=h.1;unfold Mine.up;rw[bI];omega
def mq(f:Str)(i:Nat):Expr:=match fnOf f with
 |some (_,b,_)=>match b[i]? with
  |some (.For t _ _ _ _)=>t
  |_=>default
 |none=>default
def WD(n:Nat)(w:ah)(h:wc w)(r:Nat)(hr:r<=1000):(ev (n+13)).C "_law_top" [.str (P w),.int (r:Int)] [] []=some (.str (P (up w r)),[]):=by
 have loop:=m_ (B:=gT ((ev (n+11)).S (ir "_law_top")) (jP "_law_top" 1)) (sc:=ir "_law_top") (target:=mq "_law_top" 1) (fit:=iM (.rng 0 r) [])
  (fun j ρ st=>st=[]/\((ρ=([("path",.str (P w)),("reach",.int (r:Int)),("above",.str (P (up w j)))]:ie))\/∃k,ρ=([("path",.str (P w)),("reach",.int (r:Int)),("above",.str (P (up w j))),("step",k)]:ie)))
  (ng ((0:Nat):Int) (r:Int)) 0 ([("path",.str (P w)),("reach",.int (r:Int)),("above",.str (P (up w 0)))]:ie) [] ⟨rfl,.inl rfl⟩ (by
   intro i v ρ st hv hI;obtain⟨rfl,kC⟩:=hI;rw[bz]at kC|-;have hd:=Od n (up w i) (h.up i);rw[M9]at hd;generalize P (up w i)=p at hd kC;rcases kC with rfl|⟨k,rfl⟩
   ·exact⟨_,_,_,_,rfl,gO (gK (h:=iH (h:=by exact hd))) iX,.inl rfl,rfl,rfl,.inr ⟨_,rfl⟩⟩
   ·exact⟨_,_,_,_,rfl,gO (gK (h:=iH (h:=by exact hd))) iX,.inl rfl,rfl,rfl,.inr ⟨_,rfl⟩⟩)
 obtain⟨ji,gV,h1,rfl,h3⟩:=loop;rw[AO,bz,fq]at h3;rw[M8]at h1;have DS:iY "above" ji=some (.str (P (up w r))):=by
  rcases h3 with rfl|⟨k,rfl⟩<;>rfl
 have Zt:iR [] "range" [.int (r:Int)]=some (.rng 0 r):=by
  have e:∀i:Int,iR [] "range" [.int i]=if -100000<=i&&i<=100000 then some (.rng 0 i)else none:=fun i=>rfl;rw[e,aQ];simp only[aA,aJ];omega
 generalize P w=p at h1|-;exact jV (k:=gO (gK (h:=by rfl)) (gO (qU (by rfl) (jw (h:=by exact Zt)) (by rfl) (by exact h1)) (ku (uI (by rfl) (by unfold oZ;rw[DS])))))
def XD{f:Stmt->ie->St->Option (iE×ie×St)}{s:Stmt}{r:List Stmt}{ρ kJ:ie}{st st1:St}(h:f s ρ st=some (.cont,kJ,st1)):gT f (s::r) ρ st=some (.cont,kJ,st1):=by
 simp only[gT,h,ao]
def tS{f:Stmt->ie->St->Option (iE×ie×St)}{s:Stmt}{r:List Stmt}{ρ kJ:ie}{st st1:St}{fl:iE}(h:f s ρ st=some (fl,kJ,st1))(hf:fl≠ .next):gT f (s::r) ρ st=some (fl,kJ,st1):=by
 simp only[gT,h,ao]
def t_(n:Nat)(s:ah):(ev (n+11)).C "join" [.str [47],.str (47::s)] [] []=some (.str (47::s),[]):=by rfl
def Cs(n:Nat)(s:ah)(h:s.head?≠some 47)(hl:s.length<=1000):(ev (n+11)).C "join" [.str [47],.str s] [] []=some (.str (47::s),[]):=by
 have hm:∀st,methP st (.str s) "startswith" [.str [47]]=some (.bool false,st):=fun st=>by
  show some (PV.bool (s.head?==some 47),st)=_;rw[aO.mpr h]
 have uC:∀(sc:Scope)(ρ kJ:ie),kc sc "path" (.str ([47]++s)) ρ=some kJ->(if iP ([47]++s)=true then kc sc "path" (.str ([47]++s)) ρ else none)=some kJ:=by
  intro sc ρ kJ h1;rw[aQ,h1];unfold iP yE;exact aT (by simp;omega)
 exact jV (k:=gO (gK (h:=by rfl)) (gO (gK (h:=by rfl)) (gO (gK (h:=by rfl))
  (gO (BW (gO (qU (by rfl) (by rfl) (by rfl) (nI (by rfl) (gO (gK (h:=by rfl))
   (gO (lN (nE (mO (by rfl) (iW (h:=by exact hm _)) (by rfl)) (by rfl)) (gO (oX (by rfl) (gO (Fg (by rfl) (by rfl) (by exact uC _ _ _ rfl)) iX)) iX)) iX)) (.inl rfl) (by rfl) Aw)) iX)) (ku (by rfl))))))
def Hz(n:Nat)(rest:ah)(h:rest.take 1≠[47]\/(rest.drop 1).take 1=[47]):(ev (n+9)).C "splitroot" [.str (47::rest)] [] []=some (.tup [.str [],.str [47],.str rest],[]):=by
 have Yv:jj [] (.str (47::rest)) none (some 1) none=some (.str [47]):=ri [] (47::rest) 1;have y9:jj [] (.str (47::rest)) (some 1) (some 2) none=some (.str (rest.take 1)):=by
  cases rest with
  |nil=>rfl
  |cons a r=>exact AL [] [47] [a] r 1 2 rfl rfl
 have Yu:jj [] (.str (47::rest)) (some 2) (some 3) none=some (.str ((rest.drop 1).take 1)):=by
  cases rest with
  |nil=>rfl
  |cons a r=>
   cases r with
   |nil=>rfl
   |cons b r=>exact AL [] [47,a] [b] r 2 3 rfl rfl
 have h1:jj [] (.str (47::rest)) (some 1) none none=some (.str rest):=qu [] (47::rest) 1;have tail:∀(c:Bool),iN [] .NotEq (.str (rest.take 1)) (.str [47])=some c->(c=true\/(rest.drop 1).take 1=[47])->(ev (n+9)).C "splitroot" [.str (47::rest)] [] []=some (.tup [.str [],.str [47],.str rest],[]):=by
  intro c hc Mn;cases c with
  |true=>
   generalize rest.take 1=u at y9 hc;exact jV (k:=gO (gK (h:=by rfl)) (gO (lN (by rfl) (by rfl))
    (tS (lN (i6 (c:=jO (by rfl) ly (nh (by rfl)) ly (by exact Yv)) (h:=by rfl)) (tS (oX (tV (i6 (c:=jO (by rfl) (nh (by rfl)) (nh (by rfl)) ly (by exact y9)) (h:=jg (by rfl) (by exact hc))))
     (ku (o8 (gX (by rfl) (by rfl) (gX (by rfl) (by rfl) (gX (by rfl) (jO (by rfl) (nh (by rfl)) ly ly (by exact h1)) iZ))) (by rfl)))) (by intro q;cases q))) (by intro q;cases q))))
  |false=>
   have Xs:(rest.drop 1).take 1=[47]:=by rcases Mn with q|q;cases q;exact q
   rw[Xs]at Yu;generalize rest.take 1=u at y9 hc;exact jV (k:=gO (gK (h:=by rfl)) (gO (lN (by rfl) (by rfl))
    (tS (lN (i6 (c:=jO (by rfl) ly (nh (by rfl)) ly (by exact Yv)) (h:=by rfl)) (tS (oX (nE (i6 (c:=jO (by rfl) (nh (by rfl)) (nh (by rfl)) ly (by exact y9)) (h:=jg (by rfl) (by exact hc))) (tV (i6 (c:=jO (by rfl) (nh (by rfl)) (nh (by rfl)) ly (by exact Yu)) (h:=by rfl))))
     (ku (o8 (gX (by rfl) (by rfl) (gX (by rfl) (by rfl) (gX (by rfl) (jO (by rfl) (nh (by rfl)) ly ly (by exact h1)) iZ))) (by rfl)))) (by intro q;cases q))) (by intro q;cases q))))
 by_cases hc:rest.take 1=[47]
 ·refine tail false ?_ (.inr (h.resolve_left fun q=>q hc));show(some (rest.take 1==[47])).map (!·)=_;rw[hc];rfl
 ·refine tail true ?_ (.inl rfl);show(some (rest.take 1==[47])).map (!·)=_;rw[aO.mpr hc];rfl
def oY(acc:List (ah))(c:ah):List (ah):=if c=[]\/c=[46]then acc else if c=[46,46]then acc.dropLast else acc++[c]
def kH(l:List (ah)):List (ah):=l.foldl oY []
def SX(p:ah)(cs:List (ah)):ie:=[("path",.str p),("sep",.str [47]),("dot",.str [46]),("dotdot",.str [46,46]),("_",.str []),("initial_slashes",.str [47]),("comps",.list (cs.map .str)),("new_comps",.lst 0)]
def PU(p:ah)(cs:List (ah))(c:PV):ie:=[("path",.str p),("sep",.str [47]),("dot",.str [46]),("dotdot",.str [46,46]),("_",.str []),("initial_slashes",.str [47]),("comps",.list (cs.map .str)),("new_comps",.lst 0),("comp",c)]
def HZ(n:Nat)(p:ah)(cs acc:List (ah))(c:ah)(ha:[46,46]∉acc)(hl:acc.length<=1000):
  ∃fl,gT ((ev (n+10)).S (ir "normpath")) (jP "normpath" 6) (PU p cs (.str c)) [.lst (acc.map .str)]=some (fl,PU p cs (.str c),[.lst ((oY acc c).map .str)])/\(fl= .next\/fl= .cont):=by
 by_cases h1:c=[]
 ·subst h1;exact⟨.cont,rfl,.inr rfl⟩
 by_cases h2:c=[46]
 ·subst h2;exact⟨.cont,rfl,.inr rfl⟩
 by_cases h3:c=[46,46]
 ·subst h3;have e:oY acc [46,46]=acc.dropLast:=rfl;rw[e];by_cases hn:acc=[]
  ·subst hn;exact⟨.next,rfl,.inl rfl⟩
  ·obtain⟨u,b,rfl⟩:∃u b,acc=u++[b]:=⟨acc.dropLast,acc.getLast hn,(c9 hn).symm⟩;rw[gq];have hb:b≠[46,46]:=fun e=>ha (by rw[e];simp);have e2:(u++[b]).map PV.str=u.map PV.str++[PV.str b]:=by simp
   rw[e2];have ht:iT [.lst (u.map PV.str++[PV.str b])] (.lst 0)=some true:=by
    show some (!(u.map PV.str++[PV.str b]).isEmpty)=_;simp
   have hg:gZ [.lst (u.map PV.str++[PV.str b])] (.lst 0) (.int (-1))=some (.str b):=by
    show idx (u.map PV.str++[PV.str b]) (-1)=_;unfold idx;rw[aD (by decide),aQ (by simp;omega),bO (by simp;omega)];have:(-1+((u.map PV.str++[PV.str b]).length:Int)).toNat-(u.map PV.str).length=0:=by simp;omega
    rw[this];rfl
   have hc:iN [.lst (u.map PV.str++[PV.str b])] .Eq (.str b) (.str [46,46])=some false:=by
    show some (b==[46,46])=_;rw[aO.mpr hb]
   have hp:methP [.lst (u.map PV.str++[PV.str b])] (.lst 0) "pop" []=some (.str b,[.lst (u.map .str)]):=by
    show(match(u.map PV.str++[PV.str b]).getLast? with
     |some v=>some (v,([.lst (u.map PV.str++[PV.str b]).dropLast]:St))
     |none=>none)=_
    rw[List.getLast?_concat,gq]
   generalize u.map PV.str++[PV.str b]=L at ht hg hc hp|-;exact⟨.next,gO (lN (by rfl) (by rfl)) (gO (lN (nE (by rfl) (nE (by rfl) (nE (mF (mO (by rfl) (by rfl) (by exact ht)) (q_ (i6 (c:=iC (h:=by exact hg)) (h:=jg (by rfl) (by exact hc))))) (by rfl)))) (gO (oX (mO (by rfl) (by rfl) (by exact ht)) (gO (Nq (by rfl) (iW (h:=by exact hp))) iX)) iX)) iX),.inl rfl⟩
 ·have e:oY acc c=acc++[c]:=by unfold oY;rw[aD (by rintro(q|q);exact h1 q;exact h2 q),aD h3]
  rw[e,bR,fh];have ht:iT [.lst (acc.map .str)] (.str c)=some true:=by
   show some (!c.isEmpty)=_;cases c with
   |nil=>exact absurd rfl h1
   |cons a c=>rfl
  have BI:iN [.lst (acc.map .str)] .Eq (.str c) (.str [46])=some false:=by
   show some (c==[46])=_;rw[aO.mpr h2]
  have Ms:iN [.lst (acc.map .str)] .NotEq (.str c) (.str [46,46])=some true:=by
   show(some (c==[46,46])).map (!·)=_;rw[aO.mpr h3];rfl
  have ha:=append_at [.lst (acc.map .str)] 0 (acc.map .str) (.str c) rfl (by simpa using hl);exact⟨.next,gO (lN (nE (wV (mO (by rfl) (by rfl) (by exact ht))) (nE (i6 (h:=jg (by rfl) (by exact BI))) (by rfl))) (by rfl)) (gO (oX (tV (i6 (h:=jg (by rfl) (by exact Ms)))) (gO (jX (by rfl) (iW (h:=by exact ha))) iX)) iX),.inl rfl⟩
def HX{acc:List (ah)}{c x:ah}(h:x∈oY acc c):x∈acc\/(x=c/\c≠[46,46]):=by
 unfold oY at h;split at h
 ·exact .inl h
 ·split at h
  ·exact .inl (cU (by rwa [f9]at h))
  ·rename_i h1 h2;rcases bl.mp h with h|h
   ·exact .inl h
   ·rw[aK]at h;exact .inr ⟨h,h2⟩
def HY(acc:List (ah))(c:ah):(oY acc c).length<=acc.length+1:=by
 unfold oY;split
 ·omega
 ·split
  ·rw[List.length_dropLast];omega
  ·simp
def xZ(l:List (ah))(c:ah):kH (l++[c])=oY (kH l) c:=by unfold kH;rw[eE];rfl
def sW:∀(k:Nat)(l:List (ah)),l.length=k->[46,46]∉kH l/\(kH l).length<=k
 |0,l,h=>by
  have:l=[]:=cQ.mp h;subst this;exact⟨by simp[kH],by simp[kH]⟩
 |k+1,l,h=>by
  have hn:l≠[]:=by intro e;subst e;cases h
  obtain⟨u,b,rfl⟩:∃u b,l=u++[b]:=⟨l.dropLast,l.getLast hn,(c9 hn).symm⟩;have ih:=sW k u (by simpa using h);rw[xZ];refine⟨fun q=> ?_,?_⟩
  ·rcases HX q with q|q
   ·exact ih.1 q
   ·exact q.2 q.1.symm
  ·have:=HY (kH u) b;omega
def qq(l:List (ah)):jI (l.map .str)=some l:=by
 induction l with
 |nil=>rfl
 |cons a l ih=>simp only[aL,jI,ih,au]
def Ii{st:St}{k:Nat}{l:List (ah)}(h:st[k]? =some (.lst (l.map .str)))(h1:(iV [47] l).length<=1000)(h2:l.length<=1000):methP st (.str [47]) "join" [.lst k]=some (.str (iV [47] l),st):=by
 have e:((("join":Str)==("join":Str))&& !o4 (PV.lst k))=true:=by
  have:(("join":Str)==("join":Str))=true:=by decide+kernel
  rw[this];rfl
 show(if((("join":Str)==("join":Str))&& !o4 (PV.lst k))=true then match gM st (.lst k)with
   |some l=>match jI l with
    |some ps=>if iP (iV [47] ps)&&ps.length<=1000&&([47]:ah).length<=10 then some (PV.str (iV [47] ps),st)else none
    |none=>none
   |none=>none
  else none)=_
 rw[aQ e];have:gM st (.lst k)=some (l.map .str):=by
  show(match st[k]? with|some (.lst l)=>some l|_=>none)=_;rw[h]
 rw[this];show(match jI (l.map .str)with
    |some ps=>if iP (iV [47] ps)&&ps.length<=1000&&([47]:ah).length<=10 then some (PV.str (iV [47] ps),st)else none
    |none=>none)=_
 rw[qq];show(if iP (iV [47] l)&&decide (l.length<=1000)&&true then some (PV.str (iV [47] l),st)else none)=_;rw[aQ];simp only[gG,aA,aJ];exact⟨by unfold iP yE;exact aT (by omega),h2⟩
def ru(c:Nat):∀l:ah,(jb c l).length<=l.length+1
 |[]=>by simp[jb]
 |x::r=>by
  have ih:=ru c r;rw[jb];split
  ·simp only[aE];omega
  ·cases h:jb c r with
   |nil=>simp only[aE,bB];omega
   |cons p ps=>rw[h]at ih;simp only[aE]at ih |-; omega
def T4(n:Nat)(rest:ah)(h:rest.take 1≠[47]\/(rest.drop 1).take 1=[47])(hl:rest.length<=500)(hj:(iV [47] (kH (jb 47 rest))).length<=900):(ev (n+12)).C "normpath" [.str (47::rest)] [] []=some (.str (47::iV [47] (kH (jb 47 rest))),[]):=by
 have BH:=ru 47 rest;have I9:=Hz n rest h;have hm:methP [] (.str rest) "split" [.str [47]]=some (.list ((jb 47 rest).map .str),[]):=by
  have e:methP [] (.str rest) "split" [.str [47]]=if 256<=47|| !iP rest then none else some (.list ((jb 47 rest).map .str),[]):=rfl;rw[e,aD];simp only[cH,aJ,cC];rintro(q|q)
  ·exact absurd q (by decide)
  ·unfold iP yE at q;rw[ez]at q;omega
 have iK:(jb 47 rest).length<=1000:=by omega
 generalize jb 47 rest=cs at hj hm iK|-;have loop:=m_ (B:=gT ((ev (n+10)).S (ir "normpath")) (jP "normpath" 6)) (sc:=ir "normpath") (target:=mq "normpath" 6) (fit:=iM (.list (cs.map .str)) [.lst []])
  (fun j ρ st=>st=[.lst ((kH (cs.take j)).map .str)]/\(ρ=SX rest cs\/∃k,ρ=PU rest cs k))
  (cs.map .str) 0 (SX rest cs) [.lst []] ⟨rfl,.inl rfl⟩ (by
   intro i v ρ st hv hI;obtain⟨rfl,kC⟩:=hI;rw[bz];rw[br]at hv;obtain⟨c,hc,rfl⟩:=aq.mp hv;obtain⟨jQ,rfl⟩:=aF.mp hc;have hf:=sW (cs.take i).length (cs.take i) rfl;have RW:(kH (cs.take i)).length<=1000:=by have:=hf.2;rw[bI]at this;omega
   obtain⟨fl,ht,Te⟩:=HZ n rest cs (kH (cs.take i)) cs[i] hf.1 RW;have e:kH (cs.take (i+1))=oY (kH (cs.take i)) cs[i]:=by rw[bV jQ,xZ]
   rw[bz,e];rcases kC with rfl|⟨k,rfl⟩
   ·exact⟨_,fl,_,_,rfl,ht,Te,rfl,rfl,.inr ⟨_,rfl⟩⟩
   ·exact⟨_,fl,_,_,rfl,ht,Te,rfl,rfl,.inr ⟨_,rfl⟩⟩)
 obtain⟨ji,gV,h1,rfl,h3⟩:=loop;rw[bz,aH,d8]at h1;have hf:=sW cs.length cs rfl;have VM:=Ii (st:=[.lst ((kH cs).map .str)]) (k:=0) rfl (by omega) (by omega);have My:iP ([47]++iV [47] (kH cs))=true:=by
  unfold iP yE;exact aT (by simp;omega)
 have uC:=nH [.lst ((kH cs).map .str)] (x:=[47]) (y:=iV [47] (kH cs)) (by decide) (by omega);have Wq:47::iV [47] (kH cs)=[47]++iV [47] (kH cs):=rfl;rw[Wq];generalize iV [47] (kH cs)=J at VM uC|-;generalize (kH cs).map PV.str=L at h1 VM uC;rcases h3 with rfl|⟨k,rfl⟩<;>exact jV (k:=gO (gK (h:=by rfl)) (gO (by rfl) (gO (by rfl)
  (gO (gK (h:=iH (h:=by exact I9)))
  (gO (gK (h:=iW (h:=by exact hm)))
  (gO (gK (h:=by rfl))
  (gO (qU (by rfl) (by rfl) (by rfl) (by exact h1))
  (gO (gK (h:=by rfl))
  (gO (gK (h:=iD (by rfl) (iW (h:=by exact VM)) (by exact uC)))
  (ku (by rfl)))))))))))
def zx(c:Nat):∀x:ah,c∉x->jb c x=[x]
 |[],_=>rfl
 |a::x,h=>by
  rw[jb,aD (by simp only[aR];intro e;exact h (by rw[e];simp)),zx c x fun q=>h (ay _ q)]
def xP(c:Nat)(r:ah):∀x:ah,c∉x->jb c (x++c::r)=x::jb c r
 |[],_=>by rw[aS,jb,aQ (by simp)]
 |a::x,h=>by
  rw[eW,jb,aD (by simp only[aR];intro e;exact h (by rw[e];simp)),xP c r x fun q=>h (ay _ q)]
def sS:∀l:List (ah),l≠[]->(∀x∈l,47∉x)->jb 47 (iV [47] l)=l
 |[],h,_=>absurd rfl h
 |[a],_,h=>zx 47 a (h a (by simp))
 |a::b::l,_,h=>by
  have ih:=sS (b::l) (by simp) fun x hx=>h x (ay _ hx);show jb 47 (a++[47]++iV [47] (b::l))=_;rw[cE,f7,xP 47 _ a (h a (by simp)),ih]
def vB:∀(w:ah)(acc:List (ah)),(∀c∈w,1<=c/\c<=6)->(w.map nm).foldl oY acc=acc++w.map nm
 |[],acc,_=>by simp
 |c::w,acc,h=>by
  have hc:=j9 c (h c (by simp));have e:oY acc (nm c)=acc++[nm c]:=by unfold oY;rw[aD (by rintro(q|q);exact hc.2.1 q;exact hc.2.2.1 q),aD hc.2.2.2.1]
  rw[aL,c8,e,vB w _ fun x hx=>h x (ay _ hx)];simp
def Ey(w:ah)(h:∀c∈w,1<=c/\c<=6):kH (jb 47 (jA w))=w.map nm:=by
 cases w with
 |nil=>rfl
 |cons c w=>
  unfold jA;rw[sS _ (by simp) (by
   intro x hx;obtain⟨d,hd,rfl⟩:=b_.mp hx;exact(j9 d (h d hd)).1)]
  unfold kH;rw[vB _ _ h,aS]
def Hs(w:ah)(h:∀c∈w,1<=c/\c<=6):(jA w).head?≠some 47:=by
 cases w with
 |nil=>simp[jA,iV]
 |cons c w=>
  have hc:=j9 c (h c (by simp));have e:∃r,jA (c::w)=nm c++r:=by
   cases w with
   |nil=>exact⟨[],by simp[jA,iV]⟩
   |cons d w=>exact⟨[47]++jA (d::w),by simp[jA,iV]⟩
  obtain⟨r,e⟩:=e;rw[e];cases hn:nm c with
  |nil=>exact absurd hn hc.2.1
  |cons a s=>
   intro q;simp only[eW,List.head?_cons,aW]at q;exact hc.1 (by rw[hn,q];simp)
def w_(w:ah)(h:wc w):(jA w).length<=42:=by
 have:=zf w h.2;have h1:=h.1;unfold P at this;simp only[aE]at this;omega
def DY(n:Nat)(w:ah)(hw:wc w)(j:Nat)(hj:j<6):∃J,(ev (n+11)).C "join" [.str [47],.str (v_ j++jA w)] [] []=some (.str J,[])/\∀m,(ev (m+12)).C "normpath" [.str J] [] []=some (.str (P w),[]):=by
 have hh:=Hs w hw.2;have hl:=w_ w hw;have hn:=Ey w hw.2;have UW:(jA w).take 1≠[47]:=by
  intro e;cases hq:jA w with
  |nil=>rw[hq]at e;cases e
  |cons a r=>rw[hq]at e hh;simp at e hh;exact hh e
 have fin:∀rest,(rest.take 1≠[47]\/(rest.drop 1).take 1=[47])->rest.length<=500->kH (jb 47 rest)=w.map nm->∀m,(ev (m+12)).C "normpath" [.str (47::rest)] [] []=some (.str (P w),[]):=by
  intro rest h1 h2 h3 m;have:=T4 m rest h1 h2 (by rw[h3];show(jA w).length<=900;omega);rw[h3]at this;exact this
 have e:j=0\/j=1\/j=2\/j=3\/j=4\/j=5:=by omega
 rcases e with rfl|rfl|rfl|rfl|rfl|rfl
 ·exact⟨47::jA w,t_ n (jA w),fin _ (.inl UW) (by omega) hn⟩
 ·exact⟨47::jA w,Cs n (jA w) hh (by omega),fin _ (.inl UW) (by omega) hn⟩
 ·exact⟨47::(46::47::jA w),t_ n _,fin _ (.inl (by simp)) (by simp;omega) hn⟩
 ·exact⟨47::(122::47::46::46::47::jA w),t_ n _,fin _ (.inl (by simp)) (by simp;omega) hn⟩
 ·exact⟨47::(47::47::jA w),t_ n _,fin _ (.inr (by simp)) (by simp;omega) hn⟩
 ·exact⟨47::(46::46::47::jA w),Cs n (46::46::47::jA w) (by simp) (by simp;omega),fin _ (.inl (by simp)) (by simp;omega) hn⟩
section
variable{n:Nat}{sc:Scope}{ρ kJ yy:ie}{st st1 jk j6 DE:St}{p q:Pos}{x y z v:PV}
def QU{g xs:Expr}{fn:Str}{k:Nat}{l vs:List PV}{p1 p2 p3 p4:Pos}(h1:iY "tuple" ρ=none)(h2:iw sc "tuple"=some .globalImplicit)(h3:iY "map" ρ=none)(h4:iw sc "map"=some .globalImplicit)(h5:jx g=false)(h6:jx xs=false)
  (hg:(ev n).E sc g ρ st=some (.fn fn,st1)) (hx:(ev n).E sc xs ρ st1=some (.lst k,jk)) (hc:gM jk (.lst k)=some l) (hm:pM (fun a st=>(ev n).C fn a [] st) (putL jk.length) (iM (.lst k) jk) l (jk++[.lst []])=some j6) (hf:finish jk.length j6 (.lst jk.length)=some (.list vs,DE)):
  (ev (n+1)).E sc (.Call (.Name "tuple" p1) [.Call (.Name "map" p2) [g,xs] [] p3] [] p4) ρ st=some (.tup vs,DE):=by
 have e1:(("tuple":Str)==("tuple":Str))=true:=by decide+kernel
 have e2:(("map":Str)==("map":Str))=true:=by decide+kernel
 have e3:((some NameKind.globalImplicit:Option NameKind)==some .globalImplicit)=true:=rfl;simp only[oh,iI,h1,h2,e1,e2,h3,h4,h5,h6,e3,Option.isNone_none,Bool.and_self,Bool.not_false,gG,bY,hg,hx,hc,ao];rw[hm,ao];rw[hf,ao]
def T5{c:List PV->St->Option (PV×St)}{put:PV->St->Option St}{fit:St->Bool}:pM c put fit [] st=some st:=rfl
def S3{c:List PV->St->Option (PV×St)}{put:PV->St->Option St}{fit:St->Bool}{r:List PV}(h1:c [v] st=some (x,st1))(h2:put x st1=some jk)(h3:fit jk=true)(h4:pM c put fit r jk=some j6):pM c put fit (v::r) st=some j6:=by
 simp only[pM,h1,h2,h3,ao,bY];exact h4
def QV{elt target iter:Expr}{iS:Scope}{l:List PV}{b:Bool}(hc:(!r7 iS||jT iter|| !lK sc iS)=false)(h:(ev n).E sc iter ρ st=some (x,st1))(hl:gM st1 x=some l)
  (k:jl (ev n) iS (tO st1.length) elt target [] (iM x st1) l (freeOf iS ρ) (st1++[.bs none])=some jk) (hb:jk[st1.length]? =some (.bs (some b))) (hf:(decide (st1.length<=jk.length)&&(jk.take st1.length).all (iu st1.length))=true):(ev (n+1)).E sc (.SetComp elt [⟨target,iter,[],0⟩] iS p) ρ st=some (.bset b,jk.take st1.length):=by
 simp only[oh,iI];rw[hc];simp only[az,a_,h,hl,k,hb,hf,bY,ao]
def Q0{target a:Expr}{body:List Stmt}{l:List PV}{R:iE×ie×St}(h0:iY "enumerate" ρ=none)(h1:iw sc "enumerate"=some .globalImplicit)(hs:(jx a|| !isTuple target)=false)(h:(ev n).E sc a ρ st=some (.list l,st1))
  (k:j_ (gT ((ev n).S sc) body) sc target (fun _=>true) ((List.zipWith (fun(i:Nat) v=>PV.tup [.int (i:Int),v]) (List.range l.length) l)) ρ st1=some R):
  (ev (n+1)).S sc (.For target (.Call (.Name "enumerate" q) [a] [] p) body [] p1) ρ st=some R:=by
 have e1:(("enumerate":Str)==("reversed":Str))=false:=by decide+kernel
 have e2:(("enumerate":Str)==("enumerate":Str))=true:=by decide+kernel
 simp only[wK,kG,h0,h1,e1,e2,hs,az,a_,h,ao];exact k
end
def Gw{B:ie->St->Option (iE×ie×St)}{sc:Scope}{target:Expr}{fit:St->Bool}(I:Nat->ie->St->Prop)(Q:ie->St->Prop):∀(l:List PV)(j:Nat)(ρ:ie)(st:St),I j ρ st->
  (∀i v ρ st,l[i]? =some v->I (j+i) ρ st->∃kJ fl yy jk,i8 sc st target v ρ=some kJ/\B kJ st=some (fl,yy,jk)/\(((fl= .next\/fl= .cont)/\fit jk=true/\I (j+(i+1)) yy jk)\/(fl= .brk/\Q yy jk)))->
  (∀ρ st,I (j+l.length) ρ st->Q ρ st)->
  ∃ji gV,j_ B sc target fit l ρ st=some (.next,ji,gV)/\Q ji gV
 |[],j,ρ,st,h,_,hQ=>⟨ρ,st,rfl,hQ ρ st h⟩
 |v::l,j,ρ,st,h,step,hQ=>by
  obtain⟨kJ,fl,yy,jk,h1,h2,h3⟩:=step 0 v ρ st rfl h;rcases h3 with⟨h3,h4,h5⟩|⟨rfl,h5⟩
  ·obtain⟨ji,gV,h6,h7⟩:=Gw I Q l (j+1) yy jk (by simpa using h5) (fun i v ρ st hv hI=>by
    have e:j+(i+1)=j+1+i:=by omega
    have:=step (i+1) v ρ st hv (by rw[e];exact hI);rw[show j+(i+1+1)=j+1+(i+1) by omega]at this;exact this) (fun ρ st hI=>hQ ρ st (by rw[aE,show j+(l.length+1)=j+1+l.length by omega];exact hI))
   exact⟨ji,gV,nI h1 h2 h3 h4 h6,h7⟩
  ·exact⟨yy,jk,Q3 h1 h2,h5⟩
def lcp{α:Type}[DecidableEq α]:List α->List α->List α
 |a::u,b::v=>if a=b then a::lcp u v else[]
 |_,_=>[]
def Co{α:Type}[DecidableEq α]:∀u:List α,lcp u u=u
 |[]=>rfl
 |a::u=>by rw[lcp,aQ rfl,Co u]
def kY{α:Type}[DecidableEq α]:∀u v:List α,lcp u v=lcp v u
 |[],[]=>rfl
 |[],_::_=>rfl
 |_::_,[]=>rfl
 |a::u,b::v=>by
  rw[lcp,lcp];by_cases h:a=b
  ·subst h;rw[aQ rfl,aQ rfl,kY u v]
  ·rw[aD h,aD fun e=>h e.symm]
def J2{α:Type}[DecidableEq α]:∀(u v:List α)(j:Nat)(a b:α),u.take j=v.take j->u[j]? =some a->v[j]? =some b->a≠b->lcp u v=u.take j
 |[],_,j,a,b,_,h,_,_=>by simp at h
 |_::_,[],j,a,b,_,_,h,_=>by simp at h
 |x::u,y::v,0,a,b,_,h1,h2,h3=>by
  simp only[cO,aW]at h1 h2;subst h1;subst h2;rw[lcp,aD h3];rfl
 |x::u,y::v,j+1,a,b,h,h1,h2,h3=>by
  simp only[dX,dZ,eu]at h h1 h2;obtain⟨rfl,h⟩:=h;rw[lcp,aQ rfl,J2 u v j a b h h1 h2 h3];rfl
def Gj{α:Type}[DecidableEq α]:∀(u v:List α),u.take u.length=v.take u.length->lcp u v=u
 |[],_,_=>by cases ‹List α› <;>rfl
 |x::u,[],h=>by simp at h
 |x::u,y::v,h=>by
  simp only[aE,dX,dZ]at h;obtain⟨rfl,h⟩:=h;rw[lcp,aQ rfl,Gj u v h]
def Gi{α β:Type}[DecidableEq α][DecidableEq β](f:α->β):∀u v:List α,(∀a∈u,∀b∈v,f a=f b->a=b)->lcp (u.map f) (v.map f)=(lcp u v).map f
 |[],[],_=>rfl
 |[],_::_,_=>rfl
 |_::_,[],_=>rfl
 |a::u,b::v,h=>by
  rw[aL,aL,lcp,lcp];by_cases e:a=b
  ·subst e;rw[aQ rfl,aQ rfl,aL,Gi f u v fun x hx y hy=>h x (ay _ hx) y (ay _ hy)]
  ·rw[aD e,aD fun q=>e (h a (by simp) b (by simp) q)];rfl
def xM:∀a b:ah,strLt a b=false->strLt b a=false->a=b
 |[],[],_,_=>rfl
 |[],_::_,h,_=>by cases h
 |_::_,[],_,h=>by cases h
 |a::u,b::v,h1,h2=>by
  rw[strLt]at h1 h2;by_cases e:a=b
  ·subst e;simp only[bJ,bY]at h1 h2;rw[xM u v h1 h2]
  ·rw[aD (by simpa using e)]at h1;rw[aD (by simpa using fun q:b=a=>e q.symm)]at h2;have h1:=of_decide_eq_false h1;have h2:=of_decide_eq_false h2;omega
def tn:∀a b:List (ah),∃c,iz (a.map .str) (b.map .str)=some c
 |[],[]=>⟨_,rfl⟩
 |[],_::_=>⟨_,rfl⟩
 |_::_,[]=>⟨_,rfl⟩
 |a::u,b::v=>by
  rw[aL,aL,iz];show∃c,(match some (a==b)with|some true=>iz (u.map .str) (v.map .str)|some false=>mE (.str a) (.str b)|none=>none)=some c;cases a==b with
  |true=>exact tn u v
  |false=>exact⟨_,rfl⟩
def tu(a b:ah)(u v:List (ah)):iz ((a::u).map .str) ((b::v).map .str)=if a=b then iz (u.map .str) (v.map .str)else some (strLt a b):=by
 rw[aL,aL,iz];show(match some (a==b)with|some true=>iz (u.map .str) (v.map .str)|some false=>mE (.str a) (.str b)|none=>none)=_;by_cases e:a=b
 ·rw[aQ e,aR.mpr e]
 ·rw[aD e,aO.mpr e];rfl
def yd:∀a b:List (ah),iz (a.map .str) (b.map .str)=some false->iz (b.map .str) (a.map .str)=some false->a=b
 |[],[],_,_=>rfl
 |[],_::_,h,_=>by cases h
 |_::_,[],_,h=>by cases h
 |a::u,b::v,h1,h2=>by
  rw[tu]at h1 h2;by_cases e:a=b
  ·subst e;rw[aQ rfl]at h1 h2;rw[yd u v h1 h2]
  ·rw[aD e]at h1;rw[aD fun q=>e q.symm]at h2;exact absurd (xM a b (bX h1) (bX h2)) e
def xA:∀(a b:List (ah)),iz (b.map .str) (a.map .str)=some false->∀j,j<a.length->a.take j=b.take j->j<b.length
 |[],_,_,j,h,_=>by simp at h
 |_::_,[],h,_,_,_=>by cases h
 |a::u,b::v,h,0,_,_=>by simp
 |a::u,b::v,h,j+1,h1,h2=>by
  simp only[dX,dZ,aE]at h1 h2|-;obtain⟨rfl,h2⟩:=h2;rw[tu,aQ rfl]at h;have:=xA u v h j (by omega) h2;omega
def o7(f:Str)(i:Nat):List Stmt:=match fnOf f with
 |some (_,b,_)=>match b[i]? with
  |some (.Try body _ _ _ _)=>body
  |_=>[]
 |none=>[]
def Jm(l:List Stmt)(i:Nat):List Stmt:=match l[i]? with
 |some (.For _ _ body _ _)=>body
 |_=>[]
def MQ(l:List Stmt)(i:Nat):Expr:=match l[i]? with
 |some (.For t _ _ _ _)=>t
 |_=>default
def Jc(l:List Stmt)(i:Nat):Expr:=match l[i]? with
 |some (.Assign [_] e _)=>e
 |_=>default
def kE:Expr->Expr
 | .ListComp e _ _ _=>e
 |_=>default
def pN:Expr->Expr
 | .ListComp _ [⟨t,_,_,_⟩] _ _=>t
 |_=>default
def pO:Expr->List Expr
 | .ListComp _ [⟨_,_,ifs,_⟩] _ _=>ifs
 |_=>default
def nj:Expr->Scope
 | .ListComp _ _ sc _=>sc
 |_=>default
def oV(c:ah):Bool:=c !=[]&&c !=[46]
abbrev UQ:Expr:=kE (Jc (o7 "commonpath" 3) 2)
def s_(n:Nat)(c0:jv)(L:List PV)(fit:St->Bool)(jW:∀st,fit st=true):∀(A acc:List (ah))(ρ:ie),acc.length+A.length<=1000->(ρ=([("curdir",.str [46])]:ie)\/∃c,ρ=([("curdir",.str [46]),("c",c)]:ie))->
  jl (ev (n+4)) (nj UQ) (putL 2) (kE UQ) (pN UQ) (pO UQ) fit (A.map .str) ρ [c0,.lst L,.lst (acc.map .str)]=some [c0,.lst L,.lst ((acc++A.filter oV).map .str)]
 |[],acc,ρ,_,_=>by
  rw[gI,cI];rfl
 |a::A,acc,ρ,hl,kC=>by
  rw[aE]at hl;have ih:=s_ n c0 L fit jW A;have yG:putL 2 (.str a) [c0,.lst L,.lst (acc.map .str)]=some [c0,.lst L,.lst ((acc++[a]).map .str)]:=by
   show(if iP (acc.map PV.str)=true then some ([c0,.lst L,.lst (acc.map PV.str)].set 2 (.lst (acc.map PV.str++[.str a])))else none)=_;rw[aQ (by unfold iP yE;exact aT (by rw[aH];omega))];simp
  rw[aL];by_cases h1:a=[]
  ·subst h1;have e:([]::A).filter oV=A.filter oV:=rfl;rw[e];rcases kC with rfl|⟨c,rfl⟩
   all_goals exact AB (by rfl) (by rfl) (jW _) (ih acc _ (by omega) (.inr ⟨_,rfl⟩))
  ·have ht:iT [c0,.lst L,.lst (acc.map .str)] (.str a)=some true:=by
    show some (!a.isEmpty)=_;cases a with
    |nil=>exact absurd rfl h1
    |cons x a=>rfl
   by_cases h2:a=[46]
   ·subst h2;have e:([46]::A).filter oV=A.filter oV:=rfl;rw[e];rcases kC with rfl|⟨c,rfl⟩
    all_goals exact AB (by rfl) (by rfl) (jW _) (ih acc _ (by omega) (.inr ⟨_,rfl⟩))
   ·have hc:iN [c0,.lst L,.lst (acc.map .str)] .NotEq (.str a) (.str [46])=some true:=by
     show(some (a==[46])).map (!·)=_;rw[aO.mpr h2];rfl
    have e:acc++(a::A).filter oV=(acc++[a])++A.filter oV:=by
     rw[ck (by unfold oV;simp[h1,h2])];simp
    rw[e];have yz:(acc++[a]).length+A.length<=1000:=by simp;omega
    rcases kC with rfl|⟨c,rfl⟩
    all_goals exact qO (by rfl) (vh (mF (mO (by rfl) (by rfl) (by exact ht)) (mF (i6 (h:=jg (by rfl) (by exact hc))) (by rfl)))) (by rfl) (by exact yG) (jW _) (ih (acc++[a]) _ yz (.inr ⟨_,rfl⟩))
def zV(c0:jv)(hb:iu 1 c0=true)(A B:List (ah)):finish 1 [c0,.lst [.list (A.map .str),.list (B.map .str)]] (.lst 1)=some (.list [.list (A.map .str),.list (B.map .str)],[c0]):=by
 unfold finish;rw[aQ (by show(true&&(iu 1 c0&&true))=true;rw[hb];rfl)];have h1:ia [c0,.lst [.list (A.map .str),.list (B.map .str)]] 1 6 (.lst 1)=some (.list [.list (A.map .str),.list (B.map .str)]):=by
  have e:∀X:List (ah),ia [c0,.lst [.list (A.map .str),.list (B.map .str)]] 1 5 (.list (X.map .str))=some (.list (X.map .str)):=by
   intro X;show(kj (ia _ 1 4) (X.map PV.str)).map PV.list=_;rw[nY (ia _ 1 4) (fun s=>rfl)];rfl
  show((ia _ 1 5 (.list (A.map .str))).bind fun x=>((ia _ 1 5 (.list (B.map .str))).bind fun x=>(some []).map (x:: ·)).map (x:: ·)).map PV.list=_;rw[e,e];rfl
 rw[h1];rfl
def zW(c0:jv)(L:List PV)(hb:iu 2 c0=true)(hL:h_ 2 L=true)(A:List (ah)):finish 2 [c0,.lst L,.lst (A.map .str)] (.lst 2)=some (.list (A.map .str),[c0,.lst L]):=by
 unfold finish;rw[aQ (by show(true&&(iu 2 c0&&(h_ 2 L&&true)))=true;rw[hb,hL];rfl)];have h1:ia [c0,.lst L,.lst (A.map .str)] 2 6 (.lst 2)=some (.list (A.map .str)):=by
  show(kj (ia _ 2 5) (A.map PV.str)).map PV.list=_;rw[nY (ia _ 2 5) (fun s=>rfl)];rfl
 rw[h1];rfl
def vN(k:Nat):∀A:List (ah),h_ k (A.map .str)=true
 |[]=>rfl
 |a::A=>by rw[aL,h_,vN k A];rfl
def Jf(a b:ah)(sp:PV)(s1 s2:List (ah))(PL:PV):ie:=[("paths",.tup [.str a,.str b]),("sep",.str [47]),("curdir",.str [46]),("split_paths",sp),("isabs",.bool true),("s1",.list (s1.map .str)),("s2",.list (s2.map .str)),("common",PL)]
def vg(a b:ah)(sp:PV)(s1 s2:List (ah))(PL i c:PV):ie:=[("paths",.tup [.str a,.str b]),("sep",.str [47]),("curdir",.str [46]),("split_paths",sp),("isabs",.bool true),("s1",.list (s1.map .str)),("s2",.list (s2.map .str)),("common",PL),("i",i),("c",c)]
def HB(st:St)(s:List PV)(j:Nat):jj st (.list s) none (some ((j:Nat):Int)) none=some (.list (s.take j)):=by
 show(kg s none (some (j:Int))).map PV.list=_;unfold kg;have:nG s.length ((j:Nat):Int)=some (min j s.length):=by unfold nG;rw[aQ (cz j)];rfl
 simp only[eF,au,eS,eU,this,List.drop_zero,fq];congr 2;rw[List.take_eq_take_iff];omega
def Ob{L:List PV}{i:Nat}{v:PV}(h:(List.zipWith (fun(i:Nat) v=>PV.tup [.int (i:Int),v]) (List.range L.length) L)[i]? =some v):∃x,L[i]? =some x/\v= .tup [.int (i:Int),x]:=by
 rw[List.getElem?_zipWith]at h;cases hx:L[i]? with
 |none=>rw[hx]at h;cases hr:(List.range L.length)[i]? <;>rw[hr]at h<;>cases h
 |some x=>
  have jQ:i<L.length:=by
   rcases Nat.lt_or_ge i L.length with q|q
   ·exact q
   ·rw[dI q]at hx;cases hx
  rw[hx,fJ jQ]at h;exact⟨x,rfl,(bX h).symm⟩
def Ds(n:Nat)(a b:ah)(sp:PV)(s1 s2:List (ah))(PL:PV)(st:St)(j:Nat)(c d:ah)(hd:s2[j]? =some d):
  (c=d->gT ((ev (n+6)).S (ir "commonpath")) (Jm (o7 "commonpath" 3) 6) (vg a b sp s1 s2 PL (.int (j:Int)) (.str c)) st=some (.next,vg a b sp s1 s2 PL (.int (j:Int)) (.str c),st))/\
  (c≠d->gT ((ev (n+6)).S (ir "commonpath")) (Jm (o7 "commonpath" 3) 6) (vg a b sp s1 s2 PL (.int (j:Int)) (.str c)) st=some (.brk,vg a b sp s1 s2 (.list ((s1.take j).map .str)) (.int (j:Int)) (.str c),st)):=by
 have hg:gZ st (.list (s2.map .str)) (.int (j:Int))=some (.str d):=by
  show idx (s2.map PV.str) (j:Int)=_;unfold idx;rw[aQ (cz j),bu,br,hd];rfl
 have hc:iN st .NotEq (.str c) (.str d)=some (!(c==d)):=rfl;have hs:jj st (.list (s1.map .str)) none (some (j:Int)) none=some (.list ((s1.take j).map .str)):=by rw[HB,List.map_take]
 refine⟨fun e=> ?_,fun e=> ?_⟩
 ·rw[aR.mpr e]at hc;exact gO (lN (i6 (h:=jg (iC (h:=by exact hg)) (by exact hc))) (by rfl)) iX
 ·rw[aO.mpr e]at hc;exact tS (oX (i6 (h:=jg (iC (h:=by exact hg)) (by exact hc))) (gO (gK (h:=jO (by rfl) ly (nh (by rfl)) ly (by exact hs))) (by rfl))) (by intro q;cases q)
def Dt(n:Nat)(a b:ah)(sp:PV)(s1 s2:List (ah))(st:St)(BF:∀j,j<s1.length->s1.take j=s2.take j->j<s2.length):
  ∃ji,j_ (gT ((ev (n+6)).S (ir "commonpath")) (Jm (o7 "commonpath" 3) 6)) (ir "commonpath") (MQ (o7 "commonpath" 3) 6) (fun _=>true) (List.zipWith (fun(i:Nat) v=>PV.tup [.int (i:Int),v]) (List.range (s1.map PV.str).length) (s1.map PV.str)) (Jf a b sp s1 s2 (.list (s1.map .str))) st=some (.next,ji,st)/\
   (ji=Jf a b sp s1 s2 (.list ((lcp s1 s2).map .str))\/∃i c,ji=vg a b sp s1 s2 (.list ((lcp s1 s2).map .str)) i c):=by
 have loop:=Gw (B:=gT ((ev (n+6)).S (ir "commonpath")) (Jm (o7 "commonpath" 3) 6)) (sc:=ir "commonpath") (target:=MQ (o7 "commonpath" 3) 6) (fit:=fun _=>true)
  (fun j ρ gV=>gV=st/\s1.take j=s2.take j/\(ρ=Jf a b sp s1 s2 (.list (s1.map .str))\/∃i c,ρ=vg a b sp s1 s2 (.list (s1.map .str)) i c))
  (fun ρ gV=>gV=st/\(ρ=Jf a b sp s1 s2 (.list ((lcp s1 s2).map .str))\/∃i c,ρ=vg a b sp s1 s2 (.list ((lcp s1 s2).map .str)) i c))
  (List.zipWith (fun(i:Nat) v=>PV.tup [.int (i:Int),v]) (List.range (s1.map PV.str).length) (s1.map PV.str)) 0 (Jf a b sp s1 s2 (.list (s1.map .str))) st ⟨rfl,rfl,.inl rfl⟩ (by
   intro i v ρ gV hv hI;rw[bz]at hI;obtain⟨rfl,So,kC⟩:=hI;obtain⟨x,hx,rfl⟩:=Ob hv;rw[br]at hx;obtain⟨c,hc,rfl⟩:=aq.mp hx;obtain⟨jQ,ZZ⟩:=aF.mp hc;have BR:=BF i jQ So;have hd:s2[i]? =some s2[i]:=aP BR;have ht:=Ds n a b sp s1 s2 (.list (s1.map .str)) gV i c s2[i] hd;have Xn:∃kJ,i8 (ir "commonpath") gV (MQ (o7 "commonpath" 3) 6) (.tup [.int (i:Int),.str c]) ρ=some kJ/\kJ=vg a b sp s1 s2 (.list (s1.map .str)) (.int (i:Int)) (.str c):=by
    rcases kC with rfl|⟨k,c',rfl⟩
    all_goals exact⟨_,rfl,rfl⟩
   obtain⟨kJ,ha,rfl⟩:=Xn;by_cases e:c=s2[i]
   ·refine⟨_,_,_,_,ha,ht.1 e,.inl ⟨.inl rfl,rfl,rfl,?_,.inr ⟨_,_,rfl⟩⟩⟩;rw[bz,bV jQ,bV BR,So,<-e,ZZ]
   ·refine⟨_,_,_,_,ha,ht.2 e,.inr ⟨rfl,rfl,.inr ⟨.int (i:Int),.str c,?_⟩⟩⟩;rw[J2 s1 s2 i c s2[i] So hc hd e])
  (by
   intro ρ gV hI;have hl:(List.zipWith (fun(i:Nat) v=>PV.tup [.int (i:Int),v]) (List.range (s1.map PV.str).length) (s1.map PV.str)).length=s1.length:=by simp
   rw[bz,hl]at hI;obtain⟨rfl,So,kC⟩:=hI;rw[Gj s1 s2 So];exact⟨rfl,kC⟩)
 obtain⟨ji,gV,h1,rfl,h3⟩:=loop;exact⟨ji,h1,h3⟩
def EN(st:St)(l:List (ah))(h1:(iV [47] l).length<=1000)(h2:l.length<=1000):methP st (.str [47]) "join" [.list (l.map .str)]=some (.str (iV [47] l),st):=by
 have e:((("join":Str)==("join":Str))&& !o4 (PV.list (l.map .str)))=true:=by
  have:(("join":Str)==("join":Str))=true:=by decide+kernel
  rw[this];rfl
 show(if((("join":Str)==("join":Str))&& !o4 (PV.list (l.map .str)))=true then match jI (l.map .str)with
    |some ps=>if iP (iV [47] ps)&&ps.length<=1000&&([47]:ah).length<=10 then some (PV.str (iV [47] ps),st)else none
    |none=>none
  else none)=_
 rw[aQ e,qq];show(if iP (iV [47] l)&&decide (l.length<=1000)&&true then some (PV.str (iV [47] l),st)else none)=_;rw[aQ];simp only[gG,aA,aJ];exact⟨by unfold iP yE;exact aT (by omega),h2⟩
def NH(A B:List (ah)):∃s1 s2,(∀st,iR st "min" [.list [.list (A.map .str),.list (B.map .str)]]=some (.list (s1.map .str)))/\(∀st,iR st "max" [.list [.list (A.map .str),.list (B.map .str)]]=some (.list (s2.map .str)))/\
  (∀j,j<s1.length->s1.take j=s2.take j->j<s2.length)/\lcp s1 s2=lcp A B:=by
 have e1:∀st,iR st "min" [.list [.list (A.map .str),.list (B.map .str)]]=match iz (B.map .str) (A.map .str)with
  |some true=>some (.list (B.map .str))
  |some false=>some (.list (A.map .str))
  |none=>none:=fun st=>rfl
 have e2:∀st,iR st "max" [.list [.list (A.map .str),.list (B.map .str)]]=match iz (A.map .str) (B.map .str)with
  |some true=>some (.list (B.map .str))
  |some false=>some (.list (A.map .str))
  |none=>none:=fun st=>rfl
 obtain⟨c1,h1⟩:=tn B A;obtain⟨c2,h2⟩:=tn A B;rw[h1]at e1;rw[h2]at e2;cases c1 with
 |true=>
  cases c2 with
  |true=>
   refine⟨B,B,e1,e2,fun j h _=>h,?_⟩;have:A=B:=by
    have:∀A B:List (ah),iz (A.map .str) (B.map .str)=some true->iz (B.map .str) (A.map .str)=some true->False:=by
     intro A
     induction A with
     |nil=>intro B h h';cases B<;>cases h'
     |cons a u ih=>
      intro B h h';cases B with
      |nil=>cases h
      |cons b v=>
       rw[tu]at h h';by_cases e:a=b
       ·subst e;rw[aQ rfl]at h h';exact ih v h h'
       ·rw[aD e]at h;rw[aD fun q=>e q.symm]at h';have h:=bX h;have h':=bX h';have:∀x y:ah,strLt x y=true->strLt y x=true->False:=by
         intro x
         induction x with
         |nil=>intro y h h';cases y<;>cases h'
         |cons p x ih=>
          intro y h h';cases y with
          |nil=>cases h
          |cons q y=>
           rw[strLt]at h h';by_cases e:p=q
           ·subst e;simp only[bJ,bY]at h h';exact ih y h h'
           ·rw[aD (by simpa using e)]at h;rw[aD (by simpa using fun z:q=p=>e z.symm)]at h';have h:=cJ h;have h':=cJ h';omega
        exact this a b h h'
    exact(this A B h2 h1).elim
   rw[this]
  |false=>exact⟨B,A,e1,e2,xA B A h2,kY B A⟩
 |false=>
  cases c2 with
  |true=>exact⟨A,B,e1,e2,xA A B h1,rfl⟩
  |false=>
   have:=yd A B h2 h1;subst this;exact⟨A,A,e1,e2,fun j h _=>h,rfl⟩
def xO(a b:ah)(st:St)(x:jv):iM (.lst 0) (.lst [.str a,.str b]::st) [.lst [.str a,.str b],x]=true:=by
 show((a==a)&&((b==b)&&true))=true;rw[bJ,bJ];rfl
def uH(w:ah)(h:wc w):(jb 47 (P w)).filter oV=w.map nm:=by
 unfold P;have e:jb 47 (47::jA w)=[]::jb 47 (jA w):=rfl;rw[e];cases w with
 |nil=>rfl
 |cons c w=>
  unfold jA;rw[sS _ (by simp) (by
   intro x hx;obtain⟨d,hd,rfl⟩:=b_.mp hx;exact(j9 d (h.2 d hd)).1),cu (by decide),b7]
  intro x hx;obtain⟨d,hd,rfl⟩:=b_.mp hx;have:=j9 d (h.2 d hd);unfold oV;simp[this.2.1,this.2.2.1]
def xQ(w:ah)(h:wc w):(jb 47 (P w)).length<=100:=by
 have h1:=ru 47 (P w);have h2:=zf w h.2;have h3:=h.1;omega
def NR{v w:ah}:∀c∈lcp v w,c∈v:=by
 induction v generalizing w with
 |nil=>intro c h;cases w<;>simp[lcp]at h
 |cons a v ih=>
  intro c h;cases w with
  |nil=>simp[lcp]at h
  |cons b w=>
   rw[lcp]at h;split at h
   ·rcases aY.mp h with rfl|h
    ·exact aU ..
    ·exact ay _ (ih c h)
   ·cases h
def rQ{v w:ah}:(lcp v w).length<=v.length:=by
 induction v generalizing w with
 |nil=>cases w<;>simp[lcp]
 |cons a v ih=>
  cases w with
  |nil=>simp[lcp]
  |cons b w=>
   rw[lcp];split
   ·have:=ih (w:=w);simp only[aE];omega
   ·simp
def wc.lcp{v w:ah}(h:wc v):wc (lcp v w):=⟨dB rQ h.1,fun c hc=>h.2 c (NR c hc)⟩
def Oh(n:Nat)(a b:ah)(J:ah)(s1 s2 X:List (ah))(Zq:∀st,methP st (.str a) "startswith" [.str [47]]=some (.bool true,st))(Zp:∀st,methP st (.str b) "startswith" [.str [47]]=some (.bool true,st))(A B:List (ah))
  (PC:∀st,methP st (.str a) "split" [.str [47]]=some (.list (A.map .str),st)) (DL:∀st,methP st (.str b) "split" [.str [47]]=some (.list (B.map .str),st)) (hA:A.length<=100) (hB:B.length<=100)
  (Jk:∀st,iR st "min" [.list [.list ((A.filter oV).map .str),.list ((B.filter oV).map .str)]]=some (.list (s1.map .str))) (j7:∀st,iR st "max" [.list [.list ((A.filter oV).map .str),.list ((B.filter oV).map .str)]]=some (.list (s2.map .str)))
  (BF:∀j,j<s1.length->s1.take j=s2.take j->j<s2.length) (hX:lcp s1 s2=X) (hJ:iV [47] X=J) (hJl:J.length<=500) (hXl:X.length<=500):
  (ev (n+9)).C "commonpath" [.lst 0] [] [.lst [.str a,.str b]]=some (.str (47::J),[.lst [.str a,.str b]]):=by
 have hj:∀st,methP st (.str [47]) "join" [.list (X.map .str)]=some (.str J,st):=fun st=>by rw[<-hJ];exact EN st X (by rw[hJ];omega) (by omega)
 have uC:=fun st=>nH st (x:=[47]) (y:=J) (by decide) (by omega);have Wq:47::J=[47]++J:=rfl;rw[Wq];have fA:=zV (.lst [.str a,.str b]) rfl A B;have fB:=zV (.lst [.str a,.str b]) rfl (A.filter oV) (B.filter oV);have iA:=fun L fit jW=>s_ n (.lst [.str a,.str b]) L fit jW A [] _ (by rw[bB];omega) (.inl rfl);have iB:=fun L fit jW=>s_ n (.lst [.str a,.str b]) L fit jW B [] _ (by rw[bB];omega) (.inl rfl);have Yw:=zW (.lst [.str a,.str b]) [] rfl rfl (A.filter oV);have Wo:=zW (.lst [.str a,.str b]) [.list ((A.filter oV).map .str)] rfl (by show(h_ 2 ((A.filter oV).map .str)&&true)=true;rw[vN];rfl) (B.filter oV);simp only[aS]at iA iB;generalize hFA:A.filter oV=FA at iA fB Yw Wo Jk j7;generalize hFB:B.filter oV=FB at iB fB Wo Jk j7;obtain⟨ji,Ub,kC⟩:=Dt n a b (.list [.list (FA.map .str),.list (FB.map .str)]) s1 s2 [.lst [.str a,.str b]] BF;rw[hX]at kC;generalize List.map PV.str X=XL at hj kC;generalize X.map PV.str=XL at hj kC;rcases kC with rfl|⟨i,c,rfl⟩
 all_goals exact jV (k:=gO (gK (h:=QU (by rfl) (by rfl) (by rfl) (by rfl) (by rfl) (by rfl) (by rfl) (by rfl) (by rfl) (S3 (by rfl) (by rfl) (by exact xO _ _ _ _) (S3 (by rfl) (by rfl) (by exact xO _ _ _ _) T5)) (by rfl)))
  (gO (by rfl) (gO (by rfl)
  (tS (BW
   (gO (gK (h:=ju (a:=qO (by rfl) oj (iW (h:=by exact PC _)) (by rfl) (by rfl) (qO (by rfl) oj (iW (h:=by exact DL _)) (by rfl) (by rfl) Fw)) (h:=by exact fA)))
   (gO (BW (gO (gK (h:=QV (by rfl) (by rfl) (by rfl) (qO (by rfl) oj (iW (h:=by exact Zq _)) (by rfl) (by rfl) (qO (by rfl) oj (iW (h:=by exact Zp _)) (by rfl) (by rfl) Fw)) (by rfl) (by rfl))) iX))
   (gO (gK (h:=JV (by rfl) (by rfl) (by rfl)
     (qO (by rfl) oj (ju (a:=by exact iA _ _ (fun _=>rfl)) (h:=by exact Yw)) (by rfl) (by rfl)
     (qO (by rfl) oj (ju (a:=by exact iB _ _ (fun _=>rfl)) (h:=by exact Wo)) (by rfl) (by rfl) Fw)) (by exact fB)))
   (gO (gK (h:=jw (h:=by exact Jk _)))
   (gO (gK (h:=jw (h:=by exact j7 _)))
   (gO (gK (h:=by rfl))
   (gO (Q0 (by rfl) (by rfl) (by rfl) (by rfl) (by exact Ub))
   (gO (by rfl)
   (ku (iD (by rfl) (iW (h:=by exact hj _)) (by exact uC _)))))))))))) (by intro q;cases q)))))
def Og(n:Nat)(v w:ah)(hv:wc v)(hw:wc w):(ev (n+9)).C "commonpath" [.lst 0] [] [.lst [.str (P v),.str (P w)]]=some (.str (P (lcp v w)),[.lst [.str (P v),.str (P w)]]):=by
 have I9:∀w,wc w->∀st,methP st (.str (P w)) "split" [.str [47]]=some (.list ((jb 47 (P w)).map .str),st):=by
  intro w hw st;have e:methP st (.str (P w)) "split" [.str [47]]=if 256<=47|| !iP (P w)then none else some (.list ((jb 47 (P w)).map .str),st):=rfl;rw[e,aD];simp only[cH,aJ,cC];have h1:=zf w hw.2;have h2:=hw.1;rintro(q|q)
  ·exact absurd q (by decide)
  ·unfold iP yE at q;rw[ez]at q;omega
 obtain⟨s1,s2,h1,h2,h3,h4⟩:=NH (v.map nm) (w.map nm);have hl:lcp (v.map nm) (w.map nm)=(lcp v w).map nm:=Gi nm v w fun a ha b hb=>JX a b (hv.2 a ha) (hw.2 b hb);have Pz:wc (lcp v w):=hv.lcp;refine Oh n (P v) (P w) (jA (lcp v w)) s1 s2 ((lcp v w).map nm) (fun st=>rfl) (fun st=>rfl) _ _ (I9 v hv) (I9 w hw) (xQ v hv) (xQ w hw) ?_ ?_ h3 (h4.trans hl) rfl ?_ ?_
 ·rw[uH v hv,uH w hw];exact h1
 ·rw[uH v hv,uH w hw];exact h2
 ·have:=w_ _ Pz;omega
 ·rw[aH];have:=Pz.1;omega
def kP(v w:ah):Int:=(v.length:Int)+(w.length:Int)-2*((lcp v w).length:Int)
def JP(n:Nat)(v w:ah)(hv:wc v)(hw:wc w):(ev (n+15)).C "_law_steps" [.str (P v),.str (P w)] [] []=some (.int (kP v w),[]):=by
 have hc:=Og n v w hv hw;have h1:=AA (n+5) v hv.2;have h2:=AA (n+5) w hw.2;have Pz:wc (lcp v w):=hv.lcp;have h3:=AA (n+5) (lcp v w) Pz.2;have h4:=frame (st:=[.lst [.str (P v),.str (P w)]]) (by rfl) h3 (by rfl) (by rfl) (by rfl);have hm:∀st,jm st .Mult (.int 2) (.int ((lcp v w).length:Int))=some (.int (2*((lcp v w).length:Int))):=by
  intro st;have e:∀i:Int,jm st .Mult (.int 2) (.int i)=if(2:Int).natAbs<2^62&&i.natAbs<2^62 then some (.int (2*i))else none:=fun i=>rfl;rw[e,aQ];have:=Pz.1;simp only[aA,aJ];exact⟨by decide,by omega⟩
 unfold kP;generalize ((lcp v w).length:Int)=k at h4 hm|-;generalize P (lcp v w)=pl at hc h4;generalize P v=pv at hc h1 h4|-;generalize P w=pw at hc h2 h4|-;exact jV (k:=ku (iD
  (iD (iH (h:=by exact h1)) (iH (h:=by exact h2)) (by rfl))
  (iD (by rfl) (iH (g:=gX (by rfl) (iH (h:=by exact hc)) iZ) (h:=by exact h4)) (by exact hm _)) (by rfl)))
structure Hp where
 d:Nat
 s:ah
 t:ah
 r:Nat
def jG(e:Hp):PV:=.tup [.int (e.d:Int),.str e.s,.str e.t,.int (e.r:Int)]
def ZD:Hp:=⟨0,[],[],0⟩
def gd(H:List Hp)(i:Nat):Hp:=H.getD i ZD
def XI(a b:Hp):∃c,(∀st,iN st .Lt (jG a) (jG b)=some c)/\(c=true->a.d<=b.d)/\(c=false->b.d<=a.d):=by
 have e:∀st,iN st .Lt (jG a) (jG b)=iz [.int (a.d:Int),.str a.s,.str a.t,.int (a.r:Int)] [.int (b.d:Int),.str b.s,.str b.t,.int (b.r:Int)]:=fun st=>rfl;by_cases h:a.d=b.d
 ·have e2:iz [.int (a.d:Int),.str a.s,.str a.t,.int (a.r:Int)] [.int (b.d:Int),.str b.s,.str b.t,.int (b.r:Int)]=iz [.str a.s,.str a.t,.int (a.r:Int)] [.str b.s,.str b.t,.int (b.r:Int)]:=by
   rw[iz];have:jY (.int (a.d:Int)) (.int (b.d:Int))=some true:=by show some ((a.d:Int)==(b.d:Int))=_;rw[h,bJ]
   rw[this]
  have e3:∃c,iz [.str a.s,.str a.t,.int (a.r:Int)] [.str b.s,.str b.t,.int (b.r:Int)]=some c:=by
   rw[iz];show∃c,(match some (a.s==b.s)with|some true=>iz [.str a.t,.int (a.r:Int)] [.str b.t,.int (b.r:Int)]|some false=>mE (.str a.s) (.str b.s)|none=>none)=some c;cases a.s==b.s with
   |false=>exact⟨_,rfl⟩
   |true=>
    show∃c,iz [.str a.t,.int (a.r:Int)] [.str b.t,.int (b.r:Int)]=some c;rw[iz];show∃c,(match some (a.t==b.t)with|some true=>iz [.int (a.r:Int)] [.int (b.r:Int)]|some false=>mE (.str a.t) (.str b.t)|none=>none)=some c;cases a.t==b.t with
    |false=>exact⟨_,rfl⟩
    |true=>
     show∃c,iz [.int (a.r:Int)] [.int (b.r:Int)]=some c;rw[iz];show∃c,(match some ((a.r:Int)==(b.r:Int))with|some true=>iz [] []|some false=>mE (.int (a.r:Int)) (.int (b.r:Int))|none=>none)=some c;cases(a.r:Int)==(b.r:Int)<;>exact⟨_,rfl⟩
  obtain⟨c,hc⟩:=e3;exact⟨c,fun st=>by rw[e,e2,hc],fun _=>by omega,fun _=>by omega⟩
 ·refine⟨decide ((a.d:Int)<(b.d:Int)),fun st=> ?_,fun q=> ?_,fun q=> ?_⟩
  ·rw[e,iz];have:jY (.int (a.d:Int)) (.int (b.d:Int))=some false:=by show some ((a.d:Int)==(b.d:Int))=_;rw[aO.mpr (by omega)]
   rw[this];rfl
  ·have:=cJ q;omega
  ·have:=of_decide_eq_false q;omega
def nF(H:List Hp)(j:Nat)(x:Hp)(hj:j<H.length)(i:Nat):gd (H.set j x) i=if i=j then x else gd H i:=by
 unfold gd;rw[bF,bF,List.getElem?_set];by_cases e:j=i
 ·subst e;rw[aQ rfl,aQ rfl,aQ hj];rfl
 ·rw[aD e,aD fun q=>e q.symm]
def w4(H:List Hp)(i:Nat)(h:i<H.length):gd H i=H[i]:=by
 unfold gd;rw[bF,aP h];rfl
def sd(s:Nat)(H:List Hp):Prop:=∀i,1<=i->i<H.length->s<=(i-1) / 2->(gd H i).d<=(gd H ((i-1) / 2)).d
def Dn(s p:Nat):Prop:=s<=p/\(s=0\/p=s\/(p-1) / 2=s)
def zR(H:List Hp)(h:sd 0 H):∀(k i:Nat),i<=k->i<H.length->(gd H i).d<=(gd H 0).d
 |0,i,h1,_=>by
   have:i=0:=by omega
   subst this;exact aV _
 |k+1,i,h1,h2=>by
  by_cases e:i=0
  ·subst e;exact aV _
  ·exact dB (h i (by omega) h2 (dH _)) (zR H h k ((i-1) / 2) (by omega) (by omega))
def zp(H:List Hp)(i j:Nat)(x:Hp)(hi:i<H.length)(hj:j<H.length)(VO:i≠j):((H.set i (gd H j)).set j x).Perm (H.set i x):=by
 have h:=List.set_set_perm (as:=H.set i x) (i:=i) (j:=j) (by rw[cB];exact hi) (by rw[cB];exact hj);rw[List.getElem_set_self,List.getElem_set_ne VO,List.set_set]at h;rw[w4 H j hj];exact h
def n8(rest:St)(H:List Hp)(i:Nat)(h:i<H.length):gZ (.lst (H.map jG)::rest) (.lst 0) (.int (i:Int))=some (jG (gd H i)):=by
 show idx (H.map jG) (i:Int)=_;unfold idx;rw[aQ (cz i),bu,br,aP h,w4 H i h];rfl
def mU(rest:St)(H:List Hp)(i:Nat)(x:Hp)(h:i<H.length):jr (.lst (H.map jG)::rest) (.lst 0) (.int (i:Int)) (jG x)=some (.lst ((H.set i x).map jG)::rest):=by
 show(if(decide (0<=(i:Int))&&decide ((i:Int).toNat<(H.map jG).length))=true then some ((jv.lst (H.map jG)::rest).set 0 (.lst ((H.map jG).set (i:Int).toNat (jG x))))else none)=_;rw[aQ (by simp;exact h),bu,List.map_set];rfl
def rq(k:Nat):∀H:List Hp,h_ k (H.map jG)=true
 |[]=>rfl
 |e::H=>by rw[aL,h_,rq k H];rfl
def Jo(rest:St)(H:List Hp)(v w:PV)(hr:rest.all (iu (rest.length+1))=true)(hv:∀st,ia st (rest.length+1) 6 v=some w):finish (rest.length+1) (.lst (H.map jG)::rest) v=some (w,.lst (H.map jG)::rest):=by
 unfold finish;have e:(jv.lst (H.map jG)::rest).take (rest.length+1)= .lst (H.map jG)::rest:=bT (by simp);rw[aQ,e,hv];rfl;rw[e,fG,hr];show(decide (rest.length+1<=(jv.lst (H.map jG)::rest).length)&&(h_ _ (H.map jG)&&true))=true;rw[rq,aE];simp
def DJ(f:Str)(i:Nat):List Stmt:=match fnOf f with
 |some (_,b,_)=>match b[i]? with
  |some (.While _ body _ _)=>body
  |_=>[]
 |none=>[]
def OE(f:Str)(i:Nat):Expr:=match fnOf f with
 |some (_,b,_)=>match b[i]? with
  |some (.While t _ _ _)=>t
  |_=>default
 |none=>default
def MK(s p:Nat)(x:Hp):ie:=[("heap",.lst 0),("startpos",.int (s:Int)),("pos",.int (p:Int)),("newitem",jG x)]
def BU(s p:Nat)(x:Hp)(a b:PV):ie:=[("heap",.lst 0),("startpos",.int (s:Int)),("pos",.int (p:Int)),("newitem",jG x),("parentpos",a),("parent",b)]
def Jp(s p:Nat)(x:Hp)(ρ:ie):Prop:=ρ=MK s p x\/∃a b,ρ=BU s p x a b
def La(st:St)(p:Nat)(h:1<=p):jm st .RShift (.int ((p:Int)-1)) (.int 1)=some (.int ((((p-1) / 2:Nat)):Int)):=by
 have e:jm st .RShift (.int ((p:Int)-1)) (.int 1)=some (.int (((p:Int)-1)>>>(1:Nat))):=rfl;rw[e,show(p:Int)-1=((p-1:Nat):Int) by omega];congr 2
def Nm(n:Nat)(s p:Nat)(x:Hp)(ρ:ie)(st:St)(kC:Jp s p x ρ):(ev (n+4)).T (ir "_siftdown_max") (OE "_siftdown_max" 1) ρ st=some (decide (s<p),st):=by
 have hc:iN st .Gt (.int (p:Int)) (.int (s:Int))=some (decide (s<p)):=by
  show some (decide ((s:Int)<(p:Int)))=_;congr 1;rw[decide_eq_decide];omega
 rcases kC with rfl|⟨a,b,rfl⟩
 all_goals exact i6 (h:=jg (by rfl) (by exact hc))
def Nl(n:Nat)(s p:Nat)(x:Hp)(ρ:ie)(rest:St)(H:List Hp)(c:Bool)(kC:Jp s p x ρ)(hp:1<=p)(hl:p<H.length)(hc:∀st,iN st .Lt (jG (gd H ((p-1) / 2))) (jG x)=some c):
  gT ((ev (n+4)).S (ir "_siftdown_max")) (DJ "_siftdown_max" 1) ρ (.lst (H.map jG)::rest)=
   if c then some (.cont,BU s ((p-1) / 2) x (.int (((p-1) / 2:Nat):Int)) (jG (gd H ((p-1) / 2))),.lst ((H.set p (gd H ((p-1) / 2))).map jG)::rest)
   else some (.brk,BU s p x (.int (((p-1) / 2:Nat):Int)) (jG (gd H ((p-1) / 2))),.lst (H.map jG)::rest):=by
 have hs:=fun st=>La st p hp;have hg:=n8 rest H ((p-1) / 2) (by omega);have nO:=mU rest H p (gd H ((p-1) / 2)) hl;generalize (p-1) / 2=q at*;generalize jG (gd H q)=g at*;unfold BU;cases c with
 |true=>
  rcases kC with rfl|⟨a,b,rfl⟩
  ·exact gO (gK (h:=iD (by rfl) (by rfl) (by exact hs _))) (gO (gK (h:=iC (h:=by exact hg)))
    (tS (oX (i6 (h:=jg (by rfl) (by exact hc _))) (gO (oz (by rfl) (by rfl) (by rfl) (by rfl) (by exact nO)) (gO (gK (h:=by rfl)) (by rfl)))) (by intro q;cases q)))
  ·exact gO (gK (h:=iD (by rfl) (by rfl) (by exact hs _))) (gO (gK (h:=iC (h:=by exact hg)))
    (tS (oX (i6 (h:=jg (by rfl) (by exact hc _))) (gO (oz (by rfl) (by rfl) (by rfl) (by rfl) (by exact nO)) (gO (gK (h:=by rfl)) (by rfl)))) (by intro q;cases q)))
 |false=>
  rcases kC with rfl|⟨a,b,rfl⟩
  ·exact gO (gK (h:=iD (by rfl) (by rfl) (by exact hs _))) (gO (gK (h:=iC (h:=by exact hg)))
    (gO (lN (i6 (h:=jg (by rfl) (by exact hc _))) (by rfl)) (by rfl)))
  ·exact gO (gK (h:=iD (by rfl) (by rfl) (by exact hs _))) (gO (gK (h:=iC (h:=by exact hg)))
    (gO (lN (i6 (h:=jg (by rfl) (by exact hc _))) (by rfl)) (by rfl)))
def SD(s:Nat)(H:List Hp)(p:Nat)(x:Hp):Prop:=Dn s p/\p<H.length/\∀i,1<=i->i<H.length->s<=(i-1) / 2->
 ((i-1) / 2≠p->i≠p->(gd H i).d<=(gd H ((i-1) / 2)).d)/\((i-1) / 2=p->(gd H i).d<=x.d/\(s<p->(gd H i).d<=(gd H ((p-1) / 2)).d))
def Kh{s:Nat}{H:List Hp}{p:Nat}{x:Hp}(h:SD s H p x)(hx:s<p->x.d<=(gd H ((p-1) / 2)).d):sd s (H.set p x):=by
 obtain⟨h1,h2,h3⟩:=h;intro i hi hl hs;rw[cB]at hl;have h3:=h3 i hi hl hs;rw[nF H p x h2,nF H p x h2];by_cases e1:i=p
 ·subst e1;rw[aQ rfl,aD (by omega)];exact hx (by omega)
 ·rw[aD e1];by_cases e2:(i-1) / 2=p
  ·rw[aQ e2];exact(h3.2 e2).1
  ·rw[aD e2];exact h3.1 e2 e1
def OC{s:Nat}{H:List Hp}{p:Nat}{x:Hp}(h:SD s H p x)(I9:s<p)(hx:(gd H ((p-1) / 2)).d<=x.d):SD s (H.set p (gd H ((p-1) / 2))) ((p-1) / 2) x:=by
 obtain⟨h1,h2,h3⟩:=h;have hq:(p-1) / 2<p:=by omega
 refine⟨?_,by rw[cB];omega,fun i hi hl hs=> ?_⟩
 ·obtain⟨h1,ve⟩:=h1;unfold Dn;omega
 ·rw[cB]at hl;have R8:=h3 i hi hl hs;rw[nF H p _ h2,nF H p _ h2,nF H p _ h2,aD (show ¬ ((p-1) / 2-1) / 2=p by omega)];have XK:s<(p-1) / 2->(gd H ((p-1) / 2)).d<=(gd H (((p-1) / 2-1) / 2)).d:=by
   intro tM;obtain⟨h1,ve⟩:=h1;exact(h3 ((p-1) / 2) (by omega) (by omega) (by omega)).1 (by omega) (by omega)
  refine⟨fun e1 e2=> ?_,fun e=> ?_⟩
  ·by_cases e3:i=p
   ·subst e3;exact absurd rfl e1
   ·rw[aD e3];by_cases e4:(i-1) / 2=p
    ·rw[aQ e4];exact(R8.2 e4).2 I9
    ·rw[aD e4];exact R8.1 e4 e3
  ·by_cases e3:i=p
   ·rw[aQ e3];exact⟨hx,XK⟩
   ·rw[aD e3];have h4:=R8.1 (by omega) e3;rw[e]at h4;exact⟨dB h4 hx,fun q=>dB h4 (XK q)⟩
def FO(n:Nat)(s:Nat)(x:Hp)(rest:St):∀(k p:Nat)(H:List Hp)(ρ:ie),p<k->Jp s p x ρ->SD s H p x->
  ∃(ji:ie)(H':List Hp)(p':Nat),jR ((ev (n+4)).T (ir "_siftdown_max") (OE "_siftdown_max" 1)) (gT ((ev (n+4)).S (ir "_siftdown_max")) (DJ "_siftdown_max" 1)) k ρ (.lst (H.map jG)::rest)=some (.next,ji,.lst (H'.map jG)::rest)/\
   Jp s p' x ji/\p'<H'.length/\(H'.set p' x).Perm (H.set p x)/\sd s (H'.set p' x)
 |0,p,H,ρ,h,_,_=>by omega
 |k+1,p,H,ρ,hk,kC,hS=>by
  have ht:=Nm n s p x ρ (.lst (H.map jG)::rest) kC;by_cases I9:s<p
  ·obtain⟨c,hc,BI,Ms⟩:=XI (gd H ((p-1) / 2)) x;have hb:=Nl n s p x ρ rest H c kC (by omega) hS.2.1 hc;rw[aT I9]at ht;cases c with
   |true=>
    rw[aQ rfl]at hb;obtain⟨ji,H',p',h1,h2,h3,h4,h5⟩:=FO n s x rest k ((p-1) / 2) (H.set p (gd H ((p-1) / 2))) _ (by omega) (.inr ⟨_,_,rfl⟩) (OC hS I9 (BI rfl));have:=hS.2.1;exact⟨ji,H',p',BV ht hb (.inr rfl) h1,h2,h3,h4.trans (zp H p ((p-1) / 2) x hS.2.1 (by omega) (by omega)),h5⟩
   |false=>
    rw[aD (by simp)]at hb;exact⟨_,H,p,QT ht hb,.inr ⟨_,_,rfl⟩,hS.2.1,.refl _,Kh hS fun _=>Ms rfl⟩
  ·rw[bP I9]at ht;exact⟨ρ,H,p,wW ht,kC,hS.2.1,.refl _,Kh hS fun q=>absurd q I9⟩
def KZ(n:Nat)(s p:Nat)(H:List Hp)(rest:St)(hr:rest.all (iu (rest.length+1))=true)(hp:p<40)(hS:SD s H p (gd H p)):
  ∃H':List Hp,(ev (n+6)).C "_siftdown_max" [.lst 0,.int (s:Int),.int (p:Int)] [] (.lst (H.map jG)::rest)=some (.none,.lst (H'.map jG)::rest)/\H'.Perm H/\sd s H':=by
 obtain⟨ji,H',p',h1,h2,h3,h4,h5⟩:=FO n s (gd H p) rest 40 p H (MK s p (gd H p)) hp (.inl rfl) hS;have hg:=n8 rest H p hS.2.1;have nO:=mU rest H' p' (gd H p) h3;have Jz:H.set p (gd H p)=H:=by rw[w4 H p hS.2.1];exact List.set_getElem_self hS.2.1
 rw[Jz]at h4;have hf:=Jo rest (H'.set p' (gd H p)) .none .none hr fun _=>rfl;refine⟨H'.set p' (gd H p),?_,h4,h5⟩;unfold MK at h1;unfold Jp MK BU at h2;generalize jG (gd H p)=g at*;rcases h2 with rfl|⟨a,b,rfl⟩
 all_goals exact jV (k:=gO (gK (h:=iC (h:=by exact hg))) (gO (rO (by exact h1)) (gO (oz (by rfl) (by rfl) (by rfl) (by rfl) (by exact nO)) iX))) (h:=by exact hf)
def GY(e s p c:Int)(x:Hp):ie:=[("heap",.lst 0),("pos",.int p),("endpos",.int e),("startpos",.int s),("newitem",jG x),("childpos",.int c)]
def vf(e s p c:Int)(x:Hp)(a:PV):ie:=[("heap",.lst 0),("pos",.int p),("endpos",.int e),("startpos",.int s),("newitem",jG x),("childpos",.int c),("rightpos",a)]
def An(e s p c:Int)(x:Hp)(ρ:ie):Prop:=ρ=GY e s p c x\/∃a,ρ=vf e s p c x a
def uX(st:St)(p:Int)(h:p.natAbs<1000):jm st .Mult (.int 2) (.int p)=some (.int (2*p)):=by
 have e:jm st .Mult (.int 2) (.int p)=if(2:Int).natAbs<2^62&&p.natAbs<2^62 then some (.int (2*p))else none:=rfl;rw[e,aQ];simp only[aA,aJ];exact⟨by decide,by omega⟩
def Nd(n:Nat)(e s p c:Int)(x:Hp)(ρ:ie)(st:St)(kC:An e s p c x ρ):(ev (n+7)).T (ir "_siftup_max") (OE "_siftup_max" 4) ρ st=some (decide (c<e),st):=by
 rcases kC with rfl|⟨a,rfl⟩
 all_goals exact i6 (h:=jg (by rfl) (by rfl))
def Cc(n:Nat)(e s p c:Int)(x:Hp)(ρ:ie)(st gV:St)(v w:PV)(kC:An e s p c x ρ)(hc:c.natAbs<900)
  (h1:iN st .Lt (.int (c+1)) (.int e)=some false\/(iN st .Lt (.int (c+1)) (.int e)=some true/\gZ st (.lst 0) (.int (c+1))=some w/\iN st .Lt w v=some true))
  (hg:gZ st (.lst 0) (.int c)=some v) (hs:jr st (.lst 0) (.int p) v=some gV):
  gT ((ev (n+7)).S (ir "_siftup_max")) (DJ "_siftup_max" 4) ρ st=some (.next,vf e s c (2*c+1) x (.int (c+1)),gV):=by
 have hm:=fun st=>uX st c (by omega);unfold An GY at kC;unfold vf at kC|-;generalize jG x=g at*;rcases h1 with h1|⟨h1,h2,h3⟩
 ·rcases kC with rfl|⟨a,rfl⟩
  all_goals exact gO (gK (h:=by rfl)) (gO (lN (q_ (i6 (h:=jg (by rfl) (by exact h1)))) (by rfl)) (gO (oz (by rfl) (iC (h:=by exact hg)) (by rfl) (by rfl) (by exact hs)) (gO (gK (h:=by rfl)) (gO (gK (h:=iD (iD (by rfl) (by rfl) (by exact hm _)) (by rfl) (by rfl))) iX))))
 ·rcases kC with rfl|⟨a,rfl⟩
  all_goals exact gO (gK (h:=by rfl)) (gO (lN (mF (i6 (h:=jg (by rfl) (by exact h1))) (q_ (wV (i6 (c:=iC (h:=by exact h2)) (h:=jg (iC (h:=by exact hg)) (by exact h3)))))) (by rfl)) (gO (oz (by rfl) (iC (h:=by exact hg)) (by rfl) (by rfl) (by exact hs)) (gO (gK (h:=by rfl)) (gO (gK (h:=iD (iD (by rfl) (by rfl) (by exact hm _)) (by rfl) (by rfl))) iX))))
def KC(n:Nat)(e s p c:Int)(x:Hp)(ρ:ie)(st gV:St)(v w:PV)(kC:An e s p c x ρ)(hc:c.natAbs<900)
  (h1:iN st .Lt (.int (c+1)) (.int e)=some true) (h2:gZ st (.lst 0) (.int (c+1))=some w) (h3:iN st .Lt w v=some false)
  (hg:gZ st (.lst 0) (.int c)=some v) (hs:jr st (.lst 0) (.int p) w=some gV):
  gT ((ev (n+7)).S (ir "_siftup_max")) (DJ "_siftup_max" 4) ρ st=some (.next,vf e s (c+1) (2*(c+1)+1) x (.int (c+1)),gV):=by
 have hm:=fun st=>uX st (c+1) (by omega);unfold An GY at kC;unfold vf at kC|-;generalize jG x=g at*;rcases kC with rfl|⟨a,rfl⟩
 all_goals exact gO (gK (h:=by rfl)) (gO (oX (mF (i6 (h:=jg (by rfl) (by exact h1))) (mF (Qz (i6 (c:=iC (h:=by exact h2)) (h:=jg (iC (h:=by exact hg)) (by exact h3)))) (by rfl))) (gO (gK (h:=by rfl)) iX)) (gO (oz (by rfl) (iC (h:=by exact h2)) (by rfl) (by rfl) (by exact hs)) (gO (gK (h:=by rfl)) (gO (gK (h:=iD (iD (by rfl) (by rfl) (by exact hm _)) (by rfl) (by rfl))) iX))))
def SU(s:Nat)(H:List Hp)(p:Nat):Prop:=Dn s p/\p<H.length/\H.length<=7/\∀i,1<=i->i<H.length->s<=(i-1) / 2->
 ((i-1) / 2≠p->i≠p->(gd H i).d<=(gd H ((i-1) / 2)).d)/\((i-1) / 2=p->s<p->(gd H i).d<=(gd H ((p-1) / 2)).d)
def OB{s:Nat}{H:List Hp}{p c:Nat}(h:SU s H p)(hc:c=2*p+1\/c=2*p+2)(BH:c<H.length)(ho:∀i,1<=i->i<H.length->(i-1) / 2=p->(gd H i).d<=(gd H c).d):SU s (H.set p (gd H c)) c:=by
 obtain⟨⟨h1,ve⟩,h2,h7,h3⟩:=h;refine⟨?_,by rw[cB];exact BH,by rw[cB];exact h7,fun i hi hl hs=> ?_⟩
 ·unfold Dn;omega
 ·rw[cB]at hl;have R8:=h3 i hi hl hs;rw[nF H p _ h2,nF H p _ h2,nF H p _ h2];refine⟨fun e1 e2=> ?_,fun e q=> ?_⟩
  ·by_cases e3:i=p
   ·subst e3;rw[aQ rfl,aD (by omega)];exact(h3 c (by omega) BH (by omega)).2 (by omega) (by omega)
   ·rw[aD e3];by_cases e4:(i-1) / 2=p
    ·rw[aQ e4];exact ho i hi hl e4
    ·rw[aD e4];exact R8.1 e4 e3
  ·rw[aD (by omega),aQ (by omega)];have:=R8.1 (by omega) (by omega);rw[e]at this;exact this
def FL(n:Nat)(s:Nat)(x:Hp)(rest:St):∀(k p:Nat)(H:List Hp)(ρ:ie),H.length<p+k->An (H.length:Int) (s:Int) (p:Int) (2*(p:Int)+1) x ρ->SU s H p->
  ∃(ji:ie)(H':List Hp)(p':Nat)(c':Int),jR ((ev (n+7)).T (ir "_siftup_max") (OE "_siftup_max" 4)) (gT ((ev (n+7)).S (ir "_siftup_max")) (DJ "_siftup_max" 4)) k ρ (.lst (H.map jG)::rest)=some (.next,ji,.lst (H'.map jG)::rest)/\
   An (H.length:Int) (s:Int) (p':Int) c' x ji/\(H'.set p' x).Perm (H.set p x)/\SU s H' p'/\H'.length<=2*p'+1
 |0,p,H,ρ,h,_,hS=>by have:=hS.2.1;omega
 |k+1,p,H,ρ,hk,kC,hS=>by
  have ht:=Nd n _ _ _ _ x ρ (.lst (H.map jG)::rest) kC;have yD:=hS.2.1;have h7:=hS.2.2.1;by_cases BH:2*p+1<H.length
  ·rw[aT (show 2*(p:Int)+1<(H.length:Int) by omega)]at ht;have hg:=n8 rest H (2*p+1) BH;have e1:(((2*p+1:Nat)):Int)=2*(p:Int)+1:=by omega
   have e2:(((2*p+2:Nat)):Int)=2*(p:Int)+1+1:=by omega
   rw[e1]at hg;have go:∀c:Nat,(c=2*p+1\/c=2*p+2)->c<H.length->(∀i,1<=i->i<H.length->(i-1) / 2=p->(gd H i).d<=(gd H c).d)->
     gT ((ev (n+7)).S (ir "_siftup_max")) (DJ "_siftup_max" 4) ρ (.lst (H.map jG)::rest)=some (.next,vf (H.length:Int) (s:Int) (c:Int) (2*(c:Int)+1) x (.int (2*(p:Int)+1+1)),.lst ((H.set p (gd H c)).map jG)::rest)->
     ∃(ji:ie)(H':List Hp)(p':Nat)(c':Int),jR ((ev (n+7)).T (ir "_siftup_max") (OE "_siftup_max" 4)) (gT ((ev (n+7)).S (ir "_siftup_max")) (DJ "_siftup_max" 4)) (k+1) ρ (.lst (H.map jG)::rest)=some (.next,ji,.lst (H'.map jG)::rest)/\
   An (H.length:Int) (s:Int) (p':Int) c' x ji/\(H'.set p' x).Perm (H.set p x)/\SU s H' p'/\H'.length<=2*p'+1:=by
    intro c hc X_ ho hb;have iK:(H.set p (gd H c)).length=H.length:=cB ..;obtain⟨ji,H',p',c',q1,q2,q3,q4,q5⟩:=FL n s x rest k c (H.set p (gd H c)) (vf (H.length:Int) (s:Int) (c:Int) (2*(c:Int)+1) x (.int (2*(p:Int)+1+1))) (by rw[iK];omega) (by rw[iK];exact .inr ⟨_,rfl⟩) (OB hS hc X_ ho);rw[iK]at q2;exact⟨ji,H',p',c',BV ht hb (.inl rfl) q1,q2,q3.trans (zp H p c x yD X_ (by omega)),q4,q5⟩
   by_cases SH:2*p+2<H.length
   ·have VS:=n8 rest H (2*p+2) SH;rw[e2]at VS;have BI:∀st,iN st .Lt (.int (2*(p:Int)+1+1)) (.int (H.length:Int))=some true:=fun st=>by
     show some (decide _)=_;rw[aT (by omega)]
    obtain⟨c,hc,PG,ZY⟩:=XI (gd H (2*p+2)) (gd H (2*p+1));have Jl:∀i,1<=i->(i-1) / 2=p->i=2*p+1\/i=2*p+2:=fun i h1 h2=>by omega
    cases c with
    |true=>
     have hb:=Cc n _ _ _ _ x ρ _ _ _ _ kC (by omega) (.inr ⟨BI _,VS,hc _⟩) hg (mU rest H p _ yD);refine go (2*p+1) (.inl rfl) BH (fun i h1 _ h2=> ?_) (by rw[e1];exact hb);rcases Jl i h1 h2 with rfl|rfl
     ·exact aV _
     ·exact PG rfl
    |false=>
     have hb:=KC n _ _ _ _ x ρ _ _ _ _ kC (by omega) (BI _) VS (hc _) hg (mU rest H p _ yD);refine go (2*p+2) (.inr rfl) SH (fun i h1 _ h2=> ?_) (by rw[e2];exact hb);rcases Jl i h1 h2 with rfl|rfl
     ·exact ZY rfl
     ·exact aV _
   ·have BI:∀st,iN st .Lt (.int (2*(p:Int)+1+1)) (.int (H.length:Int))=some false:=fun st=>by
     show some (decide _)=_;rw[bP (by omega)]
    have hb:=Cc n _ _ _ _ x ρ _ _ _ (.int 0) kC (by omega) (.inl (BI _)) hg (mU rest H p _ yD);refine go (2*p+1) (.inl rfl) BH (fun i h1 h2 h3=> ?_) (by rw[e1];exact hb);have:i=2*p+1:=by omega
    subst this;exact aV _
  ·rw[bP (show ¬ 2*(p:Int)+1<(H.length:Int) by omega)]at ht;exact⟨ρ,H,p,_,wW ht,kC,.refl _,hS,by omega⟩
def Cm(H:List Hp)(rest:St):iR (.lst (H.map jG)::rest) "len" [.lst 0]=some (.int (H.length:Int)):=by
 show some (PV.int ((H.map jG).length:Int))=_;rw[aH]
def Av(n:Nat)(s:Nat)(H:List Hp)(rest:St)(hr:rest.all (iu (rest.length+1))=true)(hs:s<H.length)(h7:H.length<=7)(hH:sd (s+1) H):
  ∃H':List Hp,(ev (n+9)).C "_siftup_max" [.lst 0,.int (s:Int)] [] (.lst (H.map jG)::rest)=some (.none,.lst (H'.map jG)::rest)/\H'.Perm H/\sd s H':=by
 have hS:SU s H s:=by
  refine⟨⟨aV _,.inr (.inl rfl)⟩,hs,h7,fun i h1 h2 h3=>⟨fun e1 e2=>hH i h1 h2 (by omega),fun _ q=>by omega⟩⟩
 obtain⟨ji,H1,p,c',q1,q2,q3,q4,q5⟩:=FL n s (gd H s) rest 40 s H (GY (H.length:Int) (s:Int) (s:Int) (2*(s:Int)+1) (gd H s)) (by omega) (.inl rfl) hS;have Jz:H.set s (gd H s)=H:=by rw[w4 H s hs];exact List.set_getElem_self hs
 rw[Jz]at q3;have yD:=q4.2.1;have Su:H1.length=H.length:=by have:=q3.length_eq;rw[cB]at this;exact this
 obtain⟨H',r1,r2,r3⟩:=KZ n s p (H1.set p (gd H s)) rest hr (by omega) (by
  refine⟨q4.1,by rw[cB];exact yD,fun i h1 h2 h3=> ?_⟩;rw[cB]at h2;have h4:=q4.2.2.2 i h1 h2 h3;rw[nF H1 p _ yD,nF H1 p _ yD];refine⟨fun e1 e2=> ?_,fun e=>by omega⟩;rw[aD e2,aD e1];exact h4.1 e1 e2)
 have hg:=n8 rest H s hs;have nO:=mU rest H1 p (gd H s) yD;have hm:=fun st=>uX st (s:Int) (by omega);have iK:=Cm H rest;have hf:=Jo rest H' .none .none hr fun _=>rfl;refine⟨H',?_,r2.trans q3,r3⟩;unfold GY at q1;unfold An GY vf at q2;generalize (H.length:Int)=el at*;generalize jG (gd H s)=g at*;rcases q2 with rfl|⟨a,rfl⟩
 ·exact jV (k:=gO (gK (h:=jw (h:=by exact iK))) (gO (gK (h:=by rfl)) (gO (gK (h:=iC (h:=by exact hg))) (gO (gK (h:=iD (iD (by rfl) (by rfl) (by exact hm _)) (by rfl) (by rfl)))
   (gO (rO (by exact q1)) (gO (oz (by rfl) (by rfl) (by rfl) (by rfl) (by exact nO)) (gO (jX (by rfl) (iH (h:=by exact r1))) iX))))))) (h:=by exact hf)
 ·exact jV (k:=gO (gK (h:=jw (h:=by exact iK))) (gO (gK (h:=by rfl)) (gO (gK (h:=iC (h:=by exact hg))) (gO (gK (h:=iD (iD (by rfl) (by rfl) (by exact hm _)) (by rfl) (by rfl)))
   (gO (rO (by exact q1)) (gO (oz (by rfl) (by rfl) (by rfl) (by rfl) (by exact nO)) (gO (jX (by rfl) (iH (h:=by exact r1))) iX))))))) (h:=by exact hf)
def QZ{n:Nat}{sc:Scope}{ρ:ie}{st st1:St}{p q p1:Pos}{target a:Expr}{body:List Stmt}{i j:Int}{R:iE×ie×St}(l:List PV)(h0:iY "reversed" ρ=none)(h1:iw sc "reversed"=some .globalImplicit)(hs:jx a=false)(h:(ev n).E sc a ρ st=some (.rng i j,st1))(hl:(ng i j).reverse=l)
  (k:j_ (gT ((ev n).S sc) body) sc target (fun _=>true) l ρ st1=some R):
  (ev (n+1)).S sc (.For target (.Call (.Name "reversed" q) [a] [] p) body [] p1) ρ st=some R:=by
 have e1:(("reversed":Str)==("reversed":Str))=true:=by decide+kernel
 simp only[wK,kG,h0,h1,e1,hs,az,a_,h,ao];rw[hl];exact k
def NZ(n:Nat)(H:List Hp)(rest:St)(hr:rest.all (iu (rest.length+1))=true)(h7:H.length=7):
  ∃H':List Hp,(ev (n+13)).C "_heapify_max" [.lst 0] [] (.lst (H.map jG)::rest)=some (.none,.lst (H'.map jG)::rest)/\H'.Perm H/\sd 0 H':=by
 obtain⟨H1,a1,a2,a3⟩:=Av n 2 H rest hr (by omega) (by omega) (fun i h1 h2 h3=>by omega);have l1:=a2.length_eq;obtain⟨H2,b1,b2,b3⟩:=Av n 1 H1 rest hr (by omega) (by omega) a3;have l2:=b2.length_eq;obtain⟨H3,c1,c2,c3⟩:=Av n 0 H2 rest hr (by omega) (by omega) b3;have iK:=Cm H rest;rw[h7]at iK;have hf:=Jo rest H3 .none .none hr fun _=>rfl;refine⟨H3,?_,c2.trans (b2.trans a2),c3⟩;exact jV (k:=gO (gK (h:=jw (h:=by exact iK))) (gO (QZ [.int 2,.int 1,.int 0] (by rfl) (by rfl) (by rfl) (by rfl) (by rfl)
  (nI (by rfl) (gO (jX (by rfl) (iH (h:=by exact a1))) iX) (.inl rfl) (by rfl)
  (nI (by rfl) (gO (jX (by rfl) (iH (h:=by exact b1))) iX) (.inl rfl) (by rfl)
  (nI (by rfl) (gO (jX (by rfl) (iH (h:=by exact c1))) iX) (.inl rfl) (by rfl) Aw)))) iX)) (h:=by exact hf)
def NY(n:Nat)(H:List Hp)(rest:St)(hr:rest.all (iu (rest.length+1))=true)(h7:H.length<=7)(h0:H≠[])(hH:sd 0 H):
  ∃(m:Hp)(H':List Hp),(ev (n+13)).C "_heappop_max" [.lst 0] [] (.lst (H.map jG)::rest)=some (jG m,.lst (H'.map jG)::rest)/\(m::H').Perm H/\sd 0 H'/\(∀e∈H',e.d<=m.d):=by
 obtain⟨u,l,rfl⟩:∃u l,H=u++[l]:=⟨H.dropLast,H.getLast h0,(c9 h0).symm⟩;have hp:methP (.lst ((u++[l]).map jG)::rest) (.lst 0) "pop" []=some (jG l,.lst (u.map jG)::rest):=by
  have e:(u++[l]).map jG=u.map jG++[jG l]:=by simp
  rw[e];show(match(u.map jG++[jG l]).getLast? with
   |some v=>some (v,(.lst (u.map jG++[jG l]).dropLast::rest:St))
   |none=>none)=_
  rw[List.getLast?_concat,gq]
 have fz:∀e k st,ia st k 6 (jG e)=some (jG e):=fun e k st=>rfl;have OI:iT (.lst (u.map jG)::rest) (.lst 0)=some (!u.isEmpty):=by
  show some (!(u.map jG).isEmpty)=_;rw[List.isEmpty_map]
 by_cases hu:u=[]
 ·subst hu;have hf:=Jo rest [] (jG l) (jG l) hr (fz l _);refine⟨l,[],?_,.refl _,fun i _ h=>by simp at h,fun e he=>by cases he⟩;generalize jG l=gl at*;exact jV (k:=gO (gK (h:=iW (h:=by exact hp))) (gO (lN (mO (by rfl) (by rfl) (by exact OI)) (by rfl)) (ku (by rfl)))) (h:=by exact hf)
 ·have RO:0<u.length:=List.length_pos_iff.mpr hu;rw[aB,cy]at h7;have lq:(!u.isEmpty)=true:=by cases u with
   |nil=>exact absurd rfl hu
   |cons=>rfl
  rw[lq]at OI;have hg:=n8 rest u 0 RO;have nO:=mU rest u 0 l RO;have hl:(u.set 0 l).length=u.length:=cB ..;obtain⟨H',q1,q2,q3⟩:=Av n 0 (u.set 0 l) rest hr (by omega) (by omega) (by
   intro i h1 h2 h3;rw[hl]at h2;rw[nF u 0 l RO,nF u 0 l RO,aD (by omega),aD (by omega)];have:=hH i h1 (by rw[aB,cy];omega) (dH _);have e:∀j,j<u.length->gd (u++[l]) j=gd u j:=fun j hj=>by
    unfold gd;rw[bF,bF,bk hj]
   rw[e i h2,e _ (by omega)]at this;exact this)
  have kQ:(gd u 0::H').Perm (u++[l]):=by
   cases u with
   |nil=>exact absurd rfl hu
   |cons a u=>
    have:H'.Perm (l::u):=q2;refine((List.Perm.cons _ this)).trans ?_;show(a::l::u).Perm (a::(u++[l]));exact List.Perm.cons _ (List.perm_append_singleton l u).symm
  have DQ:∀e∈H',e.d<=(gd u 0).d:=by
   intro e he;have:e∈u++[l]:=kQ.subset (ay _ he);obtain⟨i,hi,rfl⟩:=List.getElem_of_mem this;have h1:=zR (u++[l]) hH i i (aV _) hi;have e0:gd (u++[l]) 0=gd u 0:=by
    unfold gd;rw[bF,bF,bk RO]
   rw[w4 _ i hi,e0]at h1;exact h1
  have hf:=Jo rest H' (jG (gd u 0)) (jG (gd u 0)) hr (fz _ _);refine⟨gd u 0,H',?_,kQ,q3,DQ⟩;generalize jG l=gl at*;generalize jG (gd u 0)=g0 at*;exact jV (k:=gO (gK (h:=iW (h:=by exact hp))) (tS (oX (mO (by rfl) (by rfl) (by exact OI))
   (gO (gK (h:=iC (h:=by exact hg))) (gO (oz (by rfl) (by rfl) (by rfl) (by rfl) (by exact nO)) (gO (jX (by rfl) (iH (h:=by exact q1))) (ku (by rfl)))))) (by intro q;cases q))) (h:=by exact hf)
structure iy where
 w:Nat->ah
 r:Nat->Nat
 h:Nat->Nat
 b:Nat->Nat
structure iy.ok(I:iy):Prop where
 way:∀k,k<7->wc (I.w k)
 inj:∀i k,i<7->k<7->I.w i=I.w k->i=k
 r:∀k,k<7->I.r k<3
 h:∀k,k<7->I.h k<6
def iy.s(I:iy)(k:Nat):ah:=v_ (I.h k)++jA (I.w k)
def iy.t(I:iy)(k:Nat):ah:=up (I.w k) (I.r k)
def iy.rw(I:iy)(c:Nat->Nat)(k:Nat):Rw:=⟨c k,I.r k,I.s k,I.b k⟩
def iy.hp(I:iy)(k:Nat):Hp:=⟨(I.t k).length,I.s k,P (I.t k),I.r k⟩
def iy.D(I:iy)(o:ah):List (ah×PV):=o.map fun k=>(I.s k,PV.str (P (I.w k)))
def JL(v w:ah)(hv:wc v)(hw:wc w)(h:P v=P w):v=w:=by
 have e:v.map nm=w.map nm:=by rw[<-uH v hv,<-uH w hw,h]
 have UU:=hv.2;have OH:=hw.2;clear h hv hw
 induction v generalizing w with
 |nil=>cases w with
  |nil=>rfl
  |cons=>cases e
 |cons a v ih=>
  cases w with
  |nil=>cases e
  |cons b w=>
   rw[aL,aL,dZ]at e;rw[JX a b (UU a (by simp)) (OH b (by simp)) e.1,ih w e.2 (fun c hc=>UU c (ay _ hc)) fun c hc=>OH c (ay _ hc)]
def iy.s_inj{I:iy}(ok:I.ok)(i k:Nat)(hi:i<7)(hk:k<7)(h:I.s i=I.s k):i=k:=by
 obtain⟨J,h1,h2⟩:=DY 0 (I.w i) (ok.way i hi) (I.h i) (ok.h i hi);obtain⟨K,h3,h4⟩:=DY 0 (I.w k) (ok.way k hk) (I.h k) (ok.h k hk);have e1:some (PV.str J,([]:St))=some (.str K,[]):=by
  rw[<-h1,<-h3];show _=(ev (0+11)).C "join" [.str [47],.str (I.s k)] [] [];rw[<-h];rfl
 have e2:J=K:=by
  have:=(Prod.mk.inj (bX e1)).1;exact PV.str.inj this
 subst e2;have e3:=(h2 0).symm.trans (h4 0);have e4:P (I.w i)=P (I.w k):=PV.str.inj (Prod.mk.inj (bX e3)).1;exact ok.inj i k hi hk (JL _ _ (ok.way i hi) (ok.way k hk) e4)
def xJ:∀w:ah,(∀c∈w,1<=c/\c<=6)->clean (jA w)
 |[],_=>⟨by simp[jA,iV],by simp[jA,iV]⟩
 |[c],h=>by
  have hc:=j9 c (h c (by simp));exact⟨hc.2.2.2.2.2.2.1,hc.2.2.2.2.2.2.2⟩
 |c::d::w,h=>by
  have hc:=j9 c (h c (by simp));have ih:=xJ (d::w) fun x hx=>h x (ay _ hx);have e:jA (c::d::w)=nm c++(47::jA (d::w)):=by simp[jA,iV]
  rw[e];refine⟨fun q=> ?_,?_⟩
  ·rcases bl.mp q with q|q
   ·exact hc.2.2.2.2.2.2.1 q
   ·rcases aY.mp q with q|q
    ·cases q
    ·exact ih.1 q
  ·rw[List.all_append,hc.2.2.2.2.2.2.2,fG,ih.2];decide+kernel
def IS(j:Nat)(h:j<6):clean (v_ j):=by
 have e:j=0\/j=1\/j=2\/j=3\/j=4\/j=5:=by omega
 rcases e with rfl|rfl|rfl|rfl|rfl|rfl<;>exact⟨by decide,by decide+kernel⟩
def iy.s_clean{I:iy}(ok:I.ok)(k:Nat)(hk:k<7):clean (I.s k):=by
 have h1:=IS (I.h k) (ok.h k hk);have h2:=xJ (I.w k) (ok.way k hk).2;refine⟨fun q=> ?_,?_⟩
 ·rcases bl.mp q with q|q
  ·exact h1.1 q
  ·exact h2.1 q
 ·show(v_ (I.h k)++jA (I.w k)).all _=true;rw[List.all_append,h1.2,h2.2];rfl
def iy.rw_ok{I:iy}(ok:I.ok)(c:Nat->Nat)(hc:∀k,c k<55296)(k:Nat)(hk:k<7):(I.rw c k).ok:=⟨hc k,ok.r k hk,I.s_clean ok k hk⟩
def uT:∀(L:List Rw)(p j:Nat)(v:PV),(iU p L)[j]? =some v->∃x,L[j]? =some x/\v=wN (p+(textOf (L.take j)).length) x
 |[],_,_,_,h=>by simp[iU]at h
 |x::L,p,0,v,h=>⟨x,rfl,by simp[iU]at h;simpa[textOf]using h.symm⟩
 |x::L,p,j+1,v,h=>by
  obtain⟨y,h1,h2⟩:=uT L (p+(tN x).length) j v (by simpa[iU]using h);refine⟨y,by simpa using h1,?_⟩;rw[h2,dX,k9,aB,Nat.add_assoc]
def w6(k:Nat)(I:iy):∀o:ah,iu k (.dct (I.D o))=true:=by
 intro o;show h_ k ((I.D o).map (·.2))=true
 induction o with
 |nil=>rfl
 |cons a o ih=>
  show(true&&h_ k ((I.D o).map (·.2)))=true;rw[ih];rfl
def iy.lookup{I:iy}(ok:I.ok):∀(o:ah),(∀i∈o,i<7)->∀k,k∈o->k<7->m8 (I.s k) (I.D o)=some (.str (P (I.w k)))
 |[],_,_,h,_=>by cases h
 |a::o,ho,k,h,hk=>by
  have ha:=ho a (by simp);unfold m8 iy.D;rw[aL,List.find?_cons];by_cases e:I.s a=I.s k
  ·have:=I.s_inj ok a k ha hk e;subst this;simp
  ·have lq:a≠k:=fun q=>e (by rw[q]);have hb:(I.s a==I.s k)=false:=aO.mpr e;simp only[hb];exact iy.lookup ok o (fun i hi=>ho i (ay _ hi)) k ((aY.mp h).resolve_left fun q=>lq q.symm) hk
def iy.put{I:iy}(ok:I.ok)(o:ah)(ho:∀i∈o,i<7)(k:Nat)(hk:k<7)(hn:k∉o):Ai (I.s k) (.str (P (I.w k))) (I.D o)=I.D (o++[k]):=by
 unfold Ai;rw[aD]
 ·unfold iy.D;rw[bR];rfl
 ·intro h;obtain⟨x,hx,e⟩:=List.any_eq_true.mp h;unfold iy.D at hx;obtain⟨i,hi,rfl⟩:=b_.mp hx;have e:I.s i=I.s k:=by simpa using e
  exact hn (I.s_inj ok i k (ho i hi) hk e▸hi)
def PT(T:ah):ie:=[("listing",.str T),("text",.str T),("heap",.lst 0),("places",.dct 1)]
def Fd(T:ah)(a b c d e:PV):ie:=[("listing",.str T),("text",.str T),("heap",.lst 0),("places",.dct 1),("start",a),("need",b),("reach",c),("string",d),("top",e)]
def OX(T:ah)(a b c d:PV)(tl:ie):ie:=("listing",.str T)::("text",.str T)::("heap",.lst 0)::("places",.dct 1)::("start",a)::("need",b)::("reach",c)::("string",d)::tl
def zo{I:iy}(ok:I.ok)(n:Nat)(T:ah)(o:ah)(ho:∀i∈o,i<7)(PA:o.length<=7)(k:Nat)(hk:k<7)(hn:k∉o)(a b:PV)(tl:ie)(DK:tl=[]\/∃e,tl=([("top",e)]:ie)):
  gT ((ev (n+22)).S (ir "_law_sent")) (jP "_law_sent" 3) (OX T a b (.int (I.r k:Int)) (.str (I.s k)) tl) [.lst ((o.map I.hp).map jG),.dct (I.D o)]=
   some (.next,Fd T a b (.int (I.r k:Int)) (.str (I.s k)) (.str (P (I.t k))),[.lst (((o++[k]).map I.hp).map jG),.dct (I.D (o++[k]))]):=by
 obtain⟨J,hj,RT⟩:=DY (n+8) (I.w k) (ok.way k hk) (I.h k) (ok.h k hk);have RT:=RT (n+8);have DQ:=WD (n+7) (I.w k) (ok.way k hk) (I.r k) (by have:=ok.r k hk;omega);have OH:wc (I.t k):=(ok.way k hk).up _;have MO:=AA (n+13) (I.t k) OH.2;have g1:Good [.lst ((o.map I.hp).map jG),.dct (I.D o)]:=by
  show(h_ 2 ((o.map I.hp).map jG)&&(iu 2 (.dct (I.D o))&&true))=true;rw[rq,w6];rfl
 have g2:Good [.lst ((o.map I.hp).map jG),.dct (I.D (o++[k]))]:=by
  show(h_ 2 ((o.map I.hp).map jG)&&(iu 2 (.dct (I.D (o++[k])))&&true))=true;rw[rq,w6];rfl
 have hj:(ev (n+19)).C _ _ _ _=_:=frame g1 hj (by rfl) (by rfl) (by rfl);have RT:(ev (n+20)).C _ _ _ _=_:=frame g1 RT (by rfl) (by rfl) (by rfl);have DQ:(ev (n+20)).C _ _ _ _=_:=frame g2 DQ (by rfl) (by rfl) (by rfl);have MO:(ev (n+18)).C _ _ _ _=_:=frame g2 MO (by rfl) (by rfl) (by rfl);have nO:jr [.lst ((o.map I.hp).map jG),.dct (I.D o)] (.dct 1) (.str (I.s k)) (.str (P (I.w k)))=some [.lst ((o.map I.hp).map jG),.dct (I.D (o++[k]))]:=by
  show(if(I.D o).length<=1000 then some ([jv.lst ((o.map I.hp).map jG),.dct (I.D o)].set 1 (.dct (Ai (I.s k) (.str (P (I.w k))) (I.D o))))else none)=_;rw[aQ (by unfold iy.D;rw[aH];omega),I.put ok o ho k hk hn];rfl
 have qS:gZ [.lst ((o.map I.hp).map jG),.dct (I.D (o++[k]))] (.dct 1) (.str (I.s k))=some (.str (P (I.w k))):=by
  show m8 (I.s k) (I.D (o++[k]))=_;exact I.lookup ok (o++[k]) (by intro i hi;rcases bl.mp hi with q|q;exact ho i q;rw[aK.mp q];exact hk) k (by simp) hk
 have DH:=append_at [.lst ((o.map I.hp).map jG),.dct (I.D (o++[k]))] 0 ((o.map I.hp).map jG) (jG (I.hp k)) rfl (by simp;omega);have e:(((o++[k]).map I.hp).map jG)=((o.map I.hp).map jG)++[jG (I.hp k)]:=by simp
 rw[e];have e2:jG (I.hp k)= .tup [.int ((I.t k).length:Int),.str (I.s k),.str (P (I.t k)),.int (I.r k:Int)]:=rfl;rw[e2]at DH|-;have e3:v_ (I.h k)++jA (I.w k)=I.s k:=rfl;rw[e3]at hj;have e4:up (I.w k) (I.r k)=I.t k:=rfl;rw[e4]at DQ;unfold OX Fd;generalize P (I.w k)=pw at*;generalize P (I.t k)=pt at*;generalize I.s k=s at*;generalize ((o.map I.hp).map jG)=HL at*;generalize I.D o=D0 at*;generalize I.D (o++[k])=D1 at*;rcases DK with rfl|⟨e,rfl⟩
 ·exact gO (oz (by rfl) (iH (g:=gX (by rfl) (iH (h:=by exact hj)) iZ) (h:=by exact RT)) (by rfl) (by rfl) (by exact nO))
   (gO (gK (h:=iH (g:=gX (by rfl) (iC (h:=by exact qS)) (by rfl)) (h:=by exact DQ)))
   (gO (jX (by rfl) (iW (g:=gX (by rfl) (o8 (gX (by rfl) (iH (h:=by exact MO)) (by rfl)) (by rfl)) (by rfl)) (h:=by exact DH))) iX))
 ·exact gO (oz (by rfl) (iH (g:=gX (by rfl) (iH (h:=by exact hj)) iZ) (h:=by exact RT)) (by rfl) (by rfl) (by exact nO))
   (gO (gK (h:=iH (g:=gX (by rfl) (iC (h:=by exact qS)) (by rfl)) (h:=by exact DQ)))
   (gO (jX (by rfl) (iW (g:=gX (by rfl) (o8 (gX (by rfl) (iH (h:=by exact MO)) (by rfl)) (by rfl)) (by rfl)) (h:=by exact DH))) iX))
def p9(I:iy)(o:ah)(HL SL:List PV):St:=[.lst HL,.dct (I.D o),.lst SL]
def Hj{I:iy}(ok:I.ok)(n:Nat)(T:ah)(c:Nat->Nat)(o:ah)(ho:∀i∈o,i<7)(hn:o.Nodup)(hl:o.length=7):
  ∃a b c' d e,j_ (gT ((ev (n+22)).S (ir "_law_sent")) (jP "_law_sent" 3)) (ir "_law_sent") (mq "_law_sent" 3) (fun _=>true) (iU 0 (o.map (I.rw c))) (PT T) [.lst [],.dct []]=
   some (.next,Fd T a b c' d e,[.lst ((o.map I.hp).map jG),.dct (I.D o)]):=by
 have loop:=m_ (B:=gT ((ev (n+22)).S (ir "_law_sent")) (jP "_law_sent" 3)) (sc:=ir "_law_sent") (target:=mq "_law_sent" 3) (fit:=fun _=>true)
  (fun j ρ st=>st=[.lst (((o.take j).map I.hp).map jG),.dct (I.D (o.take j))]/\((j=0/\ρ=PT T)\/∃a b c' d e,ρ=Fd T a b c' d e))
  (iU 0 (o.map (I.rw c))) 0 (PT T) [.lst [],.dct []] ⟨rfl,.inl ⟨rfl,rfl⟩⟩ (by
   intro j v ρ st hv hI;rw[bz]at hI;obtain⟨rfl,kC⟩:=hI;obtain⟨x,hx,rfl⟩:=uT _ _ _ _ hv;rw[br]at hx;obtain⟨k,hk,rfl⟩:=aq.mp hx;obtain⟨jQ,VK⟩:=aF.mp hk;have yZ:k<7:=ho k (by rw[<-VK];exact gu _);have XR:k∉o.take j:=by
    intro q;rw[<-gb j o,cD]at hn;have:k∈o.drop j:=by rw[bq jQ,VK];simp
    exact hn.2.2 k q k this rfl
   have e:o.take (j+1)=o.take j++[k]:=by rw[bV jQ,VK]
   rw[bz (j+1),e];rcases kC with⟨_,rfl⟩|⟨a,b,c',d,e,rfl⟩
   ·exact⟨_,_,_,_,rfl,zo ok n T (o.take j) (fun i hi=>ho i (cU hi)) (by rw[bI];omega) k yZ XR _ _ [] (.inl rfl),.inl rfl,rfl,rfl,.inr ⟨_,_,_,_,_,rfl⟩⟩
   ·exact⟨_,_,_,_,rfl,zo ok n T (o.take j) (fun i hi=>ho i (cU hi)) (by rw[bI];omega) k yZ XR _ _ [("top",e)] (.inr ⟨_,rfl⟩),.inl rfl,rfl,rfl,.inr ⟨_,_,_,_,_,rfl⟩⟩)
 obtain⟨ji,gV,h1,rfl,h3⟩:=loop;rw[oG,aH,bz,bT (aV _)]at h1;rcases h3 with⟨h3,_⟩|⟨a,b,c',d,e,rfl⟩
 ·rw[oG,aH]at h3;omega
 ·exact⟨a,b,c',d,e,h1⟩
def Ag(T X:ah)(a b c d e de ca ro mu wi:PV):ie:=[("listing",.str T),("text",.str X),("heap",.lst 0),("places",.dct 1),("start",a),("need",b),("reach",c),("string",d),("top",e),("sent",.lst 2),("depth",de),("called",ca),("rows",ro),("much",mu),("wide",wi)]
def Je(T X:ah)(a b c d e de ca ro mu:PV):ie:=[("listing",.str T),("text",.str X),("heap",.lst 0),("places",.dct 1),("start",a),("need",b),("reach",c),("string",d),("top",e),("sent",.lst 2),("depth",de),("called",ca),("rows",ro),("much",mu)]
def PS(T X:ah)(a b c d e:PV):ie:=[("listing",.str T),("text",.str X),("heap",.lst 0),("places",.dct 1),("start",a),("need",b),("reach",c),("string",d),("top",e),("sent",.lst 2)]
def J4(l:List Stmt)(i:Nat):List Stmt:=match l[i]? with
 |some (.If _ a _ _)=>a
 |_=>[]
abbrev JI:List Stmt:=Jm (J4 (DJ "_law_sent" 6) 3) 1
abbrev Pb:Expr:=MQ (J4 (DJ "_law_sent" 6) 3) 1
def Im(n:Nat)(T X pre post fg pw pt s:ah)(p nd mu wi dd d':Int)(c de ca ro:PV)(st:St)
  (qS:gZ st (.dct 1) (.str s)=some (.str pw)) (kD:(ev (n+15)).C "_law_steps" [.str pw,.str pt] [] st=some (.int dd,st)) (VT:(ev (n+15)).C "_law_figures" [.int d'] [] st=some (.str fg,st))
  (j7:iR st "max" [.int (nd-mu),.int 0]=some (.int d')) (r_:jj st (.str X) none (some p) none=some (.str pre)) (tM:jj st (.str X) (some (p+4)) none none=some (.str post))
  (R6:jm st .Add (.str pre) (.str fg)=some (.str (pre++fg))) (Wa:jm st .Add (.str (pre++fg)) (.str post)=some (.str ((pre++fg)++post))):
  gT ((ev (n+20)).S (ir "_law_sent")) JI (Ag T X (.int p) (.int nd) c (.str s) (.str pt) de ca ro (.int mu) (.int wi)) st=
   some (.next,Ag T (if 0<nd/\dd<=wi then(pre++fg)++post else X) (.int p) (.int nd) c (.str s) (.str pt) de ca ro (.int mu) (.int wi),st):=by
 have BI:iN st .Gt (.int nd) (.int 0)=some (decide (0<nd)):=rfl;have Ms:iN st .LtE (.int dd) (.int wi)=some (decide (dd<=wi)):=rfl;unfold Ag;by_cases h1:0<nd
 ·rw[aT h1]at BI;by_cases h2:dd<=wi
  ·rw[aT h2]at Ms;rw[aQ ⟨h1,h2⟩];exact gO (oX (mF (i6 (h:=jg (by rfl) (by exact BI))) (mF (i6 (c:=iH (g:=gX (by rfl) (iC (h:=by exact qS)) (by rfl)) (h:=by exact kD)) (h:=jg (by rfl) (by exact Ms))) (by rfl)))
    (gO (gK (h:=iD (iD (jO (by rfl) ly (nh (by rfl)) ly (by exact r_)) (iH (g:=gX (by rfl) (jw (h:=by exact j7)) iZ) (h:=by exact VT)) (by exact R6)) (jO (by rfl) (nh (by rfl)) ly ly (by exact tM)) (by exact Wa))) iX)) iX
  ·rw[bP h2]at Ms;rw[aD fun q=>h2 q.2];exact gO (lN (mF (i6 (h:=jg (by rfl) (by exact BI))) (q_ (i6 (c:=iH (g:=gX (by rfl) (iC (h:=by exact qS)) (by rfl)) (h:=by exact kD)) (h:=jg (by rfl) (by exact Ms))))) (by rfl)) iX
 ·rw[bP h1]at BI;rw[aD fun q=>h1 q.1];exact gO (lN (q_ (i6 (h:=jg (by rfl) (by exact BI)))) (by rfl)) iX
def iy.upd(I:iy)(c:Nat->Nat)(k:Nat)(i:Nat):Nat:=if kP (I.w i) (I.t k)<=(I.r i:Int)then c i-c k else c i
def iy.text(I:iy)(c:Nat->Nat)(o:ah):ah:=textOf (o.map (I.rw c))
def iy.text_app(I:iy)(c:Nat->Nat)(a b:ah):I.text c (a++b)=I.text c a++I.text c b:=by
 unfold iy.text;rw[bR,sR]
def iy.text_cons(I:iy)(c:Nat->Nat)(a:Nat)(b:ah):I.text c (a::b)=lF (c a)++(pP (I.r a) (I.s a) (I.b a)++I.text c b):=by
 unfold iy.text;rw[aL,k9];unfold tN;rw[cE];rfl
def iy.text_one(I:iy)(c:Nat->Nat)(a:Nat):I.text c [a]=lF (c a)++pP (I.r a) (I.s a) (I.b a):=by
 rw[iy.text_cons];simp[iy.text,textOf]
def iy.text_same(I:iy)(c c':Nat->Nat):∀o:ah,(I.text c o).length=(I.text c' o).length
 |[]=>rfl
 |a::o=>by
  rw[iy.text_cons,iy.text_cons,aB,aB,aB,aB,iy.text_same I c c' o];rfl
def OV{I:iy}(ok:I.ok)(k:Nat)(hk:k<7):(I.s k).length<=50:=by
 have:=w_ _ (ok.way k hk);have:=GF (I.h k);unfold iy.s;rw[aB];omega
def iy.text_len{I:iy}(ok:I.ok)(c:Nat->Nat):∀o:ah,(∀i∈o,i<7)->(I.text c o).length<=70*o.length
 |[],_=>by simp[iy.text,textOf]
 |a::o,h=>by
  have ih:=iy.text_len ok c o fun i hi=>h i (ay _ hi);have h1:=OV ok a (h a (by simp));have h2:=A_ (I.b a);have h3:(([9,32]:ah).take (I.r a)).length<=2:=by rw[bI];exact Nat.min_le_right ..
  have h4:(lF (c a)).length=4:=rfl;rw[iy.text_cons];unfold pP;simp only[aB,aE,bB]at*;omega
def Pa{I:iy}{o:ah}{HL SL:List PV}(h1:h_ 3 HL=true)(h2:h_ 3 SL=true):Good (p9 I o HL SL):=by
 show(h_ 3 HL&&(iu 3 (.dct (I.D o))&&(h_ 3 SL&&true)))=true;rw[h1,h2,w6];rfl
def Io{I:iy}(ok:I.ok)(n:Nat)(T:ah)(c:Nat->Nat)(hc:∀i,c i<55296)(o:ah)(ho:∀i∈o,i<7)(hl:o.length=7)(k:Nat)(hk:k<7)(HL SL:List PV)(h1:h_ 3 HL=true)(h2:h_ 3 SL=true)(a b rc d de ca ro:PV)(ρ:ie)
  (kC:ρ=Je T (I.text c o) a b rc d (.str (P (I.t k))) de ca ro (.int (c k:Int))\/∃wi,ρ=Ag T (I.text c o) a b rc d (.str (P (I.t k))) de ca ro (.int (c k:Int)) wi):
  ∃a b d wi,j_ (gT ((ev (n+20)).S (ir "_law_sent")) JI) (ir "_law_sent") Pb (fun _=>true) (iU 0 (o.map (I.rw c))) ρ (p9 I o HL SL)=
   some (.next,Ag T (I.text (I.upd c k) o) a b rc d (.str (P (I.t k))) de ca ro (.int (c k:Int)) wi,p9 I o HL SL):=by
 have hg:=Pa (I:=I) (o:=o) h1 h2;have loop:=m_ (B:=gT ((ev (n+20)).S (ir "_law_sent")) JI) (sc:=ir "_law_sent") (target:=Pb) (fit:=fun _=>true)
  (fun j ρ st=>st=p9 I o HL SL/\((j=0/\ρ=Je T (I.text (I.upd c k) (o.take j)++I.text c (o.drop j)) a b rc d (.str (P (I.t k))) de ca ro (.int (c k:Int)))\/∃a b d wi,ρ=Ag T (I.text (I.upd c k) (o.take j)++I.text c (o.drop j)) a b rc d (.str (P (I.t k))) de ca ro (.int (c k:Int)) wi))
  (iU 0 (o.map (I.rw c))) 0 ρ (p9 I o HL SL) ⟨rfl,by
   rcases kC with rfl|⟨wi,rfl⟩
   ·exact .inl ⟨rfl,rfl⟩
   ·exact .inr ⟨a,b,d,wi,rfl⟩⟩ (by
   intro j v ρ st hv hI;rw[bz]at hI;obtain⟨rfl,kC⟩:=hI;obtain⟨x,hx,rfl⟩:=uT _ _ _ _ hv;rw[br]at hx;obtain⟨i,hi,rfl⟩:=aq.mp hx;obtain⟨jQ,VP⟩:=aF.mp hi;have Ye:i<7:=ho i (by rw[<-VP];exact gu _);have e1:o.take (j+1)=o.take j++[i]:=by rw[bV jQ,VP]
   have e2:o.drop j=i::o.drop (j+1):=by rw[bq jQ,VP]
   have yD:0+(textOf ((o.map (I.rw c)).take j)).length=(I.text (I.upd c k) (o.take j)).length:=by
    rw[bz,<-List.map_take];exact I.text_same _ _ _
   rw[yD];have hX:I.text (I.upd c k) (o.take j)++I.text c (o.drop j)=I.text (I.upd c k) (o.take j)++(lF (c i)++(pP (I.r i) (I.s i) (I.b i)++I.text c (o.drop (j+1)))):=by rw[e2,I.text_cons]
   have Z5:I.text (I.upd c k) (o.take (j+1))++I.text c (o.drop (j+1))=(I.text (I.upd c k) (o.take j)++lF (I.upd c k i))++(pP (I.r i) (I.s i) (I.b i)++I.text c (o.drop (j+1))):=by
    rw[e1,I.text_app,I.text_one];simp only[cE]
   have DK:=iy.text_len ok (I.upd c k) (o.take j) fun i hi=>ho i (cU hi);have S5:=iy.text_len ok c (o.drop j) fun i hi=>ho i (List.mem_of_mem_drop hi);rw[bI]at DK;rw[bH]at S5;rw[e2,I.text_cons,aB]at S5;rw[bz (j+1),Z5];rw[hX]at kC;generalize I.text (I.upd c k) (o.take j)=pre at*;generalize pP (I.r i) (I.s i) (I.b i)++I.text c (o.drop (j+1))=post at*;have hw:=ok.way i Ye;have kD:(ev (n+15)).C "_law_steps" [.str (P (I.w i)),.str (P (I.t k))] [] (p9 I o HL SL)=some (.int (kP (I.w i) (I.t k)),p9 I o HL SL):=frame hg (JP n (I.w i) (I.t k) hw ((ok.way k hk).up _)) rfl rfl rfl;have VT:(ev (n+15)).C "_law_figures" [.int ((c i-c k:Nat):Int)] [] (p9 I o HL SL)=some (.str (lF (c i-c k)),p9 I o HL SL):=frame hg (Gx (n+6) (c i-c k)) rfl rfl rfl;have ni:i∈o:=bL hi;have qS:gZ (p9 I o HL SL) (.dct 1) (.str (I.s i))=some (.str (P (I.w i))):=I.lookup ok o ho i ni Ye;have j7:iR (p9 I o HL SL) "max" [.int ((c i:Int)-(c k:Int)),.int 0]=some (.int ((c i-c k:Nat):Int)):=by
    show some (PV.int (max ((c i:Int)-(c k:Int)) 0))=_;congr 2;omega
   have r_:jj (p9 I o HL SL) (.str (pre++(lF (c i)++post))) none (some (pre.length:Int)) none=some (.str pre):=by
    rw[ri,gp]
   have tM:jj (p9 I o HL SL) (.str (pre++(lF (c i)++post))) (some ((pre.length:Int)+4)) none none=some (.str post):=by
    have:=qu (p9 I o HL SL) (pre++(lF (c i)++post)) (pre.length+4);rw[show((pre.length+4:Nat):Int)=(pre.length:Int)+4 by omega]at this;rw[this,<-cE];have e:pre.length+4=(pre++lF (c i)).length:=by rw[aB];rfl
    rw[e,List.drop_left]
   have RW:∀x,(lF x).length=4:=fun _=>rfl;have R6:=nH (p9 I o HL SL) (x:=pre) (y:=lF (c i-c k)) (by omega) (by rw[RW];decide);have Wa:=nH (p9 I o HL SL) (x:=pre++lF (c i-c k)) (y:=post) (by rw[aB,RW];omega) (by omega);have turn:=fun(cc:PV)=>Im n T (pre++(lF (c i)++post)) pre post (lF (c i-c k)) (P (I.w i)) (P (I.t k)) (I.s i) (pre.length:Int) (c i:Int) (c k:Int) (I.r i:Int) (kP (I.w i) (I.t k)) ((c i-c k:Nat):Int) cc de ca ro (p9 I o HL SL) qS kD VT j7 r_ tM R6 Wa;have Al:(if 0<(c i:Int)/\kP (I.w i) (I.t k)<=(I.r i:Int)then(pre++lF (c i-c k))++post else pre++(lF (c i)++post))=(pre++lF (I.upd c k i))++post:=by
    unfold iy.upd;by_cases q:kP (I.w i) (I.t k)<=(I.r i:Int)
    ·rw[aQ q];by_cases q2:0<(c i:Int)
     ·rw[aQ ⟨q2,q⟩]
     ·rw[aD fun z=>q2 z.1];have:c i=0:=by omega
      rw[this,Nat.zero_sub,cE]
    ·rw[aD q,aD fun z=>q z.2,cE]
   rw[Al]at turn;rcases kC with⟨_,rfl⟩|⟨a,b,d,wi,rfl⟩
   ·exact⟨_,_,_,_,rfl,turn _,.inl rfl,rfl,rfl,.inr ⟨_,_,_,_,rfl⟩⟩
   ·exact⟨_,_,_,_,rfl,turn _,.inl rfl,rfl,rfl,.inr ⟨_,_,_,_,rfl⟩⟩)
 obtain⟨ji,gV,q1,rfl,q3⟩:=loop;rw[oG,aH,bz,bT (aV _),dQ (aV _)]at q3;have e0:I.text c []=[]:=rfl;rw[e0,cI]at q3;rcases q3 with⟨q3,_⟩|⟨a,b,d,wi,rfl⟩
 ·omega
 ·exact⟨a,b,d,wi,q1⟩
def kF:Expr->Expr
 | .Call _ (a::_) _ _=>a
 |_=>default
abbrev UO:Expr:=kF (Jc (DJ "_law_sent" 6) 2)
def uY(f:PV->Option PV)(hf:∀s,f (.int s)=some (.int s)):∀L:List Int,kj f (L.map .int)=some (L.map .int)
 |[]=>rfl
 |s::L=>by simp only[aL,kj,hf,ao,uY f hf L,au]
def WR(A B C:jv)(L:List PV)(v:PV)(h:L.length<=1000):putL 3 v [A,B,C,.lst L]=some [A,B,C,.lst (L++[v])]:=by
 show(if iP L=true then some ([A,B,C,.lst L].set 3 (.lst (L++[v])))else none)=_;rw[aQ (by unfold iP yE;exact aT (by omega))];rfl
def zL(I:iy)(n:Nat)(c:Nat->Nat)(s:ah)(A B C:jv)(fit:St->Bool)(jW:∀st,fit st=true):∀(l:ah)(acc:List Int)(p:Nat)(ρ:ie),acc.length+l.length<=1000->
  (ρ=([("called",.str s)]:ie)\/∃a b d e,ρ=([("called",.str s),("start",a),("need",b),("wide",d),("string",e)]:ie))->
  jl (ev (n+19)) (nj UO) (putL 3) (kE UO) (pN UO) (pO UO) fit (iU p (l.map (I.rw c))) ρ [A,B,C,.lst (acc.map .int)]=some [A,B,C,.lst ((acc++(l.filter (fun i=>I.s i==s)).map (fun i=>(c i:Int))).map .int)]
 |[],acc,p,ρ,_,_=>by
  show _=some [A,B,C,.lst ((acc++([]:List Int)).map .int)];rw[cI];rfl
 |i::l,acc,p,ρ,hl,kC=>by
  rw[aE]at hl;have ih:=zL I n c s A B C fit jW l;have hc:iN [A,B,C,.lst (acc.map .int)] .Eq (.str (I.s i)) (.str s)=some (I.s i==s):=rfl;have e:iU p ((i::l).map (I.rw c))= .tup [.int (p:Int),.int (c i:Int),.int (I.r i:Int),.str (I.s i)]::iU (p+(tN (I.rw c i)).length) (l.map (I.rw c)):=rfl;rw[e];by_cases h:I.s i=s
  ·rw[aR.mpr h]at hc;have yG:=WR A B C (acc.map .int) (.int (c i:Int)) (by rw[aH];omega);have e2:acc.map PV.int++[PV.int (c i:Int)]=(acc++[(c i:Int)]).map .int:=by simp
   rw[e2]at yG;have e3:acc++((i::l).filter (fun i=>I.s i==s)).map (fun i=>(c i:Int))=(acc++[(c i:Int)])++(l.filter (fun i=>I.s i==s)).map (fun i=>(c i:Int)):=by
    rw[ck (by simpa using h)];simp
   rw[e3];have yz:(acc++[(c i:Int)]).length+l.length<=1000:=by rw[aB,cy];omega
   rcases kC with rfl|⟨a,b,d,e,rfl⟩
   all_goals exact qO (by rfl) (vh (i6 (h:=jg (by rfl) (by exact hc)))) (by rfl) (by exact yG) (jW _) (ih _ _ _ yz (.inr ⟨_,_,_,_,rfl⟩))
  ·rw[aO.mpr h]at hc;rw[cu (by simpa using h)];rcases kC with rfl|⟨a,b,d,e,rfl⟩
   all_goals exact AB (by rfl) (vh (i6 (h:=jg (by rfl) (by exact hc)))) (jW _) (ih _ _ _ (by omega) (.inr ⟨_,_,_,_,rfl⟩))
def Dq{A B C:jv}(h:[A,B,C].all (iu 3)=true)(L:List Int):finish 3 [A,B,C,.lst (L.map .int)] (.lst 3)=some (.list (L.map .int),[A,B,C]):=by
 unfold finish;have h1:ia [A,B,C,.lst (L.map .int)] 3 6 (.lst 3)=some (.list (L.map .int)):=by
  show(kj (ia [A,B,C,.lst (L.map .int)] 3 5) (L.map PV.int)).map PV.list=_;rw[uY (ia [A,B,C,.lst (L.map .int)] 3 5) (fun s=>rfl)];rfl
 rw[h1,aQ (by show(true&&[A,B,C].all (iu 3))=true;rw[h];rfl)];rfl
def ye{I:iy}(ok:I.ok)(k:Nat)(hk:k<7):∀(o:ah),(∀i∈o,i<7)->o.Nodup->k∈o->o.filter (fun i=>I.s i==I.s k)=[k]
 |[],_,_,h=>by cases h
 |a::o,ho,hn,h=>by
  rw[eG]at hn;by_cases e:a=k
  ·subst e;rw[ck (by simp)];congr 1;rw[dP];intro b hb q;have:b=a:=I.s_inj ok b a (ho b (ay _ hb)) hk (by simpa using q);exact hn.1 (this▸hb)
  ·rw[cu (by simp only[aR];intro q;exact e (I.s_inj ok a k (ho a (by simp)) hk q))];exact ye ok k hk o (fun i hi=>ho i (ay _ hi)) hn.2 ((aY.mp h).resolve_left fun q=>e q.symm)
def iy.pvS(I:iy)(x:Nat×Nat):PV:=.tup [.int (x.1:Int),.str (P (I.t x.2)),.str (P (I.w x.2)),.int (I.r x.2:Int)]
def AD(I:iy)(m:Nat):∀l:List (Nat×Nat),h_ m (l.map I.pvS)=true
 |[]=>rfl
 |x::l=>by
  show(true&&h_ m (l.map I.pvS))=true;rw[AD I m l];rfl
inductive Ao(T X:ah):ie->Prop where
 |z (a b c d e):Ao T X (PS T X a b c d e)
 |v (a b c d e de ca ro mu):Ao T X (Je T X a b c d e de ca ro mu)
 |w (a b c d e de ca ro mu wi):Ao T X (Ag T X a b c d e de ca ro mu wi)
def Lb{I:iy}(ok:I.ok)(n:Nat)(T:ah)(c:Nat->Nat)(hc:∀i,c i<55296)(o:ah)(ho:∀i∈o,i<7)(hn:o.Nodup)(hl:o.length=7)(k:Nat)(hk:k∈o)(HL BP:List PV)(S:List (Nat×Nat))(h1:h_ 3 BP=true)
  (G0:(ev (n+20)).C "_heappop_max" [.lst 0] [] (p9 I o HL (S.map I.pvS))=some (jG (I.hp k),p9 I o BP (S.map I.pvS))) (ρ:ie) (kC:Ao T (I.text c o) ρ):
  ∃a b d kJ,(∀Rs,gT ((ev (n+22)).S (ir "_law_sent")) ((DJ "_law_sent" 6).drop 3) kJ (p9 I o BP (S.map I.pvS))=some Rs->gT ((ev (n+22)).S (ir "_law_sent")) (DJ "_law_sent" 6) ρ (p9 I o HL (S.map I.pvS))=some Rs)/\
   (kJ=Je T (I.text c o) a b (.int (I.r k:Int)) d (.str (P (I.t k))) (.int ((I.t k).length:Int)) (.str (I.s k)) (.list (iU 0 (o.map (I.rw c)))) (.int (c k:Int))\/∃wi,kJ=Ag T (I.text c o) a b (.int (I.r k:Int)) d (.str (P (I.t k))) (.int ((I.t k).length:Int)) (.str (I.s k)) (.list (iU 0 (o.map (I.rw c)))) (.int (c k:Int)) wi):=by
 have yZ:=ho k hk;have hg:=Pa (I:=I) (o:=o) h1 (AD I 3 S);have Fq:(ev (n+20)).C "_law_read" [.str (I.text c o)] [] (p9 I o BP (S.map I.pvS))=some (.list (iU 0 (o.map (I.rw c))),p9 I o BP (S.map I.pvS)):=
  frame hg (xw (n+6) (o.map (I.rw c)) (by
   intro x hx;obtain⟨i,hi,rfl⟩:=b_.mp hx;exact I.rw_ok ok c hc i (ho i hi)) (by rw[aH];omega)) rfl rfl (by show h_ 0 _=true;exact rZ _ _ _)
 have i0:=fun fit jW=>zL I n c (I.s k) (.lst BP) (.dct (I.D o)) (.lst (S.map I.pvS)) fit jW o [] 0 _ (by rw[bB];omega) (.inl rfl);rw[ye ok k yZ o ho hn hk]at i0;have jD:=Dq (A:=.lst BP) (B:=.dct (I.D o)) (C:=.lst (S.map I.pvS)) hg ([]++[k].map fun i=>(c i:Int));have vS:∀st,iR st "sum" [.list (([]++[k].map fun i=>(c i:Int)).map .int)]=some (.int (c k:Int)):=fun st=>by
  show some (PV.int ((c k:Int)+0))=_;rw[Int.add_zero]
 have e2:jG (I.hp k)= .tup [.int ((I.t k).length:Int),.str (I.s k),.str (P (I.t k)),.int (I.r k:Int)]:=rfl;rw[e2]at G0;unfold p9 at*;generalize iU 0 (o.map (I.rw c))=R at*;generalize P (I.t k)=pt at*;generalize I.s k=s at*;generalize I.text c o=X at*;cases kC<;>exact⟨_,_,_,_,fun Rs hR=>gO (gK (h:=iH (h:=by exact G0)))
  (gO (gK (h:=iH (h:=by exact Fq)))
  (gO (gK (h:=jw (g:=gX (by rfl) (ju (a:=by exact i0 _ (fun _=>rfl)) (h:=by exact jD)) iZ) (h:=by exact vS _))) (by exact hR))),
  by first|exact .inl rfl|exact .inr ⟨_,rfl⟩⟩
def HF{I:iy}(ok:I.ok)(n:Nat)(T:ah)(c:Nat->Nat)(hc:∀i,c i<55296)(o:ah)(ho:∀i∈o,i<7)(hn:o.Nodup)(hl:o.length=7)(k:Nat)(hk:k∈o)(HL BP:List PV)(S:List (Nat×Nat))(hS:S.length<=100)(h1:h_ 3 BP=true)
  (G0:(ev (n+20)).C "_heappop_max" [.lst 0] [] (p9 I o HL (S.map I.pvS))=some (jG (I.hp k),p9 I o BP (S.map I.pvS))) (ρ:ie) (kC:Ao T (I.text c o) ρ):
  ∃ji,Ao T (I.text (if 0<c k then I.upd c k else c) o) ji/\gT ((ev (n+22)).S (ir "_law_sent")) (DJ "_law_sent" 6) ρ (p9 I o HL (S.map I.pvS))=some (.next,ji,p9 I o BP ((if 0<c k then S++[(c k,k)]else S).map I.pvS)):=by
 obtain⟨a,b,d,kJ,DT,hf⟩:=Lb ok n T c hc o ho hn hl k hk HL BP S h1 G0 ρ kC;have yZ:=ho k hk;have qS:∀S,gZ (p9 I o BP S) (.dct 1) (.str (I.s k))=some (.str (P (I.w k))):=fun S=>I.lookup ok o ho k hk yZ;have DH:methP (p9 I o BP (S.map I.pvS)) (.lst 2) "append" [.tup [.int (c k:Int),.str (P (I.t k)),.str (P (I.w k)),.int (I.r k:Int)]]=some (.none,p9 I o BP ((S++[(c k,k)]).map I.pvS)):=by
  have:=append_at (p9 I o BP (S.map I.pvS)) 2 (S.map I.pvS) (I.pvS (c k,k)) rfl (by rw[aH];omega);rw[bR];exact this
 have BN:∀st,iN st .Gt (.int (c k:Int)) (.int 0)=some (decide (0<(c k:Int))):=fun st=>rfl;by_cases uB:0<c k
 ·rw[aQ uB,aQ uB];rw[aT (by omega)]at BN;obtain⟨a',b',d',YO,ZQ⟩:=Io ok n T c hc o ho hl k yZ BP ((S++[(c k,k)]).map I.pvS) h1 (AD I 3 _) a b (.int (I.r k:Int)) d (.int ((I.t k).length:Int)) (.str (I.s k)) (.list (iU 0 (o.map (I.rw c)))) kJ hf;refine⟨_,.w a' b' (.int (I.r k:Int)) d' (.str (P (I.t k))) (.int ((I.t k).length:Int)) (.str (I.s k)) (.list (iU 0 (o.map (I.rw c)))) (.int (c k:Int)) YO,DT _ ?_⟩;unfold Je Ag at hf;unfold p9 at*;generalize iU 0 (o.map (I.rw c))=R at*;generalize P (I.t k)=pt at*;generalize P (I.w k)=pw at*;generalize I.s k=s at*;generalize I.text c o=X at*;rcases hf with rfl|⟨wi,rfl⟩<;>exact gO (oX (i6 (h:=jg (by rfl) (by exact BN _)))
     (gO (jX (by rfl) (iW (g:=gX (by rfl) (o8 (gX (by rfl) (by rfl) (gX (by rfl) (by rfl) (gX (by rfl) (iC (h:=by exact qS _)) (by rfl)))) (by rfl)) iZ) (h:=by exact DH)))
     (gO (qU (by rfl) (by rfl) (by rfl) (by exact ZQ)) iX))) iX
 ·rw[aD uB,aD uB];rw[bP (by omega)]at BN;refine⟨kJ,?_,DT _ ?_⟩
  ·rcases hf with rfl|⟨wi,rfl⟩<;>first|exact .v _ _ _ _ _ _ _ _ _|exact .w _ _ _ _ _ _ _ _ _ _
  ·rcases hf with rfl|⟨wi,rfl⟩<;>exact gO (lN (i6 (h:=jg (by rfl) (by exact BN _))) (by rfl)) iX
def Q2{n:Nat}{sc:Scope}{ρ:ie}{st st1:St}{p q p1:Pos}{x:PV}{f:Str}{target a:Expr}{body:List Stmt}{l:List PV}{R:iE×ie×St}(h1:(f==("reversed":Str))=false)(h2:(f==("enumerate":Str))=false)(h:(ev n).E sc (.Call (.Name f q) [a] [] p) ρ st=some (x,st1))(hc:gM st1 x=some l)
  (k:j_ (gT ((ev n).S sc) body) sc target (iM x st1) l ρ st1=some R):
  (ev (n+1)).S sc (.For target (.Call (.Name f q) [a] [] p) body [] p1) ρ st=some R:=by
 have e1:kG (ev n) sc (.For target (.Call (.Name f q) [a] [] p) body [] p1) ρ st=((ev n).E sc (.Call (.Name f q) [a] [] p) ρ st).bind fun q=>(gM q.2 q.1).bind fun l=>j_ (gT ((ev n).S sc) body) sc target (iM q.1 q.2) l ρ q.2:=by
  simp only[kG];rw[h1,h2];cases iY f ρ<;>cases iw sc f<;>first|rfl|(rename_i kd;cases kd<;>rfl)
 rw[wK,e1];simp only[h,hc,ao];exact k
def ug{α β:Type}{f:α->β}{l m:List β}(h:l.Perm m):∀ks:List α,m=ks.map f->∃jt:List α,jt.Perm ks/\l=jt.map f:=by
 induction h with
 |nil=>intro ks hk;exact⟨ks,.refl _,hk⟩
 |cons x h ih=>
  intro ks hk;cases ks with
  |nil=>cases hk
  |cons a ks=>
   rw[aL,dZ]at hk;obtain⟨jt,h1,h2⟩:=ih ks hk.2;exact⟨a::jt,h1.cons a,by rw[aL,<-h2,hk.1]⟩
 |swap x y l=>
  intro ks hk
  match ks,hk with
  |a::b::ks,hk=>
   simp only[aL,dZ]at hk;exact⟨b::a::ks,List.Perm.swap .., by simp[hk.1,hk.2.1,hk.2.2]⟩
 |trans h1 h2 Vu Vt=>
  intro ks hk;obtain⟨jt,h3,h4⟩:=Vt ks hk;obtain⟨Aj,h5,h6⟩:=Vu jt h4;exact⟨Aj,h5.trans h3,h6⟩
def iy.stp(I:iy)(cs:(Nat->Nat)×List (Nat×Nat))(k:Nat):(Nat->Nat)×List (Nat×Nat):=(if 0<cs.1 k then I.upd cs.1 k else cs.1,if 0<cs.1 k then cs.2++[(cs.1 k,k)]else cs.2)
def JO(I:iy)(c:Nat->Nat)(k i:Nat):I.upd c k i<=c i:=by
 unfold iy.upd;split<;>omega
def zQ(n:Nat)(T X:ah)(ρ:ie)(kC:Ao T X ρ)(rest:St)(HL:List PV):(ev (n+22)).T (ir "_law_sent") (OE "_law_sent" 6) ρ (.lst HL::rest)=some (!HL.isEmpty,.lst HL::rest):=by
 cases kC<;>exact mO (by rfl) (by rfl) (by rfl)
def zA{I:iy}(ok:I.ok)(n:Nat)(T:ah)(o:ah)(ho:∀i∈o,i<7)(hn:o.Nodup)(hl:o.length=7):∀(fuel:Nat)(Hk:ah)(c:Nat->Nat)(S:List (Nat×Nat))(ρ:ie),Hk.length<fuel->Hk.length<=7->sd 0 (Hk.map I.hp)->(∀k∈Hk,k∈o)->(∀i,c i<55296)->S.length+Hk.length<=100->Ao T (I.text c o) ρ->
  ∃(ks:ah)(ji:ie),ks.Perm Hk/\ks.Pairwise (fun i j=>(I.t j).length<=(I.t i).length)/\Ao T (I.text (ks.foldl I.stp (c,S)).1 o) ji/\
   jR ((ev (n+22)).T (ir "_law_sent") (OE "_law_sent" 6)) (gT ((ev (n+22)).S (ir "_law_sent")) (DJ "_law_sent" 6)) fuel ρ (p9 I o ((Hk.map I.hp).map jG) (S.map I.pvS))=some (.next,ji,p9 I o [] ((ks.foldl I.stp (c,S)).2.map I.pvS))
 |0,Hk,_,_,_,h,_,_,_,_,_,_=>by omega
 |fuel+1,[],c,S,ρ,_,_,_,_,_,_,kC=>⟨[],ρ,.refl _,.nil,kC,wW (zQ n T _ ρ kC _ _)⟩
 |fuel+1,a::Hk,c,S,ρ,hf,h7,hH,hm,hc,hS,kC=>by
  have ht:=zQ n T _ ρ kC [.dct (I.D o),.lst (S.map I.pvS)] (((a::Hk).map I.hp).map jG);have hr:([.dct (I.D o),.lst (S.map I.pvS)]:St).all (iu 3)=true:=by
   show(iu 3 (.dct (I.D o))&&(h_ 3 (S.map I.pvS)&&true))=true;rw[w6,AD];rfl
  obtain⟨m,H',G0,kQ,hH',j7⟩:=NY (n+7) ((a::Hk).map I.hp) [.dct (I.D o),.lst (S.map I.pvS)] hr (by rw[aH];exact h7) (by simp) hH;obtain⟨jt,qQ,GU⟩:=ug kQ (a::Hk) rfl;cases jt with
  |nil=>cases GU
  |cons k YG=>
   rw[aL,dZ]at GU;obtain⟨rfl,rfl⟩:=GU;have iK:=qQ.length_eq;simp only[aE]at iK hf h7 hS;have VJ:k∈o:=hm k (qQ.subset (by simp));obtain⟨kJ,W2,hb⟩:=HF ok n T c hc o ho hn hl k VJ _ ((YG.map I.hp).map jG) S (by omega) (rq _ _) G0 ρ kC;obtain⟨ks,ji,q1,q2,q3,q4⟩:=zA ok n T o ho hn hl fuel YG (if 0<c k then I.upd c k else c) (if 0<c k then S++[(c k,k)]else S) kJ (by omega) (by omega) hH' (fun i hi=>hm i (qQ.subset (ay _ hi)))
    (fun i=>by
     split
     ·exact Nat.lt_of_le_of_lt (JO I c k i) (hc i)
     ·exact hc i)
    (by split<;>(try simp only[aB,cy])<;>omega) W2
   refine⟨k::ks,ji,(q1.cons k).trans qQ,?_,q3,BV ht hb (.inl rfl) q4⟩;rw[eZ];refine⟨fun j hj=> ?_,q2⟩;exact j7 (I.hp j) (List.mem_map_of_mem (q1.subset hj))
def vI(I:iy)(st:St):∀S:List (Nat×Nat),kj (ia st 0 4) (S.map I.pvS)=some (S.map I.pvS)
 |[]=>rfl
 |x::S=>by
  have h:ia st 0 4 (I.pvS x)=some (I.pvS x):=rfl;simp only[aL,kj,h,ao,vI I st S,au]
def LF{I:iy}(ok:I.ok)(n:Nat)(c:Nat->Nat)(hc:∀i,c i<55296)(o:ah)(ho:∀i∈o,i<7)(hn:o.Nodup)(hl:o.length=7):
  ∃ks:ah,ks.Perm o/\ks.Pairwise (fun i j=>(I.t j).length<=(I.t i).length)/\
   (ev (n+24)).C "_law_sent" [.str (I.text c o)] [] []=some (.tup [.list ((ks.foldl I.stp (c,[])).2.map I.pvS),.str (I.text (ks.foldl I.stp (c,[])).1 o)],[]):=by
 have Fq:=xw (n+8) (o.map (I.rw c)) (by
   intro x hx;obtain⟨i,hi,rfl⟩:=b_.mp hx;exact I.rw_ok ok c hc i (ho i hi)) (by rw[aH];omega)
 have Fq:(ev (n+21)).C "_law_read" [.str (I.text c o)] [] [.lst [],.dct []]=some (.list (iU 0 (o.map (I.rw c))),[.lst [],.dct []]):=
  frame rfl (xw (n+7) (o.map (I.rw c)) (by
   intro x hx;obtain⟨i,hi,rfl⟩:=b_.mp hx;exact I.rw_ok ok c hc i (ho i hi)) (by rw[aH];omega)) rfl rfl (by show h_ 0 _=true;exact rZ _ _ _)
 obtain⟨a,b,cc,d,e,zc⟩:=Hj ok n (I.text c o) c o ho hn hl;have hr:([.dct (I.D o)]:St).all (iu 2)=true:=by
  show(iu 2 (.dct (I.D o))&&true)=true;rw[w6];rfl
 obtain⟨H',ZO,kQ,hH⟩:=NZ (n+8) (o.map I.hp) [.dct (I.D o)] hr (by rw[aH];exact hl);obtain⟨Hk,qQ,rfl⟩:=ug kQ o rfl;have iK:=qQ.length_eq;obtain⟨ks,ji,q1,q2,q3,q4⟩:=zA ok n (I.text c o) o ho hn hl 40 Hk c [] (PS (I.text c o) (I.text c o) a b cc d e) (by omega) (by omega) hH (fun k hk=>qQ.subset hk) hc (by simp;omega) (.z _ _ _ _ _);refine⟨ks,q1.trans qQ,q2,?_⟩;have jD:finish 0 (p9 I o [] ((ks.foldl I.stp (c,[])).2.map I.pvS)) (.tup [.lst 2,.str (I.text (ks.foldl I.stp (c,[])).1 o)])=some (.tup [.list ((ks.foldl I.stp (c,[])).2.map I.pvS),.str (I.text (ks.foldl I.stp (c,[])).1 o)],[]):=by
  have h2:ia (p9 I o [] ((ks.foldl I.stp (c,[])).2.map I.pvS)) 0 5 (.lst 2)=some (.list ((ks.foldl I.stp (c,[])).2.map I.pvS)):=by
   show(kj (ia (p9 I o [] ((ks.foldl I.stp (c,[])).2.map I.pvS)) 0 4) ((ks.foldl I.stp (c,[])).2.map I.pvS)).map PV.list=_;rw[vI];rfl
  show(((ia (p9 I o [] ((ks.foldl I.stp (c,[])).2.map I.pvS)) 0 5 (.lst 2)).bind fun x=>((some [PV.str _]).map (x:: ·))).map PV.tup).map (fun v=>(v,([]:St)))=_;rw[h2];rfl
 have Sp:∃v1 v2,iY "sent" ji=some v1/\iY "text" ji=some v2/\v1= .lst 2/\v2= .str (I.text (ks.foldl I.stp (c,[])).1 o):=by
  cases q3<;>exact⟨_,_,rfl,rfl,rfl,rfl⟩
 obtain⟨_,_,r_,tM,rfl,rfl⟩:=Sp;have q4:jR ((ev (n+22)).T (ir "_law_sent") (OE "_law_sent" 6)) (gT ((ev (n+22)).S (ir "_law_sent")) (DJ "_law_sent" 6)) 40 (PS (I.text c o) (I.text c o) a b cc d e) [.lst ((Hk.map I.hp).map jG),.dct (I.D o),.lst []]=_:=q4;generalize I.text c o=T at*;generalize I.text (ks.foldl I.stp (c,[])).1 o=T' at*;generalize (ks.foldl I.stp (c,[])).2.map I.pvS=SL at*;generalize iU 0 (o.map (I.rw c))=R at*;unfold p9 at*;generalize I.D o=D at*;generalize (Hk.map I.hp).map jG=HL at*;generalize (o.map I.hp).map jG=HL0 at*;exact jV (k:=gO (gK (h:=by rfl)) (gO (gK (h:=by rfl)) (gO (gK (h:=by rfl))
  (gO (Q2 (by rfl) (by rfl) (iH (h:=by exact Fq)) (by rfl) (by exact zc))
  (gO (jX (by rfl) (iH (h:=by exact ZO)))
  (gO (gK (h:=by rfl))
  (gO (rO (by exact q4))
  (ku (o8 (gX (by rfl) (uI (by rfl) (by unfold oZ;rw[r_])) (gX (by rfl) (uI (by rfl) (by unfold oZ;rw[tM])) iZ)) (by rfl)))))))))) (h:=by exact jD)
def iy.pvP(I:iy)(k:Nat):PV:=.tup [.str (P (I.w k)),.int (I.r k:Int)]
def iy.far(I:iy)(acc:ah)(k:Nat):Bool:=acc.all fun j=>decide ((I.r j:Int)<kP (I.w j) (I.t k))
def iy.pk(I:iy)(acc:ah)(k:Nat):ah:=if I.far acc k then acc++[k]else acc
def TG(l:List Stmt)(i:Nat):Expr:=match l[i]? with
 |some (.If t _ _ _)=>t
 |_=>default
def SY(f:Str)(i:Nat):Expr:=match fnOf f with
 |some (_,b,_)=>match b[i]? with
  |some (.Return (some e) _)=>e
  |_=>default
 |none=>default
abbrev MR:Expr:=kF (TG (jP "_law_picked" 1) 0)
abbrev UL:Expr:=SY "_law_picked" 2
def S1(A:jv)(L:List PV)(v:PV)(h:L.length<=1000):putL 1 v [A,.lst L]=some [A,.lst (L++[v])]:=by
 show(if iP L=true then some ([A,.lst L].set 1 (.lst (L++[v])))else none)=_;rw[aQ (by unfold iP yE;exact aT (by omega))];rfl
def DX(I:iy):∀l:ah,kT (l.map I.pvP) (l.map I.pvP)=true
 |[]=>rfl
 |k::l=>by
  show(((P (I.w k)==P (I.w k))&&(((I.r k:Int)==(I.r k:Int))&&true))&&kT (l.map I.pvP) (l.map I.pvP))=true;rw[DX I l,bJ,bJ];rfl
def AE(I:iy)(m:Nat):∀l:ah,h_ m (l.map I.pvP)=true
 |[]=>rfl
 |x::l=>by
  show(true&&h_ m (l.map I.pvP))=true;rw[AE I m l];rfl
def D9(m:Nat):∀l:List Bool,h_ m (l.map .bool)=true
 |[]=>rfl
 |x::l=>by
  show(true&&h_ m (l.map .bool))=true;rw[D9 m l];rfl
def CG{I:iy}(ok:I.ok)(n:Nat)(k:Nat)(hk:k<7)(A:ah)(fit:St->Bool)(jW:∀x,fit [.lst (A.map I.pvP),x]=true):∀(l:ah)(bs:List Bool)(ρ:ie),(∀i∈l,i<7)->bs.length+l.length<=1000->
  (ρ=([("top",.str (P (I.t k)))]:ie)\/∃a b,ρ=([("top",.str (P (I.t k))),("other",a),("wide",b)]:ie))->
  jl (ev (n+17)) (nj MR) (putL 1) (kE MR) (pN MR) (pO MR) fit (l.map I.pvP) ρ [.lst (A.map I.pvP),.lst (bs.map .bool)]=some [.lst (A.map I.pvP),.lst ((bs++l.map (fun j=>decide ((I.r j:Int)<kP (I.w j) (I.t k)))).map .bool)]
 |[],bs,ρ,_,_,_=>by
  show _=some ([.lst (A.map I.pvP),.lst ((bs++([]:List Bool)).map .bool)]:St);rw[cI];rfl
 |j::l,bs,ρ,Yb,hl,kC=>by
  rw[aE]at hl;have hj:=Yb j (by simp);have ih:=CG ok n k hk A fit jW l;have hg:Good [.lst (A.map I.pvP),.lst (bs.map .bool)]:=by
   show(h_ 2 (A.map I.pvP)&&(h_ 2 (bs.map .bool)&&true))=true;rw[AE,D9];rfl
  have kD:(ev (n+15)).C "_law_steps" [.str (P (I.w j)),.str (P (I.t k))] [] [.lst (A.map I.pvP),.lst (bs.map .bool)]=some (.int (kP (I.w j) (I.t k)),[.lst (A.map I.pvP),.lst (bs.map .bool)]):=frame hg (JP n (I.w j) (I.t k) (ok.way j hj) ((ok.way k hk).up _)) rfl rfl rfl;have hc:∀st,iN st .Gt (.int (kP (I.w j) (I.t k))) (.int (I.r j:Int))=some (decide ((I.r j:Int)<kP (I.w j) (I.t k))):=fun st=>rfl;have yG:=S1 (.lst (A.map I.pvP)) (bs.map .bool) (.bool (decide ((I.r j:Int)<kP (I.w j) (I.t k)))) (by rw[aH];omega);have e2:bs.map PV.bool++[PV.bool (decide ((I.r j:Int)<kP (I.w j) (I.t k)))]=(bs++[decide ((I.r j:Int)<kP (I.w j) (I.t k))]).map .bool:=by simp
  rw[e2]at yG;have e3:bs++(j::l).map (fun j=>decide ((I.r j:Int)<kP (I.w j) (I.t k)))=(bs++[decide ((I.r j:Int)<kP (I.w j) (I.t k))])++l.map (fun j=>decide ((I.r j:Int)<kP (I.w j) (I.t k))):=by simp
  rw[e3];have yz:(bs++[decide ((I.r j:Int)<kP (I.w j) (I.t k))]).length+l.length<=1000:=by rw[aB,cy];omega
  have e4:(j::l).map I.pvP= .tup [.str (P (I.w j)),.int (I.r j:Int)]::l.map I.pvP:=rfl;rw[e4];rcases kC with rfl|⟨a,b,rfl⟩
  all_goals exact qO (by rfl) oj (wO (by rfl) (iH (h:=by exact kD)) (jg (by rfl) (by exact hc _))) (by exact yG) (jW _) (ih _ _ (fun i hi=>Yb i (ay _ hi)) yz (.inr ⟨_,_,rfl⟩))
def sY(f:PV->Option PV)(hf:∀s,f (.bool s)=some (.bool s)):∀L:List Bool,kj f (L.map .bool)=some (L.map .bool)
 |[]=>rfl
 |s::L=>by simp only[aL,kj,hf,ao,sY f hf L,au]
def Bv{A:jv}(h:iu 1 A=true)(L:List Bool):finish 1 [A,.lst (L.map .bool)] (.lst 1)=some (.list (L.map .bool),[A]):=by
 unfold finish;have h1:ia [A,.lst (L.map .bool)] 1 6 (.lst 1)=some (.list (L.map .bool)):=by
  show(kj (ia [A,.lst (L.map .bool)] 1 5) (L.map PV.bool)).map PV.list=_;rw[sY (ia [A,.lst (L.map .bool)] 1 5) (fun s=>rfl)];rfl
 rw[h1,aQ (by show(true&&(iu 1 A&&true))=true;rw[h];rfl)];rfl
def Dp{A:jv}(h:iu 1 A=true)(L:List (ah)):finish 1 [A,.lst (L.map .str)] (.lst 1)=some (.list (L.map .str),[A]):=by
 unfold finish;have h1:ia [A,.lst (L.map .str)] 1 6 (.lst 1)=some (.list (L.map .str)):=by
  show(kj (ia [A,.lst (L.map .str)] 1 5) (L.map PV.str)).map PV.list=_;rw[nY (ia [A,.lst (L.map .str)] 1 5) (fun s=>rfl)];rfl
 rw[h1,aQ (by show(true&&(iu 1 A&&true))=true;rw[h];rfl)];rfl
def vn(l:List Bool):kR (l.map .bool)=some l:=by
 induction l with
 |nil=>rfl
 |cons a l ih=>simp only[aL,kR,ih,au]
def xV(I:iy)(n:Nat)(A:ah)(fit:St->Bool)(jW:∀x,fit [.lst (A.map I.pvP),x]=true):∀(l:ah)(acc:List (ah))(ρ:ie),acc.length+l.length<=1000->
  (ρ=([]:ie)\/∃a b,ρ=([("place",a),("reach",b)]:ie))->
  jl (ev (n+20)) (nj UL) (putL 1) (kE UL) (pN UL) (pO UL) fit (l.map I.pvP) ρ [.lst (A.map I.pvP),.lst (acc.map .str)]=some [.lst (A.map I.pvP),.lst ((acc++l.map (fun j=>P (I.w j))).map .str)]
 |[],acc,ρ,_,_=>by
  show _=some ([.lst (A.map I.pvP),.lst ((acc++([]:List (ah))).map .str)]:St);rw[cI];rfl
 |j::l,acc,ρ,hl,kC=>by
  rw[aE]at hl;have ih:=xV I n A fit jW l;have yG:=S1 (.lst (A.map I.pvP)) (acc.map .str) (.str (P (I.w j))) (by rw[aH];omega);have e2:acc.map PV.str++[PV.str (P (I.w j))]=(acc++[P (I.w j)]).map .str:=by simp
  rw[e2]at yG;have e3:acc++(j::l).map (fun j=>P (I.w j))=(acc++[P (I.w j)])++l.map (fun j=>P (I.w j)):=by simp
  rw[e3];have yz:(acc++[P (I.w j)]).length+l.length<=1000:=by rw[aB,cy];omega
  have e4:(j::l).map I.pvP= .tup [.str (P (I.w j)),.int (I.r j:Int)]::l.map I.pvP:=rfl;rw[e4];rcases kC with rfl|⟨a,b,rfl⟩
  all_goals exact qO (by rfl) oj (by rfl) (by exact yG) (jW _) (ih _ _ yz (.inr ⟨_,_,rfl⟩))
def Q7(I:iy)(acc:ah)(k:Nat):(I.pk acc k).length<=acc.length+1:=by
 unfold iy.pk;split
 ·simp
 ·omega
def DZ(I:iy):∀(l acc:ah),(∀i∈acc,i<7)->(∀i∈l,i<7)->(∀i∈l.foldl I.pk acc,i<7)/\(l.foldl I.pk acc).length<=acc.length+l.length
 |[],acc,h,_=>⟨h,by simp⟩
 |k::l,acc,h,hl=>by
  have h1:∀i∈I.pk acc k,i<7:=by
   intro i hi;unfold iy.pk at hi;split at hi
   ·rcases bl.mp hi with q|q
    ·exact h i q
    ·rw[aK.mp q];exact hl k (by simp)
   ·exact h i hi
  have h2:=Q7 I acc k;have ih:=DZ I l (I.pk acc k) h1 fun i hi=>hl i (ay _ hi);refine⟨ih.1,?_⟩;have:=ih.2;simp only[aE,c8];omega
def SW(GX:PV):ie:=[("sent",GX),("picked",.lst 0)]
def Fe(GX a b c d:PV):ie:=[("sent",GX),("picked",.lst 0),("much",a),("top",b),("place",c),("reach",d)]
def HQ{I:iy}(ok:I.ok)(n:Nat)(GX:PV)(x:Nat×Nat)(hx:x.2<7)(acc:ah)(ha:∀i∈acc,i<7)(hl:acc.length<=500):
  gT ((ev (n+21)).S (ir "_law_picked")) (jP "_law_picked" 1) (Fe GX (.int (x.1:Int)) (.str (P (I.t x.2))) (.str (P (I.w x.2))) (.int (I.r x.2:Int))) [.lst (acc.map I.pvP)]=
   some (.next,Fe GX (.int (x.1:Int)) (.str (P (I.t x.2))) (.str (P (I.w x.2))) (.int (I.r x.2:Int)),[.lst ((I.pk acc x.2).map I.pvP)]):=by
 have i0:=CG ok n x.2 hx acc (iM (.lst 0) [.lst (acc.map I.pvP)]) (fun y=>DX I acc) acc [] _ ha (by rw[bB];omega) (.inl rfl);have jD:=Bv (A:=.lst (acc.map I.pvP)) (AE I 1 acc) ([]++acc.map (fun j=>decide ((I.r j:Int)<kP (I.w j) (I.t x.2))));have nP:iR [.lst (acc.map I.pvP)] "all" [.list (([]++acc.map (fun j=>decide ((I.r j:Int)<kP (I.w j) (I.t x.2)))).map .bool)]=some (.bool (I.far acc x.2)):=by
  show(kR (([]++acc.map (fun j=>decide ((I.r j:Int)<kP (I.w j) (I.t x.2)))).map .bool)).map (fun bs=>PV.bool (bs.all id))=_;rw[vn,aS];show some (PV.bool ((acc.map _).all id))=_;rw[List.all_map];rfl
 have DH:=append_at [.lst (acc.map I.pvP)] 0 (acc.map I.pvP) (I.pvP x.2) rfl (by rw[aH];omega);have e:acc.map I.pvP++[I.pvP x.2]=(acc++[x.2]).map I.pvP:=by simp
 rw[e]at DH;have e2:I.pvP x.2= .tup [.str (P (I.w x.2)),.int (I.r x.2:Int)]:=rfl;rw[e2]at DH;unfold iy.pk;unfold Fe;generalize P (I.t x.2)=pt at*;generalize P (I.w x.2)=pw at*;cases hf:I.far acc x.2 with
 |true=>
  rw[aQ rfl];rw[hf]at nP;exact gO (oX (mO (by rfl) (jw (g:=gX (by rfl) (ju (a:=by exact i0) (h:=by exact jD)) iZ) (h:=by exact nP)) (by rfl))
   (gO (jX (by rfl) (iW (h:=by exact DH))) iX)) iX
 |false=>
  rw[aD (by simp)];rw[hf]at nP;exact gO (lN (mO (by rfl) (jw (g:=gX (by rfl) (ju (a:=by exact i0) (h:=by exact jD)) iZ) (h:=by exact nP)) (by rfl)) (by rfl)) iX
def EM{I:iy}(ok:I.ok)(n:Nat)(S:List (Nat×Nat))(hS:∀x∈S,x.2<7)(hl:S.length<=400):
  (ev (n+23)).C "_law_picked" [.list (S.map I.pvS)] [] []=some (.list (((S.reverse.map (·.2)).foldl I.pk []).map (fun k=>PV.str (P (I.w k)))),[]):=by
 have loop:=m_ (B:=gT ((ev (n+21)).S (ir "_law_picked")) (jP "_law_picked" 1)) (sc:=ir "_law_picked") (target:=mq "_law_picked" 1) (fit:=fun _=>true)
  (fun j ρ st=>st=[.lst ((((S.reverse.take j).map (·.2)).foldl I.pk []).map I.pvP)]/\(ρ=SW (.list (S.map I.pvS))\/∃a b c d,ρ=Fe (.list (S.map I.pvS)) a b c d))
  (S.map I.pvS).reverse 0 (SW (.list (S.map I.pvS))) [.lst []] ⟨rfl,.inl rfl⟩ (by
   intro j v ρ st hv hI;rw[bz]at hI;obtain⟨rfl,kC⟩:=hI;rw[<-List.map_reverse,br]at hv;obtain⟨x,hx,rfl⟩:=aq.mp hv;obtain⟨jQ,Ze⟩:=aF.mp hx;have hm:∀y∈S.reverse.take j,y.2<7:=fun y hy=>hS y (fM.mp (cU hy));have h1:=DZ I ((S.reverse.take j).map (·.2)) [] (by simp) (by
    intro i hi;obtain⟨y,hy,rfl⟩:=b_.mp hi;exact hm y hy)
   have Zf:x.2<7:=hS x (fM.mp (bL hx));have BF:(((S.reverse.take j).map (·.2)).foldl I.pk []).length<=500:=by
    have:=h1.2;simp only[aH,bI,bB,cN]at this;omega
   have turn:=HQ ok n (.list (S.map I.pvS)) x Zf _ h1.1 BF;have e:S.reverse.take (j+1)=S.reverse.take j++[x]:=by rw[bV jQ,Ze]
   rw[bz (j+1),e,bR,eE];rcases kC with rfl|⟨a,b,c,d,rfl⟩
   ·exact⟨_,_,_,_,rfl,turn,.inl rfl,rfl,rfl,.inr ⟨_,_,_,_,rfl⟩⟩
   ·exact⟨_,_,_,_,rfl,turn,.inl rfl,rfl,rfl,.inr ⟨_,_,_,_,rfl⟩⟩)
 obtain⟨ji,gV,q1,rfl,q3⟩:=loop;have e0:0+(S.map I.pvS).reverse.length=S.reverse.length:=by simp
 rw[e0,d8]at q1;have h1:=DZ I (S.reverse.map (·.2)) [] (by simp) (by
    intro i hi;obtain⟨y,hy,rfl⟩:=b_.mp hi;exact hS y (fM.mp hy))
 generalize yD:(S.reverse.map (·.2)).foldl I.pk []=pl at*;have BF:pl.length<=500:=by
  have:=h1.2;simp only[aH,bB,cN]at this;omega
 have i0:=xV I n pl (iM (.lst 0) [.lst (pl.map I.pvP)]) (fun y=>DX I pl) pl [] _ (by rw[bB];omega) (.inl rfl);have jD:=Dp (A:=.lst (pl.map I.pvP)) (AE I 1 pl) ([]++pl.map (fun j=>P (I.w j)));have Ul:finish 0 [.lst (pl.map I.pvP)] (.list (([]++pl.map (fun j=>P (I.w j))).map .str))=some (.list (([]++pl.map (fun j=>P (I.w j))).map .str),[]):=by
  show((kj (ia [.lst (pl.map I.pvP)] 0 5) (([]++pl.map (fun j=>P (I.w j))).map PV.str)).map PV.list).map (fun v=>(v,([]:St)))=_;rw[nY (ia [.lst (pl.map I.pvP)] 0 5) (fun s=>rfl)];rfl
 have e:pl.map (fun k=>PV.str (P (I.w k)))=([]++pl.map (fun j=>P (I.w j))).map .str:=by simp
 rw[e];have Sp:∀st,jj st (.list (S.map I.pvS)) none none (some (-1))=some (.list (S.map I.pvS).reverse):=fun st=>rfl;generalize (S.map I.pvS).reverse=SR at*;rcases q3 with rfl|⟨a,b,c,d,rfl⟩
 all_goals exact jV (k:=gO (gK (h:=by rfl)) (gO (qU (by rfl) (jO (by rfl) ly ly (nh (by rfl)) (by exact Sp _)) (by rfl) (by exact q1)) (ku (ju (a:=by exact i0) (h:=by exact jD))))) (h:=by exact Ul)
def lu(a:Nat->Nat)(k:Nat):List Int:=0::(wd a k).map fun(c:Nat)=>(c:Int)
def y_{a:Nat->Nat}(T:Tree a):∀(f k:Nat),k<=f->∀c∈wd a k,c<=k/\1<=c
 |f,k,hf,c,hc=>by
  cases k with
  |zero=>rw[o6]at hc;cases hc
  |succ k=>
   cases f with
   |zero=>omega
   |succ f=>
    have h1:=T (k+1) (dS k);rw[kK T (k+1) (dS k)]at hc;rcases bl.mp hc with q|q
    ·have:=y_ T f (a (k+1)) (by omega) c q;omega
    ·rw[aK]at q;omega
def Aq{a:Nat->Nat}(T:Tree a):∀(f k:Nat),k<=f->(wd a k).length<=k
 |f,k,hf=>by
  cases k with
  |zero=>simp[o6]
  |succ k=>
   cases f with
   |zero=>omega
   |succ f=>
    have h1:=T (k+1) (dS k);have ih:=Aq T f (a (k+1)) (by omega);rw[kK T (k+1) (dS k),aB,cy];omega
def Eg{a:Nat->Nat}(T:Tree a)(k:Nat)(h:0<k):lP (lu a (a k)) [(k:Int)]=lu a k:=by
 have h1:=T k h;have e:([(k:Int)].filter fun x=> !(lu a (a k)).contains x)=[(k:Int)]:=by
  rw[b7];intro x hx;rw[aK]at hx;subst hx;simp only[cC,gr,ez];unfold lu;intro q;rcases aY.mp q with q|q
  ·omega
  ·obtain⟨c,hc,e⟩:=b_.mp q;have:=y_ T (a k) (a k) (aV _) c hc;omega
 unfold lP;rw[e];unfold lu;rw[kK T k h];simp
def Ks{a:Nat->Nat}(T:Tree a)(st:St)(k:Nat)(h:0<k)(h6:k<=6):jm st .BitOr (.iset (lu a (a k))) (.iset [(k:Int)])=some (.iset (lu a k)):=by
 have h1:=T k h;have hl:(lu a (a k)).length<=20:=by
  have:=Aq T (a k) (a k) (aV _);unfold lu;simp only[aE,aH];omega
 show(if(decide ((lu a (a k)).length<=20)&&decide (1<=20))=true then(if(lu a (a k)).isEmpty=true then none else some (PV.iset (lP (lu a (a k)) [(k:Int)])))else none)=_;rw[aQ (by rw[aT hl];rfl),Eg T k h];rfl
def QW{n:Nat}{sc:Scope}{ρ:ie}{st:St}{p:Pos}{a:Expr}{i:Int}(hs:jx a=false)(h:(ev n).E sc a ρ (st++[.bs none])=some (.int i,st++[.bs none]))(hg:Good st):(ev (n+1)).E sc (.Set [a] 0 p) ρ st=some (.iset [i],st):=by
 have e1:(st++[jv.bs none])[st.length]? =some (.bs none):=by simp
 have e2:(st++[jv.bs none]).take st.length=st:=by simp
 have e3:(decide (st.length<=(st++[jv.bs none]).length)&&st.all (iu st.length))=true:=by
  rw[show st.all (iu st.length)=true from hg];simp
 simp only[oh,iI,hs,az,a_,h,ao,e1,e2];rw[aQ e3]
def Kc(m:Nat):∀L:List (List Int),h_ m (L.map .iset)=true
 |[]=>rfl
 |x::L=>by
  show(true&&h_ m (L.map .iset))=true;rw[Kc m L];rfl
def x6(f:PV->Option PV)(hf:∀s,f (.iset s)=some (.iset s)):∀L:List (List Int),kj f (L.map .iset)=some (L.map .iset)
 |[]=>rfl
 |s::L=>by simp only[aL,kj,hf,ao,x6 f hf L,au]
def l_(a:Nat->Nat)(j:Nat):List PV:=((List.range j).map (lu a)).map .iset
def G_{a:Nat->Nat}(T:Tree a)(n:Nat)(ab:PV)(k:Nat)(h:0<k)(h6:k<=6)(R3:∀st,gZ st ab (.int (k:Int))=some (.int (a k:Int))):
  gT ((ev (n+6)).S (ir "_law_ways")) (jP "_law_ways" 1) [("above",ab),("ways",.lst 0),("k",.int (k:Int))] [.lst (l_ a k)]=some (.next,([("above",ab),("ways",.lst 0),("k",.int (k:Int))]:ie),[.lst (l_ a (k+1))]):=by
 have hg:Good [.lst (l_ a k)]:=by
  show(h_ 1 (l_ a k)&&true)=true;unfold l_;rw[Kc];rfl
 have qS:gZ [.lst (l_ a k)] (.lst 0) (.int (a k:Int))=some (.iset (lu a (a k))):=by
  show idx (l_ a k) (a k:Int)=_;unfold l_;rw[bw];exact pZ (fun j=>PV.iset (lu a j)) k (a k) (T k h)
 have uC:=Ks T [.lst (l_ a k)] k h h6;have DH:=append_at [.lst (l_ a k)] 0 (l_ a k) (.iset (lu a k)) rfl (by unfold l_;simp;omega);have e:l_ a k++[.iset (lu a k)]=l_ a (k+1):=by
  unfold l_;rw[eH,bR,bR];rfl
 rw[e]at DH;exact gO (jX (by rfl) (iW (g:=gX (by rfl) (iD (iC (d:=iC (h:=by exact R3 _)) (h:=by exact qS)) (QW (by rfl) (by rfl) (by exact hg)) (by exact uC)) iZ) (h:=by exact DH))) iX
def WC{a:Nat->Nat}(T:Tree a)(n:Nat)(ab:PV)(R3:∀k:Nat,k<7->∀st,gZ st ab (.int (k:Int))=some (.int (a k:Int))):(ev (n+8)).C "_law_ways" [ab] [] []=some (.list (gU fun k=>.iset (lu a k)),[]):=by
 have loop:=m_ (B:=gT ((ev (n+6)).S (ir "_law_ways")) (jP "_law_ways" 1)) (sc:=ir "_law_ways") (target:=mq "_law_ways" 1) (fit:=fun _=>true)
  (fun j ρ st=>st=[.lst (l_ a (j+1))]/\(ρ=([("above",ab),("ways",.lst 0)]:ie)\/∃k,ρ=([("above",ab),("ways",.lst 0),("k",k)]:ie)))
  (ng ((1:Nat):Int) ((7:Nat):Int)) 0 ([("above",ab),("ways",.lst 0)]:ie) [.lst [.iset [0]]] ⟨rfl,.inl rfl⟩ (by
   intro j v ρ st hv hI;obtain⟨rfl,hj⟩:=JR hv;rw[bz]at hI|-;obtain⟨rfl,kC⟩:=hI;have turn:=G_ T n ab (1+j) (by omega) (by omega) (R3 (1+j) hj);rw[Nat.add_comm 1 j]at turn|-;rcases kC with rfl|⟨k,rfl⟩
   ·exact⟨_,_,_,_,rfl,turn,.inl rfl,rfl,rfl,.inr ⟨_,rfl⟩⟩
   ·exact⟨_,_,_,_,rfl,turn,.inl rfl,rfl,rfl,.inr ⟨_,rfl⟩⟩)
 obtain⟨ji,gV,q1,q2,q3⟩:=loop;rw[AO]at q2;subst q2;have DS:iY "ways" ji=some (.lst 0):=by
  rcases q3 with rfl|⟨k,rfl⟩<;>rfl
 have jD:finish 0 [.lst (l_ a 7)] (.lst 0)=some (.list (gU fun k=>.iset (lu a k)),[]):=by
  show((kj (ia [.lst (l_ a 7)] 0 5) (l_ a 7)).map PV.list).map (fun v=>(v,([]:St)))=_;unfold l_;rw[x6 (ia [.lst (((List.range 7).map (lu a)).map .iset)] 0 5) (fun s=>rfl)];rfl
 exact jV (k:=gO (gK (h:=by rfl)) (gO (qU (by rfl) (by rfl) (by rfl) (by exact q1)) (ku (uI (by rfl) (by unfold oZ;rw[DS]))))) (h:=by exact jD)
def Q6(A:St)(L:List PV)(v:PV)(h:L.length<=1000):putL A.length v (A++[.lst L])=some (A++[.lst (L++[v])]):=by
 unfold putL;have e:(A++[jv.lst L])[A.length]? =some (.lst L):=by simp
 rw[e];show(if iP L=true then some ((A++[jv.lst L]).set A.length (.lst (L++[v])))else none)=_;rw[aQ (by unfold iP yE;exact aT (by omega))];simp
def jK{α:Type}{n:Nat}{sc:Scope}{elt target:Expr}{ifs:List Expr}{fit:St->Bool}(A:St)(SO g:α->PV)(t:α->Bool)(BK:ie)(kJ:α->ie)
  (Yo:∀x st,i8 sc st target (SO x) BK=some (kJ x)) (R6:∀x y st,i8 sc st target (SO x) (kJ y)=some (kJ x)) (jW:∀c,fit (A++[c])=true) (hb:∀x,below 0 (g x)=true):
  ∀(l:List α)(acc:List PV)(ρ:ie),(ρ=BK\/∃y,ρ=kJ y)->h_ 0 acc=true->
  (∀x∈l,∀L,h_ 0 L=true->lX ((ev n).T sc) (kJ x) ifs (A++[.lst L])=some (t x,A++[.lst L])/\(t x=true->(ev n).E sc elt (kJ x) (A++[.lst L])=some (g x,A++[.lst L])))->acc.length+l.length<=1000->
  jl (ev n) sc (putL A.length) elt target ifs fit (l.map SO) ρ (A++[.lst acc])=some (A++[.lst (acc++(l.filter t).map g)])
 |[],acc,ρ,_,_,_,_=>by
  show _=some (A++[jv.lst (acc++[])]);rw[cI];rfl
 |x::l,acc,ρ,kC,G2,hx,hl=>by
  rw[aE]at hl;have ih:=jK (n:=n) (sc:=sc) (elt:=elt) (target:=target) (ifs:=ifs) (fit:=fit) A SO g t BK kJ Yo R6 jW hb l;have ha:i8 sc (A++[.lst acc]) target (SO x) ρ=some (kJ x):=by
   rcases kC with rfl|⟨y,rfl⟩
   ·exact Yo x _
   ·exact R6 x y _
  obtain⟨h1,h2⟩:=hx x (by simp) acc G2;rw[aL];cases ht:t x with
  |true=>
   rw[ht]at h1;have e:acc++((x::l).filter t).map g=(acc++[g x])++(l.filter t).map g:=by rw[ck ht];simp
   rw[e];refine qO ha h1 (h2 ht) (Q6 A acc (g x) (by omega)) (jW _) (ih _ _ (.inr ⟨x,rfl⟩) ?_ (fun y hy=>hx y (ay _ hy)) (by rw[aB,cy];omega));rw[tD,G2,h_,hb x];rfl
  |false=>
   rw[ht]at h1;rw[cu (by rw[ht];simp)];exact AB ha h1 (jW _) (ih _ _ (.inr ⟨x,rfl⟩) G2 (fun y hy=>hx y (ay _ hy)) (by omega))
def Fz(v:PV):Prop:=∀st n,ia st n 5 v=some v
def Ge(st:St)(n:Nat):∀L:List PV,(∀v∈L,Fz v)->kj (ia st n 5) L=some L
 |[],_=>rfl
 |v::L,h=>by
  simp only[kj,h v (by simp) st n,ao,Ge st n L fun w hw=>h w (ay _ hw),au]
def ET{st:St}{n k:Nat}{L:List PV}(hk:¬ k<n)(e:st[k]? =some (.lst L))(h:∀v∈L,Fz v):ia st n 6 (.lst k)=some (.list L):=by
 have h0:ia st n 6 (.lst k)=(if k<n then some (PV.lst k)else match st[k]? with
   |some (.lst l)=>(kj (ia st n 5) l).map PV.list
   |_=>none):=rfl
 rw[h0,aD hk,e];simp only[Ge st n L h,au]
def jd{A:St}(hg:Good A)(L:List PV)(h:∀v∈L,Fz v):finish A.length (A++[.lst L]) (.lst A.length)=some (.list L,A):=by
 unfold finish;have e1:(A++[jv.lst L])[A.length]? =some (.lst L):=by simp
 have e2:(A++[jv.lst L]).take A.length=A:=by simp
 have e3:(decide (A.length<=(A++[jv.lst L]).length)&&A.all (iu A.length))=true:=by
  rw[show A.all (iu A.length)=true from hg];simp
 rw[e2,aQ e3,ET (eN _) e1 h];rfl
def qk(i:Int):Fz (.int i):=fun _ _=>rfl
def Gv(i:Bool):Fz (.bool i):=fun _ _=>rfl
def J7(i:ah):Fz (.str i):=fun _ _=>rfl
def LS(L:List Bool):Fz (.list (L.map .bool)):=fun st n=>by
 show(kj (ia st n 4) (L.map PV.bool)).map PV.list=_;rw[sY (ia st n 4) (fun s=>rfl)];rfl
def BO(m:Nat)(x:Int):Int:=if x<0 then -1 else if x.toNat&&&m=0 then((x.toNat|||m:Nat):Int)else -1
def GW(ms:ah):List Int:=ms.foldl (fun told m=>told++told.map (BO m)) [0]
def GQ(ds:ah):List Int:=ds.foldl (fun told(d:Nat)=>told++told.map (fun x=>x+(d:Int))) [0]
def JS:Expr->Expr
 | .BinOp _ _ b _=>b
 |_=>default
abbrev Sb:Expr:=JS (Jc (jP "_law_apart" 1) 0)
abbrev RN:Expr:=JS (Jc (jP "_law_sums" 1) 0)
def RD(n:Nat)(m:Nat)(x:Int)(st:St):(ev (n+6)).E (nj Sb) (kE Sb) [("row",.int (m:Int)),("kept",.int x)] st=some (.int (BO m x),st):=by
 have hc:iN st .Lt (.int x) (.int 0)=some (decide (x<0)):=rfl;unfold BO;by_cases h:x<0
 ·rw[aT h]at hc;rw[aQ h];exact JT (tV (i6 (h:=jg (by rfl) (by exact hc)))) (by rfl)
 ·rw[bP h]at hc;rw[aD h];have Ti:jm st .BitAnd (.int x) (.int (m:Int))=some (.int ((x.toNat&&&m:Nat):Int)):=by
   show(if(decide (0<=x)&&decide (0<=(m:Int)))=true then some (PV.int ((x.toNat&&&(m:Int).toNat:Nat):Int))else none)=_;rw[aQ (by simp only[aA,aJ];omega),bu]
  have Mn:jm st .BitOr (.int x) (.int (m:Int))=some (.int ((x.toNat|||m:Nat):Int)):=by
   show(if(decide (0<=x)&&decide (0<=(m:Int)))=true then some (PV.int ((x.toNat|||(m:Int).toNat:Nat):Int))else none)=_;rw[aQ (by simp only[aA,aJ];omega),bu]
  generalize hy:x.toNat&&&m=y at*;have ht:iT st (.int (y:Int))=some (decide (y≠0)):=by
   show some ((y:Int) !=0)=_;congr 1;rw[Bool.eq_iff_iff];simp
  by_cases h0:y=0
  ·rw[aQ h0];rw[bP (by simpa using h0)]at ht;exact JU (nE (i6 (h:=jg (by rfl) (by exact hc))) (nE (mO (by rfl) (iD (by rfl) (by rfl) (by exact Ti)) (by exact ht)) (by rfl))) (iD (by rfl) (by rfl) (by exact Mn))
  ·rw[aD h0];rw[aT h0]at ht;exact JT (nE (i6 (h:=jg (by rfl) (by exact hc))) (tV (mO (by rfl) (iD (by rfl) (by rfl) (by exact Ti)) (by exact ht)))) (by rfl)
structure Told(st:St)(tv:PV)(L:List Int):Prop where
 c:gM st tv=some (L.map .int)
 f:∀c,iM tv st (st++[c])=true
 a:∀M:List Int,(L++M).length<=1000->jm st .Add tv (.list (M.map .int))=some (.list ((L++M).map .int))
def OR:Told [.lst [.int 0]] (.lst 0) [0]:=⟨rfl,fun _=>rfl,fun M h=>by
 show(if(true&&true&&iP ([PV.int 0]++M.map .int))=true then some (PV.list ([PV.int 0]++M.map .int))else none)=_;rw[aQ]
 ·rw[bR];rfl
 ·unfold iP yE;simp only[gF,aJ,aB,aH]at h|-;simp only[aE,bB]at h|-;omega⟩
def OQ(L:List Int):Told [.lst [.int 0]] (.list (L.map .int)) L:=⟨rfl,fun _=>rfl,fun M h=>by
 show(if(true&&true&&iP (L.map PV.int++M.map .int))=true then some (PV.list (L.map PV.int++M.map .int))else none)=_;rw[aQ,bR];unfold iP yE;simp only[gF,aJ,aB,aH]at h|-;omega⟩
def A4(L:List Int):∀v∈L.map PV.int,Fz v:=by
 intro v hv;obtain⟨i,_,rfl⟩:=b_.mp hv;exact qk i
def GD(n:Nat)(rows tv:PV)(m:Nat)(L:List Int)(hL:L.length<=400)(ht:Told [.lst [.int 0]] tv L):
  gT ((ev (n+9)).S (ir "_law_apart")) (jP "_law_apart" 1) [("rows",rows),("told",tv),("row",.int (m:Int))] [.lst [.int 0]]=some (.next,([("rows",rows),("told",.list ((L++L.map (BO m)).map .int)),("row",.int (m:Int))]:ie),[.lst [.int 0]]):=by
 have i0:=jK (n:=n+6) (sc:=nj Sb) (elt:=kE Sb) (target:=pN Sb) (ifs:=pO Sb) (fit:=iM tv [.lst [.int 0]]) [.lst [.int 0]] PV.int (fun x=>.int (BO m x)) (fun _=>true) [("row",.int (m:Int))] (fun x=>[("row",.int (m:Int)),("kept",.int x)]) (fun _ _=>rfl) (fun _ _ _=>rfl) ht.f (fun _=>rfl)
  L [] _ (.inl rfl) rfl (fun x _ M _=>⟨rfl,fun _=>RD n m x _⟩) (by simp;omega)
 have e:[]++(L.filter fun _=>true).map (fun x=>PV.int (BO m x))=(L.map (BO m)).map .int:=by rw[b7.mpr (fun _ _=>rfl),aS,bw];rfl
 rw[e]at i0;have jD:=jd (A:=[.lst [.int 0]]) rfl ((L.map (BO m)).map .int) (A4 _);have uC:=ht.a (L.map (BO m)) (by simp;omega);have PG:=ht.c;exact gO (gK (h:=iD (by rfl) (ju (d:=by exact PG) (a:=by exact i0) (h:=by exact jD)) (by exact uC))) iX
def QA(n:Nat)(m:Nat)(x:Int)(st:St):(ev (n+2)).E (nj RN) (kE RN) [("need",.int (m:Int)),("kept",.int x)] st=some (.int (x+(m:Int)),st):=by rfl
def FJ(n:Nat)(rows tv:PV)(m:Nat)(L:List Int)(hL:L.length<=400)(ht:Told [.lst [.int 0]] tv L):
  gT ((ev (n+5)).S (ir "_law_sums")) (jP "_law_sums" 1) [("needs",rows),("sums",tv),("need",.int (m:Int))] [.lst [.int 0]]=some (.next,([("needs",rows),("sums",.list ((L++L.map (fun x=>x+(m:Int))).map .int)),("need",.int (m:Int))]:ie),[.lst [.int 0]]):=by
 have i0:=jK (n:=n+2) (sc:=nj RN) (elt:=kE RN) (target:=pN RN) (ifs:=pO RN) (fit:=iM tv [.lst [.int 0]]) [.lst [.int 0]] PV.int (fun x=>.int (x+(m:Int))) (fun _=>true) [("need",.int (m:Int))] (fun x=>[("need",.int (m:Int)),("kept",.int x)]) (fun _ _=>rfl) (fun _ _ _=>rfl) ht.f (fun _=>rfl)
  L [] _ (.inl rfl) rfl (fun x _ M _=>⟨rfl,fun _=>QA n m x _⟩) (by simp;omega)
 have e:[]++(L.filter fun _=>true).map (fun x=>PV.int (x+(m:Int)))=(L.map (fun x=>x+(m:Int))).map .int:=by rw[b7.mpr (fun _ _=>rfl),aS,bw];rfl
 rw[e]at i0;have jD:=jd (A:=[.lst [.int 0]]) rfl ((L.map (fun x=>x+(m:Int))).map .int) (A4 _);have uC:=ht.a (L.map (fun x=>x+(m:Int))) (by simp;omega);have PG:=ht.c;exact gO (gK (h:=iD (by rfl) (ju (d:=by exact PG) (a:=by exact i0) (h:=by exact jD)) (by exact uC))) iX
def A6(f:Nat->Int->Int):∀(l:ah)(L:List Int),(l.foldl (fun told m=>told++told.map (f m)) L).length=2^l.length*L.length
 |[],L=>by simp
 |m::l,L=>by
  rw[c8,A6 f l,aB,aH,aE,Nat.pow_succ,Nat.mul_assoc,Nat.two_mul]
def vK(st:St)(L:List Int):finish 0 st (.list (L.map .int))=some (.list (L.map .int),[]):=by
 show((kj (ia st 0 5) (L.map PV.int)).map PV.list).map (fun v=>(v,([]:St)))=_;rw[uY (ia st 0 5) (fun s=>rfl)];rfl
def apart(n:Nat)(ms:ah)(h0:ms≠[])(h:ms.length<=8):(ev (n+11)).C "_law_apart" [.list (ms.map fun(m:Nat)=>.int (m:Int))] [] []=some (.list ((GW ms).map .int),[]):=by
 have loop:=m_ (B:=gT ((ev (n+9)).S (ir "_law_apart")) (jP "_law_apart" 1)) (sc:=ir "_law_apart") (target:=mq "_law_apart" 1) (fit:=fun _=>true)
  (fun j ρ st=>st=[.lst [.int 0]]/\((j=0/\ρ=([("rows",.list (ms.map fun(m:Nat)=>.int (m:Int))),("told",.lst 0)]:ie))\/∃k,ρ=([("rows",.list (ms.map fun(m:Nat)=>.int (m:Int))),("told",.list ((GW (ms.take j)).map .int)),("row",k)]:ie)))
  (ms.map fun(m:Nat)=>PV.int (m:Int)) 0 _ [.lst [.int 0]] ⟨rfl,.inl ⟨rfl,rfl⟩⟩ (by
   intro j v ρ st hv hI;rw[bz]at hI;obtain⟨rfl,kC⟩:=hI;rw[br]at hv;obtain⟨m,hm,rfl⟩:=aq.mp hv;obtain⟨jQ,VF⟩:=aF.mp hm;have e:GW (ms.take (j+1))=GW (ms.take j)++(GW (ms.take j)).map (BO m):=by
    rw[bV jQ,VF];unfold GW;rw[eE];rfl
   have hl:(GW (ms.take j)).length<=400:=by
    unfold GW;rw[A6];have:(ms.take j).length<=7:=by rw[bI];omega
    have:=Nat.pow_le_pow_right (show 0<2 by decide) this;simp only[aE,bB];omega
   rw[bz (j+1),e];rcases kC with⟨rfl,rfl⟩|⟨k,rfl⟩
   ·exact⟨_,_,_,_,rfl,GD n _ (.lst 0) m [0] (by decide) OR,.inl rfl,rfl,rfl,.inr ⟨_,rfl⟩⟩
   ·exact⟨_,_,_,_,rfl,GD n _ _ m _ hl (OQ _),.inl rfl,rfl,rfl,.inr ⟨_,rfl⟩⟩)
 obtain⟨ji,gV,q1,rfl,q3⟩:=loop;rw[aH,bz,d8]at q3;rcases q3 with⟨q3,_⟩|⟨k,rfl⟩
 ·exact absurd (cQ.mp q3) h0
 ·have jD:=vK [.lst [.int 0]] (GW ms);exact jV (k:=gO (gK (h:=by rfl)) (gO (qU (by rfl) (by rfl) (by rfl) (by exact q1)) (ku (by rfl)))) (h:=by exact jD)
def WG(n:Nat)(ms:ah)(h0:ms≠[])(h:ms.length<=8):(ev (n+7)).C "_law_sums" [.list (ms.map fun(m:Nat)=>.int (m:Int))] [] []=some (.list ((GQ ms).map .int),[]):=by
 have loop:=m_ (B:=gT ((ev (n+5)).S (ir "_law_sums")) (jP "_law_sums" 1)) (sc:=ir "_law_sums") (target:=mq "_law_sums" 1) (fit:=fun _=>true)
  (fun j ρ st=>st=[.lst [.int 0]]/\((j=0/\ρ=([("needs",.list (ms.map fun(m:Nat)=>.int (m:Int))),("sums",.lst 0)]:ie))\/∃k,ρ=([("needs",.list (ms.map fun(m:Nat)=>.int (m:Int))),("sums",.list ((GQ (ms.take j)).map .int)),("need",k)]:ie)))
  (ms.map fun(m:Nat)=>PV.int (m:Int)) 0 _ [.lst [.int 0]] ⟨rfl,.inl ⟨rfl,rfl⟩⟩ (by
   intro j v ρ st hv hI;rw[bz]at hI;obtain⟨rfl,kC⟩:=hI;rw[br]at hv;obtain⟨m,hm,rfl⟩:=aq.mp hv;obtain⟨jQ,VF⟩:=aF.mp hm;have e:GQ (ms.take (j+1))=GQ (ms.take j)++(GQ (ms.take j)).map (fun x=>x+(m:Int)):=by
    rw[bV jQ,VF];unfold GQ;rw[eE];rfl
   have hl:(GQ (ms.take j)).length<=400:=by
    unfold GQ;rw[A6 (fun(d:Nat) x=>x+(d:Int))];have:(ms.take j).length<=7:=by rw[bI];omega
    have:=Nat.pow_le_pow_right (show 0<2 by decide) this;simp only[aE,bB];omega
   rw[bz (j+1),e];rcases kC with⟨rfl,rfl⟩|⟨k,rfl⟩
   ·exact⟨_,_,_,_,rfl,FJ n _ (.lst 0) m [0] (by decide) OR,.inl rfl,rfl,rfl,.inr ⟨_,rfl⟩⟩
   ·exact⟨_,_,_,_,rfl,FJ n _ _ m _ hl (OQ _),.inl rfl,rfl,rfl,.inr ⟨_,rfl⟩⟩)
 obtain⟨ji,gV,q1,rfl,q3⟩:=loop;rw[aH,bz,d8]at q3;rcases q3 with⟨q3,_⟩|⟨k,rfl⟩
 ·exact absurd (cQ.mp q3) h0
 ·have jD:=vK [.lst [.int 0]] (GQ ms);exact jV (k:=gO (gK (h:=by rfl)) (gO (qU (by rfl) (by rfl) (by rfl) (by exact q1)) (ku (by rfl)))) (h:=by exact jD)
def J'(f:Str):List Stmt:=match fnOf f with
 |some (_,b,_)=>b
 |none=>[]
abbrev iQ(j:Nat):Expr:=Jc (J' "law") j
def zr(l:List PV):ie:=List.zip ["script","numbers","above","texts","rests","needs","first","order","sent","text","picked","ways","near","at","apart","sums","most","choice"] l
def B3{L:List PV}(h:h_ 0 L=true):Good [.lst L]:=by
 show(h_ 1 L&&true)=true;rw[n9 (m:=0) 1 L h];rfl
def mR{α:Type}(l:List α)(g:α->PV)(h:∀x,Fz (g x)):∀v∈l.map g,Fz v:=by
 intro v hv;obtain⟨x,_,rfl⟩:=b_.mp hv;exact h x
def pT(st:St){α:Type}(l:List α)(f:α->Nat):iR st "sum" [.list (l.map fun x=>.int (f x:Int))]=some (.int ((l.map f).sum:Nat)):=by
 have e:(l.map fun x=>PV.int (f x:Int))=(l.map fun x=>(f x:Int)).map .int:=by rw[bw];rfl
 rw[e];show(mD _).map (fun ns=>PV.int ns.sum)=_;rw[xF];show some (PV.int _)=_;congr 2
 induction l with
 |nil=>rfl
 |cons a l ih=>rw[aL,c_,ih (by rw[bw];rfl),aL,c_];omega
def Cj(st:St)(i:Nat)(h:i<7):jm st .Pow (.int 2) (.int (i:Int))=some (.int ((2^i:Nat):Int)):=by
 have:∀st,∀i:Nat,i<7->jm st .Pow (.int 2) (.int (i:Int))=some (.int ((2^i:Nat):Int)):=by
  intro st i hi;have e:i=0\/i=1\/i=2\/i=3\/i=4\/i=5\/i=6:=by omega
  rcases e with rfl|rfl|rfl|rfl|rfl|rfl|rfl<;>rfl
 exact this st i h
def IZ{k:Nat}(h:k∈List.range 7):k<7:=bK.mp h
def KQ(n:Nat)(i:Nat->Int)(z0 z2 z3 z4:PV):(ev (n+25)).E (ir "law") (iQ 4) (zr [z0,(.list (gU fun k=>.int (i k))),z2,z3,z4]) []=some (.list (gU fun k=>.int (dN (i k):Int)),[]):=by
 have e:(fun k=>PV.int (dN (i k):Int))=fun k=>PV.int (Int.fmod (Int.fdiv (i k) 324) 55296):=by
  funext k;unfold dN;exact dm PV.int (k6 (Int.fdiv (i k) 324) 55296 (by decide)).1
 rw[e];have i0:=jK (n:=n+24) (sc:=nj (iQ 4)) (elt:=kE (iQ 4)) (target:=pN (iQ 4)) (ifs:=pO (iQ 4)) (fit:=fun _=>true) [] (fun k=>PV.int (i k)) (fun k=>PV.int (Int.fmod (Int.fdiv (i k) 324) 55296)) (fun _=>true) [] (fun k=>[("number",.int (i k))]) (fun _ _=>rfl) (fun _ _ _=>rfl) (fun _=>rfl) (fun _=>rfl)
  (List.range 7) [] _ (.inl rfl) rfl (fun x _ M _=>⟨rfl,fun _=>rfl⟩) (by decide)
 rw[b7.mpr (fun _ _=>rfl),aS,aS,aS]at i0;have jD:=jd (A:=[]) rfl ((List.range 7).map fun k=>PV.int (Int.fmod (Int.fdiv (i k) 324) 55296)) (mR _ _ fun _=>qk _);exact ju (a:=by exact i0) (h:=by exact jD)
def r8(m:Nat):ah:=(List.range (7-m)).map (m+ ·)++List.range m
def AS(m:Nat)(h:m<7):(r8 m).Perm (List.range 7):=by
 have e:m=0\/m=1\/m=2\/m=3\/m=4\/m=5\/m=6:=by omega
 rcases e with rfl|rfl|rfl|rfl|rfl|rfl|rfl<;>decide
def KP(n:Nat)(m:Nat)(h:m<7)(z0 z1 z2 z3 z4 z5:PV):(ev (n+25)).E (ir "law") (iQ 6) (zr [z0,z1,z2,z3,z4,z5,(.int (m:Int))]) []=some (.list ((r8 m).map fun(k:Nat)=>.int (k:Int)),[]):=by
 have e:m=0\/m=1\/m=2\/m=3\/m=4\/m=5\/m=6:=by omega
 rcases e with rfl|rfl|rfl|rfl|rfl|rfl|rfl<;>rfl
def O3:∀l:List (ah),iV [] l=l.flatten
 |[]=>rfl
 |[a]=>by simp[iV]
 |a::b::l=>by
  have ih:=O3 (b::l);show a++[]++iV [] (b::l)=_;rw[ih];simp
def x7(st:St)(l:List (ah))(h1:l.flatten.length<=1000)(h2:l.length<=1000):methP st (.str []) "join" [.list (l.map .str)]=some (.str l.flatten,st):=by
 have e:((("join":Str)==("join":Str))&& !o4 (PV.list (l.map .str)))=true:=by
  have:(("join":Str)==("join":Str))=true:=by decide+kernel
  rw[this];rfl
 show(if((("join":Str)==("join":Str))&& !o4 (PV.list (l.map .str)))=true then match jI (l.map .str)with
    |some ps=>if iP (iV [] ps)&&ps.length<=1000&&([]:ah).length<=10 then some (PV.str (iV [] ps),st)else none
    |none=>none
  else none)=_
 rw[aQ e,qq];show(if iP (iV [] l)&&decide (l.length<=1000)&&true then some (PV.str (iV [] l),st)else none)=_;rw[O3,aQ];simp only[gG,aA,aJ];exact⟨by unfold iP yE;exact aT (by omega),h2⟩
abbrev UP:Expr:=kF (kF (iQ 7))
def El(n:Nat)(c:Nat->Nat)(R:Nat->ah)(o:ah)(ho:∀k∈o,k<7)(hR:∀k,k<7->(R k).length<=100)(hl:o.length=7)(z0 z1 z2 z3 z6:PV):
  (ev (n+24)).E (ir "law") (kF (iQ 7)) (zr [z0,z1,z2,z3,(.list ((gU R).map .str)),(.list (gU fun k=>.int (c k:Int))),z6,(.list (o.map fun(k:Nat)=>.int (k:Int)))]) []=some (.str ((o.map fun k=>lF (c k)++R k).flatten),[]):=by
 have Wg:∀st,∀k:Nat,k<7->gZ st (.list ((gU R).map .str)) (.int (k:Int))=some (.str (R k)):=fun st k hk=>by
  rw[bw];exact jB st (fun k=>.str (R k)) k hk
 have i0:=jK (n:=n+22) (sc:=nj UP) (elt:=kE UP) (target:=pN UP) (ifs:=pO UP) (fit:=fun _=>true) [] (fun(k:Nat)=>PV.int (k:Int)) (fun k=>PV.str (lF (c k)++R k)) (fun _=>true) [("rests",.list ((gU R).map .str)),("needs",.list (gU fun k=>.int (c k:Int)))] (fun k=>[("rests",.list ((gU R).map .str)),("needs",.list (gU fun k=>.int (c k:Int))),("k",.int (k:Int))]) (fun _ _=>rfl) (fun _ _ _=>rfl) (fun _=>rfl) (fun _=>rfl)
  o [] _ (.inl rfl) rfl (fun k hk M hM=>⟨rfl,fun _=>by
   have yZ:=ho k hk;have hf:(ev (n+20)).C "_law_figures" [.int (c k:Int)] [] [.lst M]=some (.str (lF (c k)),[.lst M]):=frame (B3 hM) (Gx (n+11) (c k)) rfl rfl rfl;have hn:=jB [.lst M] (fun k=>.int (c k:Int)) k yZ;have hr:=Wg [.lst M] k yZ;have ha:=nH [.lst M] (x:=lF (c k)) (y:=R k) (by show 4<=1000;decide) (by have:=hR k yZ;omega);exact iD (iH (g:=gX (by rfl) (iC (h:=by exact hn)) iZ) (h:=by exact hf)) (iC (h:=by exact hr)) (by exact ha)⟩) (by simp;omega)
 rw[b7.mpr (fun _ _=>rfl),aS,aS,aS]at i0;have jD:=jd (A:=[]) rfl (o.map fun k=>PV.str (lF (c k)++R k)) (mR _ _ fun _=>J7 _);have e:(o.map fun k=>PV.str (lF (c k)++R k))=(o.map fun k=>lF (c k)++R k).map .str:=by rw[bw];rfl
 rw[e]at i0 jD;have JC:((o.map fun k=>lF (c k)++R k).flatten).length<=1000:=by
  have:∀l:ah,(∀k∈l,k<7)->((l.map fun k=>lF (c k)++R k).flatten).length<=104*l.length:=by
   intro l hl
   induction l with
   |nil=>simp
   |cons a l ih=>
    have h1:=hR a (hl a (by simp));have h2:=ih fun k hk=>hl k (ay _ hk);have h3:(lF (c a)).length=4:=rfl;simp only[aL,gc,aB,aE,h3];omega
  have:=this o ho;omega
 have hj:=x7 [] (o.map fun k=>lF (c k)++R k) JC (by simp;omega);exact iW (g:=gX (by rfl) (ju (a:=by exact i0) (h:=by exact jD)) iZ) (h:=by exact hj)
def Dz(L:List Bool):below 0 (.list (L.map .bool))=true:=D9 0 L
def Ac(W:Nat->List Int)(r:Nat->Nat)(i k:Nat):Bool:=decide (((lz (W i) (W k)).length:Int)<=(r k:Int))
def Ez(n:Nat)(i:Nat->Int)(W:Nat->List Int)(hW:∀k,k<7->(W k).length<=20)(j:Nat)(hj:j<7)(M:List PV)(hM:h_ 0 M=true):
  (ev (n+24)).E (nj (iQ 10)) (kE (iQ 10)) [("numbers",(.list (gU fun k=>.int (i k)))),("ways",(.list (gU fun k=>.iset (W k)))),("i",.int (j:Int))] [.lst M]=some (.list ((gU fun k=>Ac W (fun k=>rN (i k)) j k).map .bool),[.lst M]):=by
 have hg:=B3 hM;have i0:=jK (n:=n+23) (sc:=nj (kE (iQ 10))) (elt:=kE (kE (iQ 10))) (target:=pN (kE (iQ 10))) (ifs:=pO (kE (iQ 10))) (fit:=fun _=>true) [.lst M] (fun(k:Nat)=>PV.int (k:Int)) (fun k=>PV.bool (Ac W (fun k=>rN (i k)) j k)) (fun _=>true) [("numbers",(.list (gU fun k=>.int (i k)))),("ways",(.list (gU fun k=>.iset (W k)))),("i",.int (j:Int))] (fun k=>[("numbers",(.list (gU fun k=>.int (i k)))),("ways",(.list (gU fun k=>.iset (W k)))),("i",.int (j:Int)),("k",.int (k:Int))]) (fun _ _=>rfl) (fun _ _ _=>rfl) (fun _=>rfl) (fun _=>rfl)
  (List.range 7) [] _ (.inl rfl) rfl (fun k hk L hL=>⟨rfl,fun _=>by
   have yZ:=IZ hk;have hn:=fun st=>jB st (fun k=>.int (i k)) k yZ;have Sn:=fun st=>jB st (fun k=>.iset (W k)) j hj;have OH:=fun st=>jB st (fun k=>.iset (W k)) k yZ;have hx:∀st,jm st .BitXor (.iset (W j)) (.iset (W k))=some (.iset (lz (W j) (W k))):=fun st=>by
    show(if(decide ((W j).length<=20)&&decide ((W k).length<=20))=true then some (PV.iset (lz (W j) (W k)))else none)=_;rw[aQ (by simp[hW j hj,hW k yZ])]
   have hc:∀st,iN st .LtE (.int ((lz (W j) (W k)).length:Int)) (.int (Int.fmod (Int.fdiv (i k) 6) 3))=some (Ac W (fun k=>rN (i k)) j k):=fun st=>by
    show some (decide (_<=Int.fmod (Int.fdiv (i k) 6) 3))=some (decide (_<=((rN (i k):Nat):Int)));congr 2;have:=(k6 (Int.fdiv (i k) 6) 3 (by decide)).1;unfold rN;rw[show((3:Nat):Int)=3 from rfl]at this;rw[this]
   exact wO (by rfl) (jw (g:=gX (by rfl) (iD (iC (h:=by exact Sn _)) (iC (h:=by exact OH _)) (by exact hx _)) iZ) (h:=by rfl)) (jg (iD (iD (iC (h:=by exact hn _)) (by rfl) (by rfl)) (by rfl) (by rfl)) (by exact hc _))⟩) (by decide)
 rw[b7.mpr (fun _ _=>rfl),aS]at i0;have jD:=jd hg ((List.range 7).map fun k=>PV.bool (Ac W (fun k=>rN (i k)) j k)) (mR _ _ fun _=>Gv _);have e:(gU fun k=>Ac W (fun k=>rN (i k)) j k).map PV.bool=(List.range 7).map fun k=>PV.bool (Ac W (fun k=>rN (i k)) j k):=by unfold gU;rw[bw];rfl
 rw[e];exact ju (a:=by exact i0) (h:=by exact jD)
def Ng(n:Nat)(i:Nat->Int)(W:Nat->List Int)(hW:∀k,k<7->(W k).length<=20)(z0 z2 z3 z4 z5 z6 z7 z8 z9 lg:PV):
  (ev (n+25)).E (ir "law") (iQ 10) (zr [z0,(.list (gU fun k=>.int (i k))),z2,z3,z4,z5,z6,z7,z8,z9,lg,(.list (gU fun k=>.iset (W k)))]) []=some ((.list (gU fun j=>.list ((gU fun k=>Ac W (fun k=>rN (i k)) j k).map .bool))),[]):=by
 have i0:=jK (n:=n+24) (sc:=nj (iQ 10)) (elt:=kE (iQ 10)) (target:=pN (iQ 10)) (ifs:=pO (iQ 10)) (fit:=fun _=>true) [] (fun(k:Nat)=>PV.int (k:Int)) (fun j=>.list ((gU fun k=>Ac W (fun k=>rN (i k)) j k).map .bool)) (fun _=>true) [("numbers",(.list (gU fun k=>.int (i k)))),("ways",(.list (gU fun k=>.iset (W k))))] (fun k=>[("numbers",(.list (gU fun k=>.int (i k)))),("ways",(.list (gU fun k=>.iset (W k)))),("i",.int (k:Int))]) (fun _ _=>rfl) (fun _ _ _=>rfl) (fun _=>rfl) (fun _=>Dz _)
  (List.range 7) [] _ (.inl rfl) rfl (fun j hj L hL=>⟨rfl,fun _=>Ez n i W hW j (IZ hj) L hL⟩) (by decide)
 rw[b7.mpr (fun _ _=>rfl),aS,aS,aS]at i0;have jD:=jd (A:=[]) rfl (gU fun j=>PV.list ((gU fun k=>Ac W (fun k=>rN (i k)) j k).map .bool)) (mR _ _ fun _=>LS _);exact ju (a:=by exact i0) (h:=by exact jD)
def BJ(I:iy)(X:Nat->ah)(S:List (Nat×Nat))(j:Nat):Nat:=((S.filter fun x=>P (I.t x.2)==X j).map (·.1)).sum
def Mh(I:iy)(n:Nat)(X:Nat->ah)(S:List (Nat×Nat))(hS:S.length<=100)(j:Nat)(hj:j<7)(M:List PV)(hM:h_ 0 M=true):
  (ev (n+24)).E (nj (iQ 11)) (kE (iQ 11)) [("texts",(.list (gU fun k=>.str (X k)))),("sent",.list (S.map I.pvS)),("i",.int (j:Int))] [.lst M]=some (.int (BJ I X S j:Int),[.lst M]):=by
 have hg:=B3 hM;have i0:=jK (n:=n+22) (sc:=nj (kF (kE (iQ 11)))) (elt:=kE (kF (kE (iQ 11)))) (target:=pN (kF (kE (iQ 11)))) (ifs:=pO (kF (kE (iQ 11)))) (fit:=fun _=>true) [.lst M] I.pvS (fun x=>PV.int (x.1:Int)) (fun x=>P (I.t x.2)==X j) [("texts",(.list (gU fun k=>.str (X k)))),("i",.int (j:Int))] (fun x=>[("texts",(.list (gU fun k=>.str (X k)))),("i",.int (j:Int)),("much",.int (x.1:Int)),("top",.str (P (I.t x.2))),("place",.str (P (I.w x.2))),("reach",.int (I.r x.2:Int))]) (fun _ _=>rfl) (fun _ _ _=>rfl) (fun _=>rfl) (fun _=>rfl)
  S [] _ (.inl rfl) rfl (fun x hx L hL=>⟨by
   have Sn:=fun st=>jB st (fun k=>.str (X k)) j hj;have hc:∀st,iN st .Eq (.str (P (I.t x.2))) (.str (X j))=some (P (I.t x.2)==X j):=fun st=>rfl;exact vh (i6 (h:=jg (iC (h:=by exact Sn _)) (by exact hc _))),fun _=>rfl⟩) (by simp;omega)
 rw[aS]at i0;have jD:=jd hg ((S.filter fun x=>P (I.t x.2)==X j).map fun x=>PV.int (x.1:Int)) (mR _ _ fun _=>qk _);have vS:=pT [.lst M] (S.filter fun x=>P (I.t x.2)==X j) (·.1);exact jw (g:=gX (by rfl) (ju (a:=by exact i0) (h:=by exact jD)) iZ) (h:=by exact vS)
def TM(I:iy)(n:Nat)(X:Nat->ah)(S:List (Nat×Nat))(hS:S.length<=100)(z0 z1 z2 z4 z5 z6 z7 z9 lg lW m7:PV):
  (ev (n+25)).E (ir "law") (iQ 11) (zr [z0,z1,z2,(.list (gU fun k=>.str (X k))),z4,z5,z6,z7,(.list (S.map I.pvS)),z9,lg,lW,m7]) []=some (.list (gU fun j=>.int (BJ I X S j:Int)),[]):=by
 have i0:=jK (n:=n+24) (sc:=nj (iQ 11)) (elt:=kE (iQ 11)) (target:=pN (iQ 11)) (ifs:=pO (iQ 11)) (fit:=fun _=>true) [] (fun(k:Nat)=>PV.int (k:Int)) (fun j=>.int (BJ I X S j:Int)) (fun _=>true) [("texts",(.list (gU fun k=>.str (X k)))),("sent",.list (S.map I.pvS))] (fun k=>[("texts",(.list (gU fun k=>.str (X k)))),("sent",.list (S.map I.pvS)),("i",.int (k:Int))]) (fun _ _=>rfl) (fun _ _ _=>rfl) (fun _=>rfl) (fun _=>rfl)
  (List.range 7) [] _ (.inl rfl) rfl (fun j hj L hL=>⟨rfl,fun _=>Mh I n X S hS j (IZ hj) L hL⟩) (by decide)
 rw[b7.mpr (fun _ _=>rfl),aS,aS,aS]at i0;have jD:=jd (A:=[]) rfl (gU fun j=>PV.int (BJ I X S j:Int)) (mR _ _ fun _=>qk _);exact ju (a:=by exact i0) (h:=by exact jD)
def nK(nr:Nat->Nat->Bool)(k:Nat):Nat:=(((List.range 7).filter fun i=>nr i k).map (2^ ·)).sum
def CB(st:St)(nr:Nat->Nat->Bool)(j k:Nat)(hj:j<7)(hk:k<7):gZ st (.list (gU fun i=>.list ((gU fun k=>nr i k).map .bool))) (.int (j:Int))=some (.list ((gU fun k=>nr j k).map .bool))/\gZ st (.list ((gU fun k=>nr j k).map .bool)) (.int (k:Int))=some (.bool (nr j k)):=by
 refine⟨jB st (fun i=>.list ((gU fun k=>nr i k).map .bool)) j hj,?_⟩;rw[bw];exact jB st (fun k=>.bool (nr j k)) k hk
def EG(n:Nat)(nr:Nat->Nat->Bool)(k:Nat)(hk:k<7)(M:List PV)(hM:h_ 0 M=true):
  (ev (n+23)).E (nj (kF (iQ 12))) (kE (kF (iQ 12))) [("near",(.list (gU fun i=>.list ((gU fun k=>nr i k).map .bool)))),("k",.int (k:Int))] [.lst M]=some (.int (nK nr k:Int),[.lst M]):=by
 have hg:=B3 hM;have i0:=jK (n:=n+21) (sc:=nj (kF (kE (kF (iQ 12))))) (elt:=kE (kF (kE (kF (iQ 12))))) (target:=pN (kF (kE (kF (iQ 12))))) (ifs:=pO (kF (kE (kF (iQ 12))))) (fit:=fun _=>true) [.lst M] (fun(k:Nat)=>PV.int (k:Int)) (fun i=>PV.int ((2^i:Nat):Int)) (fun i=>nr i k) [("near",(.list (gU fun i=>.list ((gU fun k=>nr i k).map .bool)))),("k",.int (k:Int))] (fun i=>[("near",(.list (gU fun i=>.list ((gU fun k=>nr i k).map .bool)))),("k",.int (k:Int)),("i",.int (i:Int))]) (fun _ _=>rfl) (fun _ _ _=>rfl) (fun _=>rfl) (fun _=>rfl)
  (List.range 7) [] _ (.inl rfl) rfl (fun i hi L hL=>⟨by
   have hw:=fun st=>CB st nr i k (IZ hi) hk;exact vh (mO (by rfl) (iC (c:=iC (h:=by exact(hw _).1)) (h:=by exact(hw _).2)) (by rfl)),fun _=>by
   have hp:=fun st=>Cj st i (IZ hi);exact iD (by rfl) (by rfl) (by exact hp _)⟩) (by decide)
 rw[aS]at i0;have jD:=jd hg (((List.range 7).filter fun i=>nr i k).map fun i=>PV.int ((2^i:Nat):Int)) (mR _ _ fun _=>qk _);have vS:=pT [.lst M] ((List.range 7).filter fun i=>nr i k) (2^ ·);exact jw (g:=gX (by rfl) (ju (a:=by exact i0) (h:=by exact jD)) iZ) (h:=by exact vS)
def KU(n:Nat)(nr:Nat->Nat->Bool)(z0 z1 z2 z3 z4 z5 z6 z7 z8 z9 lg lW oR:PV):
  (ev (n+24)).E (ir "law") (kF (iQ 12)) (zr [z0,z1,z2,z3,z4,z5,z6,z7,z8,z9,lg,lW,(.list (gU fun i=>.list ((gU fun k=>nr i k).map .bool))),oR]) []=some (.list ((gU (nK nr)).map fun(m:Nat)=>.int (m:Int)),[]):=by
 have i0:=jK (n:=n+23) (sc:=nj (kF (iQ 12))) (elt:=kE (kF (iQ 12))) (target:=pN (kF (iQ 12))) (ifs:=pO (kF (iQ 12))) (fit:=fun _=>true) [] (fun(k:Nat)=>PV.int (k:Int)) (fun k=>.int (nK nr k:Int)) (fun _=>true) [("near",(.list (gU fun i=>.list ((gU fun k=>nr i k).map .bool))))] (fun k=>[("near",(.list (gU fun i=>.list ((gU fun k=>nr i k).map .bool)))),("k",.int (k:Int))]) (fun _ _=>rfl) (fun _ _ _=>rfl) (fun _=>rfl) (fun _=>rfl)
  (List.range 7) [] _ (.inl rfl) rfl (fun j hj L hL=>⟨rfl,fun _=>EG n nr j (IZ hj) L hL⟩) (by decide)
 rw[b7.mpr (fun _ _=>rfl),aS,aS,aS]at i0;have jD:=jd (A:=[]) rfl (gU fun j=>PV.int (nK nr j:Int)) (mR _ _ fun _=>qk _);have e:((gU (nK nr)).map fun(m:Nat)=>PV.int (m:Int))=gU fun j=>PV.int (nK nr j:Int):=by unfold gU;rw[bw];rfl
 rw[e];exact ju (a:=by exact i0) (h:=by exact jD)
def wk(st:St)(L:List Int)(c:Nat)(h:c<L.length):gZ st (.list (L.map .int)) (.int (c:Int))=some (.int (L.getD c 0)):=by
 show idx (L.map PV.int) (c:Int)=_;unfold idx;rw[aQ (cz c),bu,br,bF,aP h];rfl
def qV(ap su:List Int):List Int:=((List.range 128).filter fun c=>decide (0<=ap.getD c 0)).map fun c=>su.getD c 0
def KR(n:Nat)(ap su:List Int)(ha:ap.length=128)(hs:su.length=128)(z0 z1 z2 z3 z4 z5 z6 z7 z8 z9 lg lW m7 oR:PV):
  (ev (n+24)).E (ir "law") (kF (iQ 14)) (zr [z0,z1,z2,z3,z4,z5,z6,z7,z8,z9,lg,lW,m7,oR,(.list (ap.map .int)),(.list (su.map .int))]) []=some (.list ((qV ap su).map .int),[]):=by
 have i0:=jK (n:=n+23) (sc:=nj (kF (iQ 14))) (elt:=kE (kF (iQ 14))) (target:=pN (kF (iQ 14))) (ifs:=pO (kF (iQ 14))) (fit:=fun _=>true) [] (fun(k:Nat)=>PV.int (k:Int)) (fun c=>.int (su.getD c 0)) (fun c=>decide (0<=ap.getD c 0)) [("apart",.list (ap.map .int)),("sums",.list (su.map .int))] (fun k=>[("apart",.list (ap.map .int)),("sums",.list (su.map .int)),("c",.int (k:Int))]) (fun _ _=>rfl) (fun _ _ _=>rfl) (fun _=>rfl) (fun _=>rfl)
  (List.range 128) [] _ (.inl rfl) rfl (fun c hc L hL=>⟨by
   have hg:=fun st=>wk st ap c (by rw[ha];exact bK.mp hc);have BN:∀st,iN st .GtE (.int (ap.getD c 0)) (.int 0)=some (decide (0<=ap.getD c 0)):=fun st=>rfl;exact vh (i6 (c:=iC (h:=by exact hg _)) (h:=jg (by rfl) (by exact BN _))),fun _=>by
   have hg:=fun st=>wk st su c (by rw[hs];exact bK.mp hc);exact iC (h:=by exact hg _)⟩) (by decide)
 rw[aS]at i0;have e:(qV ap su).map PV.int=((List.range 128).filter fun c=>decide (0<=ap.getD c 0)).map fun c=>PV.int (su.getD c 0):=by unfold qV;rw[bw];rfl
 rw[<-e]at i0;have jD:=jd (A:=[]) rfl ((qV ap su).map PV.int) (A4 _);exact ju (a:=by exact i0) (h:=by exact jD)
def xr(st:St):∀(l:List Int)(a:Int),∃M,qN (.int a) (l.map .int)=some (.int M)/\M∈a::l/\∀x∈a::l,x<=M
 |[],a=>⟨a,rfl,by simp,by simp⟩
 |b::l,a=>by
  have e:qN (.int a) ((b::l).map .int)=if a<b then qN (.int b) (l.map .int)else qN (.int a) (l.map .int):=by
   show(match some (decide (a<b))with|some true=>qN (.int b) (l.map .int)|some false=>qN (.int a) (l.map .int)|none=>none)=_;by_cases h:a<b
   ·rw[aT h,aQ h]
   ·rw[bP h,aD h]
  rw[e];by_cases h:a<b
  ·rw[aQ h];obtain⟨M,h1,h2,h3⟩:=xr st l b;refine⟨M,h1,ay _ h2,fun x hx=> ?_⟩;rcases aY.mp hx with rfl|hx
   ·have:=h3 b (by simp);omega
   ·exact h3 x hx
  ·rw[aD h];obtain⟨M,h1,h2,h3⟩:=xr st l a;refine⟨M,h1,?_,fun x hx=> ?_⟩
   ·rcases aY.mp h2 with h2|h2
    ·rw[h2];simp
    ·exact ay _ (ay _ h2)
   ·rcases aY.mp hx with rfl|hx
    ·exact h3 _ (by simp)
    ·rcases aY.mp hx with rfl|hx
     ·have:=h3 a (by simp);omega
     ·exact h3 x (ay _ hx)
def Lx(st:St)(l:List Int)(M:Int)(h1:M∈l)(h2:∀x∈l,x<=M):iR st "max" [.list (l.map .int)]=some (.int M):=by
 cases l with
 |nil=>cases h1
 |cons a l=>
  obtain⟨N,e1,e2,e3⟩:=xr st l a;have:N=M:=by have:=h2 N e2;have:=e3 M h1;omega
  subst this;exact e1
def OP(X:Nat->ah)(pl:List (ah)):Nat:=(((List.range 7).filter fun k=>pl.contains (X k)).map (2^ ·)).sum
def Hy(n:Nat)(X:Nat->ah)(pl:List (ah))(z0 z1 z2 z4 z5 z6 z7 z8 z9 lW m7 oR qK tK yC:PV):
  (ev (n+25)).E (ir "law") (iQ 15) (zr [z0,z1,z2,(.list (gU fun k=>.str (X k))),z4,z5,z6,z7,z8,z9,(.list (pl.map .str)),lW,m7,oR,qK,tK,yC]) []=some (.int (OP X pl:Int),[]):=by
 have i0:=jK (n:=n+23) (sc:=nj (kF (iQ 15))) (elt:=kE (kF (iQ 15))) (target:=pN (kF (iQ 15))) (ifs:=pO (kF (iQ 15))) (fit:=fun _=>true) [] (fun(k:Nat)=>PV.int (k:Int)) (fun i=>PV.int ((2^i:Nat):Int)) (fun k=>pl.contains (X k)) [("texts",(.list (gU fun k=>.str (X k)))),("picked",.list (pl.map .str))] (fun k=>[("texts",(.list (gU fun k=>.str (X k)))),("picked",.list (pl.map .str)),("k",.int (k:Int))]) (fun _ _=>rfl) (fun _ _ _=>rfl) (fun _=>rfl) (fun _=>rfl)
  (List.range 7) [] _ (.inl rfl) rfl (fun i hi L hL=>⟨by
   have hw:=fun st=>jB st (fun k=>.str (X k)) i (IZ hi);have BN:∀st,iN st .In (.str (X i)) (.list (pl.map .str))=some (pl.contains (X i)):=fun st=>by
    have e:iN st .In (.str (X i)) (.list (pl.map .str))=(jI (pl.map .str)).map (·.contains (X i)):=by
     unfold iN;rcases X i with _|⟨a,_|⟨b,l⟩⟩<;>rfl
    rw[e,qq];rfl
   exact vh (i6 (c:=iC (h:=by exact hw _)) (h:=jg (by rfl) (by exact BN _))),fun _=>by
   have hp:=fun st=>Cj st i (IZ hi);exact iD (by rfl) (by rfl) (by exact hp _)⟩) (by decide)
 rw[aS]at i0;have jD:=jd (A:=[]) rfl (((List.range 7).filter fun k=>pl.contains (X k)).map fun i=>PV.int ((2^i:Nat):Int)) (mR _ _ fun _=>qk _);have vS:=pT [] ((List.range 7).filter fun k=>pl.contains (X k)) (2^ ·);exact jw (g:=gX (by rfl) (ju (a:=by exact i0) (h:=by exact jD)) iZ) (h:=by exact vS)
def vU(j:Nat):Expr:=match SY "law" 16 with
 | .BoolOp _ es _=>es.getD j default
 |_=>default
def Tn:Expr->Expr
 | .Compare a _ _ _=>a
 |_=>default
def Tq:Expr->Expr
 | .Compare _ _ (b::_) _=>b
 |_=>default
def Rn:Expr->Expr
 | .List (a::_) _=>a
 |_=>default
def IQ(st:St)(L:List Bool):iR st "all" [.list (L.map .bool)]=some (.bool (L.all id)):=by
 show(kR (L.map .bool)).map (fun bs=>PV.bool (bs.all id))=_;rw[vn];rfl
abbrev PM:Expr:=kF (vU 0)
abbrev Vg:Expr:=kF (Tn (kE PM))
def uE(nr:Nat->Nat->Bool)(at':Nat->Nat)(k:Nat):Nat:=(((List.range 7).filter fun i=>nr i k).map at').sum
def IP(n:Nat)(nr:Nat->Nat->Bool)(at' c:Nat->Nat)(k:Nat)(hk:k<7)(M:List PV)(hM:h_ 0 M=true):
  (ev (n+22)).E (nj PM) (kE PM) [("needs",(.list (gU fun k=>.int (c k:Int)))),("near",(.list (gU fun i=>.list ((gU fun k=>nr i k).map .bool)))),("at",(.list (gU fun j=>.int (at' j:Int)))),("k",.int (k:Int))] [.lst M]=some (.bool (decide ((c k:Int)<=(uE nr at' k:Int))),[.lst M]):=by
 have hg:=B3 hM;have i0:=jK (n:=n+19) (sc:=nj Vg) (elt:=kE Vg) (target:=pN Vg) (ifs:=pO Vg) (fit:=fun _=>true) [.lst M] (fun(k:Nat)=>PV.int (k:Int)) (fun i=>PV.int (at' i:Int)) (fun i=>nr i k) [("near",(.list (gU fun i=>.list ((gU fun k=>nr i k).map .bool)))),("at",(.list (gU fun j=>.int (at' j:Int)))),("k",.int (k:Int))] (fun i=>[("near",(.list (gU fun i=>.list ((gU fun k=>nr i k).map .bool)))),("at",(.list (gU fun j=>.int (at' j:Int)))),("k",.int (k:Int)),("i",.int (i:Int))]) (fun _ _=>rfl) (fun _ _ _=>rfl) (fun _=>rfl) (fun _=>rfl)
  (List.range 7) [] _ (.inl rfl) rfl (fun i hi L hL=>⟨by
   have hw:=fun st=>CB st nr i k (IZ hi) hk;exact vh (mO (by rfl) (iC (c:=iC (h:=by exact(hw _).1)) (h:=by exact(hw _).2)) (by rfl)),fun _=>by
   have hp:=fun st=>jB st (fun j=>.int (at' j:Int)) i (IZ hi);exact iC (h:=by exact hp _)⟩) (by decide)
 rw[aS]at i0;have jD:=jd hg (((List.range 7).filter fun i=>nr i k).map fun i=>PV.int (at' i:Int)) (mR _ _ fun _=>qk _);have vS:=pT [.lst M] ((List.range 7).filter fun i=>nr i k) at';have hn:=fun st=>jB st (fun k=>.int (c k:Int)) k hk;have hc:∀st,iN st .GtE (.int (uE nr at' k:Int)) (.int (c k:Int))=some (decide ((c k:Int)<=(uE nr at' k:Int))):=fun st=>rfl;exact wO (by rfl) (jw (g:=gX (by rfl) (ju (a:=by exact i0) (h:=by exact jD)) iZ) (h:=by exact vS)) (jg (iC (h:=by exact hn _)) (by exact hc _))
def QI(n:Nat)(nr:Nat->Nat->Bool)(at' c:Nat->Nat)(h:∀k,k<7->c k<=uE nr at' k)(z0 z1 z2 z3 z4 z6 z7 z8 z9 lg lW qK tK yC IX:PV):
  (ev (n+24)).E (ir "law") (vU 0) (zr [z0,z1,z2,z3,z4,(.list (gU fun k=>.int (c k:Int))),z6,z7,z8,z9,lg,lW,(.list (gU fun i=>.list ((gU fun k=>nr i k).map .bool))),(.list (gU fun j=>.int (at' j:Int))),qK,tK,yC,IX]) []=some (.bool true,[]):=by
 have i0:=jK (n:=n+22) (sc:=nj PM) (elt:=kE PM) (target:=pN PM) (ifs:=pO PM) (fit:=fun _=>true) [] (fun(k:Nat)=>PV.int (k:Int)) (fun k=>.bool (decide ((c k:Int)<=(uE nr at' k:Int)))) (fun _=>true) [("needs",(.list (gU fun k=>.int (c k:Int)))),("near",(.list (gU fun i=>.list ((gU fun k=>nr i k).map .bool)))),("at",(.list (gU fun j=>.int (at' j:Int))))] (fun k=>[("needs",(.list (gU fun k=>.int (c k:Int)))),("near",(.list (gU fun i=>.list ((gU fun k=>nr i k).map .bool)))),("at",(.list (gU fun j=>.int (at' j:Int)))),("k",.int (k:Int))]) (fun _ _=>rfl) (fun _ _ _=>rfl) (fun _=>rfl) (fun _=>rfl)
  (List.range 7) [] _ (.inl rfl) rfl (fun k hk L hL=>⟨rfl,fun _=>IP n nr at' c k (IZ hk) L hL⟩) (by decide)
 rw[b7.mpr (fun _ _=>rfl),aS,aS,aS]at i0;have jD:=jd (A:=[]) rfl (gU fun k=>PV.bool (decide ((c k:Int)<=(uE nr at' k:Int)))) (mR _ _ fun _=>Gv _);have nP:iR [] "all" [.list (gU fun k=>PV.bool (decide ((c k:Int)<=(uE nr at' k:Int))))]=some (.bool true):=by
  have e:(gU fun k=>PV.bool (decide ((c k:Int)<=(uE nr at' k:Int))))=(gU fun k=>decide ((c k:Int)<=(uE nr at' k:Int))).map .bool:=by unfold gU;rw[bw];rfl
  rw[e,IQ];congr 2;rw[b9];intro b hb;obtain⟨k,hk,rfl⟩:=b_.mp hb;have:=h k (IZ hk);exact aT (by omega)
 exact jw (g:=gX (by rfl) (ju (a:=by exact i0) (h:=by exact jD)) iZ) (h:=by exact nP)
abbrev UI:Expr:=kF (Rn (Tn (vU 1)))
def TL(I:iy)(n:Nat)(S:List (Nat×Nat))(hS:S.length<=100)(at':Nat->Nat)(su:List Int)(ch:Nat)(SI:ch<su.length)(M:Nat)(h1:(S.map (·.1)).sum=M)(h2:((List.range 7).map at').sum=M)(h3:su.getD ch 0=(M:Int))(z0 z1 z2 z3 z4 z5 z6 z7 z9 lg lW m7 qK:PV):
  (ev (n+23)).E (ir "law") (vU 1) (zr [z0,z1,z2,z3,z4,z5,z6,z7,(.list (S.map I.pvS)),z9,lg,lW,m7,(.list (gU fun j=>.int (at' j:Int))),qK,(.list (su.map .int)),(.int (M:Int)),(.int (ch:Int))]) []=some (.bool true,[.lst [.int (M:Int),.int (M:Int),.int (M:Int)],.lst [.int (M:Int),.int (M:Int),.int (M:Int)]]):=by
 have i0:=jK (n:=n+19) (sc:=nj UI) (elt:=kE UI) (target:=pN UI) (ifs:=pO UI) (fit:=fun _=>true) [] I.pvS (fun x=>PV.int (x.1:Int)) (fun _=>true) [] (fun x=>[("row",I.pvS x)]) (fun _ _=>rfl) (fun _ _ _=>rfl) (fun _=>rfl) (fun _=>rfl)
  S [] _ (.inl rfl) rfl (fun x hx L hL=>⟨rfl,fun _=>rfl⟩) (by simp;omega)
 rw[b7.mpr (fun _ _=>rfl),aS,aS,aS]at i0;have jD:=jd (A:=[]) rfl (S.map fun x=>PV.int (x.1:Int)) (mR _ _ fun _=>qk _);have r_:=pT [] S (·.1);rw[h1]at r_;have tM:=pT [] (List.range 7) at';rw[h2]at tM;have RP:=wk [] su ch SI;rw[h3]at RP;have hc:iN [.lst [.int (M:Int),.int (M:Int),.int (M:Int)],.lst [.int (M:Int),.int (M:Int),.int (M:Int)]] .Eq (.lst 0) (.lst 1)=some true:=by
  show some (((M:Int)==(M:Int))&&(((M:Int)==(M:Int))&&(((M:Int)==(M:Int))&&true)))=_;rw[bJ];rfl
 have yz:(ev (n+22)).E (ir "law") (Tq (vU 1)) (zr [z0,z1,z2,z3,z4,z5,z6,z7,(.list (S.map I.pvS)),z9,lg,lW,m7,(.list (gU fun j=>.int (at' j:Int))),qK,(.list (su.map .int)),(.int (M:Int)),(.int (ch:Int))]) [.lst [.int (M:Int),.int (M:Int),.int (M:Int)]]=some (.lst 1,[.lst [.int (M:Int),.int (M:Int),.int (M:Int)],.lst [.int (M:Int),.int (M:Int),.int (M:Int)]]):=by rfl
 exact wO (by rfl) (QY (gX (by rfl) (jw (g:=gX (by rfl) (ju (a:=by exact i0) (h:=by exact jD)) iZ) (h:=by exact r_)) (gX (by rfl) (jw (h:=by exact tM)) (gX (by rfl) (iC (h:=by exact RP)) iZ))) (by rfl)) (jg (by exact yz) (by exact hc))
def KV(n:Nat)(ap:List Int)(ch:Nat)(SI:ch<ap.length)(h:0<=ap.getD ch 0)(st:St)(z0 z1 z2 z3 z4 z5 z6 z7 z8 z9 lg lW m7 oR tK yC:PV):
  (ev (n+22)).E (ir "law") (vU 2) (zr [z0,z1,z2,z3,z4,z5,z6,z7,z8,z9,lg,lW,m7,oR,(.list (ap.map .int)),tK,yC,(.int (ch:Int))]) st=some (.bool true,st):=by
 have hg:=wk st ap ch SI;have hc:iN st .GtE (.int (ap.getD ch 0)) (.int 0)=some true:=by
  show some (decide (0<=ap.getD ch 0))=_;rw[aT h]
 exact wO (by rfl) (iC (h:=by exact hg)) (jg (by rfl) (by exact hc))
abbrev UH:Expr:=kF (Tq (vU 3))
def Nf(n:Nat)(R:Nat->ah)(o:ah)(ho:∀k∈o,k<7)(hR:∀k,k<7->(R k).length<=100)(hl:o.length=7)(st:St)(kD:h_ 2 []=true)(c0 c1:jv)(h0:iu 2 c0=true)(h1:iu 2 c1=true)(T:ah)(hT:T=(o.map fun k=>lF 0++R k).flatten)(z0 z1 z2 z3 z5 z6 z8 lg lW m7 oR qK tK yC IX:PV):
  (ev (n+21)).E (ir "law") (vU 3) (zr [z0,z1,z2,z3,(.list ((gU R).map .str)),z5,z6,(.list (o.map fun(k:Nat)=>.int (k:Int))),z8,(.str T),lg,lW,m7,oR,qK,tK,yC,IX]) [c0,c1]=some (.bool true,[c0,c1]):=by
 have Wg:∀st,∀k:Nat,k<7->gZ st (.list ((gU R).map .str)) (.int (k:Int))=some (.str (R k)):=fun st k hk=>by
  rw[bw];exact jB st (fun k=>.str (R k)) k hk
 have hg:Good [c0,c1]:=by
  show(iu 2 c0&&(iu 2 c1&&true))=true;rw[h0,h1];rfl
 have i0:=jK (n:=n+18) (sc:=nj UH) (elt:=kE UH) (target:=pN UH) (ifs:=pO UH) (fit:=fun _=>true) [c0,c1] (fun(k:Nat)=>PV.int (k:Int)) (fun k=>PV.str (lF 0++R k)) (fun _=>true) [("rests",(.list ((gU R).map .str)))] (fun k=>[("rests",(.list ((gU R).map .str))),("k",.int (k:Int))]) (fun _ _=>rfl) (fun _ _ _=>rfl) (fun _=>rfl) (fun _=>rfl)
  o [] _ (.inl rfl) rfl (fun k hk M hM=>⟨rfl,fun _=>by
   have yZ:=ho k hk;have hr:=fun st=>Wg st k yZ;have ha:=fun st=>nH st (x:=lF 0) (y:=R k) (by show 4<=1000;decide) (by have:=hR k yZ;omega);exact iD (by rfl) (iC (h:=by exact hr _)) (by exact ha _)⟩) (by simp;omega)
 rw[b7.mpr (fun _ _=>rfl),aS]at i0;have jD:=jd hg (o.map fun k=>PV.str (lF 0++R k)) (mR _ _ fun _=>J7 _);have e:(o.map fun k=>PV.str (lF 0++R k))=(o.map fun k=>lF 0++R k).map .str:=by rw[bw];rfl
 rw[e]at i0 jD;have JC:((o.map fun k=>lF 0++R k).flatten).length<=1000:=by
  have:∀l:ah,(∀k∈l,k<7)->((l.map fun k=>lF 0++R k).flatten).length<=104*l.length:=by
   intro l hl
   induction l with
   |nil=>simp
   |cons a l ih=>
    have h1:=hR a (hl a (by simp));have h2:=ih fun k hk=>hl k (ay _ hk);have h3:(lF 0).length=4:=rfl;simp only[aL,gc,aB,aE,h3];omega
  have:=this o ho;omega
 have hj:=x7 [c0,c1] (o.map fun k=>lF 0++R k) JC (by simp;omega);have hc:∀st,iN st .Eq (.str T) (.str (o.map fun k=>lF 0++R k).flatten)=some true:=fun st=>by
  show some (T==_)=_;rw[hT,bJ]
 exact wO (by rfl) (by rfl) (jg (iW (g:=gX (by rfl) (ju (a:=by exact i0) (h:=by exact jD)) iZ) (h:=by exact hj)) (by exact hc _))
def lI(j:Nat):Stmt:=(J' "law").getD j default
def Za(n:Nat)(z0 z1:PV)(h:(ev (n+25)).E (ir "law") (iQ 0) (zr [z0]) []=some (z1,[])):(ev (n+26)).S (ir "law") (lI 0) (zr [z0]) []=some (iE.next,(zr [z0,z1]),[]):=gK (h:=by exact h)
def Y_(n:Nat)(z0 z1 z2:PV)(h:(ev (n+25)).E (ir "law") (iQ 1) (zr [z0,z1]) []=some (z2,[])):(ev (n+26)).S (ir "law") (lI 1) (zr [z0,z1]) []=some (iE.next,(zr [z0,z1,z2]),[]):=gK (h:=by exact h)
def Y9(n:Nat)(z0 z1 z2 z3:PV)(h:(ev (n+25)).E (ir "law") (iQ 2) (zr [z0,z1,z2]) []=some (z3,[])):(ev (n+26)).S (ir "law") (lI 2) (zr [z0,z1,z2]) []=some (iE.next,(zr [z0,z1,z2,z3]),[]):=gK (h:=by exact h)
def Y8(n:Nat)(z0 z1 z2 z3 z4:PV)(h:(ev (n+25)).E (ir "law") (iQ 3) (zr [z0,z1,z2,z3]) []=some (z4,[])):(ev (n+26)).S (ir "law") (lI 3) (zr [z0,z1,z2,z3]) []=some (iE.next,(zr [z0,z1,z2,z3,z4]),[]):=gK (h:=by exact h)
def Y7(n:Nat)(z0 z1 z2 z3 z4 z5:PV)(h:(ev (n+25)).E (ir "law") (iQ 4) (zr [z0,z1,z2,z3,z4]) []=some (z5,[])):(ev (n+26)).S (ir "law") (lI 4) (zr [z0,z1,z2,z3,z4]) []=some (iE.next,(zr [z0,z1,z2,z3,z4,z5]),[]):=gK (h:=by exact h)
def Y6(n:Nat)(z0 z1 z2 z3 z4 z5 z6:PV)(h:(ev (n+25)).E (ir "law") (iQ 5) (zr [z0,z1,z2,z3,z4,z5]) []=some (z6,[])):(ev (n+26)).S (ir "law") (lI 5) (zr [z0,z1,z2,z3,z4,z5]) []=some (iE.next,(zr [z0,z1,z2,z3,z4,z5,z6]),[]):=gK (h:=by exact h)
def Y5(n:Nat)(z0 z1 z2 z3 z4 z5 z6 z7:PV)(h:(ev (n+25)).E (ir "law") (iQ 6) (zr [z0,z1,z2,z3,z4,z5,z6]) []=some (z7,[])):(ev (n+26)).S (ir "law") (lI 6) (zr [z0,z1,z2,z3,z4,z5,z6]) []=some (iE.next,(zr [z0,z1,z2,z3,z4,z5,z6,z7]),[]):=gK (h:=by exact h)
def Y4(n:Nat)(z0 z1 z2 z3 z4 z5 z6 z7 z8 z9:PV)(h:(ev (n+25)).E (ir "law") (iQ 7) (zr [z0,z1,z2,z3,z4,z5,z6,z7]) []=some ((.tup [z8,z9]),[])):(ev (n+26)).S (ir "law") (lI 7) (zr [z0,z1,z2,z3,z4,z5,z6,z7]) []=some (iE.next,(zr [z0,z1,z2,z3,z4,z5,z6,z7,z8,z9]),[]):=gK (h:=by exact h)
def Y3(n:Nat)(z0 z1 z2 z3 z4 z5 z6 z7 z8 z9 lg:PV)(h:(ev (n+25)).E (ir "law") (iQ 8) (zr [z0,z1,z2,z3,z4,z5,z6,z7,z8,z9]) []=some (lg,[])):(ev (n+26)).S (ir "law") (lI 8) (zr [z0,z1,z2,z3,z4,z5,z6,z7,z8,z9]) []=some (iE.next,(zr [z0,z1,z2,z3,z4,z5,z6,z7,z8,z9,lg]),[]):=gK (h:=by exact h)
def Y0(n:Nat)(z0 z1 z2 z3 z4 z5 z6 z7 z8 z9 lg lW:PV)(h:(ev (n+25)).E (ir "law") (iQ 9) (zr [z0,z1,z2,z3,z4,z5,z6,z7,z8,z9,lg]) []=some (lW,[])):(ev (n+26)).S (ir "law") (lI 9) (zr [z0,z1,z2,z3,z4,z5,z6,z7,z8,z9,lg]) []=some (iE.next,(zr [z0,z1,z2,z3,z4,z5,z6,z7,z8,z9,lg,lW]),[]):=gK (h:=by exact h)
def WY(n:Nat)(z0 z1 z2 z3 z4 z5 z6 z7 z8 z9 lg lW m7:PV)(h:(ev (n+25)).E (ir "law") (iQ 10) (zr [z0,z1,z2,z3,z4,z5,z6,z7,z8,z9,lg,lW]) []=some (m7,[])):(ev (n+26)).S (ir "law") (lI 10) (zr [z0,z1,z2,z3,z4,z5,z6,z7,z8,z9,lg,lW]) []=some (iE.next,(zr [z0,z1,z2,z3,z4,z5,z6,z7,z8,z9,lg,lW,m7]),[]):=gK (h:=by exact h)
def WX(n:Nat)(z0 z1 z2 z3 z4 z5 z6 z7 z8 z9 lg lW m7 oR:PV)(h:(ev (n+25)).E (ir "law") (iQ 11) (zr [z0,z1,z2,z3,z4,z5,z6,z7,z8,z9,lg,lW,m7]) []=some (oR,[])):(ev (n+26)).S (ir "law") (lI 11) (zr [z0,z1,z2,z3,z4,z5,z6,z7,z8,z9,lg,lW,m7]) []=some (iE.next,(zr [z0,z1,z2,z3,z4,z5,z6,z7,z8,z9,lg,lW,m7,oR]),[]):=gK (h:=by exact h)
def WW(n:Nat)(z0 z1 z2 z3 z4 z5 z6 z7 z8 z9 lg lW m7 oR qK:PV)(h:(ev (n+25)).E (ir "law") (iQ 12) (zr [z0,z1,z2,z3,z4,z5,z6,z7,z8,z9,lg,lW,m7,oR]) []=some (qK,[])):(ev (n+26)).S (ir "law") (lI 12) (zr [z0,z1,z2,z3,z4,z5,z6,z7,z8,z9,lg,lW,m7,oR]) []=some (iE.next,(zr [z0,z1,z2,z3,z4,z5,z6,z7,z8,z9,lg,lW,m7,oR,qK]),[]):=gK (h:=by exact h)
def WV(n:Nat)(z0 z1 z2 z3 z4 z5 z6 z7 z8 z9 lg lW m7 oR qK tK:PV)(h:(ev (n+25)).E (ir "law") (iQ 13) (zr [z0,z1,z2,z3,z4,z5,z6,z7,z8,z9,lg,lW,m7,oR,qK]) []=some (tK,[])):(ev (n+26)).S (ir "law") (lI 13) (zr [z0,z1,z2,z3,z4,z5,z6,z7,z8,z9,lg,lW,m7,oR,qK]) []=some (iE.next,(zr [z0,z1,z2,z3,z4,z5,z6,z7,z8,z9,lg,lW,m7,oR,qK,tK]),[]):=gK (h:=by exact h)
def WU(n:Nat)(z0 z1 z2 z3 z4 z5 z6 z7 z8 z9 lg lW m7 oR qK tK yC:PV)(h:(ev (n+25)).E (ir "law") (iQ 14) (zr [z0,z1,z2,z3,z4,z5,z6,z7,z8,z9,lg,lW,m7,oR,qK,tK]) []=some (yC,[])):(ev (n+26)).S (ir "law") (lI 14) (zr [z0,z1,z2,z3,z4,z5,z6,z7,z8,z9,lg,lW,m7,oR,qK,tK]) []=some (iE.next,(zr [z0,z1,z2,z3,z4,z5,z6,z7,z8,z9,lg,lW,m7,oR,qK,tK,yC]),[]):=gK (h:=by exact h)
def WT(n:Nat)(z0 z1 z2 z3 z4 z5 z6 z7 z8 z9 lg lW m7 oR qK tK yC IX:PV)(h:(ev (n+25)).E (ir "law") (iQ 15) (zr [z0,z1,z2,z3,z4,z5,z6,z7,z8,z9,lg,lW,m7,oR,qK,tK,yC]) []=some (IX,[])):(ev (n+26)).S (ir "law") (lI 15) (zr [z0,z1,z2,z3,z4,z5,z6,z7,z8,z9,lg,lW,m7,oR,qK,tK,yC]) []=some (iE.next,(zr [z0,z1,z2,z3,z4,z5,z6,z7,z8,z9,lg,lW,m7,oR,qK,tK,yC,IX]),[]):=gK (h:=by exact h)
def Ig(n:Nat)(z0 z1 z2 z3 z4 z5 z6 z7 z8 z9 lg lW m7 oR qK tK yC IX:PV)
  (h0:(ev (n+25)).E (ir "law") (iQ 0) (zr [z0]) []=some (z1,[]))
  (h1:(ev (n+25)).E (ir "law") (iQ 1) (zr [z0,z1]) []=some (z2,[]))
  (h2:(ev (n+25)).E (ir "law") (iQ 2) (zr [z0,z1,z2]) []=some (z3,[]))
  (h3:(ev (n+25)).E (ir "law") (iQ 3) (zr [z0,z1,z2,z3]) []=some (z4,[]))
  (h4:(ev (n+25)).E (ir "law") (iQ 4) (zr [z0,z1,z2,z3,z4]) []=some (z5,[]))
  (h5:(ev (n+25)).E (ir "law") (iQ 5) (zr [z0,z1,z2,z3,z4,z5]) []=some (z6,[]))
  (h6:(ev (n+25)).E (ir "law") (iQ 6) (zr [z0,z1,z2,z3,z4,z5,z6]) []=some (z7,[]))
  (h7:(ev (n+25)).E (ir "law") (iQ 7) (zr [z0,z1,z2,z3,z4,z5,z6,z7]) []=some ((.tup [z8,z9]),[]))
  (h8:(ev (n+25)).E (ir "law") (iQ 8) (zr [z0,z1,z2,z3,z4,z5,z6,z7,z8,z9]) []=some (lg,[]))
  (h9:(ev (n+25)).E (ir "law") (iQ 9) (zr [z0,z1,z2,z3,z4,z5,z6,z7,z8,z9,lg]) []=some (lW,[]))
  (R_:(ev (n+25)).E (ir "law") (iQ 10) (zr [z0,z1,z2,z3,z4,z5,z6,z7,z8,z9,lg,lW]) []=some (m7,[]))
  (R9:(ev (n+25)).E (ir "law") (iQ 11) (zr [z0,z1,z2,z3,z4,z5,z6,z7,z8,z9,lg,lW,m7]) []=some (oR,[]))
  (y9:(ev (n+25)).E (ir "law") (iQ 12) (zr [z0,z1,z2,z3,z4,z5,z6,z7,z8,z9,lg,lW,m7,oR]) []=some (qK,[]))
  (Ve:(ev (n+25)).E (ir "law") (iQ 13) (zr [z0,z1,z2,z3,z4,z5,z6,z7,z8,z9,lg,lW,m7,oR,qK]) []=some (tK,[]))
  (Vd:(ev (n+25)).E (ir "law") (iQ 14) (zr [z0,z1,z2,z3,z4,z5,z6,z7,z8,z9,lg,lW,m7,oR,qK,tK]) []=some (yC,[]))
  (h15:(ev (n+25)).E (ir "law") (iQ 15) (zr [z0,z1,z2,z3,z4,z5,z6,z7,z8,z9,lg,lW,m7,oR,qK,tK,yC]) []=some (IX,[]))
  (c0 c1:jv) (r0:(ev (n+24)).E (ir "law") (vU 0) (zr [z0,z1,z2,z3,z4,z5,z6,z7,z8,z9,lg,lW,m7,oR,qK,tK,yC,IX]) []=some (.bool true,[])) (r1:(ev (n+23)).E (ir "law") (vU 1) (zr [z0,z1,z2,z3,z4,z5,z6,z7,z8,z9,lg,lW,m7,oR,qK,tK,yC,IX]) []=some (.bool true,[c0,c1]))
  (r2:(ev (n+22)).E (ir "law") (vU 2) (zr [z0,z1,z2,z3,z4,z5,z6,z7,z8,z9,lg,lW,m7,oR,qK,tK,yC,IX]) [c0,c1]=some (.bool true,[c0,c1])) (r3:(ev (n+21)).E (ir "law") (vU 3) (zr [z0,z1,z2,z3,z4,z5,z6,z7,z8,z9,lg,lW,m7,oR,qK,tK,yC,IX]) [c0,c1]=some (.bool true,[c0,c1])):
  (ev (n+27)).C "law" [z0] [] []=some (.bool true,[]):=by
 exact jV (k:=gO (by exact Za n _ _ h0)
  (gO (by exact Y_ n _ _ _ h1)
  (gO (by exact Y9 n _ _ _ _ h2)
  (gO (by exact Y8 n _ _ _ _ _ h3)
  (gO (by exact Y7 n _ _ _ _ _ _ h4)
  (gO (by exact Y6 n _ _ _ _ _ _ _ h5)
  (gO (by exact Y5 n _ _ _ _ _ _ _ _ h6)
  (gO (by exact Y4 n _ _ _ _ _ _ _ _ _ _ h7)
  (gO (by exact Y3 n _ _ _ _ _ _ _ _ _ _ _ h8)
  (gO (by exact Y0 n _ _ _ _ _ _ _ _ _ _ _ _ h9)
  (gO (by exact WY n _ _ _ _ _ _ _ _ _ _ _ _ _ R_)
  (gO (by exact WX n _ _ _ _ _ _ _ _ _ _ _ _ _ _ R9)
  (gO (by exact WW n _ _ _ _ _ _ _ _ _ _ _ _ _ _ _ y9)
  (gO (by exact WV n _ _ _ _ _ _ _ _ _ _ _ _ _ _ _ _ Ve)
  (gO (by exact WU n _ _ _ _ _ _ _ _ _ _ _ _ _ _ _ _ _ Vd)
  (gO (by exact WT n _ _ _ _ _ _ _ _ _ _ _ _ _ _ _ _ _ _ h15)
  (ku (AR (by exact r0) (by rfl) (AR (by exact r1) (by rfl) (AR (by exact r2) (by rfl) (Nr (by exact r3))))))))))))))))))))))
def cl0(n:Nat)(z0 w:PV)(h:(ev (n+24)).C "_law_numbers" [z0] [] []=some (w,[])):(ev (n+25)).E (ir "law") (iQ 0) (zr [z0]) []=some (w,[]):=iH (h:=by exact h)
def cl1(n:Nat)(z0 z1 w:PV)(h:(ev (n+24)).C "_law_above" [z1] [] []=some (w,[])):(ev (n+25)).E (ir "law") (iQ 1) (zr [z0,z1]) []=some (w,[]):=iH (h:=by exact h)
def cl2(n:Nat)(z0 z1 z2 w:PV)(h:(ev (n+24)).C "_law_texts" [z2] [] []=some (w,[])):(ev (n+25)).E (ir "law") (iQ 2) (zr [z0,z1,z2]) []=some (w,[]):=iH (h:=by exact h)
def cl3(n:Nat)(z0 z1 z2 z3 w:PV)(h:(ev (n+24)).C "_law_rests" [z1,z3] [] []=some (w,[])):(ev (n+25)).E (ir "law") (iQ 3) (zr [z0,z1,z2,z3]) []=some (w,[]):=iH (h:=by exact h)
def cl8(n:Nat)(z0 z1 z2 z3 z4 z5 z6 z7 z8 z9 w:PV)(h:(ev (n+24)).C "_law_picked" [z8] [] []=some (w,[])):(ev (n+25)).E (ir "law") (iQ 8) (zr [z0,z1,z2,z3,z4,z5,z6,z7,z8,z9]) []=some (w,[]):=iH (h:=by exact h)
def cl9(n:Nat)(z0 z1 z2 z3 z4 z5 z6 z7 z8 z9 lg w:PV)(h:(ev (n+24)).C "_law_ways" [z2] [] []=some (w,[])):(ev (n+25)).E (ir "law") (iQ 9) (zr [z0,z1,z2,z3,z4,z5,z6,z7,z8,z9,lg]) []=some (w,[]):=iH (h:=by exact h)
def Xx(n:Nat)(z0 z1 z2 z3 z4 z5 z6 z7 z8 z9 lg lW m7 oR qK w:PV)(h:(ev (n+24)).C "_law_sums" [z5] [] []=some (w,[])):(ev (n+25)).E (ir "law") (iQ 13) (zr [z0,z1,z2,z3,z4,z5,z6,z7,z8,z9,lg,lW,m7,oR,qK]) []=some (w,[]):=iH (h:=by exact h)
def cl7(n:Nat)(z0 z1 z2 z3 z4 z5 z6 z7 a w:PV)(ha:(ev (n+24)).E (ir "law") (kF (iQ 7)) (zr [z0,z1,z2,z3,z4,z5,z6,z7]) []=some (a,[]))(h:(ev (n+24)).C "_law_sent" [a] [] []=some (w,[])):(ev (n+25)).E (ir "law") (iQ 7) (zr [z0,z1,z2,z3,z4,z5,z6,z7]) []=some (w,[]):=iH (g:=gX (by rfl) (by exact ha) iZ) (h:=by exact h)
def Xy(n:Nat)(z0 z1 z2 z3 z4 z5 z6 z7 z8 z9 lg lW m7 oR a w:PV)(ha:(ev (n+24)).E (ir "law") (kF (iQ 12)) (zr [z0,z1,z2,z3,z4,z5,z6,z7,z8,z9,lg,lW,m7,oR]) []=some (a,[]))(h:(ev (n+24)).C "_law_apart" [a] [] []=some (w,[])):(ev (n+25)).E (ir "law") (iQ 12) (zr [z0,z1,z2,z3,z4,z5,z6,z7,z8,z9,lg,lW,m7,oR]) []=some (w,[]):=iH (g:=gX (by rfl) (by exact ha) iZ) (h:=by exact h)
def Xw(n:Nat)(z0 z1 z2 z3 z4 z5 z6 z7 z8 z9 lg lW m7 oR qK tK a w:PV)(ha:(ev (n+24)).E (ir "law") (kF (iQ 14)) (zr [z0,z1,z2,z3,z4,z5,z6,z7,z8,z9,lg,lW,m7,oR,qK,tK]) []=some (a,[]))(h:iR [] "max" [a]=some w):(ev (n+25)).E (ir "law") (iQ 14) (zr [z0,z1,z2,z3,z4,z5,z6,z7,z8,z9,lg,lW,m7,oR,qK,tK]) []=some (w,[]):=jw (g:=gX (by rfl) (by exact ha) iZ) (h:=by exact h)
def cl5(n:Nat)(z0 z1 z2 z3 z4 z5:PV)(k m:Int)(hl:iR [] "len" [z0]=some (.int k))(h:jm [] .Mod (.int k) (.int 7)=some (.int m)):(ev (n+25)).E (ir "law") (iQ 5) (zr [z0,z1,z2,z3,z4,z5]) []=some (.int m,[]):=iD (jw (h:=by exact hl)) (by rfl) (by exact h)
def LD(n:Nat)(ns:List Int)(m:Nat)(hm:m<7)(Ad:Int.fmod (ns.length:Int) 7=(m:Int))(i:Nat->Int)(ab:PV)(X R:Nat->ah)(hR:∀k,k<7->(R k).length<=100)(W:Nat->List Int)(hW:∀k,k<7->(W k).length<=20)(I:iy)(S:List (Nat×Nat))(hS:S.length<=100)(T:ah)(pl:List (ah))(ap su:List Int)(ha:ap.length=128)(hs:su.length=128)(M:Nat)
  (W_:(ev (n+24)).C "_law_numbers" [.list (ns.map .int)] [] []=some (.list (gU fun k=>.int (i k)),[]))
  (R3:(ev (n+24)).C "_law_above" [.list (gU fun k=>.int (i k))] [] []=some (ab,[]))
  (Zl:(ev (n+24)).C "_law_texts" [ab] [] []=some (.list (gU fun k=>.str (X k)),[]))
  (Zr:(ev (n+24)).C "_law_rests" [.list (gU fun k=>.int (i k)),.list (gU fun k=>.str (X k))] [] []=some (.list ((gU R).map .str),[]))
  (T9:(ev (n+24)).C "_law_sent" [.str (((r8 m).map fun k=>lF (dN (i k))++R k).flatten)] [] []=some (.tup [.list (S.map I.pvS),.str T],[]))
  (RQ:(ev (n+24)).C "_law_picked" [.list (S.map I.pvS)] [] []=some (.list (pl.map .str),[]))
  (T6:(ev (n+24)).C "_law_ways" [ab] [] []=some (.list (gU fun k=>.iset (W k)),[]))
  (DH:(ev (n+24)).C "_law_apart" [.list ((gU (nK (Ac W fun k=>rN (i k)))).map fun(m:Nat)=>.int (m:Int))] [] []=some (.list (ap.map .int),[]))
  (Vz:(ev (n+24)).C "_law_sums" [.list (gU fun k=>.int (dN (i k):Int))] [] []=some (.list (su.map .int),[]))
  (h1:(M:Int)∈qV ap su) (h2:∀x∈qV ap su,x<=(M:Int)) (h3:OP X pl<128)
  (f1:∀k,k<7->dN (i k)<=uE (Ac W fun k=>rN (i k)) (BJ I X S) k) (f2:(S.map (·.1)).sum=M) (f3:((List.range 7).map (BJ I X S)).sum=M) (f4:su.getD (OP X pl) 0=(M:Int)) (f5:0<=ap.getD (OP X pl) 0) (f6:T=((r8 m).map fun k=>lF 0++R k).flatten):
  (ev (n+27)).C "law" [.list (ns.map .int)] [] []=some (.bool true,[]):=by
 have ho:∀k∈r8 m,k<7:=fun k hk=>bK.mp ((AS m hm).subset hk);have PA:(r8 m).length=7:=by have:=(AS m hm).length_eq;simpa using this
 have iK:iR [] "len" [.list (ns.map .int)]=some (.int (ns.length:Int)):=by
  show some (PV.int ((ns.map PV.int).length:Int))=_;rw[aH]
 have Xa:jm [] .Mod (.int (ns.length:Int)) (.int 7)=some (.int (m:Int)):=by
  show some (PV.int (Int.fmod (ns.length:Int) 7))=_;rw[Ad]
 have Ua:=Lx [] (qV ap su) (M:Int) h1 h2;exact Ig n (.list (ns.map .int)) (.list (gU fun k=>.int (i k))) ab (.list (gU fun k=>.str (X k))) (.list ((gU R).map .str)) (.list (gU fun k=>.int (dN (i k):Int))) (.int (m:Int)) (.list ((r8 m).map fun(k:Nat)=>.int (k:Int))) (.list (S.map I.pvS)) (.str T) (.list (pl.map .str)) (.list (gU fun k=>.iset (W k)))
  (.list (gU fun j=>.list ((gU fun k=>Ac W (fun k=>rN (i k)) j k).map .bool))) (.list (gU fun j=>.int (BJ I X S j:Int))) (.list (ap.map .int)) (.list (su.map .int)) (.int (M:Int)) (.int (OP X pl:Int))
  (cl0 n _ _ W_) (cl1 n _ _ _ R3) (cl2 n _ _ _ _ Zl) (cl3 n _ _ _ _ _ Zr) (KQ n i _ _ _ _) (cl5 n _ _ _ _ _ _ _ _ iK Xa) (KP n m hm _ _ _ _ _ _)
  (cl7 n _ _ _ _ _ _ _ _ _ _ (El n (fun k=>dN (i k)) R (r8 m) ho hR PA _ _ _ _ _) T9)
  (cl8 n _ _ _ _ _ _ _ _ _ _ _ RQ) (cl9 n _ _ _ _ _ _ _ _ _ _ _ _ T6) (Ng n i W hW _ _ _ _ _ _ _ _ _ _) (TM I n X S hS _ _ _ _ _ _ _ _ _ _ _) (Xy n _ _ _ _ _ _ _ _ _ _ _ _ _ _ _ _ (KU n (Ac W fun k=>rN (i k)) _ _ _ _ _ _ _ _ _ _ _ _ _) DH) (Xx n _ _ _ _ _ _ _ _ _ _ _ _ _ _ _ _ Vz)
  (Xw n _ _ _ _ _ _ _ _ _ _ _ _ _ _ _ _ _ _ (KR n ap su ha hs _ _ _ _ _ _ _ _ _ _ _ _ _ _) Ua) (Hy n X pl _ _ _ _ _ _ _ _ _ _ _ _ _ _ _)
  _ _ (QI n (Ac W fun k=>rN (i k)) (BJ I X S) (fun k=>dN (i k)) f1 _ _ _ _ _ _ _ _ _ _ _ _ _ _ _) (TL I n S hS (BJ I X S) su (OP X pl) (by rw[hs];exact h3) M f2 f3 f4 _ _ _ _ _ _ _ _ _ _ _ _ _)
  (KV n ap (OP X pl) (by rw[ha];exact h3) f5 _ _ _ _ _ _ _ _ _ _ _ _ _ _ _ _ _) (Nf n R (r8 m) ho hR PA [] rfl _ _ rfl rfl T f6 _ _ _ _ _ _ _ _ _ _ _ _ _ _ _)
def rj{v w:ah}:(lcp v w).length<=w.length:=by rw[kY];exact rQ
def wh:∀v w:ah,lcp v w=v.take (lcp v w).length
 |[],w=>by cases w<;>simp[lcp]
 |a::v,[]=>by simp[lcp]
 |a::v,b::w=>by
  rw[lcp];by_cases h:a=b
  ·rw[aQ h,aE,dX,<-wh v w]
  ·rw[aD h];simp
def Cp(v w:ah):lcp v w=w.take (lcp v w).length:=by rw[kY];exact wh w v
def rX:∀u v w:ah,min (lcp u v).length (lcp v w).length<=(lcp u w).length
 |[],v,w=>by cases v<;>simp[lcp]
 |a::u,[],w=>by simp[lcp]
 |a::u,b::v,[]=>by simp[lcp]
 |a::u,b::v,c::w=>by
  have ih:=rX u v w;simp only[lcp];by_cases h1:a=b
  ·by_cases h2:b=c
   ·subst h1;subst h2;simp only[bY,aE];omega
   ·rw[aD h2];simp
  ·rw[aD h1];simp
def xu:∀(v w:ah)(n:Nat),(lcp (v.take n) w).length=min n (lcp v w).length
 |[],w,n=>by cases w<;>simp[lcp]
 |a::v,w,0=>by cases w<;>simp[lcp]
 |a::v,[],n+1=>by simp[lcp]
 |a::v,b::w,n+1=>by
  rw[dX,lcp,lcp];by_cases h:a=b
  ·rw[aQ h,aQ h,aE,aE,xu v w n];omega
  ·rw[aD h,aD h];simp
def Cq:∀(q u v:ah),q=u.take q.length->q=v.take q.length->q.length<=(lcp u v).length
 |[],_,_,_,_=>by simp
 |a::q,[],v,h,_=>by simp at h
 |a::q,b::u,[],_,h=>by simp at h
 |a::q,b::u,c::v,h1,h2=>by
  rw[aE,dX,dZ]at h1 h2;obtain⟨rfl,h1⟩:=h1;obtain⟨rfl,h2⟩:=h2;rw[lcp,aQ rfl,aE,aE];have:=Cq q u v h1 h2;omega
def Iv(v w:ah):kP v w=kP w v:=by unfold kP;rw[kY];omega
section
variable(w:ah)(r:Nat)
def uF:(up w r).length=w.length-r:=by unfold up;rw[bI];omega
def Qy:kP w (up w r)<=(r:Int):=by
 have h1:(lcp w (up w r)).length=(up w r).length:=by
  rw[kY];unfold up;rw[xu,Co,bI]
 unfold kP;rw[h1,uF];omega
def Na{t:ah}(h:kP w t<=(r:Int))(hl:t.length<=(up w r).length):t=up w r:=by
 have h2:=rj (v:=w) (w:=t);rw[uF]at hl;unfold kP at h;by_cases h0:t.length=0
 ·have:(up w r).length=0:=by rw[uF];omega
  rw[cQ.mp h0,cQ.mp this]
 ·have h3:(lcp w t).length=t.length:=by omega
  have h4:t.length=w.length-r:=by omega
  have h5:=wh w t;have h6:=Cp w t;rw[h3]at h5 h6;rw[d8]at h6;rw[<-h6,h5,h4];rfl
def Hi{w' v:ah}{r':Nat}(h1:kP w v<=(r:Int))(h2:kP w' v<=(r':Int))(hl:(up w r).length<=(up w' r').length):kP w (up w' r')<=(r:Int):=by
 rw[uF,uF]at hl;have a1:=rX w v w';have a2:=rX v w w';have a3:=rX w w' v;have e1:(lcp v w).length=(lcp w v).length:=by rw[kY]
 have e2:(lcp v w').length=(lcp w' v).length:=by rw[kY]
 rw[e2]at a1;rw[e1,e2]at a2;have b1:=rQ (v:=w) (w:=v);have b2:=rj (v:=w) (w:=v);have b3:=rQ (v:=w') (w:=v);have b4:=rj (v:=w') (w:=v);have b5:=rQ (v:=w) (w:=w');have b6:=rj (v:=w) (w:=w');have h3:(lcp w (up w' r')).length=min (w'.length-r') (lcp w w').length:=by
  rw[kY];unfold up;rw[xu,kY]
 unfold kP at h1 h2|-;rw[h3,uF];omega
end
section
variable{a:Nat->Nat}(T:Tree a)
include T
def JN(k:Nat)(h:k<7):wc (wd a k):=by
 refine⟨?_,fun c hc=> ?_⟩
 ·have:=Aq T k k (aV _);omega
 ·have:=y_ T k k (aV _) c hc;omega
def Qv(i k:Nat)(h:wd a i=wd a k):i=k:=by
 by_cases hi:i=0
 ·subst hi;by_cases hk:k=0
  ·exact hk.symm
  ·rw[o6,kK T k (by omega)]at h;have:=dm List.length h;simp at this
 ·by_cases hk:k=0
  ·subst hk;rw[o6,kK T i (by omega)]at h;have:=dm List.length h;simp at this
  ·rw[kK T i (by omega),kK T k (by omega)]at h;exact List.singleton_inj.mp (List.append_inj' h rfl).2
def FF:∀(f k n:Nat),k<=f->∃j,j<=k/\(wd a k).take n=wd a j
 |f,k,n,hf=>by
  by_cases hk:k=0
  ·subst hk;exact⟨0,aV _,by rw[o6];simp⟩
  ·cases f with
   |zero=>omega
   |succ f=>
    by_cases hn:(wd a k).length<=n
    ·exact⟨k,aV _,bT hn⟩
    ·have h1:=T k (by omega);obtain⟨j,hj,e⟩:=FF f (a k) n (by omega);refine⟨j,by omega,?_⟩;rw[kK T k (by omega),aB,cy]at hn;rw[kK T k (by omega),List.take_append_of_le_length (by omega),e]
def Jt:∀(f k c:Nat),k<=f->c∈wd a k->∃v,wd a k=wd a c++v
 |f,k,c,hf,hc=>by
  by_cases hk:k=0
  ·subst hk;rw[o6]at hc;cases hc
  ·cases f with
   |zero=>omega
   |succ f=>
    have h1:=T k (by omega);rw[kK T k (by omega)]at hc;rcases bl.mp hc with q|q
    ·obtain⟨v,e⟩:=Jt f (a k) c (by omega) q;exact⟨v++[k],by rw[kK T k (by omega),e,cE]⟩
    ·rw[aK]at q;subst q;exact⟨[],by simp⟩
def B8:∀(f k:Nat),k<=f->(wd a k).Nodup
 |f,k,hf=>by
  by_cases hk:k=0
  ·subst hk;rw[o6];exact fc
  ·cases f with
   |zero=>omega
   |succ f=>
    have h1:=T k (by omega);rw[kK T k (by omega),cD];refine⟨B8 f (a k) (by omega),by simp,fun x hx y hy=> ?_⟩;rw[aK]at hy;have:=y_ T (a k) (a k) (aV _) x hx;omega
def MZ(i k:Nat):(wd a i).filter (fun c=> !(wd a k).contains c)=(wd a i).drop (lcp (wd a i) (wd a k)).length:=by
 have e:=gb (lcp (wd a i) (wd a k)).length (wd a i);have h1:((wd a i).take (lcp (wd a i) (wd a k)).length).filter (fun c=> !(wd a k).contains c)=[]:=by
  rw[dP];intro c hc;rw[<-wh,Cp]at hc;have:=cU hc;simp[this]
 have h2:((wd a i).drop (lcp (wd a i) (wd a k)).length).filter (fun c=> !(wd a k).contains c)=(wd a i).drop (lcp (wd a i) (wd a k)).length:=by
  rw[b7];intro c hc;simp only[cC,gr,ez];intro q;have hi:c∈wd a i:=List.mem_of_mem_drop hc;obtain⟨v1,e1⟩:=Jt T i i c (aV _) hi;obtain⟨v2,e2⟩:=Jt T k k c (aV _) q;have BF:=Cq (wd a c) (wd a i) (wd a k) (by rw[e1,gp]) (by rw[e2,gp]);have Yl:c∈wd a c:=by
   have uB:1<=c:=(y_ T i i (aV _) c hi).2;rw[kK T c (by omega)];simp
  have PG:c∈(wd a i).take (lcp (wd a i) (wd a k)).length:=by
   have:wd a c=((wd a i).take (lcp (wd a i) (wd a k)).length).take (wd a c).length:=by
    rw[List.take_take,gH BF,e1,gp]
   rw[this]at Yl;exact cU Yl
  have hn:=B8 T i i (aV _);rw[<-e,cD]at hn;exact hn.2.2 c PG c hc rfl
 conv=>lhs;rw[<-e]
 rw[e7,h1,h2,aS]
def Li(i k:Nat):((lz (lu a i) (lu a k)).length:Int)=kP (wd a i) (wd a k):=by
 have key:∀i k,((lu a i).filter fun x=> !(lu a k).contains x).length=(wd a i).length-(lcp (wd a i) (wd a k)).length:=by
  intro i k;have e:(lu a i).filter (fun x=> !(lu a k).contains x)=((wd a i).filter (fun c=> !(wd a k).contains c)).map fun(c:Nat)=>(c:Int):=by
   unfold lu;rw[cu (by simp),List.filter_map];congr 1;apply List.filter_congr;intro c hc;have uB:=(y_ T i i (aV _) c hc).2;show(!((0:Int)::(wd a k).map fun(c:Nat)=>(c:Int)).contains (c:Int))= !(wd a k).contains c;congr 1;rw[Bool.eq_iff_iff];simp only[gr,aJ,aY,b_];constructor
   ·rintro(q|⟨x,hx,q⟩)
    ·omega
    ·have:x=c:=by omega
     exact this▸hx
   ·intro q;exact .inr ⟨c,q,rfl⟩
  rw[e,aH,MZ T,bH]
 unfold lz kP;rw[aB,key,key];have h1:=rQ (v:=wd a i) (w:=wd a k);have h2:=rj (v:=wd a i) (w:=wd a k);have h3:(lcp (wd a k) (wd a i)).length=(lcp (wd a i) (wd a k)).length:=by rw[kY]
 rw[h3];omega
end
def iy.on(I:iy)(k:Nat)(v:ah):Bool:=decide (kP (I.w k) v<=(I.r k:Int))
def wX(I:iy)(k:Nat):I.on k (I.t k)=true:=aT (Qy (I.w k) (I.r k))
def Q8(I:iy)(j k:Nat)(h:I.on k (I.t j)=true)(hl:(I.t j).length<=(I.t k).length):I.t j=I.t k:=Na (I.w k) (I.r k) (cJ h) hl
def NB(I:iy)(i k:Nat)(v:ah)(h1:I.on i v=true)(h2:I.on k v=true)(hl:(I.t i).length<=(I.t k).length):I.on i (I.t k)=true:=
 aT (Hi (I.w i) (I.r i) (cJ h1) (cJ h2) hl)
def iy.cov(I:iy)(k:Nat)(R:List (Nat×Nat)):Nat:=(R.map fun x=>if I.on k (I.t x.2)then x.1 else 0).sum
def A9(I:iy)(k:Nat):I.cov k []=0:=rfl
def ud(I:iy)(k:Nat)(x:Nat×Nat)(R:List (Nat×Nat)):I.cov k (x::R)=(if I.on k (I.t x.2)then x.1 else 0)+I.cov k R:=by
 unfold iy.cov;rw[aL,c_]
def Of(I:iy)(k:Nat)(D R:List (Nat×Nat)):I.cov k (D++R)=I.cov k D+I.cov k R:=by
 unfold iy.cov;rw[bR,gJ]
def CK(I:iy)(k:Nat):∀R:List (Nat×Nat),(∀x∈R,I.on k (I.t x.2)=false)->I.cov k R=0
 |[],_=>rfl
 |x::R,h=>by
  rw[ud,h x (by simp),CK I k R fun y hy=>h y (ay _ hy)];rfl
def Vh(I:iy)(c0:Nat->Nat):List (Nat×Nat)->Prop
 |[]=>True
 |x::R=>Vh I c0 R/\c0 x.2=x.1+I.cov x.2 R/\∀y∈R,(I.t x.2).length<=(I.t y.2).length
def Ar(I:iy)(c:Nat->Nat)(k i:Nat):I.upd c k i=if I.on i (I.t k)then c i-c k else c i:=by
 unfold iy.upd iy.on;by_cases h:kP (I.w i) (I.t k)<=(I.r i:Int)
 ·rw[aQ h,aT h];rfl
 ·rw[aD h,bP h];rfl
def Cd(I:iy):∀(ks:ah)(c:Nat->Nat)(S:List (Nat×Nat))(i:Nat),c i=0->(ks.foldl I.stp (c,S)).1 i=0
 |[],_,_,_,h=>h
 |k::ks,c,S,i,h=>by
  rw[c8];refine Cd I ks _ _ i ?_;show(if 0<c k then I.upd c k else c) i=0;split
  ·have:=JO I c k i;omega
  ·exact h
def FN(I:iy):∀(ks:ah)(c:Nat->Nat)(S:List (Nat×Nat))(i:Nat),i∈ks->(ks.foldl I.stp (c,S)).1 i=0
 |[],_,_,_,h=>by cases h
 |k::ks,c,S,i,h=>by
  rw[c8];rcases aY.mp h with rfl|h
  ·refine Cd I ks _ _ i ?_;show(if 0<c i then I.upd c i else c) i=0;split
   ·rw[Ar,wX];simp
   ·omega
  ·exact FN I ks _ _ i h
def run(I:iy)(c0:Nat->Nat):∀(ks:ah)(c:Nat->Nat)(R:List (Nat×Nat)),ks.Pairwise (fun i j=>(I.t j).length<=(I.t i).length)->(∀i,c0 i<=c i+I.cov i R)->(∀i,0<c i->c0 i=c i+I.cov i R)->Vh I c0 R->(∀x∈R,∀j∈ks,(I.t j).length<=(I.t x.2).length)->
  ∃R',(ks.foldl I.stp (c,R.reverse)).2=R'.reverse/\(∀i,c0 i<=(ks.foldl I.stp (c,R.reverse)).1 i+I.cov i R')/\Vh I c0 R'/\(∀x∈R',x∈R\/x.2∈ks)/\R'.length<=R.length+ks.length
 |[],c,R,_,h1,_,h3,_=>⟨R,rfl,h1,h3,fun _ h=>.inl h,aV _⟩
 |k::ks,c,R,hp,h1,h2,h3,h4=>by
  rw[eZ]at hp;rw[c8];by_cases hk:0<c k
  ·have e:I.stp (c,R.reverse) k=(I.upd c k,((c k,k)::R).reverse):=by
    show((if 0<c k then I.upd c k else c),(if 0<c k then R.reverse++[(c k,k)]else R.reverse))=_;rw[aQ hk,aQ hk,List.reverse_cons]
   rw[e];obtain⟨R',q1,q2,q3,q4,q5⟩:=run I c0 ks (I.upd c k) ((c k,k)::R) hp.2 (fun i=>by
     have:=h1 i;rw[Ar,ud];show _<=_+((if I.on i (I.t k)then c k else 0)+_);split<;>omega) (fun i hi=>by
     rw[Ar]at hi;rw[Ar,ud];show _=_+((if I.on i (I.t k)then c k else 0)+_);split at hi
     ·rename_i hb;have:=h2 i (by omega);rw[aQ hb,aQ hb];omega
     ·rename_i hb;have:=h2 i hi;rw[aD hb,aD hb];omega) ⟨h3,h2 k hk,fun y hy=>h4 y hy k (by simp)⟩ (fun x hx j hj=>by
     rcases aY.mp hx with rfl|hx
     ·exact hp.1 j hj
     ·exact h4 x hx j (ay _ hj))
   refine⟨R',q1,q2,q3,fun x hx=> ?_,by rw[aE]at q5 |-; omega⟩;rcases q4 x hx with q|q
   ·rcases aY.mp q with rfl|q
    ·exact .inr (by simp)
    ·exact .inl q
   ·exact .inr (ay _ q)
  ·have e:I.stp (c,R.reverse) k=(c,R.reverse):=by
    show((if 0<c k then I.upd c k else c),(if 0<c k then R.reverse++[(c k,k)]else R.reverse))=_;rw[aD hk,aD hk]
   rw[e];obtain⟨R',q1,q2,q3,q4,q5⟩:=run I c0 ks c R hp.2 h1 h2 h3 fun x hx j hj=>h4 x hx j (ay _ hj);refine⟨R',q1,q2,q3,fun x hx=> ?_,by rw[aE];omega⟩;rcases q4 x hx with q|q
   ·exact .inl q
   ·exact .inr (ay _ q)
def iy.dj(I:iy)(a b:Nat):Prop:=∀v,I.on a v=true->I.on b v=true->False
def Gy(I:iy)(acc:ah)(k:Nat):I.far acc k=true↔ ∀j∈acc,I.on j (I.t k)=false:=by
 unfold iy.far iy.on;rw[b9];constructor
 ·intro h j hj;have:=cJ (h j hj);exact bP (by omega)
 ·intro h j hj;have:=of_decide_eq_false (h j hj);exact aT (by omega)
def Jv(I:iy)(c0:Nat->Nat):∀(R D:List (Nat×Nat))(acc:ah),Vh I c0 R->(∀x∈D,∀y∈R,(I.t x.2).length<=(I.t y.2).length)->acc.Pairwise I.dj->(∀x∈D,∃a∈acc,I.on a (I.t x.2)=true)->(∀a∈acc,c0 a=I.cov a (D++R))->(∀a∈acc,∃x∈D,a=x.2)->
  ((R.map (·.2)).foldl I.pk acc).Pairwise I.dj/\(∀x∈D++R,∃a∈(R.map (·.2)).foldl I.pk acc,I.on a (I.t x.2)=true)/\(∀a∈(R.map (·.2)).foldl I.pk acc,c0 a=I.cov a (D++R))/\(∀a∈(R.map (·.2)).foldl I.pk acc,∃x∈D++R,a=x.2)
 |[],D,acc,_,_,h1,h2,h3,h4=>by
  rw[cI]at h3|-;exact⟨h1,h2,h3,h4⟩
 |x::R,D,acc,hv,hd,h1,h2,h3,h4=>by
  have e:D++x::R=(D++[x])++R:=by simp
  rw[e]at h3|-;rw[aL,c8];have BG:∀z∈D++[x],∀y∈R,(I.t z.2).length<=(I.t y.2).length:=by
   intro z hz y hy;rcases bl.mp hz with hz|hz
   ·exact hd z hz y (ay _ hy)
   ·rw[aK.mp hz];exact hv.2.2 y hy
  by_cases hf:I.far acc x.2=true
  ·have e2:I.pk acc x.2=acc++[x.2]:=by unfold iy.pk;rw[aQ hf]
   have Tf:=(Gy I acc x.2).mp hf;rw[e2];refine Jv I c0 R (D++[x]) (acc++[x.2]) hv.1 BG ?_ ?_ ?_ ?_
   ·rw[List.pairwise_append];refine⟨h1,by simp,fun a ha b hb v Zk UU=> ?_⟩;rw[aK]at hb;subst hb;obtain⟨z,hz,rfl⟩:=h4 a ha;have:=NB I z.2 x.2 v Zk UU (hd z hz x (by simp));rw[Tf _ ha]at this;cases this
   ·intro z hz;rcases bl.mp hz with hz|hz
    ·obtain⟨a,ha,hb⟩:=h2 z hz;exact⟨a,bg _ ha,hb⟩
    ·rw[aK.mp hz];exact⟨x.2,by simp,wX I x.2⟩
   ·intro a ha;rcases bl.mp ha with ha|ha
    ·exact h3 a ha
    ·rw[aK.mp ha,<-e,Of,ud,wX,aQ rfl,hv.2.1];have:I.cov x.2 D=0:=by
      refine CK I x.2 D fun z hz=> ?_;cases hb:I.on x.2 (I.t z.2)with
      |false=>rfl
      |true=>
       have ht:=Q8 I z.2 x.2 hb (hd z hz x (by simp));obtain⟨a,ha,R0⟩:=h2 z hz;rw[ht,Tf a ha]at R0;cases R0
     omega
   ·intro a ha;rcases bl.mp ha with ha|ha
    ·obtain⟨z,hz,e3⟩:=h4 a ha;exact⟨z,bg _ hz,e3⟩
    ·exact⟨x,by simp,aK.mp ha⟩
  ·have e2:I.pk acc x.2=acc:=by unfold iy.pk;rw[aD hf]
   rw[e2];refine Jv I c0 R (D++[x]) acc hv.1 BG h1 ?_ h3 ?_
   ·intro z hz;rcases bl.mp hz with hz|hz
    ·exact h2 z hz
    ·rw[aK.mp hz];have hex:∃a∈acc,I.on a (I.t x.2)≠false:=by
      have lq:¬ ∀j∈acc,I.on j (I.t x.2)=false:=fun q=>hf ((Gy I acc x.2).mpr q);exact Classical.byContradiction fun q=>lq fun j hj=>Classical.byContradiction fun z=>q ⟨j,hj,z⟩
     obtain⟨a,ha,hb⟩:=hex;exact⟨a,ha,by simpa using hb⟩
   ·intro a ha;obtain⟨z,hz,e3⟩:=h4 a ha;exact⟨z,bg _ hz,e3⟩
def AK{α:Type}(f g:α->Nat):∀l:List α,(l.map fun x=>f x+g x).sum=(l.map f).sum+(l.map g).sum
 |[]=>rfl
 |a::l=>by simp only[aL,c_,AK f g l];omega
def AJ{α:Type}(p:α->Bool)(m:Nat):∀l:List α,(l.map fun x=>if p x then m else 0).sum=m*l.countP p
 |[]=>by simp
 |a::l=>by
  rw[aL,c_,AJ p m l,List.countP_cons];cases p a
  ·simp
  ·simp only[bY,Nat.mul_add];omega
def A8(I:iy)(C:ah):∀R:List (Nat×Nat),(C.map fun a=>I.cov a R).sum=(R.map fun x=>x.1*C.countP fun a=>I.on a (I.t x.2)).sum
 |[]=>by
  rw[eL,List.sum_nil]
  induction C with
  |nil=>rfl
  |cons a C ih=>rw[aL,c_,ih,A9];rfl
 |x::R=>by
  rw[aL,c_,<-A8 I C R,<-AJ,<-AK];rfl
def sU(I:iy)(v:ah):∀C:ah,C.Pairwise (fun a b=>I.on a v=true->I.on b v=true->False)->C.countP (fun a=>I.on a v)<=1
 |[],_=>by simp
 |a::C,h=>by
  rw[eZ]at h;rw[List.countP_cons];have ih:=sU I v C h.2;cases ha:I.on a v with
  |false=>simpa using ih
  |true=>
   have:C.countP (fun a=>I.on a v)=0:=by
    rw[List.countP_eq_zero];intro b hb q;exact h.1 b hb ha q
   rw[this];simp
def Iw(I:iy)(v:ah)(C:ah)(h:∃a∈C,I.on a v=true):1<=C.countP (fun a=>I.on a v):=List.countP_pos_iff.mpr h
def EB(I:iy)(c0:Nat->Nat)(R:List (Nat×Nat))(hc:∀i,i<7->c0 i<=I.cov i R)(C:ah)(hC:∀i∈C,i<7)(hd:∀x∈R,C.Pairwise (fun a b=>I.on a (I.t x.2)=true->I.on b (I.t x.2)=true->False)):(C.map c0).sum<=(R.map (·.1)).sum:=by
 have h1:(C.map c0).sum<=(C.map fun a=>I.cov a R).sum:=by
  clear hd
  induction C with
  |nil=>exact aV _
  |cons a C ih=>
   have:=hc a (hC a (by simp));have:=ih fun i hi=>hC i (ay _ hi);simp only[aL,c_];omega
 refine dB h1 ?_;rw[A8];clear h1 hc
 induction R with
 |nil=>exact aV _
 |cons x R ih=>
  have ih:=ih fun y hy=>hd y (ay _ hy);have h2:=sU I (I.t x.2) C (hd x (by simp));have h3:x.1*C.countP (fun a=>I.on a (I.t x.2))<=x.1*1:=Nat.mul_le_mul_left _ h2;simp only[aL,c_];omega
def EA(I:iy)(c0:Nat->Nat)(R:List (Nat×Nat))(C:ah)(hd:C.Pairwise I.dj)(h1:∀x∈R,∃a∈C,I.on a (I.t x.2)=true)(h2:∀a∈C,c0 a=I.cov a R):(C.map c0).sum=(R.map (·.1)).sum:=by
 have e:C.map c0=C.map fun a=>I.cov a R:=dh h2;rw[e,A8];congr 1;refine dh fun x hx=> ?_;have h3:=sU I (I.t x.2) C (hd.imp fun h=>h (I.t x.2));have h4:=Iw I (I.t x.2) C (h1 x hx);have:C.countP (fun a=>I.on a (I.t x.2))=1:=by omega
 rw[this,Nat.mul_one]
def pL:Nat->List (ah)
 |0=>[[]]
 |j+1=>pL j++(pL j).map (· ++[j])
def nu:∀j,(pL j).length=2^j
 |0=>rfl
 |j+1=>by rw[pL,aB,aH,nu j,Nat.pow_succ];omega
def xd:∀(j:Nat)(C:ah),C∈pL j->∀i∈C,i<j
 |0,C,h=>by
  rw[pL,aK]at h;subst h;simp
 |j+1,C,h=>by
  rw[pL]at h;rcases bl.mp h with h|h
  ·intro i hi;have:=xd j C h i hi;omega
  ·obtain⟨D,hD,rfl⟩:=b_.mp h;intro i hi;rcases bl.mp hi with hi|hi
   ·have:=xd j D hD i hi;omega
   ·rw[aK.mp hi];omega
def xe(c:Nat->Nat):∀j,GQ ((List.range j).map c)=(pL j).map fun C=>(((C.map c).sum:Nat):Int)
 |0=>rfl
 |j+1=>by
  have ih:=xe c j;rw[eH,bR,fh];unfold GQ at ih|-;rw[eE,ih,c8,List.foldl_nil,pL,bR,bw,bw];congr 1;refine dh fun C _=> ?_;show(((C.map c).sum:Nat):Int)+(c j:Int)=((((C++[j]).map c).sum:Nat):Int);rw[bR,gJ];simp
def qm(m:Nat->Nat)(C:ah)(x:Int):Int:=C.foldl (fun x k=>BO (m k) x) x
def xE(m:Nat->Nat):∀j,GW ((List.range j).map m)=(pL j).map fun C=>qm m C 0
 |0=>rfl
 |j+1=>by
  have ih:=xE m j;rw[eH,bR,fh];unfold GW at ih|-;rw[eE,ih,c8,List.foldl_nil,pL,bR,bw,bw];congr 1;refine dh fun C _=> ?_;show BO (m j) (qm m C 0)=qm m (C++[j]) 0;unfold qm;rw[eE];rfl
def xo(f:Nat->Bool):∀j,(((List.range j).filter f).map (2^ ·)).sum<2^j
 |0=>by simp
 |j+1=>by
  have ih:=xo f j;rw[eH,e7,bR,gJ,Nat.pow_succ];cases hf:f j
  ·rw[cu (by simp[hf])];simp;omega
  ·rw[ck hf];simp;omega
def FI(f:Nat->Bool):∀j,(pL j)[(((List.range j).filter f).map (2^ ·)).sum]? =some ((List.range j).filter f)
 |0=>rfl
 |j+1=>by
  have ih:=FI f j;have jQ:=xo f j;rw[eH,e7,bR,gJ,pL];cases hf:f j
  ·rw[cu (by simp[hf]),gI,eL,List.sum_nil,Nat.add_zero,cI,bk (by rw[nu];exact jQ),ih]
  ·rw[ck hf,gI,fh,List.sum_singleton,bO (by rw[nu];omega),nu,Nat.add_sub_cancel,br,ih];rfl
def u_(f:Nat->Bool):∀j i,((((List.range j).filter f).map (2^ ·)).sum).testBit i=(decide (i<j)&&f i)
 |0,i=>by simp
 |j+1,i=>by
  have ih:=u_ f j;have jQ:=xo f j;rw[eH,e7,bR,gJ];cases hf:f j
  ·rw[cu (by simp[hf]),gI,eL,List.sum_nil,Nat.add_zero,ih];by_cases e:i=j
   ·subst e;simp[hf]
   ·have:decide (i<j+1)=decide (i<j):=by rw[decide_eq_decide];omega
    rw[this]
  ·rw[ck hf,gI,fh,List.sum_singleton,Nat.add_comm];by_cases e:i=j
   ·subst e;rw[Nat.testBit_two_pow_add_eq,ih];simp[hf]
   ·by_cases h:i<j
    ·rw[Nat.testBit_two_pow_add_gt h,ih];have:decide (i<j+1)=decide (i<j):=by rw[decide_eq_decide];omega
     rw[this]
    ·have h1:decide (i<j+1)=false:=bP (by omega);rw[h1,Nat.testBit_lt_two_pow]
     ·rfl
     ·have:2^(j+1)<=2^i:=Nat.pow_le_pow_right (by decide) (by omega);rw[Nat.pow_succ]at this;omega
def GC(m:Nat->Nat):∀C,qm m C (-1)= -1
 |[]=>rfl
 |k::C=>by
  show qm m C (BO (m k) (-1))= -1;have:BO (m k) (-1)= -1:=rfl;rw[this,GC m C]
def D3(v w x:Nat):(v|||w)&&&x=0↔v&&&x=0/\w&&&x=0:=by
 rw[Nat.and_or_distrib_right,Nat.or_eq_zero_iff]
def yi(m:Nat->Nat):∀(C:ah)(v:Nat),0<=qm m C (v:Int)↔C.Pairwise (fun a b=>m a&&&m b=0)/\∀k∈C,v&&&m k=0
 |[],v=>by
  show 0<=(v:Int)↔_;simp
 |k::C,v=>by
  show 0<=qm m C (BO (m k) (v:Int))↔_;rw[eZ];have e:BO (m k) (v:Int)=if v&&&m k=0 then((v|||m k:Nat):Int)else -1:=by
   unfold BO;rw[aD (by omega),bu]
  rw[e];by_cases h:v&&&m k=0
  ·rw[aQ h,yi m C];constructor
   ·rintro⟨h1,h2⟩;refine⟨⟨fun a ha=>((D3 v (m k) (m a)).mp (h2 a ha)).2,h1⟩,fun j hj=> ?_⟩;rcases aY.mp hj with rfl|hj
    ·exact h
    ·exact((D3 v (m k) (m j)).mp (h2 j hj)).1
   ·rintro⟨⟨h1,h2⟩,h3⟩;exact⟨h2,fun j hj=>(D3 v (m k) (m j)).mpr ⟨h3 j (ay _ hj),h1 j hj⟩⟩
  ·rw[aD h,GC];constructor
   ·intro q;omega
   ·rintro⟨_,h3⟩;exact absurd (h3 k (by simp)) h
def Gd(nr:Nat->Nat->Bool)(a b:Nat):nK nr a&&&nK nr b=0↔ ∀i,i<7->nr i a=true->nr i b=true->False:=by
 have ta:=u_ (fun i=>nr i a) 7;have tb:=u_ (fun i=>nr i b) 7;unfold nK;constructor
 ·intro h i hi h1 h2;have:=dm (fun x=>Nat.testBit x i) h;simp only[Nat.testBit_and,ta,tb,h1,h2,aT hi,Nat.zero_testBit]at this;cases this
 ·intro h;refine Nat.eq_of_testBit_eq fun i=> ?_;rw[Nat.testBit_and,ta,tb,Nat.zero_testBit];by_cases hi:i<7
  ·cases h1:nr i a
   ·simp
   ·cases h2:nr i b
    ·simp
    ·exact absurd (h i hi h1 h2) id
  ·simp[hi]
def count_at(j0:Nat)(h:j0<7)(b:Bool):(List.range 7).countP (fun j=>(j==j0)&&b)=if b then 1 else 0:=by
 have:∀j0:Nat,j0<7->∀b:Bool,(List.range 7).countP (fun j=>(j==j0)&&b)=if b then 1 else 0:=by decide
 exact this j0 h b
def D_{I:iy}(ok:I.ok)(ht:∀k,k<7->∃j,j<7/\I.t k=I.w j)(p:ah->Bool):∀S:List (Nat×Nat),(∀x∈S,x.2<7)->
  (((List.range 7).filter fun j=>p (I.w j)).map (BJ I (fun k=>P (I.w k)) S)).sum=(S.map fun x=>if p (I.t x.2)then x.1 else 0).sum
 |[],_=>by
  rw[eL,List.sum_nil];generalize (List.range 7).filter _=F
  induction F with
  |nil=>rfl
  |cons a F ih=>rw[aL,c_,ih];rfl
 |x::S,h=>by
  have ih:=D_ ok ht p S fun y hy=>h y (ay _ hy);rw[aL,c_,<-ih];have e:∀j,BJ I (fun k=>P (I.w k)) (x::S) j=(if P (I.t x.2)==P (I.w j)then x.1 else 0)+BJ I (fun k=>P (I.w k)) S j:=by
   intro j;unfold BJ;rw[List.filter_cons];split
   ·rw[aL,c_]
   ·omega
  have e2:((List.range 7).filter fun j=>p (I.w j)).map (BJ I (fun k=>P (I.w k)) (x::S))=((List.range 7).filter fun j=>p (I.w j)).map fun j=>(if P (I.t x.2)==P (I.w j)then x.1 else 0)+BJ I (fun k=>P (I.w k)) S j:=dh fun j _=>e j;rw[e2,AK,AJ,List.countP_filter];congr 1;obtain⟨j0,Sx,et⟩:=ht x.2 (h x (by simp));have e3:(List.range 7).countP (fun j=>(P (I.t x.2)==P (I.w j))&&p (I.w j))=(List.range 7).countP (fun j=>(j==j0)&&p (I.t x.2)):=by
   refine List.countP_congr fun j hj=> ?_;have Yd:=bK.mp hj;rw[et];by_cases q:j=j0
   ·subst q;simp
   ·have:(P (I.w j0)==P (I.w j))=false:=aO.mpr fun z=>q (ok.inj j0 j Sx Yd (JL _ _ (ok.way j0 Sx) (ok.way j Yd) z)).symm;rw[this,aO.mpr q];simp
  rw[e3,count_at j0 Sx];cases p (I.t x.2)<;>simp
def FH(l:ah):l.reverse.sum=l.sum:=(List.reverse_perm l).sum_nat
def Oe(I:iy)(k:Nat)(R:List (Nat×Nat)):(R.reverse.map fun x=>if I.on k (I.t x.2)then x.1 else 0).sum=I.cov k R:=by
 rw[List.map_reverse,FH];rfl
def plain{I:iy}(ok:I.ok)(ht:∀k,k<7->∃j,j<7/\I.t k=I.w j)(nr:Nat->Nat->Bool)(PB:∀j k,j<7->k<7->nr j k=I.on k (I.w j))(c0:Nat->Nat)(o ks:ah)(ho:o.Perm (List.range 7))(hk:ks.Perm o)(hp:ks.Pairwise fun i j=>(I.t j).length<=(I.t i).length)(S:List (Nat×Nat))(hS:S=(ks.foldl I.stp (c0,[])).2)(pl:ah)(yD:pl=(S.reverse.map (·.2)).foldl I.pk [])(ap su:List Int)(DH:ap=GW ((List.range 7).map (nK nr)))(Vz:su=GQ ((List.range 7).map c0))(ch M:Nat)(SI:ch=OP (fun k=>P (I.w k)) (pl.map fun k=>P (I.w k)))(hM:M=(S.map (·.1)).sum):
  (∀x∈S,x.2<7)/\S.length<=7/\(∀k∈o,(ks.foldl I.stp (c0,[])).1 k=0)/\ch<128/\(∀k,k<7->c0 k<=uE nr (BJ I (fun k=>P (I.w k)) S) k)/\((List.range 7).map (BJ I (fun k=>P (I.w k)) S)).sum=M/\su.getD ch 0=(M:Int)/\0<=ap.getD ch 0/\(M:Int)∈qV ap su/\∀x∈qV ap su,x<=(M:Int):=by
 have yZ:∀k∈ks,k<7:=fun k h=>bK.mp (ho.subset (hk.subset h));have I6:ks.length=7:=by have:=hk.length_eq;have:=ho.length_eq;rw[di]at this;omega
 obtain⟨R,r1,r2,r3,r4,r5⟩:=run I c0 ks c0 [] hp (fun i=>by rw[A9];exact aV _) (fun i _=>by rw[A9];rfl) trivial (by simp);rw[List.reverse_nil]at r1 r2;rw[<-hS]at r1;have Wf:∀x∈R,x.2<7:=fun x hx=>yZ _ ((r4 x hx).resolve_left (by simp));have Wd:∀x∈S,x.2<7:=fun x hx=>Wf x (fM.mp (r1▸hx));have O5:∀k,k<7->(ks.foldl I.stp (c0,[])).1 k=0:=fun k h=>FN I ks c0 [] k (hk.symm.subset (ho.symm.subset (bK.mpr h)));have Jl:∀i,i<7->c0 i<=I.cov i R:=fun i hi=>by have:=r2 i;rw[O5 i hi]at this;omega
 have Yp:M=(R.map (·.1)).sum:=by rw[hM,r1,List.map_reverse,FH]
 have W7:S.reverse=R:=by rw[r1,gk]
 obtain⟨p1,p2,p3,p4⟩:=Jv I c0 R [] [] r3 (by simp) .nil (by simp) (by simp) (by simp);rw[aS]at p2 p3 p4;rw[W7]at yD;rw[<-yD]at p1 p2 p3 p4;have ML:∀a∈pl,a<7:=fun a ha=>by
  obtain⟨x,hx,rfl⟩:=p4 a ha;exact Wf x hx
 have RV:pl.Nodup:=p1.imp fun{a b} h e=>by
  subst e;exact h (I.t a) (wX I a) (wX I a)
 have Rg:=EA I c0 R pl p1 p2 p3;have ON:=FI (fun k=>(pl.map fun k=>P (I.w k)).contains (P (I.w k))) 7;have hC:((List.range 7).filter fun k=>(pl.map fun k=>P (I.w k)).contains (P (I.w k))).Perm pl:=by
  refine(List.perm_ext_iff_of_nodup (List.nodup_range.filter _) RV).mpr fun k=> ?_;rw[dz,bK];simp only[gr,aJ,b_];constructor
  ·rintro⟨h7,j,hj,e⟩;exact ok.inj j k (ML j hj) h7 (JL _ _ (ok.way j (ML j hj)) (ok.way k h7) e)▸hj
  ·intro h;exact⟨ML k h,k,h,rfl⟩
 have ON:(pL 7)[ch]? =some ((List.range 7).filter fun k=>(pl.map fun k=>P (I.w k)).contains (P (I.w k))):=by rw[SI];exact ON
 generalize ((List.range 7).filter fun k=>(pl.map fun k=>P (I.w k)).contains (P (I.w k)))=C at ON hC;have J5:ch<128:=by
  obtain⟨h,_⟩:=aF.mp ON;rw[nu]at h;exact h
 have Yx:∀c C,(pL 7)[c]? =some C->su.getD c 0=(((C.map c0).sum:Nat):Int):=by
  intro c C h;rw[Vz,xe,bF,br,h];rfl
 have YB:∀c C,(pL 7)[c]? =some C->(0<=ap.getD c 0↔C.Pairwise fun a b=>nK nr a&&&nK nr b=0):=by
  intro c C h;have e:ap.getD c 0=qm (nK nr) C ((0:Nat):Int):=by
   rw[DH,xE,bF,br,h];rfl
  rw[e,yi];constructor
  ·exact fun q=>q.1
  ·exact fun q=>⟨q,fun k _=>Nat.zero_and _⟩
 have vS:su.getD ch 0=(M:Int):=by
  rw[Yx ch C ON,(hC.map c0).sum_nat,Rg,Yp]
 have hCd:C.Pairwise I.dj:=hC.symm.pairwise p1 fun{a b} h v h1 h2=>h v h2 h1;have J6:0<=ap.getD ch 0:=by
  rw[YB ch C ON];have Yt:=fun a ha=>ML a (hC.subset ha);refine List.Pairwise.imp_of_mem (fun{a b} ha hb h=> ?_) hCd;rw[Gd];intro i hi h1 h2;rw[PB i a hi (Yt a ha)]at h1;rw[PB i b hi (Yt b hb)]at h2;exact h _ h1 h2
 refine⟨Wd,?_,fun k h=>O5 k (bK.mp (ho.subset h)),J5,fun k h7=> ?_,?_,vS,J6,?_,fun x hx=> ?_⟩
 ·rw[r1,cN];rw[bB]at r5;omega
 ·have h1:=D_ ok ht (I.on k) S Wd;rw[r1,Oe]at h1;have h2:uE nr (BJ I (fun k=>P (I.w k)) S) k=I.cov k R:=by
   rw[<-h1,<-r1];unfold uE;congr 2;refine List.filter_congr fun j hj=> ?_;exact PB j k (bK.mp hj) h7
  rw[h2];exact Jl k h7
 ·have h1:=D_ ok ht (fun _=>true) S Wd;rw[b7.mpr (fun _ _=>rfl)]at h1;rw[h1,hM];rfl
 ·unfold qV;rw[b_];exact⟨ch,dz.mpr ⟨bK.mpr J5,aT J6⟩,vS⟩
 ·unfold qV at hx;obtain⟨c,hc,rfl⟩:=b_.mp hx;obtain⟨BI,Ms⟩:=dz.mp hc;have BI:=bK.mp BI;have jQ:c<(pL 7).length:=by rw[nu];exact BI
  have qS:(pL 7)[c]? =some (pL 7)[c]:=aP jQ;rw[Yx c _ qS,Yp];have Zy:=(YB c _ qS).mp (cJ Ms);have ni:=xd 7 _ (gu jQ);have:=EB I c0 R Jl (pL 7)[c] ni fun x hx=>by
   obtain⟨j,hj,et⟩:=ht x.2 (Wf x hx);refine List.Pairwise.imp_of_mem (fun{a b} ha hb h=> ?_) Zy;rw[Gd]at h;intro h1 h2;rw[et]at h1 h2;exact h j hj (by rw[PB j a hj (ni a ha)];exact h1) (by rw[PB j b hj (ni b hb)];exact h2)
  omega
def aN(ns:List Int)(k:Nat):Nat:=if k=0 then 0 else(Int.fmod (qE ns k) (k:Int)).toNat
def nR(ns:List Int):Tree (aN ns):=fun k h=>by
 unfold aN;rw[aD (by omega)];exact(k6 (qE ns k) k h).2
def rS(ns:List Int)(k:Nat)(h:0<k):Int.fmod (qE ns k) (k:Int)=(aN ns k:Int):=by
 unfold aN;rw[aD (by omega)];exact(k6 (qE ns k) k h).1.symm
def mh(ns:List Int):iy:=⟨wd (aN ns),fun k=>rN (qE ns k),fun k=>hN (qE ns k),fun k=>bN (qE ns k)⟩
def Cw(ns:List Int):(mh ns).ok:=⟨fun k h=>JN (nR ns) k h,fun i k _ _ h=>Qv (nR ns) i k h,fun k _=>T3 _,fun k _=>O_ _⟩
def Ik(ns:List Int)(k:Nat)(h:k<7):∃j,j<7/\(mh ns).t k=(mh ns).w j:=by
 obtain⟨j,hj,e⟩:=FF (nR ns) k k ((wd (aN ns) k).length-rN (qE ns k)) (aV _);exact⟨j,by omega,e⟩
def DO(ns:List Int)(k:Nat):ah:=row (qE ns) (fun k=>P (wd (aN ns) k)) k
def FQ(ns:List Int)(k:Nat):DO ns k=pP ((mh ns).r k) ((mh ns).s k) ((mh ns).b k):=by
 unfold DO row Sk pP iy.s mh;simp only[cE,f7,eW,aS];rfl
def uP(ns:List Int)(c:Nat->Nat):∀o:ah,(mh ns).text c o=(o.map fun k=>lF (c k)++DO ns k).flatten
 |[]=>rfl
 |k::o=>by
  rw[iy.text_cons,aL,gc,<-uP ns c o,FQ,cE]
def Lc(ns:List Int)(k:Nat)(h:k<7):(DO ns k).length<=100:=by
 have h1:=OV (Cw ns) k h;have h2:=A_ ((mh ns).b k);have h3:(([9,32]:ah).take ((mh ns).r k)).length<=2:=by rw[bI];exact Nat.min_le_right ..
 rw[FQ];unfold pP;simp only[aB,aE,bB];omega
def Kr(ns:List Int)(k:Nat)(h:k<7):(lu (aN ns) k).length<=20:=by
 have:=Aq (nR ns) k k (aV _);unfold lu;simp only[aE,aH];omega
def ND(ns:List Int)(j k:Nat):Ac (lu (aN ns)) (fun k=>rN (qE ns k)) j k=(mh ns).on k ((mh ns).w j):=by
 unfold Ac iy.on;rw[Li (nR ns),Iv];rfl
def uL(ns:List Int):PV:=UM 0 (aN ns 1) (aN ns 2) (aN ns 3) (aN ns 4) (aN ns 5) (aN ns 6)
def E4(n:Nat)(ns:List Int):(ev (n+7)).C "_law_above" [.list (gU fun k=>.int (qE ns k))] [] []=some (uL ns,[]):=by
 have h:=Uz n (qE ns 0) (qE ns 1) (qE ns 2) (qE ns 3) (qE ns 4) (qE ns 5) (qE ns 6);unfold uL;rw[<-rS ns 1 (by decide),<-rS ns 2 (by decide),<-rS ns 3 (by decide),<-rS ns 4 (by decide),<-rS ns 5 (by decide),<-rS ns 6 (by decide)];exact h
def G5(ns:List Int)(k:Nat)(h:0<k):tx (aN ns) k=P (wd (aN ns) k):=by
 unfold tx;rw[Kn];rw[kK (nR ns) k h];simp
def Ei(n:Nat)(ns:List Int):(ev (n+9)).C "_law_texts" [uL ns] [] []=some (.list (gU fun k=>.str (P (wd (aN ns) k))),[]):=by
 have h:=TF (nR ns) n;rw[G5 ns 1 (by decide),G5 ns 2 (by decide),G5 ns 3 (by decide),G5 ns 4 (by decide),G5 ns 5 (by decide),G5 ns 6 (by decide)]at h;exact h
def IT(ns:List Int)(k:Nat)(h:k<7)(st:St):gZ st (uL ns) (.int (k:Int))=some (.int (aN ns k:Int)):=by
 have e:k=0\/k=1\/k=2\/k=3\/k=4\/k=5\/k=6:=by omega
 rcases e with rfl|rfl|rfl|rfl|rfl|rfl|rfl<;>rfl
def Mj(ns:List Int)(k:Nat)(h:k<7):(P (wd (aN ns) k)).length<=100:=by
 have h1:=JN (nR ns) k h;have h2:=zf _ h1.2;have h3:=h1.1;omega
def UE:∀ns:List Int,ns.length<=63->(ev 27).C "law" [.list (ns.map .int)] [] []=some (.bool true,[]):=by
 intro ns _;have hm:ns.length%7<7:=e_ _ (by decide);have Ad:Int.fmod (ns.length:Int) 7=((ns.length%7:Nat):Int):=by
  rw[Int.fmod_eq_emod_of_nonneg _ (by decide)];rfl
 generalize ns.length%7=m at hm Ad;have kQ:=AS m hm;have ho:∀i∈r8 m,i<7:=fun i hi=>bK.mp (kQ.subset hi);have RV:(r8 m).Nodup:=kQ.nodup_iff.mpr List.nodup_range;have hl:(r8 m).length=7:=by have:=kQ.length_eq;rw[di]at this;exact this
 have ok:=Cw ns;have hc:∀i,dN (qE ns i)<55296:=fun i=>Ur _;obtain⟨ks,k1,k2,k3⟩:=LF ok 0 (fun k=>dN (qE ns k)) hc (r8 m) ho RV hl;obtain⟨g1,g2,g3,g4,g5,g6,g7,g8,g9,g10⟩:=plain ok (Ik ns) (Ac (lu (aN ns)) fun k=>rN (qE ns k)) (fun j k _ _=>ND ns j k) (fun k=>dN (qE ns k)) (r8 m) ks kQ k1 k2 _ rfl _ rfl _ _ rfl rfl _ _ rfl rfl;rw[uP,uP]at k3;have e6:((r8 m).map fun k=>lF ((ks.foldl (mh ns).stp (fun k=>dN (qE ns k),[])).1 k)++DO ns k)=(r8 m).map fun k=>lF 0++DO ns k:=dh fun k hk=>by rw[g3 k hk]
 rw[e6]at k3;have hS:(ks.foldl (mh ns).stp (fun k=>dN (qE ns k),[])).2.length<=100:=by omega
 have RQ:=EM ok 1 _ g1 (by omega);have Xo:=apart 13 ((List.range 7).map (nK (Ac (lu (aN ns)) fun k=>rN (qE ns k)))) (by simp) (by simp);have S6:=WG 17 ((List.range 7).map fun k=>dN (qE ns k)) (by simp) (by simp);have BZ:(GW ((List.range 7).map (nK (Ac (lu (aN ns)) fun k=>rN (qE ns k))))).length=128:=by
  rw[xE,aH,nu]
 have Uc:(GQ ((List.range 7).map fun k=>dN (qE ns k))).length=128:=by
  rw[xe,aH,nu]
 generalize hSS:(ks.foldl (mh ns).stp (fun k=>dN (qE ns k),[])).2=S at*;have Yz:((S.reverse.map (·.2)).foldl (mh ns).pk []).map (fun k=>PV.str (P ((mh ns).w k)))=(((S.reverse.map (·.2)).foldl (mh ns).pk []).map fun k=>P ((mh ns).w k)).map .str:=by rw[bw];rfl
 rw[Yz]at RQ;exact LD 0 ns m hm Ad (qE ns) (uL ns) (fun k=>P (wd (aN ns) k)) (DO ns) (Lc ns) (lu (aN ns)) (Kr ns) (mh ns) S hS _ _ _ _ BZ Uc _
  (NC 17 ns) (E4 17 ns) (Ei 15 ns) (TV 9 (qE ns) (fun k=>P (wd (aN ns) k)) (Mj ns)) k3 RQ (WC (nR ns) 16 (uL ns) (IT ns)) Xo (by rw[bw]at S6;exact S6)
  g9 g10 g4 g5 rfl g6 g7 g8 rfl
end
end Mine
theorem PySem.Challenge.cw_ik0206_01_holds : PySem.Challenge.rw_ik0206_01.Holds :=
  Mine.UG Mine.UE
