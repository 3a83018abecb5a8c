import PyProof.Rows.All
import Wide.All
import OpenK.AllK
import Wide.FinOn
import PySem.Challenge.RW_sh0057_02
set_option Elab.async false
set_option maxRecDepth 100000
set_option linter.all false
set_option genSizeOf false
set_option genSizeOfSpec false
set_option bootstrap.genMatcherCode false
section
open PySem PySem.W PyProof.Rows
namespace Mine
abbrev AA:=@Nat.le_trans
abbrev AB:=@wpAny_bind
abbrev AC:=@List.mem_cons_self
abbrev AD:=@List.mem_cons_of_mem
abbrev AE:=@List.length_append
abbrev AF:=@Option.some.inj
abbrev AG:=@wpAny_pure
abbrev AH:=@Bool.and_eq_true_iff
abbrev AI:=@List.getD_eq_getElem?_getD
abbrev AJ:=@List.length_map
abbrev AK:=@of_decide_eq_true
abbrev AL:=@List.mem_singleton
abbrev AM:=@Nat.le_refl
abbrev AN:=@List.mem_range
abbrev AO:=@Heap.get?_push_of_some
abbrev AP:=@List.getElem?_eq_getElem
abbrev AQ:=@if_pos
abbrev AR:=@List.mem_cons
abbrev AS:=@if_neg
abbrev AT:=@congrArg
abbrev AU:=@List.getElem?_eq_some_iff
abbrev AV:=@decide_eq_true
abbrev AW:=@List.map_map
abbrev AX:=@List.mem_map
abbrev AY:=@List.append_assoc
abbrev AZ:=@Heap.get?_push_size
abbrev BA:=@List.all_eq_true
abbrev BB:=@List.not_mem_nil
abbrev BC:=@List.getElem?_map
abbrev BD:=@List.length_cons
abbrev BE:=@beq_iff_eq
abbrev BF:=@List.mem_filter
abbrev BG:=@Nat.le_add_right
abbrev BH:=@List.map_append
abbrev BI:=@eq_of_beq
abbrev BJ:=@List.mem_append
abbrev BK:=@Nat.add_le_add
abbrev BL:=@List.map_cons
abbrev BM:=@Nat.zero_le
abbrev BN:=@Bool.eq_iff_iff
abbrev BO:=@Nat.le_of_lt
abbrev BP:=@Nat.lt_trans
abbrev BQ:=@wpAny_holding
abbrev BR:=@List.mem_append_right
abbrev BS:=@List.size_toArray
abbrev BT:=@wpAny_standAt
abbrev BU:=@Nat.lt_of_le_of_lt
abbrev BV:=@Nat.add_right_comm
abbrev BW:=@Nat.lt_of_lt_of_le
abbrev BX:=@Bool.or_eq_true_iff
abbrev BY:=@decide_eq_true_iff
abbrev BZ:=@List.length_filter_le
abbrev CA:=@List.append_nil
abbrev CB:=@List.mem_of_getElem?
abbrev CD:=@Nat.add_le_add_right
abbrev CE:=@Nat.le_of_ble_eq_true
abbrev CF:=@Nat.le_succ_of_le
abbrev CG:=@List.map_congr_left
abbrev CH:=@Nat.not_lt
abbrev CI:=@Nat.mul_le_mul
abbrev CJ:=@Bool.false_ne_true
abbrev CK:=@Nat.succ_le_succ
abbrev CL:=@Array.length_toList
abbrev CM:=@Nat.le_of_eq
abbrev CN:=@List.mem_append_left
abbrev CO:=@Heap.lt_size
abbrev CP:=@Nat.le_add_left
abbrev CQ:=@List.filter_congr
abbrev CR:=@List.mem_range'_1
abbrev CS:=@List.contains_iff_mem
abbrev CT:=@List.mem_map_of_mem
abbrev CU:=@List.mem_flatMap
abbrev CV:=@List.getElem?_append_right
abbrev CW:=@List.foldl_cons
abbrev CX:=@List.nodup_nil
abbrev CY:=@List.getElem?_eq_none
abbrev CZ:=@wpAny_mono
abbrev DA:=@Nat.le_of_succ_le
abbrev DB:=@Nat.add_sub_cancel_left
abbrev DC:=@beq_self_eq_true
abbrev DD:=@List.any_eq_true
abbrev DE:=@List.getElem?_append_left
abbrev DF:=@List.nodup_append
abbrev DG:=@Bool.not_eq_true'
abbrev DH:=@List.nodup_cons
abbrev DI:=@Int.natAbs_natCast
abbrev DJ:=@List.getElem?_set_ne
abbrev DK:=@wpAny_newObj_type
abbrev DL:=@Nat.ne_of_lt
abbrev DM:=@Nat.le_of_lt_succ
abbrev DN:=@List.foldl_append
abbrev DO:=@Array.all_eq_true_iff_forall_mem
abbrev DP:=@List.replicate_succ
abbrev DQ:=@Nat.add_le_add_left
abbrev DR:=@List.getElem?_toArray
abbrev DS:=@List.cons_ne_nil
abbrev DT:=@Bool.false_eq_true
abbrev DU:=@List.lookup_cons
abbrev DV:=@Nat.lt_succ_self
abbrev DW:=@List.eq_nil_iff_forall_not_mem
abbrev DX:=@Nat.zero_add
abbrev DY:=@List.length_range
abbrev DZ:=@Nat.le_max_left
abbrev EA:=@decide_eq_false
abbrev EB:=@List.getElem?_range
abbrev EC:=@Nat.add_left_cancel
abbrev ED:=@List.findSome?_cons
abbrev EE:=@List.getElem?_set_self
abbrev EF:=@List.take_of_length_le
abbrev EG:=@Array.getD_eq_getD_getElem?
abbrev EH:=@Nat.ne_of_gt
abbrev EI:=@Nat.le_max_right
abbrev EJ:=@wpAny_call_entry
abbrev EK:=@List.getElem_map
abbrev EL:=@Bool.and_eq_true
abbrev EM:=@List.map_flatMap
abbrev EN:=@List.getElem?_take
abbrev EO:=@Int.natCast_nonneg
abbrev EP:=@Int.fmod_eq_emod_of_nonneg
abbrev EQ:=@StrLaws.glued_eq_join
abbrev ER:=@Nat.not_lt_zero
abbrev ES:=@beq_false_of_ne
abbrev ET:=@Bool.eq_false_iff
abbrev EU:=@Array.mem_toList_iff
abbrev EV:=@Int.toNat_natCast
abbrev EW:=@List.range'_append_1
abbrev EX:=@Nat.lt_irrefl
abbrev EY:=@bne_iff_ne
abbrev EZ:=@Array.getElem_mem_toList
abbrev FA:=@beq_eq_false_iff_ne
abbrev FC:=@List.filter_eq_self
abbrev FD:=@List.length_take_le
abbrev FE:=@List.isEmpty_iff
abbrev FF:=@decide_eq_decide
abbrev FG:=@List.filter_cons
abbrev FH:=@List.take_append_of_le_length
abbrev FI:=@Int.le_trans
abbrev FJ:=@pushCells_keeps
abbrev FK:=@List.forIn_cons
abbrev FL:=@List.drop_nil
abbrev FM:=@List.sum_cons
abbrev FN:=@Array.perm_iff_toList_perm
abbrev FO:=@Int.le_refl
abbrev FP:=@Prod.mk.inj
abbrev FQ:=@Heap.size_push
abbrev FR:=@Nat.add_lt_add_of_lt_of_le
abbrev FS:=@List.pairwise_iff_getElem
abbrev FT:=@Array.getElem?_eq_getElem
abbrev FU:=@List.drop_eq_getElem_cons
abbrev FV:=@Nat.add_sub_cancel'
abbrev FW:=@List.mergeSort_perm
abbrev FX:=@arm_eval_Call_Name'
abbrev FY:=@Heap.SameBut.update
abbrev FZ:=@List.map_eq_nil_iff
abbrev GA:=@Option.map_some
abbrev GB:=@List.zip_cons_cons
abbrev GC:=@List.length_range'
abbrev GD:=@sizeLine_eq
abbrev GE:=@Nat.le_succ
end Mine
end
section
open PySem
namespace Mine
inductive PV where
 | none
 | bool(b:Bool)
 | int(i:Int)
 | str(s:Str)
 | tup(l:List PV)
 | lst(l:List PV)
 | ref(i:Nat)
 | inst(c:Nat)(i:Nat)
 | pat(b:Bool)
 | edict
 deriving Inhabited
inductive z3a where
 | lst(l:List PV)
 | att(l:List (Nat×PV))
 deriving Inhabited
inductive BOp where
 | add | sub | mul | fdiv | mod | shl | pow | band | bxor
inductive COp where
 | eq | ne | lt | le | gt | ge | in_ | nin
inductive q7h where
 | len | sum | max | sorted | int | hex | tuple
 | lower | upper | split | join | index | flagGet | search | lenSet
inductive z6g where
 | over | range | zip | items
inductive Pat where
 | one(k:Nat)
 | tup(ks:List Nat)
inductive ME where
 | none
 | bool(b:Bool)
 | int(i:Int)
 | str(s:Str)
 | dbg
 | var(k:Nat)
 | bin(o:BOp)(a b:ME)
 | neg(a:ME)
 | cmp(o:COp)(a b:ME)
 | isNone(ng:Bool)(a:ME)
 | isTy(ng:Bool)(t:Bool)(a:ME)
 | ite(c a b:ME)
 | idx(a i:ME)
 | slice(a:ME)(lo hi:Option ME)
 | tup(l:List ME)
 | lst(l:List ME)
 | mlst(l:List ME)
 | mcat(a b:ME)
 | mslice(a:ME)
 | pure(e:ME)
 | gc(e:ME)
 | comp(elt:ME)(gs:List (Pat×z6g×List ME×List ME))
 | call(f:Nat)(args:List ME)
 | new(c:Nat)(args:List ME)
 | newg(c:Nat)(args:List ME)
 | meth(m:Nat)(o:ME)(args:List ME)
 | methk(m:Nat)(o:ME)(args:List ME)(k:Nat)(e:ME)
 | attr(k:Nat)(o:ME)
 | gattr(k:Nat)
 | pat(b:Bool)
 | prim(p:q7h)(args:List ME)
 | notE(a:ME)
 | andE(l:List ME)
 | orE(l:List ME)
 | stuck
inductive MS where
 | ret(e:ME)
 | expr(e:ME)
 | assign(p:Pat)(e:ME)
 | assigns(ks:List Nat)(e:ME)
 | aug(o:BOp)(k:Nat)(e:ME)
 | setAttr(o:ME)(k:Nat)(e:ME)
 | setIdx(o i e:ME)
 | setAll(o e:ME)
 | delIdx(o i:ME)
 | append(o e:ME)
 | ifs(c:ME)(a b:List MS)
 | for_(p:Pat)(k:z6g)(src:List ME)(body orelse:List MS)
 | while_(c:ME)(body:List MS)
 | brk
 | stuck
noncomputable abbrev z0b:=List z3a
noncomputable abbrev z0n:=Nat->Option PV
inductive Fl where
 | next(Y:z0n)
 | brk(Y:z0n)
 | ret(v:PV)
structure Lim where
 b:Nat
 ab:Nat
noncomputable def M(V:Type):=Lim->z0b->Option (V×z0b)
namespace M
noncomputable def pure{V:Type}(a:V):M V:=fun _ H=>some (a,H)
noncomputable def fail{V:Type}:M V:=fun _ _=>Option.none
noncomputable def bind{V Z:Type}(m:M V)(f:V->M Z):M Z:=fun b H=>match m b H with
 | some (a,H')=>f a b H'
 | Option.none=>Option.none
noncomputable def ofOpt{V:Type}(o:Option V):M V:=fun _ H=>match o with
 | some a=>some (a,H)
 | Option.none=>Option.none
end M
noncomputable def upd(Y:z0n)(k:Nat)(v:PV):z0n:=fun j=>if j=k then some v else Y j
noncomputable def z4g(Y:z0n):List Nat->List PV->Option z0n
 | [],[]=>some Y
 | k::ks,v::vs=>z4g (upd Y k v) ks vs
 | _,_=>none
noncomputable def clear(Y:z0n)(ks:List Nat):z0n:=fun j=>if ks.contains j then none else Y j
noncomputable def z2n:Nat:=16777216
noncomputable def z0y(H:z0b)(i:Nat):Option (List PV):=match H[i]? with
 | some (.lst l)=>some l
 | _=>none
noncomputable def k3i(H:z0b):PV->Option (List PV)
 | .tup l=>some l
 | .lst l=>some l
 | .ref i=>z0y H i
 | _=>none
mutual
noncomputable def z1n:PV->Option PyData
 | .none=>some .none
 | .bool b=>some (.bool b)
 | .int i=>some (.int i)
 | .str s=>if PyData.strOk s then some (.str s) else none
 | .tup l=>(z0p l).map .tuple
 | .lst l=>(z0p l).map .list
 | .ref _=>none
 | .inst _ _=>none
 | .pat _=>none
 | .edict=>none
noncomputable def z0p:List PV->Option (List PyData)
 | []=>some []
 | p::ps=>(z1n p).bind fun d=>(z0p ps).map fun ds=>d::ds
end
noncomputable def w8c(H:z0b):PV->Option PV
 | .ref i=>(z0y H i).map .lst
 | v=>some v
noncomputable def small(i:Int):Bool:=decide (i.natAbs<2^64)
noncomputable def sz(l:List PV):Option (List PV):=if l.length<=z2n then some l else none
noncomputable def z5l(H:z0b):PV->Option (List PV)
 | .lst l=>some l
 | .ref i=>z0y H i
 | _=>none
noncomputable def one{V:Type}(l:List PV)(k:PV->Option V):Option V:=match l with
 | [a]=>k a
 | _=>none
noncomputable def two{V:Type}(l:List PV)(k:PV->PV->Option V):Option V:=match l with
 | [a,b]=>k a b
 | _=>none
noncomputable def j2m{V:Type}(p:PV)(k:Int->Option V):Option V:=match p with
 | .int i=>k i
 | _=>none
noncomputable def j2n{V:Type}(p:PV)(k:Str->Option V):Option V:=match p with
 | .str i=>k i
 | _=>none
noncomputable def w1x{V:Type}(p:PV)(k:List PV->Option V):Option V:=match p with
 | .tup i=>k i
 | _=>none
noncomputable def x5j{V:Type}(p:PV)(k:List PV->Option V):Option V:=match p with
 | .lst i=>k i
 | _=>none
noncomputable def w5w{V:Type}(p:PV)(k:Bool->Option V):Option V:=match p with
 | .pat i=>k i
 | _=>none
noncomputable def y8v{V:Type}(p q:PV)(k:Int->Int->Option V):Option V:=j2m p fun a=>j2m q fun b=>k a b
noncomputable def z4y:List PV->Option (List Int)
 | []=>some []
 | p::r=>j2m p fun i=>(z4y r).map (i::·)
noncomputable def z8e:List PV->Option (List Str)
 | []=>some []
 | p::r=>j2n p fun x=>(z8e r).map (x::·)
noncomputable def listMul(a:List PV):Nat->List PV
 | 0=>[]
 | n+1=>a++listMul a n
noncomputable def w5x(H:z0b)(p q:PV):Option PV:=(z5l H p).bind fun a=>(z5l H q).bind fun b=>(sz (a++b)).map .lst
noncomputable def w5y(H:z0b)(p q:PV):Option PV:=match p with
 | .int a=>j2m q fun b=>some (.int (a+b))
 | .str x=>j2n q fun y=>if x.length+y.length<=z2n then some (.str (x++y)) else none
 | .tup a=>w1x q fun b=>(sz (a++b)).map .tup
 | p=>w5x H p q
noncomputable def w1y(H:z0b)(p q:PV):Option PV:=j2m q fun n=>match p with
 | .int a=>if small a&&small n then some (.int (a*n)) else none
 | .str x=>if n.natAbs<=1000/\x.length<=1000 then some (.str (Txt.mul x n)) else none
 | p=>(z5l H p).bind fun a=>if n.natAbs<=1000/\a.length<=1000 then some (.lst (listMul a n.toNat)) else none
noncomputable def y6q(o:BOp)(H:z0b)(p q:PV):Option PV:=match o with
 | .add=>w5y H p q
 | .mul=>w1y H p q
 | .sub=>y8v p q fun a b=>some (.int (a - b))
 | .fdiv=>y8v p q fun a b=>if b≠0/\b.natAbs<1000000 then some (.int (a.fdiv b)) else none
 | .mod=>y8v p q fun a b=>if b≠0 then some (.int (a.fmod b)) else none
 | .shl=>y8v p q fun a b=>if 0<=b/\b<=1000000/\a.natAbs<2^64 then some (.int (a*2^b.toNat)) else none
 | .pow=>y8v p q fun a b=>if 0<=b/\b<=1000000/\a.natAbs<2^64 then some (.int (a^b.toNat)) else none
 | .band=>y8v p q fun a b=>some (.int (Builtin.bitAnd a b))
 | .bxor=>y8v p q fun a b=>some (.int (Builtin.bitXor a b))
noncomputable def x5k(o:BOp)(p q:PV):Option PV:=match o with
 | .add=>y8v p q fun a b=>some (.int (a+b))
 | .bxor=>y8v p q fun a b=>some (.int (Builtin.bitXor a b))
 | _=>none
noncomputable def eqD(p q:PV):Option Bool:=(z1n p).bind fun d=>(z1n q).bind fun e=>if d.depth<=30/\e.depth<=30 then some (PyData.eqv d e) else none
noncomputable def eqV(p q:PV):Option Bool:=match p with
 | .int a=>(match q with | .int b=>some (a==b) | q=>eqD (.int a) q)
 | .str a=>(match q with | .str b=>some (a==b) | q=>eqD (.str a) q)
 | .bool a=>(match q with | .bool b=>some (a==b) | q=>eqD (.bool a) q)
 | p=>eqD p q
noncomputable def inL(x:PV)(l:List PV):Option Bool:=(z0p l).bind fun ds=>(z1n x).bind fun d=>if d.depth<=30 then some (ds.any fun y=>PyData.eqv y d) else none
noncomputable def inV(x p:PV):Option Bool:=match p with
 | .lst l=>inL x l
 | .tup l=>inL x l
 | _=>none
noncomputable def w1g(o:COp)(p q:PV):Option Bool:=
 match o with
 | .eq=>eqV p q
 | .ne=>(eqV p q).map (!·)
 | .in_=>inV p q
 | .nin=>(inV p q).map (!·)
 | .lt=>y8v p q fun a b=>some (decide (a<b))
 | .le=>y8v p q fun a b=>some (decide (a<=b))
 | .gt=>y8v p q fun a b=>some (decide (b<a))
 | .ge=>y8v p q fun a b=>some (decide (b<=a))
noncomputable def z7a(n:Nat)(k:Int):Option Nat:=
 if 0<=k then(if k<n then some k.toNat else none) else(if 0<=k+n then some (k+n).toNat else none)
noncomputable def j2o(H:z0b)(p:PV)(k:Int):Option PV:=match p with
 | .str x=>if x.length<=1000000 then(z7a x.length k).bind fun j=>(x.cps[j]?).map fun c=>.str ⟨#[c]⟩ else none
 | p=>(k3i H p).bind fun l=>(z7a l.length k).bind fun j=>l[j]?
noncomputable def k2u{V:Type}(l:List V)(lo hi:Nat):List V:=(l.take hi).drop lo
noncomputable def x5l(k:Int):Option Nat:=if 0<=k/\k<=1000000 then some k.toNat else none
noncomputable def loK(lo:Option Int):Option Nat:=match lo with
 | some k=>x5l k
 | none=>some 0
noncomputable def hiK(hi:Option Int):Option (Option Nat):=match hi with
 | some k=>(x5l k).map some
 | none=>some none
noncomputable def w8d(H:z0b)(lo:Option Int)(a:Nat)(b:Option Nat)(p:PV):Option PV:=match p with
 | .tup l=>if lo.isNone then b.bind fun b=>if b<l.length then some (.tup (l.take b)) else none else none
 | .lst l=>some (.lst (k2u l a (b.getD l.length)))
 | .ref i=>(z0y H i).map fun l=>.lst (k2u l a (b.getD l.length))
 | _=>none
noncomputable def z7v(H:z0b)(p:PV)(lo hi:Option Int):Option PV:=(loK lo).bind fun a=>(hiK hi).bind fun b=>w8d H lo a b p
inductive w5z{V A8:Type}(o:Option V)(f:V->Option A8)(r:A8):Prop
 | mk (a:V) (h1:o=some a) (h2:f a=some r):w5z o f r
inductive w6a{V A8:Type}(o:Option V)(f:V->A8)(r:A8):Prop
 | mk (a:V) (h1:o=some a) (h2:f a=r):w6a o f r
theorem z1f{V A8:Type}{o:Option V}{f:V->Option A8}{r:A8}(h:o.bind f=some r):w5z o f r:=by
 cases o with
 | none=>contradiction
 | some a=>exact⟨a,rfl,h⟩
theorem z1d{V A8:Type}{o:Option V}{f:V->A8}{r:A8}(h:o.map f=some r):w6a o f r:=by
 cases o with
 | none=>contradiction
 | some a=>exact⟨a,rfl,AF h⟩
theorem z0q{V:Type}{c:Prop}[Decidable c]{x:Option V}{r:V}(h:(if c then x else none)=some r):c/\x=some r:=by
 by_cases q:c
 ·rw [AQ q] at h;exact⟨q,h⟩
 ·rw [AS q] at h;contradiction
theorem one_inv{V:Type}{l:List PV}{k:PV->Option V}{r:V}(h:one l k=some r):∃ a,l=[a]/\k a=some r:=by
 match l,h with
 | [a],h=>exact⟨a,rfl,h⟩
theorem two_inv{V:Type}{l:List PV}{k:PV->PV->Option V}{r:V}(h:two l k=some r):∃ a b,l=[a,b]/\k a b=some r:=by
 match l,h with
 | [a,b],h=>exact⟨a,b,rfl,h⟩
section
variable {V:Type} {p q:PV} {r:V}
theorem z6h{k:Int->Option V}(h:j2m p k=some r):∃ i,p=.int i/\k i=some r:=by
 induction p using PV.casesOn<;>first | exact⟨_,rfl,h⟩ | contradiction
theorem z5m{k:Str->Option V}(h:j2n p k=some r):∃ i,p=.str i/\k i=some r:=by
 induction p using PV.casesOn<;>first | exact⟨_,rfl,h⟩ | contradiction
theorem j9z{k:List PV->Option V}(h:w1x p k=some r):∃ i,p=.tup i/\k i=some r:=by
 induction p using PV.casesOn<;>first | exact⟨_,rfl,h⟩ | contradiction
theorem z7b{k:List PV->Option V}(h:x5j p k=some r):∃ i,p=.lst i/\k i=some r:=by
 induction p using PV.casesOn<;>first | exact⟨_,rfl,h⟩ | contradiction
theorem x0a{k:Bool->Option V}(h:w5w p k=some r):∃ i,p=.pat i/\k i=some r:=by
 induction p using PV.casesOn<;>first | exact⟨_,rfl,h⟩ | contradiction
theorem y3v{k:Int->Int->Option V}(h:y8v p q k=some r):∃ i j,p=.int i/\q=.int j/\k i j=some r:=by
 obtain⟨i,e,h⟩:=z6h h
 obtain⟨j,e',h⟩:=z6h h
 exact⟨i,j,e,e',h⟩
end
theorem q0y{l r:List PV}(h:sz l=some r):l.length<=z2n/\l=r:=by
 obtain⟨h1,h2⟩:=z0q h
 exact⟨h1,AF h2⟩
theorem z3y{H:z0b}{i:Nat}{l:List PV}(h:z0y H i=some l):H[i]?=some (.lst l):=by
 unfold z0y at h
 split at h
 ·injection h with h;subst h;assumption
 ·contradiction
structure z4x where
 pos:List Nat
 dfl:List PV:=[]
 kwo:List Nat:=[]
 kwargs:Option Nat:=none
 body:List MS
structure MP where
 fn:Nat->Option z4x
 meth:Nat->Nat->Option Nat
 gattr:Nat->Option Str
 flags:List (Int×Str)
 okPat:Bool->Str->Bool
noncomputable def z9n(H:z0b):PV->Option Bool
 | .bool b=>some b
 | .int i=>some (i != 0)
 | .none=>some false
 | _=>none
noncomputable def pairsOf:List PV->Option (List (Int×Int))
 | []=>some []
 | .tup [.int a,.int b]::r=>(pairsOf r).map ((a,b)::·)
 | _::_=>none
noncomputable def y8w(x:Str):Option Int:=match x.cps.toList with
 | [c]=>if 48<=c/\c<=57 then some ((c:Int) - 48) else none
 | _=>none
noncomputable def z5s(S:Int->Bool):List Int->Nat
 | []=>0
 | i::r=>(if S i then 0 else 1)+z5s (fun k=>S k || decide (k=i)) r
noncomputable def y3w(l:List Int):Nat:=z5s (fun _=>false) l
noncomputable def z8f(d:PyData):List PyData->Option Nat
 | []=>none
 | x::r=>if PyData.eqv x d then some 0 else(z8f d r).map (·+1)
noncomputable def z3o(a b:Int×Int):Bool:=decide (a.1<b.1) || (a.1==b.1&&decide (a.2<=b.2))
noncomputable def z2o(i:Int):Bool:=decide (0<=i)&&decide (i<1000)
noncomputable def w6b(H:z0b)(p:PV):Option PV:=match p with
 | .str x=>if x.length<=1000000 then some (.int x.length) else none
 | p=>(k3i H p).map fun l=>.int l.length
noncomputable def w1z:List Int->Option PV
 | n::ns=>some (.int (ns.foldl (fun a b=>if b > a then b else a) n))
 | []=>none
noncomputable def w2a(args:List PV):Option PV:=match args with
 | [a]=>x5j a fun l=>(z4y l).bind w1z
 | [a,b]=>y8v a b fun a b=>some (.int (if b > a then b else a))
 | _=>none
noncomputable def k3j(l:List PV):Option PV:=(pairsOf l).bind fun ps=>if ps.length≠1/\ps.length<64/\(ps.all fun q=>z2o q.1&&z2o q.2)=true then some (.lst ((ps.mergeSort z3o).map fun q=>.tup [.int q.1,.int q.2])) else none
noncomputable def z4z(P:MP)(p:q7h)(H:z0b)(args:List PV):Option PV:=
 match p with
 | .len=>one args fun a=>w6b H a
 | .sum=>one args fun a=>x5j a fun l=>(z4y l).map fun ns=>.int ns.sum
 | .max=>w2a args
 | .sorted=>one args fun a=>x5j a k3j
 | .int=>one args fun a=>j2n a fun x=>(y8w x).map .int
 | .hex=>one args fun a=>j2m a fun i=>if i.natAbs<2^64 then some (.str (baseText "0x" 16 i)) else none
 | .tuple=>one args fun a=>(z5l H a).map .tup
 | .lower=>one args fun a=>j2n a fun x=>if x.length<=100000 then some (.str (Txt.lower x)) else none
 | .upper=>one args fun a=>j2n a fun x=>if x.length<=100000 then some (.str (Txt.upper x)) else none
 | .split=>two args fun a b=>j2n a fun x=>j2n b fun y=>if x.length<=100000/\y.length≠0 then some (.lst ((Txt.split x y).map .str)) else none
 | .join=>two args fun a b=>j2n a fun x=>(z5l H b).bind fun l=>(z8e l).bind fun ts=>if JoinOk x ts then some (.str (Txt.join x ts)) else none
 | .index=>two args fun a b=>x5j a fun l=>(z0p l).bind fun ds=>(z1n b).bind fun d=>if d.depth=0 then(z8f d ds).map fun(n:Nat)=>PV.int (n:Int) else none
 | .flagGet=>two args fun a d=>j2m a fun k=>some (match P.flags.lookup k with | some x=>.str x | none=>d)
 | .search=>two args fun a b=>w5w a fun t=>j2n b fun x=>if P.okPat t x then some .none else none
 | .lenSet=>(z4y args).map fun ns=>.int (y3w ns)
mutual
noncomputable def y6t(n:Nat):PV->Bool
 | .ref i=>decide (i<n)
 | .inst _ i=>decide (i<n)
 | .tup l=>z0w n l
 | .lst l=>z0w n l
 | _=>true
noncomputable def z0w(n:Nat):List PV->Bool
 | []=>true
 | p::ps=>y6t n p&&z0w n ps
end
mutual
noncomputable def frz(n:Nat)(H:z0b):PV->Option PV
 | .ref i=>if i<n then some (.ref i) else(z0y H i).bind fun l=>if z0w n l then some (.lst l) else none
 | .inst c i=>if i<n then some (.inst c i) else none
 | .tup l=>(j0b n H l).map .tup
 | .lst l=>(j0b n H l).map .lst
 | p=>some p
noncomputable def j0b(n:Nat)(H:z0b):List PV->Option (List PV)
 | []=>some []
 | p::ps=>(frz n H p).bind fun q=>(j0b n H ps).map fun qs=>q::qs
end
noncomputable abbrev z0h:=Nat->List PV->List (Nat×PV)->M PV
noncomputable def z3t{V:Type}(f:ME->M V):List ME->M (List V)
 | []=>M.pure []
 | e::es=>(f e).bind fun a=>(z3t f es).bind fun as=>M.pure (a::as)
noncomputable def z5h(a b:Int):List PV:=(List.range (b - a).toNat).map fun(k:Nat)=>PV.int (a+(k:Int))
noncomputable def x7o(H:z0b)(p:PV):Option (List PV×Bool):=match p with
 | .lst l=>some (l,false)
 | .tup l=>some (l,false)
 | .str x=>some (x.cps.toList.map fun c=>.str ⟨#[c]⟩,false)
 | .ref i=>(z0y H i).map fun l=>(l,true)
 | _=>none
noncomputable def j2r(args:List PV):Option (List PV):=match args with
 | [b]=>j2m b fun b=>if b.natAbs<=1000000 then some (z5h 0 b) else none
 | [a,b]=>y8v a b fun a b=>if a.natAbs<=1000000/\b.natAbs<=1000000 then some (z5h a b) else none
 | _=>none
noncomputable def x5m(p:PV):Bool:=match p with
 | .edict=>true
 | _=>false
noncomputable def k2v(k:z6g)(H:z0b)(args:List PV):Option (List PV×Bool):=
 match k with
 | .over=>one args fun a=>x7o H a
 | .range=>(j2r args).map fun l=>(l,false)
 | .zip=>two args fun a b=>x5j a fun a=>x5j b fun b=>some ((a.zip b).map fun q=>.tup [q.1,q.2],false)
 | .items=>one args fun a=>if x5m a then some ([],false) else none
noncomputable def z1v(Y:z0n):Pat->PV->Option z0n
 | .one k,v=>some (upd Y k v)
 | .tup ks,.tup l=>z4g Y ks l
 | _,_=>none
noncomputable def z2u:Pat->List Nat
 | .one k=>[k]
 | .tup ks=>ks
structure z6z where
 ev:z0n->ME->M PV
 ts:z0n->ME->M Bool
 ex:z0n->MS->M Fl
noncomputable def M.raised{V:Type}(up:Bool)(m:M V):M V:=fun b H=>m (if up then⟨H.length,H.length⟩ else b) H
noncomputable def z5e(f:PV->M (List PV)):List PV->M (List PV)
 | []=>M.pure []
 | x::xs=>(f x).bind fun a=>(z5e f xs).bind fun as=>M.pure (a++as)
noncomputable def z8z(S:z6z)(Y:z0n)(k:z6g)(args:List ME):M (List PV×Bool):=
 (z3t (S.ev Y) args).bind fun vs=>fun b H=>match k2v k H vs with
  | some r=>some (r,H)
  | none=>none
noncomputable def y4w(f:ME->M Bool):List ME->M Bool
 | []=>M.pure true
 | c::cs=>(f c).bind fun ok=>if ok then y4w f cs else M.pure false
noncomputable def x7p(f:ME->M Bool):List ME->M Bool
 | []=>M.pure false
 | c::cs=>(f c).bind fun ok=>if ok then M.pure true else x7p f cs
noncomputable def z3h(S:z6z)(elt:ME)(Y:z0n)(pat:Pat)(ifs:List ME)(rest:List (Pat×z6g×List ME×List ME))(items:List PV):M (List PV):=
 z5e (fun v=>match z1v Y pat v with
  | none=>M.fail
  | some Y'=>(y4w (S.ts Y') ifs).bind fun ok=>if ok then
    (match rest with
     | []=>(S.ev Y' elt).bind fun r=>M.pure [r]
     | (pat',k,args,ifs')::rest'=>(z8z S Y' k args).bind fun r=>(z3h S elt Y' pat' ifs' rest' r.1).raised r.2)
   else M.pure []) items
termination_by structural rest
noncomputable def y0m(S:z6z)(elt:ME)(Y:z0n):List (Pat×z6g×List ME×List ME)->M (List PV)
 | []=>M.fail
 | (pat,k,args,ifs)::rest=>(z8z S Y k args).bind fun r=>
  ((z3h S elt (clear Y (z2u pat++rest.flatMap fun g=>z2u g.1)) pat ifs rest r.1).raised r.2).bind fun l=>
   if decide (l.length<=z2n) then M.pure l else M.fail
noncomputable def exs(ex:z0n->MS->M Fl):z0n->List MS->M Fl
 | Y,[]=>M.pure (.next Y)
 | Y,st::r=>(ex Y st).bind fun f=>match f with
  | .next Y'=>exs ex Y' r
  | f=>M.pure f
noncomputable def z3i(ex:z0n->MS->M Fl)(pat:Pat)(body orelse:List MS):z0n->List PV->M Fl
 | Y,[]=>exs ex Y orelse
 | Y,v::vs=>match z1v Y pat v with
  | none=>M.fail
  | some Y'=>(exs ex Y' body).bind fun f=>match f with
   | .next Y''=>z3i ex pat body orelse Y'' vs
   | .brk Y''=>M.pure (.next Y'')
   | .ret v=>M.pure (.ret v)
theorem j2s{ex:z0n->MS->M Fl}{pat:Pat}{body orelse:List MS}{Y:z0n}{v:PV}{vs:List PV}:z3i ex pat body orelse Y (v::vs)=(match z1v Y pat v with
  | none=>M.fail
  | some Y'=>(exs ex Y' body).bind fun f=>match f with
   | .next Y''=>z3i ex pat body orelse Y'' vs
   | .brk Y''=>M.pure (.next Y'')
   | .ret v=>M.pure (.ret v)):=rfl
noncomputable def y7g(S:z6z)(c:ME)(body:List MS):Nat->z0n->M Fl
 | 0,_=>M.fail
 | n+1,Y=>(S.ts Y c).bind fun ok=>if ok then
   (exs S.ex Y body).bind fun f=>match f with
    | .next Y'=>y7g S c body n Y'
    | .brk Y'=>M.pure (.next Y')
    | .ret v=>M.pure (.ret v)
  else M.pure (.next Y)
noncomputable def z2e(k:Nat)(v:PV):List (Nat×PV)->List (Nat×PV)
 | []=>[(k,v)]
 | (j,u)::r=>if j=k then(k,v)::r else(j,u)::z2e k v r
noncomputable def y0n(i:Nat)(l:List PV):M Unit:=fun b H=>if b.b<=i/\z0w 0 l=true then
  (match H[i]? with
   | some (.lst _)=>some ((),H.set i (.lst l))
   | _=>none)
 else none
noncomputable def j2t(i k:Nat)(v:PV):M Unit:=fun b H=>if b.ab<=i then
  (match H[i]? with
   | some (.att l)=>if(z2e k v l).length<=900 then some ((),H.set i (.att (z2e k v l))) else none
   | _=>none)
 else none
noncomputable def z8g(l:List PV):M PV:=fun _ H=>if z0w 0 l=true then some (.ref H.length,H++[.lst l]) else none
noncomputable def y4x:M Nat:=fun _ H=>some (H.length,H++[.att []])
noncomputable def y6u(i:Nat):M (List (Nat×PV)):=fun _ H=>match H[i]? with
 | some (.att l)=>some (l,H)
 | _=>none
noncomputable def y8x(i:Nat):M (List PV):=fun _ H=>match H[i]? with
 | some (.lst l)=>some (l,H)
 | _=>none
noncomputable def z5f:M z0b:=fun _ H=>some (H,H)
noncomputable def j0c(m:M PV):M PV:=fun _ H=>match m ⟨H.length,H.length⟩ H with
 | some (v,H')=>match frz H.length H' v with
  | some w=>some (w,H)
  | none=>none
 | none=>none
noncomputable def gcM(m:M PV):M PV:=fun b H=>match m ⟨b.b,H.length⟩ H with
 | some (v,H')=>match frz H.length H' v with
  | some w=>some (w,H'.take H.length)
  | none=>none
 | none=>none
noncomputable def z8h(n:Nat):List (Nat×PV)->Bool
 | []=>true
 | p::r=>y6t n p.2&&z8h n r
noncomputable def y2y(i:Nat)(m:M PV):M PV:=fun b H=>match m ⟨b.b,i⟩ H with
 | some (v,H')=>match H'[i]? with
  | some (.att l)=>if b.ab<=i/\i+1=H.length/\z8h H.length l=true/\isNone' v=true then some (.none,H'.take H.length) else none
  | _=>none
 | none=>none
where isNone':PV->Bool
 | .none=>true
 | _=>false
noncomputable def y4y:Nat:=0
noncomputable def y4z:Nat:=1
noncomputable def q7i:Nat:=2
noncomputable def y8y:Nat:=3
noncomputable def y3x:Nat:=4
noncomputable def j2u{V:Type}(p:PV)(k:Nat->Nat->M V):M V:=match p with
 | .inst c i=>k c i
 | _=>M.fail
noncomputable def w1h{V:Type}(p:PV)(k:Nat->M V):M V:=match p with
 | .ref i=>k i
 | _=>M.fail
noncomputable def y0o(P:MP)(C:z0h)(m:Nat)(o:PV)(args:List PV)(kw:List (Nat×PV)):M PV:=j2u o fun c _=>(M.ofOpt (P.meth c m)).bind fun f=>C f (o::args) kw
noncomputable def x0b{V:Type}(f:ME->M V):Option ME->M (Option V)
 | none=>M.pure none
 | some e=>(f e).bind fun a=>M.pure (some a)
noncomputable def y6v(p:PV):M Int:=M.ofOpt (j2m p some)
noncomputable def z9o(o:Option PV):M (Option Int):=match o with
 | none=>M.pure none
 | some p=>(y6v p).bind fun i=>M.pure (some i)
noncomputable def q4r(H:z0b)(t:Bool):PV->Option Bool
 | .str _=>some t
 | .lst _=>some (!t)
 | .ref i=>(z0y H i).map fun _=>!t
 | _=>none
noncomputable def z3b:PV->Bool
 | .none=>true
 | _=>false
noncomputable def q7j:PV->M Bool
 | .bool b=>M.pure b
 | _=>M.fail
noncomputable def x5n:PV->Bool
 | .inst _ _=>true
 | _=>false
noncomputable def w2b:COp->Bool
 | .in_=>true
 | _=>false
noncomputable def z9p(P:MP)(C:z0h)(o:COp)(p q:PV):M PV:=if w2b o&&x5n q then(y0o P C y4z q [p] []).bind fun r=>(q7j r).bind fun b=>M.pure (.bool b)
 else(M.ofOpt (w1g o p q)).bind fun r=>M.pure (.bool r)
noncomputable def j9v(P:MP)(C:z0h)(p q:PV):M PV:=match p with
 | .inst c i=>y0o P C q7i (.inst c i) [q] []
 | p=>(y6v q).bind fun k=>z5f.bind fun H=>M.ofOpt (j2o H p k)
noncomputable def x0c(k:Nat)(p:PV):M PV:=j2u p fun _ i=>(y6u i).bind fun l=>M.ofOpt (l.lookup k)
noncomputable def x0d(p:PV):M Unit:=w1h p fun j=>(y8x j).bind fun _=>M.pure ()
noncomputable def q4s(p:PV):M Unit:=j2u p fun _ i=>(y6u i).bind fun _=>M.pure ()
noncomputable def z9a(k:Nat)(p v:PV):M Unit:=j2u p fun _ i=>j2t i k v
noncomputable def y5a(P:MP)(C:z0h)(p q v:PV):M Unit:=match p with
 | .inst c i=>(y0o P C y8y (.inst c i) [q,v] []).bind fun _=>M.pure ()
 | .ref j=>(y6v q).bind fun k=>(y8x j).bind fun l=>(M.ofOpt (if 0<=k then z7a l.length k else none)).bind fun n=>y0n j (l.set n v)
 | _=>M.fail
noncomputable def y8z(p v:PV):M Unit:=w1h p fun j=>(M.ofOpt (x5j v some)).bind fun l=>(y8x j).bind fun l0=>(M.ofOpt (sz (l0++l))).bind fun _=>y0n j l
noncomputable def y9a(p v:PV):M Unit:=w1h p fun j=>(y8x j).bind fun l=>(M.ofOpt (sz (l++[v]))).bind fun l'=>y0n j l'
noncomputable def z1g(P:MP)(C:z0h)(S:z6z)(Y:z0n)(e:ME):M PV:=match e with
 | .none=>M.pure .none
 | .bool b=>M.pure (.bool b)
 | .int i=>M.pure (.int i)
 | .str s=>M.pure (.str s)
 | .dbg=>M.pure (.bool true)
 | .var k=>M.ofOpt (Y k)
 | .neg a=>(S.ev Y a).bind fun p=>(y6v p).bind fun i=>M.pure (.int (-i))
 | .bin o a b=>(S.ev Y a).bind fun p=>(S.ev Y b).bind fun q=>z5f.bind fun H=>M.ofOpt (y6q o H p q)
 | .cmp o a b=>(S.ev Y a).bind fun p=>(S.ev Y b).bind fun q=>z9p P C o p q
 | .isNone ng a=>(S.ev Y a).bind fun p=>M.pure (.bool (z3b p != ng))
 | .isTy ng t a=>(S.ev Y a).bind fun p=>z5f.bind fun H=>(M.ofOpt (q4r H t p)).bind fun r=>M.pure (.bool (r != ng))
 | .ite c a b=>(S.ts Y c).bind fun t=>if t then S.ev Y a else S.ev Y b
 | .idx a i=>(S.ev Y a).bind fun p=>(S.ev Y i).bind fun q=>j9v P C p q
 | .slice a lo hi=>(S.ev Y a).bind fun p=>(x0b (S.ev Y) lo).bind fun l=>(x0b (S.ev Y) hi).bind fun h=>(z9o l).bind fun l=>(z9o h).bind fun h=>
   z5f.bind fun H=>M.ofOpt (z7v H p l h)
 | .tup l=>(z3t (S.ev Y) l).bind fun vs=>M.pure (.tup vs)
 | .lst l=>(z3t (S.ev Y) l).bind fun vs=>M.pure (.lst vs)
 | .mlst l=>(z3t (S.ev Y) l).bind fun vs=>z8g vs
 | .mcat a b=>(S.ev Y a).bind fun p=>(S.ev Y b).bind fun q=>z5f.bind fun H=>(M.ofOpt (z5l H p)).bind fun x=>(M.ofOpt (z5l H q)).bind fun y=>(M.ofOpt (sz (x++y))).bind fun l=>z8g l
 | .mslice a=>(S.ev Y a).bind fun p=>z5f.bind fun H=>(M.ofOpt (z5l H p)).bind fun x=>z8g x
 | .pure e=>j0c (S.ev Y e)
 | .gc e=>gcM (S.ev Y e)
 | .comp elt gs=>(y0m S elt Y gs).bind fun l=>M.pure (.lst l)
 | .call f args=>(z3t (S.ev Y) args).bind fun vs=>C f vs []
 | .new c args=>(M.ofOpt (P.meth c y4y)).bind fun f=>(z3t (S.ev Y) args).bind fun vs=>y4x.bind fun i=>(C f (.inst c i::vs) []).bind fun r=>if z3b r then M.pure (.inst c i) else M.fail
 | .newg c args=>(M.ofOpt (P.meth c y4y)).bind fun f=>(z3t (S.ev Y) args).bind fun vs=>y4x.bind fun i=>(y2y i (C f (.inst c i::vs) [])).bind fun _=>M.pure (.inst c i)
 | .meth m o args=>(S.ev Y o).bind fun p=>(q4s p).bind fun _=>(z3t (S.ev Y) args).bind fun vs=>y0o P C m p vs []
 | .methk m o args k e=>(S.ev Y o).bind fun p=>(q4s p).bind fun _=>(z3t (S.ev Y) args).bind fun vs=>(S.ev Y e).bind fun v=>y0o P C m p vs [(k,v)]
 | .attr k o=>(S.ev Y o).bind fun p=>x0c k p
 | .gattr k=>(M.ofOpt (P.gattr k)).bind fun x=>M.pure (.str x)
 | .pat b=>M.pure (.pat b)
 | .prim p args=>(z3t (S.ev Y) args).bind fun vs=>z5f.bind fun H=>M.ofOpt (z4z P p H vs)
 | .notE _=>M.fail
 | .andE _=>M.fail
 | .orE _=>M.fail
 | .stuck=>M.fail
noncomputable def x5o(S:z6z)(Y:z0n)(e:ME):M Bool:=match e with
 | .notE a=>(S.ts Y a).bind fun t=>M.pure (!t)
 | .andE l=>y4w (S.ts Y) l
 | .orE l=>x7p (S.ts Y) l
 | e=>(S.ev Y e).bind fun p=>z5f.bind fun H=>M.ofOpt (z9n H p)
noncomputable def z4h(P:MP)(C:z0h)(S:z6z)(Y:z0n)(st:MS):M Fl:=match st with
 | .ret e=>(S.ev Y e).bind fun v=>M.pure (.ret v)
 | .expr e=>(S.ev Y e).bind fun _=>M.pure (.next Y)
 | .assign p e=>(S.ev Y e).bind fun v=>(M.ofOpt (z1v Y p v)).bind fun Y'=>M.pure (.next Y')
 | .assigns ks e=>(S.ev Y e).bind fun v=>M.pure (.next (ks.foldl (fun Y k=>upd Y k v) Y))
 | .aug o k e=>(M.ofOpt (Y k)).bind fun p=>(S.ev Y e).bind fun q=>z5f.bind fun H=>(M.ofOpt (x5k o p q)).bind fun r=>M.pure (.next (upd Y k r))
 | .setAttr o k e=>(S.ev Y e).bind fun v=>(S.ev Y o).bind fun p=>(z9a k p v).bind fun _=>M.pure (.next Y)
 | .setIdx o i e=>(S.ev Y e).bind fun v=>(S.ev Y o).bind fun p=>(S.ev Y i).bind fun q=>(y5a P C p q v).bind fun _=>M.pure (.next Y)
 | .setAll o e=>(S.ev Y e).bind fun v=>(S.ev Y o).bind fun p=>(y8z p v).bind fun _=>M.pure (.next Y)
 | .delIdx o i=>(S.ev Y o).bind fun p=>(S.ev Y i).bind fun q=>(y0o P C y3x p [q] []).bind fun _=>M.pure (.next Y)
 | .append o e=>(S.ev Y o).bind fun p=>(x0d p).bind fun _=>(S.ev Y e).bind fun v=>(y9a p v).bind fun _=>M.pure (.next Y)
 | .ifs c a b=>(S.ts Y c).bind fun t=>exs S.ex Y (if t then a else b)
 | .for_ p k src body orelse=>(z8z S Y k src).bind fun r=>(z3i S.ex p body orelse Y r.1).raised r.2
 | .while_ c body=>y7g S c body 40 Y
 | .brk=>M.pure (.brk Y)
 | .stuck=>M.fail
noncomputable def sem(P:MP)(C:z0h):Nat->z6z
 | 0=>⟨fun _ _=>M.fail,fun _ _=>M.fail,fun _ _=>M.fail⟩
 | n+1=>⟨z1g P C (sem P C n),x5o (sem P C n),z4h P C (sem P C n)⟩
noncomputable def w2c:Nat:=40
noncomputable def j0d(F:z4x):z0n:=match F.kwargs with
 | some k=>upd (fun _=>none) k .edict
 | none=>fun _=>none
noncomputable def q4t(F:z4x)(pos:List PV)(kw:List (Nat×PV)):Option z0n:=
 if kw.map (·.1)=F.kwo then(z4g (j0d F) F.kwo (kw.map (·.2))).bind fun Y=>
  if pos.length<=F.pos.length then z4g Y F.pos (pos++F.dfl.drop (F.dfl.length - (F.pos.length - pos.length))) else none
 else none
noncomputable def k3k:Fl->M PV
 | .ret v=>M.pure v
 | .next _=>M.pure .none
 | .brk _=>M.fail
noncomputable def z0f(P:MP):Nat->z0h
 | 0,_,_,_=>M.fail
 | lv+1,f,pos,kw=>(M.ofOpt (P.fn f)).bind fun F=>(M.ofOpt (q4t F pos kw)).bind fun Y=>(exs (sem P (z0f P lv) w2c).ex Y F.body).bind k3k
theorem z1x{c:Prop}[Decidable c]{k:c->Bool}(h:(if h:c then k h else false)=true):∃ hc,k hc=true:=by
 by_cases hc:c
 ·rw [dif_pos hc] at h;exact⟨hc,h⟩
 ·rw [dif_neg hc] at h;exact absurd h CJ
theorem z0v{a b:Bool}(h:(a&&b)=true):a=true/\b=true:=AH.mp h
theorem z4d{a b c:Bool}(h:(a&&b&&c)=true):a=true/\b=true/\c=true:=⟨(z0v (z0v h).1).1,(z0v (z0v h).1).2,(z0v h).2⟩
theorem z5t{a b c d:Bool}(h:(a&&b&&c&&d)=true):a=true/\b=true/\c=true/\d=true:=⟨(z4d (z0v h).1).1,(z4d (z0v h).1).2.1,(z4d (z0v h).1).2.2,(z0v h).2⟩
theorem z5i{a b c d e:Bool}(h:(a&&b&&c&&d&&e)=true):a=true/\b=true/\c=true/\d=true/\e=true:=⟨(z5t (z0v h).1).1,(z5t (z0v h).1).2.1,(z5t (z0v h).1).2.2.1,(z5t (z0v h).1).2.2.2,(z0v h).2⟩
theorem ff{P:Prop}(h:false=true):P:=Bool.noConfusion h
theorem sn{V:Type}{a:V}{P:Prop}(h:Option.none=some a):P:=by contradiction
theorem lk{a b c:Nat}(h:a<=b)(k:Nat.ble b c=true):a<=c:=AA h (CE k)
theorem mmm{a b c d:Nat}(h:a<=c)(k:b<=d):max a b<=max c d:=Nat.max_le.mpr ⟨AA h (DZ c d),AA k (EI c d)⟩
theorem x5p{c b:Nat}(h:c<=b):c+(b - c+1)=b+1:=AT Nat.succ (FV h)
theorem i64{x:Int}(h:x.natAbs<=2000000):-9223372036854775808<=x/\x<9223372036854775808:=
 ⟨FI (by decide:(-9223372036854775808:Int)<=-(2000000:Int)) (Int.neg_neg x▸Int.neg_le_neg (FI (Int.natAbs_neg x▸Int.le_natAbs) (Int.ofNat_le.mpr h))),Int.lt_of_le_of_lt (FI Int.le_natAbs (Int.ofNat_le.mpr h)) (by decide)⟩
theorem q0z:∀ x:Int,((x.toNat:Nat):Int).natAbs<=x.natAbs
 | .ofNat _=>AM _
 | .negSucc _=>BM _
theorem q0v{a:Bool}(h:(!a)=true):a=false:=by cases a;rfl;cases h
noncomputable def d0{V:Type}:List V->Bool
 | []=>true
 | _=>false
noncomputable def d1{V:Type}:List V->(V->Bool)->Bool
 | [a],k=>k a
 | _,_=>false
theorem j2v{V:Type}:∀ {l:List V},d0 l=true->l=[]
 | [],_=>rfl
 | _::_,h=>by cases h
theorem q1a{V:Type}:∀ {l:List V} {k:V->Bool},d1 l k=true->∃ a,l=[a]/\k a=true
 | [],_,h=>by cases h
 | [a],_,h=>⟨a,rfl,h⟩
 | _::_::_,_,h=>by cases h
noncomputable def dO{V:Type}:Option V->(V->Bool)->Bool
 | some a,k=>k a
 | none,_=>false
theorem z5a{V:Type}:∀ {l:Option V} {k:V->Bool},dO l k=true->∃ a,l=some a/\k a=true
 | none,_,h=>by cases h
 | some a,_,h=>⟨a,rfl,h⟩
theorem k2w{V:Type}{G:List V->Prop}{l:List V}(h:d0 l=true)(f:G []):G l:=by
 cases l with
 | nil=>exact f
 | cons a l=>cases h
theorem q4u{V:Type}{G:List V->Prop}{l:List V}{k:V->Bool}(h:d1 l k=true)(f:∀ a,k a=true->G [a]):G l:=by
 obtain⟨a,rfl,h⟩:=q1a h
 exact f a h
theorem w6c{V:Type}{G:Option V->Prop}{l:Option V}{k:V->Bool}(h:dO l k=true)(f:∀ a,k a=true->G (some a)):G l:=by
 obtain⟨a,rfl,h⟩:=z5a h
 exact f a h
theorem y1w{V:Type}[BEq V][LawfulBEq V]{G:V->Prop}{a b:V}(h:(a==b)=true)(f:G b):G a:=by
 rw [BI h];exact f
theorem z7c{V:Type}{G:Option V->Prop}{a:Option V}(h:a.isNone=true)(f:G none):G a:=by
 rw [Option.isNone_iff_eq_none.mp h];exact f
noncomputable def y1x(e:Expr)(k:PySem.BoolOp->List Expr->Bool):Bool:=if h:e.ctorIdx=0 then Expr.BoolOp.elim (motive_1:=fun _=>Bool) e h fun o l _=>k o l else false
theorem j2w{G:Expr->Prop}{e:Expr}{k:PySem.BoolOp->List Expr->Bool}(h:y1x e k=true)(kk:∀ o l p,k o l=true->G (Expr.BoolOp o l p)):G e:=by
 obtain⟨hi,h⟩:=z1x h
 exact Expr.BoolOp.elim (motive_1:=fun e=>∀ hi:e.ctorIdx=0,(Expr.BoolOp.elim (motive_1:=fun _=>Bool) e hi fun o l _=>k o l)=true->G e) e hi (fun o l p _ h=>kk o l p h) hi h
theorem y5b{e:Expr}{k:PySem.BoolOp->List Expr->Bool}(h:y1x e k=true):∃ o l p,e=Expr.BoolOp o l p/\k o l=true:=j2w (G:=fun e=>∃ o l p,e=Expr.BoolOp o l p/\k o l=true) h fun o l p h=>⟨o,l,p,rfl,h⟩
noncomputable def w2d(e:Expr)(k:Expr->Operator->Expr->Bool):Bool:=if h:e.ctorIdx=2 then Expr.BinOp.elim (motive_1:=fun _=>Bool) e h fun a o b _=>k a o b else false
theorem x5q{G:Expr->Prop}{e:Expr}{k:Expr->Operator->Expr->Bool}(h:w2d e k=true)(kk:∀ a o b p,k a o b=true->G (Expr.BinOp a o b p)):G e:=by
 obtain⟨hi,h⟩:=z1x h
 exact Expr.BinOp.elim (motive_1:=fun e=>∀ hi:e.ctorIdx=2,(Expr.BinOp.elim (motive_1:=fun _=>Bool) e hi fun a o b _=>k a o b)=true->G e) e hi (fun a o b p _ h=>kk a o b p h) hi h
noncomputable def dUn(e:Expr)(k:PySem.UnaryOp->Expr->Bool):Bool:=if h:e.ctorIdx=3 then Expr.UnaryOp.elim (motive_1:=fun _=>Bool) e h fun o a _=>k o a else false
theorem k3l{G:Expr->Prop}{e:Expr}{k:PySem.UnaryOp->Expr->Bool}(h:dUn e k=true)(kk:∀ o a p,k o a=true->G (Expr.UnaryOp o a p)):G e:=by
 obtain⟨hi,h⟩:=z1x h
 exact Expr.UnaryOp.elim (motive_1:=fun e=>∀ hi:e.ctorIdx=3,(Expr.UnaryOp.elim (motive_1:=fun _=>Bool) e hi fun o a _=>k o a)=true->G e) e hi (fun o a p _ h=>kk o a p h) hi h
theorem x7q{e:Expr}{k:PySem.UnaryOp->Expr->Bool}(h:dUn e k=true):∃ o a p,e=Expr.UnaryOp o a p/\k o a=true:=k3l (G:=fun e=>∃ o a p,e=Expr.UnaryOp o a p/\k o a=true) h fun o a p h=>⟨o,a,p,rfl,h⟩
noncomputable def dIf(e:Expr)(k:Expr->Expr->Expr->Bool):Bool:=if h:e.ctorIdx=5 then Expr.IfExp.elim (motive_1:=fun _=>Bool) e h fun c a b _=>k c a b else false
theorem w2e{G:Expr->Prop}{e:Expr}{k:Expr->Expr->Expr->Bool}(h:dIf e k=true)(kk:∀ c a b p,k c a b=true->G (Expr.IfExp c a b p)):G e:=by
 obtain⟨hi,h⟩:=z1x h
 exact Expr.IfExp.elim (motive_1:=fun e=>∀ hi:e.ctorIdx=5,(Expr.IfExp.elim (motive_1:=fun _=>Bool) e hi fun c a b _=>k c a b)=true->G e) e hi (fun c a b p _ h=>kk c a b p h) hi h
noncomputable def w6d(e:Expr)(k:List Expr->Nat->Bool):Bool:=if h:e.ctorIdx=7 then Expr.Set.elim (motive_1:=fun _=>Bool) e h fun l n _=>k l n else false
theorem k3m{G:Expr->Prop}{e:Expr}{k:List Expr->Nat->Bool}(h:w6d e k=true)(kk:∀ l n p,k l n=true->G (Expr.Set l n p)):G e:=by
 obtain⟨hi,h⟩:=z1x h
 exact Expr.Set.elim (motive_1:=fun e=>∀ hi:e.ctorIdx=7,(Expr.Set.elim (motive_1:=fun _=>Bool) e hi fun l n _=>k l n)=true->G e) e hi (fun l n p _ h=>kk l n p h) hi h
noncomputable def x7r(e:Expr)(k:Expr->List Comprehension->Scope->Bool):Bool:=if h:e.ctorIdx=8 then Expr.ListComp.elim (motive_1:=fun _=>Bool) e h fun a cs sc _=>k a cs sc else false
theorem j2x{G:Expr->Prop}{e:Expr}{k:Expr->List Comprehension->Scope->Bool}(h:x7r e k=true)(kk:∀ a cs sc p,k a cs sc=true->G (Expr.ListComp a cs sc p)):G e:=by
 obtain⟨hi,h⟩:=z1x h
 exact Expr.ListComp.elim (motive_1:=fun e=>∀ hi:e.ctorIdx=8,(Expr.ListComp.elim (motive_1:=fun _=>Bool) e hi fun a cs sc _=>k a cs sc)=true->G e) e hi (fun a cs sc p _ h=>kk a cs sc p h) hi h
theorem j2y{e:Expr}{k:Expr->List Comprehension->Scope->Bool}(h:x7r e k=true):∃ a cs sc p,e=Expr.ListComp a cs sc p/\k a cs sc=true:=j2x (G:=fun e=>∃ a cs sc p,e=Expr.ListComp a cs sc p/\k a cs sc=true) h fun a cs sc p h=>⟨a,cs,sc,p,rfl,h⟩
noncomputable def k3n(e:Expr)(k:Expr->List CmpOp->List Expr->Bool):Bool:=if h:e.ctorIdx=15 then Expr.Compare.elim (motive_1:=fun _=>Bool) e h fun a os bs _=>k a os bs else false
theorem j2z{G:Expr->Prop}{e:Expr}{k:Expr->List CmpOp->List Expr->Bool}(h:k3n e k=true)(kk:∀ a os bs p,k a os bs=true->G (Expr.Compare a os bs p)):G e:=by
 obtain⟨hi,h⟩:=z1x h
 exact Expr.Compare.elim (motive_1:=fun e=>∀ hi:e.ctorIdx=15,(Expr.Compare.elim (motive_1:=fun _=>Bool) e hi fun a os bs _=>k a os bs)=true->G e) e hi (fun a os bs p _ h=>kk a os bs p h) hi h
noncomputable def j0e(e:Expr)(k:Expr->List Expr->List Keyword->Pos->Bool):Bool:=if h:e.ctorIdx=16 then Expr.Call.elim (motive_1:=fun _=>Bool) e h fun f es ks p=>k f es ks p else false
theorem j3a{G:Expr->Prop}{e:Expr}{k:Expr->List Expr->List Keyword->Pos->Bool}(h:j0e e k=true)(kk:∀ f es ks p,k f es ks p=true->G (Expr.Call f es ks p)):G e:=by
 obtain⟨hi,h⟩:=z1x h
 exact Expr.Call.elim (motive_1:=fun e=>∀ hi:e.ctorIdx=16,(Expr.Call.elim (motive_1:=fun _=>Bool) e hi fun f es ks p=>k f es ks p)=true->G e) e hi (fun f es ks p _ h=>kk f es ks p h) hi h
theorem q1b{e:Expr}{k:Expr->List Expr->List Keyword->Pos->Bool}(h:j0e e k=true):∃ f es ks p,e=Expr.Call f es ks p/\k f es ks p=true:=j3a (G:=fun e=>∃ f es ks p,e=Expr.Call f es ks p/\k f es ks p=true) h fun f es ks p h=>⟨f,es,ks,p,rfl,h⟩
noncomputable def k2x(e:Expr)(k:Const->Bool):Bool:=if h:e.ctorIdx=19 then Expr.Constant.elim (motive_1:=fun _=>Bool) e h fun c _ _=>k c else false
theorem q1c{G:Expr->Prop}{e:Expr}{k:Const->Bool}(h:k2x e k=true)(kk:∀ c n p,k c=true->G (Expr.Constant c n p)):G e:=by
 obtain⟨hi,h⟩:=z1x h
 exact Expr.Constant.elim (motive_1:=fun e=>∀ hi:e.ctorIdx=19,(Expr.Constant.elim (motive_1:=fun _=>Bool) e hi fun c _ _=>k c)=true->G e) e hi (fun c n p _ h=>kk c n p h) hi h
noncomputable def q4v(e:Expr)(k:Expr->Str->Pos->Bool):Bool:=if h:e.ctorIdx=20 then Expr.Attribute.elim (motive_1:=fun _=>Bool) e h fun o x p=>k o x p else false
theorem y5c{G:Expr->Prop}{e:Expr}{k:Expr->Str->Pos->Bool}(h:q4v e k=true)(kk:∀ o x p,k o x p=true->G (Expr.Attribute o x p)):G e:=by
 obtain⟨hi,h⟩:=z1x h
 exact Expr.Attribute.elim (motive_1:=fun e=>∀ hi:e.ctorIdx=20,(Expr.Attribute.elim (motive_1:=fun _=>Bool) e hi fun o x p=>k o x p)=true->G e) e hi (fun o x p _ h=>kk o x p h) hi h
theorem j3b{e:Expr}{k:Expr->Str->Pos->Bool}(h:q4v e k=true):∃ o x p,e=Expr.Attribute o x p/\k o x p=true:=y5c (G:=fun e=>∃ o x p,e=Expr.Attribute o x p/\k o x p=true) h fun o x p h=>⟨o,x,p,rfl,h⟩
noncomputable def x7s(e:Expr)(k:Expr->Expr->Bool):Bool:=if h:e.ctorIdx=21 then Expr.Subscript.elim (motive_1:=fun _=>Bool) e h fun a i _=>k a i else false
theorem y7h{G:Expr->Prop}{e:Expr}{k:Expr->Expr->Bool}(h:x7s e k=true)(kk:∀ a i p,k a i=true->G (Expr.Subscript a i p)):G e:=by
 obtain⟨hi,h⟩:=z1x h
 exact Expr.Subscript.elim (motive_1:=fun e=>∀ hi:e.ctorIdx=21,(Expr.Subscript.elim (motive_1:=fun _=>Bool) e hi fun a i _=>k a i)=true->G e) e hi (fun a i p _ h=>kk a i p h) hi h
noncomputable def y9b(e:Expr)(k:Str->Bool):Bool:=if h:e.ctorIdx=23 then Expr.Name.elim (motive_1:=fun _=>Bool) e h fun x _=>k x else false
theorem y1y{G:Expr->Prop}{e:Expr}{k:Str->Bool}(h:y9b e k=true)(kk:∀ x p,k x=true->G (Expr.Name x p)):G e:=by
 obtain⟨hi,h⟩:=z1x h
 exact Expr.Name.elim (motive_1:=fun e=>∀ hi:e.ctorIdx=23,(Expr.Name.elim (motive_1:=fun _=>Bool) e hi fun x _=>k x)=true->G e) e hi (fun x p _ h=>kk x p h) hi h
theorem q1d{e:Expr}{k:Str->Bool}(h:y9b e k=true):∃ x p,e=Expr.Name x p/\k x=true:=y1y (G:=fun e=>∃ x p,e=Expr.Name x p/\k x=true) h fun x p h=>⟨x,p,rfl,h⟩
noncomputable def x7t(e:Expr)(k:List Expr->Bool):Bool:=if h:e.ctorIdx=24 then Expr.List.elim (motive_1:=fun _=>Bool) e h fun l _=>k l else false
theorem j3c{G:Expr->Prop}{e:Expr}{k:List Expr->Bool}(h:x7t e k=true)(kk:∀ l p,k l=true->G (Expr.List l p)):G e:=by
 obtain⟨hi,h⟩:=z1x h
 exact Expr.List.elim (motive_1:=fun e=>∀ hi:e.ctorIdx=24,(Expr.List.elim (motive_1:=fun _=>Bool) e hi fun l _=>k l)=true->G e) e hi (fun l p _ h=>kk l p h) hi h
noncomputable def x7u(e:Expr)(k:List Expr->Bool):Bool:=if h:e.ctorIdx=25 then Expr.Tuple.elim (motive_1:=fun _=>Bool) e h fun l _ _=>k l else false
theorem x5r{G:Expr->Prop}{e:Expr}{k:List Expr->Bool}(h:x7u e k=true)(kk:∀ l n p,k l=true->G (Expr.Tuple l n p)):G e:=by
 obtain⟨hi,h⟩:=z1x h
 exact Expr.Tuple.elim (motive_1:=fun e=>∀ hi:e.ctorIdx=25,(Expr.Tuple.elim (motive_1:=fun _=>Bool) e hi fun l _ _=>k l)=true->G e) e hi (fun l n p _ h=>kk l n p h) hi h
theorem y9c{e:Expr}{k:List Expr->Bool}(h:x7u e k=true):∃ l n p,e=Expr.Tuple l n p/\k l=true:=x5r (G:=fun e=>∃ l n p,e=Expr.Tuple l n p/\k l=true) h fun l n p h=>⟨l,n,p,rfl,h⟩
noncomputable def q7k(e:Expr)(k:Option Expr->Option Expr->Option Expr->Bool):Bool:=if h:e.ctorIdx=26 then Expr.Slice.elim (motive_1:=fun _=>Bool) e h fun a b c _=>k a b c else false
theorem y9d{G:Expr->Prop}{e:Expr}{k:Option Expr->Option Expr->Option Expr->Bool}(h:q7k e k=true)(kk:∀ a b c p,k a b c=true->G (Expr.Slice a b c p)):G e:=by
 obtain⟨hi,h⟩:=z1x h
 exact Expr.Slice.elim (motive_1:=fun e=>∀ hi:e.ctorIdx=26,(Expr.Slice.elim (motive_1:=fun _=>Bool) e hi fun a b c _=>k a b c)=true->G e) e hi (fun a b c p _ h=>kk a b c p h) hi h
noncomputable def w6e(e:Stmt)(k:Option Expr->Bool):Bool:=if h:e.ctorIdx=3 then Stmt.Return.elim (motive_2:=fun _=>Bool) e h fun v _=>k v else false
theorem k3o{G:Stmt->Prop}{e:Stmt}{k:Option Expr->Bool}(h:w6e e k=true)(kk:∀ v p,k v=true->G (Stmt.Return v p)):G e:=by
 obtain⟨hi,h⟩:=z1x h
 exact Stmt.Return.elim (motive_2:=fun e=>∀ hi:e.ctorIdx=3,(Stmt.Return.elim (motive_2:=fun _=>Bool) e hi fun v _=>k v)=true->G e) e hi (fun v p _ h=>kk v p h) hi h
noncomputable def w6f(e:Stmt)(k:List Expr->Bool):Bool:=if h:e.ctorIdx=4 then Stmt.Delete.elim (motive_2:=fun _=>Bool) e h fun l _=>k l else false
theorem k3p{G:Stmt->Prop}{e:Stmt}{k:List Expr->Bool}(h:w6f e k=true)(kk:∀ l p,k l=true->G (Stmt.Delete l p)):G e:=by
 obtain⟨hi,h⟩:=z1x h
 exact Stmt.Delete.elim (motive_2:=fun e=>∀ hi:e.ctorIdx=4,(Stmt.Delete.elim (motive_2:=fun _=>Bool) e hi fun l _=>k l)=true->G e) e hi (fun l p _ h=>kk l p h) hi h
noncomputable def k2y(e:Stmt)(k:List Expr->Expr->Bool):Bool:=if h:e.ctorIdx=5 then Stmt.Assign.elim (motive_2:=fun _=>Bool) e h fun l v _=>k l v else false
theorem q1e{G:Stmt->Prop}{e:Stmt}{k:List Expr->Expr->Bool}(h:k2y e k=true)(kk:∀ l v p,k l v=true->G (Stmt.Assign l v p)):G e:=by
 obtain⟨hi,h⟩:=z1x h
 exact Stmt.Assign.elim (motive_2:=fun e=>∀ hi:e.ctorIdx=5,(Stmt.Assign.elim (motive_2:=fun _=>Bool) e hi fun l v _=>k l v)=true->G e) e hi (fun l v p _ h=>kk l v p h) hi h
noncomputable def w6g(e:Stmt)(k:Expr->Operator->Expr->Bool):Bool:=if h:e.ctorIdx=7 then Stmt.AugAssign.elim (motive_2:=fun _=>Bool) e h fun t o v _=>k t o v else false
theorem k3q{G:Stmt->Prop}{e:Stmt}{k:Expr->Operator->Expr->Bool}(h:w6g e k=true)(kk:∀ t o v p,k t o v=true->G (Stmt.AugAssign t o v p)):G e:=by
 obtain⟨hi,h⟩:=z1x h
 exact Stmt.AugAssign.elim (motive_2:=fun e=>∀ hi:e.ctorIdx=7,(Stmt.AugAssign.elim (motive_2:=fun _=>Bool) e hi fun t o v _=>k t o v)=true->G e) e hi (fun t o v p _ h=>kk t o v p h) hi h
noncomputable def w6h(e:Stmt)(k:Expr->Expr->List Stmt->List Stmt->Bool):Bool:=if h:e.ctorIdx=9 then Stmt.For.elim (motive_2:=fun _=>Bool) e h fun t i b o _=>k t i b o else false
theorem k3r{G:Stmt->Prop}{e:Stmt}{k:Expr->Expr->List Stmt->List Stmt->Bool}(h:w6h e k=true)(kk:∀ t i b o p,k t i b o=true->G (Stmt.For t i b o p)):G e:=by
 obtain⟨hi,h⟩:=z1x h
 exact Stmt.For.elim (motive_2:=fun e=>∀ hi:e.ctorIdx=9,(Stmt.For.elim (motive_2:=fun _=>Bool) e hi fun t i b o _=>k t i b o)=true->G e) e hi (fun t i b o p _ h=>kk t i b o p h) hi h
noncomputable def x5s(e:Stmt)(k:Expr->List Stmt->List Stmt->Bool):Bool:=if h:e.ctorIdx=11 then Stmt.While.elim (motive_2:=fun _=>Bool) e h fun t b o _=>k t b o else false
theorem x0e{G:Stmt->Prop}{e:Stmt}{k:Expr->List Stmt->List Stmt->Bool}(h:x5s e k=true)(kk:∀ t b o p,k t b o=true->G (Stmt.While t b o p)):G e:=by
 obtain⟨hi,h⟩:=z1x h
 exact Stmt.While.elim (motive_2:=fun e=>∀ hi:e.ctorIdx=11,(Stmt.While.elim (motive_2:=fun _=>Bool) e hi fun t b o _=>k t b o)=true->G e) e hi (fun t b o p _ h=>kk t b o p h) hi h
noncomputable def sIf(e:Stmt)(k:Expr->List Stmt->List Stmt->Bool):Bool:=if h:e.ctorIdx=12 then Stmt.If.elim (motive_2:=fun _=>Bool) e h fun t a b _=>k t a b else false
theorem w2f{G:Stmt->Prop}{e:Stmt}{k:Expr->List Stmt->List Stmt->Bool}(h:sIf e k=true)(kk:∀ t a b p,k t a b=true->G (Stmt.If t a b p)):G e:=by
 obtain⟨hi,h⟩:=z1x h
 exact Stmt.If.elim (motive_2:=fun e=>∀ hi:e.ctorIdx=12,(Stmt.If.elim (motive_2:=fun _=>Bool) e hi fun t a b _=>k t a b)=true->G e) e hi (fun t a b p _ h=>kk t a b p h) hi h
noncomputable def x7v(e:Stmt)(k:Expr->Bool):Bool:=if h:e.ctorIdx=24 then Stmt.Expr.elim (motive_2:=fun _=>Bool) e h fun v _=>k v else false
theorem j3d{G:Stmt->Prop}{e:Stmt}{k:Expr->Bool}(h:x7v e k=true)(kk:∀ v p,k v=true->G (Stmt.Expr v p)):G e:=by
 obtain⟨hi,h⟩:=z1x h
 exact Stmt.Expr.elim (motive_2:=fun e=>∀ hi:e.ctorIdx=24,(Stmt.Expr.elim (motive_2:=fun _=>Bool) e hi fun v _=>k v)=true->G e) e hi (fun v p _ h=>kk v p h) hi h
end Mine
end
section
open PySem PySem.W PyProof.Rows
namespace Mine
noncomputable abbrev Fz:=Addr->Option Obj
noncomputable abbrev Bt:=Nat->Option Addr
structure z3w where
 P:MP
 nm:List Str
 gv:List (Str×Value)
 fA:Nat->Addr
 cA:Nat->Addr
 pA:Bool->Addr
 dA:Addr
 atts:List Nat
structure z2w extends t:z3w where
 K:Frag
 B:Heap
noncomputable def x5t(vs:List Value)(n:Nat):Obj:={ cls:=.type "tuple",data:=.seq vs.toArray n }
noncomputable def z6f(vs:List Value)(n:Nat):Obj:={ cls:=.type "list",data:=.seq vs.toArray n }
noncomputable def IsL(o:Obj)(vs:List Value):Prop:=o.cls=.type "list"/\∃ n,o.data=.seq vs.toArray n/\o.dict=none
noncomputable def IsT(o:Obj)(vs:List Value):Prop:=o.cls=.type "tuple"/\∃ n,o.data=.seq vs.toArray n
theorem y9e(vs:List Value)(n:Nat):IsL (z6f vs n) vs:=⟨rfl,n,rfl,rfl⟩
theorem x0f(vs:List Value)(n:Nat):IsT (x5t vs n) vs:=⟨rfl,n,rfl⟩
noncomputable def k2z(v:Option Value):Obj:={ cls:=.type "cell",data:=.cell v }
section
variable (I:z2w)
mutual
inductive Rel(g:Fz)(Z:Bt):Value->PV->Prop
 | none:Rel g Z .none .none
 | bool (b:Bool):Rel g Z (.bool b) (.bool b)
 | int (i:Int) (t:Tok):Rel g Z (.int i t) (.int i)
 | str (x:Str) (t:Tok):Rel g Z (.str x t) (.str x)
 | tup {a:Addr} {o:Obj} {vs:List Value} {ps:List PV}:g a=some o->IsT o vs->vs.length<=z2n->z0e g Z vs ps->Rel g Z (.ref a) (.tup ps)
 | lst {a:Addr} {o:Obj} {vs:List Value} {ps:List PV}:g a=some o->IsL o vs->vs.length<=z2n->z0e g Z vs ps->Rel g Z (.ref a) (.lst ps)
 | ref {i:Nat} {a:Addr}:Z i=some a->Rel g Z (.ref a) (.ref i)
 | inst {c i:Nat} {x d:Addr}:Z i=some d->g x=some (instObj (I.cA c) d)->Rel g Z (.ref x) (.inst c i)
 | pat (b:Bool):Rel g Z (.ref (I.pA b)) (.pat b)
 | edict {a:Addr} {n:Nat}:g a=some (dictOf [] n)->(a==sysModules)=false->Rel g Z (.ref a) .edict
inductive z0e(g:Fz)(Z:Bt):List Value->List PV->Prop
 | nil:z0e g Z [] []
 | cons {v:Value} {vs:List Value} {p:PV} {ps:List PV}:Rel g Z v p->z0e g Z vs ps->z0e g Z (v::vs) (p::ps)
end
variable {I}
theorem z0e.ind{g:Fz}{Z:Bt}{M:List Value->List PV->Prop}(nil:M [] [])(cons:∀ {v vs p ps},Rel I g Z v p->z0e I g Z vs ps->M vs ps->M (v::vs) (p::ps)){vs:List Value}{ps:List PV}(h:z0e I g Z vs ps):M vs ps:=
 z0e.rec (motive_1:=fun _ _ _=>True) (motive_2:=fun vs ps _=>M vs ps) trivial (fun _=>trivial) (fun _ _=>trivial) (fun _ _=>trivial) (fun _ _ _ _ _=>trivial) (fun _ _ _ _ _=>trivial) (fun _=>trivial) (fun _ _=>trivial) (fun _=>trivial) (fun _ _=>trivial) nil (fun h r _ ih=>cons h r ih) h
theorem Rel.mono{g g':Fz}{Z Z':Bt}(hg:∀ a o,g a=some o->g' a=some o)(hb:∀ i a,Z i=some a->Z' i=some a){v:Value}{p:PV}(h:Rel I g Z v p):Rel I g' Z' v p:=
 Rel.rec (motive_1:=fun v p _=>Rel I g' Z' v p) (motive_2:=fun vs ps _=>z0e I g' Z' vs ps) .none .bool .int .str (fun h q l _ ih=>.tup (hg _ _ h) q l ih) (fun h q l _ ih=>.lst (hg _ _ h) q l ih) (fun h=>.ref (hb _ _ h)) (fun h q=>.inst (hb _ _ h) (hg _ _ q)) .pat (fun h q=>.edict (hg _ _ h) q) .nil (fun _ _ a b=>.cons a b) h
theorem z0e.mono{g g':Fz}{Z Z':Bt}(hg:∀ a o,g a=some o->g' a=some o)(hb:∀ i a,Z i=some a->Z' i=some a){vs:List Value}{ps:List PV}(h:z0e I g Z vs ps):z0e I g' Z' vs ps:=
 z0e.ind .nil (fun h _ ih=>.cons (h.mono hg hb) ih) h
inductive k3s(I:z2w)(g:Fz)(Z:Bt)(Is:Obj->List Value->Prop)(v:Value)(ps:List PV):Prop
 | mk (a:Addr) (o:Obj) (vs:List Value) (h1:v=.ref a) (h2:g a=some o) (h3:Is o vs) (h4:vs.length<=z2n) (h5:z0e I g Z vs ps):k3s I g Z Is v ps
inductive w2g(I:z2w)(g:Fz)(Z:Bt)(v:Value)(c i:Nat):Prop
 | mk (x d:Addr) (h1:v=.ref x) (h2:Z i=some d) (h3:g x=some (instObj (I.cA c) d)):w2g I g Z v c i
noncomputable def w6i(I:z2w)(g:Fz)(Z:Bt)(v:Value)(p:PV):Prop:=match p with
 | .none=>v=.none
 | .bool b=>v=.bool b
 | .int k=>∃ t,v=.int k t
 | .str x=>∃ t,v=.str x t
 | .tup ps=>k3s I g Z IsT v ps
 | .lst ps=>k3s I g Z IsL v ps
 | .ref i=>∃ a,v=.ref a/\Z i=some a
 | .inst c i=>w2g I g Z v c i
 | .pat b=>v=.ref (I.pA b)
 | .edict=>∃ a n,v=.ref a/\g a=some (dictOf [] n)/\(a==sysModules)=false
section
variable {g:Fz} {Z:Bt} {v:Value} {i c:Nat} {ps:List PV}
theorem Rel.out{p:PV}(h:Rel I g Z v p):w6i I g Z v p:=
 Rel.casesOn (motive_1:=fun v p _=>w6i I g Z v p) h rfl (fun _=>rfl) (fun _ t=>⟨t,rfl⟩) (fun _ t=>⟨t,rfl⟩) (fun a b c d=>⟨_,_,_,rfl,a,b,c,d⟩) (fun a b c d=>⟨_,_,_,rfl,a,b,c,d⟩) (fun a=>⟨_,rfl,a⟩) (fun a b=>⟨_,_,rfl,a,b⟩) (fun _=>rfl) (fun a b=>⟨_,_,rfl,a,b⟩)
theorem Rel.int_inv{k:Int}(h:Rel I g Z v (.int k)):∃ t,v=.int k t:=h.out
theorem Rel.str_inv{x:Str}(h:Rel I g Z v (.str x)):∃ t,v=.str x t:=h.out
theorem Rel.bool_inv{b:Bool}(h:Rel I g Z v (.bool b)):v=.bool b:=h.out
theorem Rel.none_inv(h:Rel I g Z v .none):v=.none:=h.out
theorem Rel.tup_inv(h:Rel I g Z v (.tup ps)):k3s I g Z IsT v ps:=h.out
theorem Rel.lst_inv(h:Rel I g Z v (.lst ps)):k3s I g Z IsL v ps:=h.out
theorem Rel.ref_inv(h:Rel I g Z v (.ref i)):∃ a,v=.ref a/\Z i=some a:=h.out
theorem Rel.inst_inv(h:Rel I g Z v (.inst c i)):w2g I g Z v c i:=h.out
theorem Rel.pat_inv{b:Bool}(h:Rel I g Z v (.pat b)):v=.ref (I.pA b):=h.out
theorem Rel.edict_inv(h:Rel I g Z v .edict):∃ a n,v=.ref a/\g a=some (dictOf [] n)/\(a==sysModules)=false:=h.out
end
inductive z4i(I:z2w)(P:Params)(g:Fz)(Z:Bt):List DictEntry->List (Nat×PV)->Prop
 | nil:z4i I P g Z [] []
 | cons {k:Nat} {x:Str} {t:Tok} {v:Value} {p:PV} {es:List DictEntry} {l:List (Nat×PV)}:I.nm[k]?=some x->I.atts.contains k=true->Rel I g Z v p->z4i I P g Z es l ->
   z4i I P g Z (⟨PyData.keyHash P x,.str x t,v⟩::es) ((k,p)::l)
theorem z4i.mono{P:Params}{g g':Fz}{Z Z':Bt}(hg:∀ a o,g a=some o->g' a=some o)(hb:∀ i a,Z i=some a->Z' i=some a){es:List DictEntry}{l:List (Nat×PV)}(h:z4i I P g Z es l):z4i I P g' Z' es l:=by
 induction h with
 | nil=>exact .nil
 | cons h1 h0 h2 _ ih=>exact .cons h1 h0 (h2.mono hg hb) ih
noncomputable def y0p(I:z2w)(P:Params)(g:Fz)(Z:Bt)(h:Heap)(a:Addr):z3a->Prop
 | .lst l=>∃ o vs,h.get? a=some o/\IsL o vs/\vs.length<=z2n/\z0e I g Z vs l/\z0w 0 l=true
 | .att l=>∃ es n,h.get? a=some (dictOf es n)/\z4i I P g Z es l/\es.length<=900
structure SR(I:z2w)(P:Params)(g:Fz)(Z:Bt)(H:z0b)(h:Heap):Prop where
 base:∀ a o,I.B.get? a=some o->g a=some o
 sub:∀ a o,g a=some o->h.get? a=some o
 dom:∀ i,i<H.length->∃ a,Z i=some a
 lt:∀ i a,Z i=some a->i<H.length
 inj:∀ i j a,Z i=some a->Z j=some a->i=j
 off:∀ i a,Z i=some a->g a=none
 cell:∀ (i:Nat) (a:Addr) (c:z3a),Z i=some a->H[i]?=some c->y0p I P g Z h a c
noncomputable def z9l(L:Lim)(Z:Bt)(H:z0b)(a:Addr):Prop:=∀ i,Z i=some a->(∀ l,H[i]?=some (.lst l)->i<L.b)/\(∀ l,H[i]?=some (.att l)->i<L.ab)
noncomputable def z3u:z3a->z3a->Prop
 | .lst _,.lst _=>True
 | .att _,.att _=>True
 | _,_=>False
structure z1e(own:List Addr)(L:Lim)(g:Fz)(Z:Bt)(H:z0b)(s:Shared)(g':Fz)(Z':Bt)(H':z0b)(s':Shared):Prop where
 gle:∀ a o,g a=some o->g' a=some o
 gold:∀ a o,s.heap.get? a=some o->g' a=g a
 ble:∀ i a,Z i=some a->Z' i=some a
 bnew:∀ i a,Z i=none->Z' i=some a->s.heap.get? a=none
 kept:∀ a o,s.heap.get? a=some o->a∉own->z9l L Z H a->s'.heap.get? a=some o
 alive:∀ a o,s.heap.get? a=some o->∃ o',s'.heap.get? a=some o'
 len:H.length<=H'.length
 kinds:∀ (i:Nat) (c:z3a),H[i]?=some c->∃ c',H'[i]?=some c'/\z3u c c'
 lsts:∀ (i:Nat) (l:List PV),H[i]?=some (.lst l)->i<L.b->H'[i]?=some (.lst l)
 atts:∀ (i:Nat) (l:List (Nat×PV)),H[i]?=some (.att l)->i<L.ab->H'[i]?=some (.att l)
 rest:s'={ s with heap:=s'.heap,toks:=s'.toks }
theorem z3u.refl:∀ c:z3a,z3u c c
 | .lst _=>trivial
 | .att _=>trivial
theorem z3u.trans:∀ {a b c:z3a},z3u a b->z3u b c->z3u a c
 | .lst _,.lst _,.lst _,_,_=>trivial
 | .att _,.att _,.att _,_,_=>trivial
 | .lst _,.lst _,.att _,_,h=>h
 | .att _,.att _,.lst _,_,h=>h
variable {own own1 own2:List Addr} {L:Lim} {P:Params} {g gb gC:Fz} {Z Z1 Z2:Bt} {H Hb H2:z0b} {s sB sC:Shared}
theorem z1e.refl:z1e own L g Z H s g Z H s:=
 ⟨fun _ _ h=>h,fun _ _ _=>rfl,fun _ _ h=>h,fun _ _ h q=>(by rw [h] at q;contradiction),fun _ _ h _ _=>h,fun _ o h=>⟨o,h⟩,AM _,fun _ c h=>⟨c,h,z3u.refl c⟩,fun _ _ h _=>h,fun _ _ h _=>h,rfl⟩
theorem z9l.grow{a:Addr}{o:Obj}(R:SR I P g Z H s.heap)(G:z1e own L g Z H s gb Z1 Hb sB)(ha:s.heap.get? a=some o)(h:z9l L Z H a):z9l L Z1 Hb a:=by
 intro i hi
 cases hb:Z i with
 | none=>have:=G.bnew i a hb hi;rw [ha] at this;contradiction
 | some a'=>
  have e:=G.ble i a' hb
  rw [hi] at e;injection e with e;subst e
  have lt:=R.lt i a hb
  obtain⟨c,hc⟩:∃ c,H[i]?=some c:=⟨H[i],by simp [lt]⟩
  obtain⟨c',hc',hk⟩:=G.kinds i c hc
  refine⟨fun l hl=>?_,fun l hl=>?_⟩
  ·rw [hl] at hc';injection hc' with hc';subst hc'
   cases c with
   | lst l'=>exact(h i hb).1 l' hc
   | att l'=>exact hk.elim
  ·rw [hl] at hc';injection hc' with hc';subst hc'
   cases c with
   | att l'=>exact(h i hb).2 l' hc
   | lst l'=>exact hk.elim
theorem z1e.trans(R:SR I P g Z H s.heap)(a:z1e own L g Z H s gb Z1 Hb sB)(b:z1e own L gb Z1 Hb sB gC Z2 H2 sC):z1e own L g Z H s gC Z2 H2 sC where
 gle:=fun x o h=>b.gle x o (a.gle x o h)
 gold:=fun x o h=>by
  obtain⟨o',h'⟩:=a.alive x o h
  rw [b.gold x o' h',a.gold x o h]
 ble:=fun i x h=>b.ble i x (a.ble i x h)
 bnew:=fun i x h q=>by
  cases e:Z1 i with
  | some y=>
   have:=b.ble i y e
   rw [q] at this;injection this with this;subst this
   exact a.bnew i x h e
  | none=>
   have:=b.bnew i x e q
   cases hx:s.heap.get? x with
   | none=>rfl
   | some o=>obtain⟨o',h'⟩:=a.alive x o hx;rw [h'] at this;contradiction
 kept:=fun x o h n f=>b.kept x o (a.kept x o h n f) n (f.grow R a h)
 alive:=fun x o h=>by
  obtain⟨o',h'⟩:=a.alive x o h
  exact b.alive x o' h'
 len:=AA a.len b.len
 kinds:=fun i c h=>by
  obtain⟨c',h',k⟩:=a.kinds i c h
  obtain⟨c'',h'',k'⟩:=b.kinds i c' h'
  exact⟨c'',h'',k.trans k'⟩
 lsts:=fun i l h hi=>b.lsts i l (a.lsts i l h hi) hi
 atts:=fun i l h hi=>b.atts i l (a.atts i l h hi) hi
 rest:=by rw [b.rest,a.rest]
theorem z1e.own_le(hs:∀ a∈own1,a∈own2)(G:z1e own1 L g Z H s gb Z1 Hb sB):z1e own2 L g Z H s gb Z1 Hb sB:=
 { G with kept:=fun x o h n f=>G.kept x o h (fun m=>n (hs _ m)) f }
theorem z1e.leave(hn:∀ a∈own1,s.heap.get? a=none\/a∈own2)(G:z1e own1 L g Z H s gb Z1 Hb sB):z1e own2 L g Z H s gb Z1 Hb sB:=
 { G with kept:=fun x o h n f=>G.kept x o h (fun m=>(hn _ m).elim (fun e=>by rw [h] at e;contradiction) n) f }
theorem z1e.news{h':Heap}{tk:Nat}{g':Fz}(hk:∀ a o,s.heap.get? a=some o->h'.get? a=some o)(hg:∀ a o,g a=some o->g' a=some o)(hn:∀ a o,s.heap.get? a=some o->g' a=g a) :
  z1e own L g Z H s g' Z H { s with heap:=h',toks:=tk }:=
 ⟨hg,hn,fun _ _ h=>h,fun _ _ h q=>(by rw [h] at q;contradiction),fun _ _ h _ _=>hk _ _ h,fun _ o h=>⟨o,hk _ _ h⟩,AM _,fun _ c h=>⟨c,h,z3u.refl c⟩,fun _ _ h _=>h,fun _ _ h _=>h,rfl⟩
theorem z1e.keepAll{h':Heap}{tk:Nat}(hk:∀ a o,s.heap.get? a=some o->h'.get? a=some o):z1e own L g Z H s g Z H { s with heap:=h',toks:=tk }:=z1e.news hk (fun _ _ h=>h) (fun _ _ _=>rfl)
theorem y0p.mono{P:Params}{h h':Heap}{a:Addr}(hg:∀ a o,g a=some o->gb a=some o)(hb:∀ i a,Z i=some a->Z1 i=some a)(e:h'.get? a=h.get? a):∀ {c:z3a},y0p I P g Z h a c->y0p I P gb Z1 h' a c
 | .lst _,⟨o,vs,h1,h5,h2,h3,h4⟩=>⟨o,vs,e.trans h1,h5,h2,h3.mono hg hb,h4⟩
 | .att _,⟨es,n,h1,h2,h3⟩=>⟨es,n,e.trans h1,h2.mono hg hb,h3⟩
theorem y0p.there{P:Params}{h:Heap}{a:Addr}{c:z3a}(x:y0p I P g Z h a c):∃ o,h.get? a=some o:=by
 cases c with
 | lst l=>obtain⟨vs,n,h1,_⟩:=x;exact⟨_,h1⟩
 | att l=>obtain⟨vs,n,h1,_⟩:=x;exact⟨_,h1⟩
theorem SR.here(R:SR I P g Z H s.heap){i:Nat}{a:Addr}(hi:Z i=some a):∃ o,s.heap.get? a=some o:=by
 have lt:=R.lt i a hi
 exact(R.cell i a _ hi (AP lt)).there
theorem SR.news{h':Heap}{g':Fz}(R:SR I P g Z H s.heap)(hk:∀ a o,s.heap.get? a=some o->h'.get? a=some o)(hg:∀ a o,g a=some o->g' a=some o)
 (hn:∀ a o,s.heap.get? a=some o->g' a=g a)(hsub:∀ a o,g' a=some o->h'.get? a=some o):SR I P g' Z H h' where
 base:=fun a o h=>hg _ _ (R.base a o h)
 sub:=hsub
 dom:=R.dom
 lt:=R.lt
 inj:=R.inj
 off:=fun i a h=>by
  obtain⟨o,ho⟩:=R.here h
  rw [hn a o ho];exact R.off i a h
 cell:=fun i a c h hc=>by
  obtain⟨o,ho⟩:=R.here h
  exact(R.cell i a c h hc).mono hg (fun _ _ q=>q) (by rw [hk _ _ ho,ho])
theorem SR.keepAll{h':Heap}(R:SR I P g Z H s.heap)(hk:∀ a o,s.heap.get? a=some o->h'.get? a=some o):SR I P g Z H h':=
 R.news hk (fun _ _ h=>h) (fun _ _ _=>rfl) fun a o h=>hk _ _ (R.sub a o h)
noncomputable def y3y(g:Fz)(a:Addr)(o:Obj):Fz:=fun b=>if b=a then some o else g b
theorem z2v{a:Addr}{o:Obj}(hn:g a=none):∀ b x,g b=some x->y3y g a o b=some x:=fun b x h=>by
 unfold y3y
 by_cases e:b=a
 ·subst e;rw [hn] at h;contradiction
 ·rw [AS e];exact h
theorem z2f(g:Fz)(a:Addr)(o:Obj):y3y g a o a=some o:=by unfold y3y;rw [AQ rfl]
theorem SR.gfree(R:SR I P g Z H s.heap){a:Addr}(h:s.heap.get? a=none):g a=none:=by
 cases e:g a with
 | none=>rfl
 | some o=>rw [R.sub a o e] at h;contradiction
theorem y3z{a:Addr}{o:Obj}(hn:s.heap.get? a=none):∀ b x,s.heap.get? b=some x->y3y g a o b=g b:=fun b x h=>by
 unfold y3y
 rw [AS (fun e=>by rw [e,hn] at h;contradiction)]
theorem z1e.add{h':Heap}{tk:Nat}{a:Addr}{o:Obj}(R:SR I P g Z H s.heap)(hk:∀ a o,s.heap.get? a=some o->h'.get? a=some o)(hn:s.heap.get? a=none) :
  z1e own L g Z H s (y3y g a o) Z H { s with heap:=h',toks:=tk }:=z1e.news hk (z2v (R.gfree hn)) (y3z hn)
theorem SR.add{h':Heap}{a:Addr}{o:Obj}(R:SR I P g Z H s.heap)(hk:∀ a o,s.heap.get? a=some o->h'.get? a=some o)(hn:s.heap.get? a=none)(ho:h'.get? a=some o):SR I P (y3y g a o) Z H h':=
 R.news hk (z2v (R.gfree hn)) (y3z hn) fun b x h=>by
  unfold y3y at h
  by_cases e:b=a
  ·subst e;rw [AQ rfl] at h;injection h with h;subst h;exact ho
  ·rw [AS e] at h;exact hk _ _ (R.sub b x h)
noncomputable def q4p(Z:Bt)(i:Nat)(a:Addr):Bt:=fun j=>if j=i then some a else Z j
theorem y0q(Z:Bt)(i:Nat)(a:Addr):q4p Z i a i=some a:=by unfold q4p;rw [AQ rfl]
theorem y1z{i:Nat}{a:Addr}(hn:Z i=none):∀ j b,Z j=some b->q4p Z i a j=some b:=fun j b h=>by
 unfold q4p
 by_cases e:j=i
 ·subst e;rw [hn] at h;contradiction
 ·rw [AS e];exact h
theorem SR.none_at(R:SR I P g Z H s.heap):Z H.length=none:=by
 cases e:Z H.length with
 | none=>rfl
 | some a=>exact absurd (R.lt _ _ e) (EX _)
theorem getElem?_snoc(H:z0b)(c:z3a)(i:Nat):(H++[c])[i]?=if i=H.length then some c else H[i]?:=by
 by_cases h:i=H.length
 ·subst h;simp
 ·rw [AS h]
  by_cases q:i<H.length
  ·rw [DE q]
  ·rw [CY (by simp;lia),CY (by lia)]
theorem SR.cellNew{h':Heap}{a:Addr}{c:z3a}(R:SR I P g Z H s.heap)(hk:∀ a o,s.heap.get? a=some o->h'.get? a=some o)(hn:s.heap.get? a=none)
 (hc:y0p I P g (q4p Z H.length a) h' a c):SR I P g (q4p Z H.length a) (H++[c]) h' where
 base:=R.base
 sub:=fun b o h=>hk _ _ (R.sub b o h)
 dom:=fun i hi=>by
  by_cases e:i=H.length
  ·subst e;exact⟨a,y0q ..⟩
  ·obtain⟨b,hb⟩:=R.dom i (by simp at hi;lia)
   exact⟨b,y1z R.none_at _ _ hb⟩
 lt:=fun i b h=>by
  unfold q4p at h
  by_cases e:i=H.length
  ·subst e;simp
  ·rw [AS e] at h;have:=R.lt i b h;simp;lia
 inj:=fun i j b hi hj=>by
  unfold q4p at hi hj
  by_cases e:i=H.length
  ·by_cases e':j=H.length
   ·rw [e,e']
   ·rw [AQ e] at hi;rw [AS e'] at hj;injection hi with hi;subst hi
    obtain⟨o,ho⟩:=R.here hj;rw [hn] at ho;contradiction
  ·by_cases e':j=H.length
   ·rw [AS e] at hi;rw [AQ e'] at hj;injection hj with hj;subst hj
    obtain⟨o,ho⟩:=R.here hi;rw [hn] at ho;contradiction
   ·rw [AS e] at hi;rw [AS e'] at hj;exact R.inj i j b hi hj
 off:=fun i b h=>by
  unfold q4p at h
  by_cases e:i=H.length
  ·rw [AQ e] at h;injection h with h;subst h;exact R.gfree hn
  ·rw [AS e] at h;exact R.off i b h
 cell:=fun i b c' h hc'=>by
  rw [getElem?_snoc] at hc'
  unfold q4p at h
  by_cases e:i=H.length
  ·rw [AQ e] at h hc';injection h with h;subst h;injection hc' with hc';subst hc';exact hc
  ·rw [AS e] at h hc'
   obtain⟨o,ho⟩:=R.here h
   exact(R.cell i b c' h hc').mono (fun _ _ q=>q) (y1z R.none_at) (by rw [hk _ _ ho,ho])
theorem z1e.cellNew{h':Heap}{tk:Nat}{a:Addr}{c:z3a}(R:SR I P g Z H s.heap)(hk:∀ a o,s.heap.get? a=some o->h'.get? a=some o)(hn:s.heap.get? a=none) :
  z1e own L g Z H s g (q4p Z H.length a) (H++[c]) { s with heap:=h',toks:=tk } where
 gle:=fun _ _ h=>h
 gold:=fun _ _ _=>rfl
 ble:=y1z R.none_at
 bnew:=fun i b h q=>by
  unfold q4p at q
  by_cases e:i=H.length
  ·rw [AQ e] at q;injection q with q;subst q;exact hn
  ·rw [AS e,h] at q;contradiction
 kept:=fun _ _ h _ _=>hk _ _ h
 alive:=fun _ o h=>⟨o,hk _ _ h⟩
 len:=by simp
 kinds:=fun i c' h=>⟨c',by rw [DE (AU.mp h).1];exact h,z3u.refl _⟩
 lsts:=fun i l h _=>by rw [DE (AU.mp h).1];exact h
 atts:=fun i l h _=>by rw [DE (AU.mp h).1];exact h
 rest:=rfl
theorem SR.cellPut{h':Heap}{i:Nat}{a:Addr}{c:z3a}(R:SR I P g Z H s.heap)(hi:Z i=some a)(hs:∀ b o,b≠a->s.heap.get? b=some o->h'.get? b=some o)(hc:y0p I P g Z h' a c):SR I P g Z (H.set i c) h' where
 base:=R.base
 sub:=fun b o h=>hs _ _ (fun e=>by rw [e,R.off i a hi] at h;contradiction) (R.sub b o h)
 dom:=fun j hj=>R.dom j (by simpa using hj)
 lt:=fun j b h=>by simpa using R.lt j b h
 inj:=R.inj
 off:=R.off
 cell:=fun j b c' h hc'=>by
  by_cases e:j=i
  ·subst e
   rw [hi] at h;injection h with h;subst h
   rw [EE (R.lt _ _ hi)] at hc'
   injection hc' with hc';subst hc';exact hc
  ·rw [DJ (Ne.symm e)] at hc'
   obtain⟨o,ho⟩:=R.here h
   exact(R.cell j b c' h hc').mono (fun _ _ q=>q) (fun _ _ q=>q) (by rw [hs _ _ (fun e'=>e (R.inj j i a (e'▸h) hi)) ho,ho])
theorem z1e.cellPut{h':Heap}{tk:Nat}{i:Nat}{a:Addr}{c B2:z3a}(R:SR I P g Z H s.heap)(hi:Z i=some a)(h0:H[i]?=some B2)(hk:z3u B2 c)(hb:(∀ l,B2=.lst l->L.b<=i)/\(∀ l,B2=.att l->L.ab<=i))
 (hs:∀ b o,b≠a->s.heap.get? b=some o->h'.get? b=some o)(ha:∃ o,h'.get? a=some o):z1e own L g Z H s g Z (H.set i c) { s with heap:=h',toks:=tk } where
 gle:=fun _ _ h=>h
 gold:=fun _ _ _=>rfl
 ble:=fun _ _ h=>h
 bnew:=fun _ _ h q=>by rw [h] at q;contradiction
 kept:=fun b o h _ f=>hs b o (fun e=>by
  subst e
  cases B2 with
  | lst l=>have:=(f i hi).1 l h0;have:=hb.1 l rfl;lia
  | att l=>have:=(f i hi).2 l h0;have:=hb.2 l rfl;lia) h
 alive:=fun b o h=>by
  by_cases e:b=a
  ·subst e;exact ha
  ·exact⟨o,hs b o e h⟩
 len:=by simp
 kinds:=fun j c' h=>by
  by_cases e:j=i
  ·subst e
   rw [h0] at h;injection h with h;subst h
   exact⟨c,by rw [EE (R.lt _ _ hi)],hk⟩
  ·exact⟨c',by rw [DJ (Ne.symm e)];exact h,z3u.refl _⟩
 lsts:=fun j l h hj=>by
  by_cases e:j=i
  ·subst e
   rw [h0] at h;injection h with h;subst h
   have:=hb.1 l rfl;lia
  ·rw [DJ (Ne.symm e)];exact h
 atts:=fun j l h hj=>by
  by_cases e:j=i
  ·subst e
   rw [h0] at h;injection h with h;subst h
   have:=hb.2 l rfl;lia
  ·rw [DJ (Ne.symm e)];exact h
 rest:=rfl
end
inductive NsS(I:z2w)(env:Env)(Y:z0n)(g:Fz)(Z:Bt)(h:Heap):Prop
 | mk (m:Str->Option Value) (h1:h.Ns env.locals m) (h2:∀ (k:Nat) (x:Str) (p:PV),I.nm[k]?=some x->env.kindOf x=some .local->Y k=some p->∃ v,m x=some v/\Rel I g Z v p):NsS I env Y g Z h
inductive w6j(I:z2w)(env:Env)(Y:z0n)(g:Fz)(Z:Bt)(h:Heap)(x:Str):Prop
 | mk (c:Addr) (ov:Option Value) (h1:env.cells.lookup x=some c) (h2:h.get? c=some (k2z ov)) (h3:c≠env.locals) (h4:g c=none) (h5:∀ i,Z i≠some c) (h6:∀ (k:Nat) (p:PV),I.nm[k]?=some x->Y k=some p->∃ v,ov=some v/\Rel I g Z v p):w6j I env Y g Z h x
structure z0j(I:z2w)(own:List Addr)(env:Env)(Y:z0n)(g:Fz)(Z:Bt)(h:Heap):Prop where
 kind:env.scope.kind=.function
 glob:env.globals=mainGlobals
 bi:env.builtins=builtinsNs
 ns:NsS I env Y g Z h
 lg:g env.locals=none
 lb:∀ i,Z i≠some env.locals
 lown:env.locals∈own
 cells:∀ x,(env.kindOf x=some .cell\/env.kindOf x=some .free)->w6j I env Y g Z h x
 apart:∀ x y c,env.cells.lookup x=some c->env.cells.lookup y=some c->x=y
 code:kdsCode I.K env.code=true
 ownz:∀ a,a∈own->g a=none/\(∀ i,Z i≠some a)/\∃ o,h.get? a=some o
noncomputable def Mine.storeable(env:Env)(own:List Addr)(x:Str):Prop:=env.kindOf x=some .local\/∃ c,env.kindOf x=some .cell/\env.cells.lookup x=some c/\c∈own
section
variable {I:z2w} {own own':List Addr} {L:Lim} {w:World} {g gb gC:Fz} {Z Z1 Z2:Bt} {H Hb H2:z0b} {s sB sC:Shared} {env:Env} {Y:z0n} {A:Around} {prog:Program}
theorem z0j.locThere(O:z0j I own env Y g Z s.heap):∃ o,s.heap.get? env.locals=some o:=by
 obtain⟨m,⟨o,_,_,ho,_⟩,_⟩:=O.ns
 exact⟨o,ho⟩
theorem z0j.grow(O:z0j I own env Y g Z s.heap)(hg:∀ a o,g a=some o->gb a=some o)(ho:∀ a o,s.heap.get? a=some o->gb a=g a)(hb:∀ i a,Z i=some a->Z1 i=some a)
 (hn:∀ i a,Z i=none->Z1 i=some a->s.heap.get? a=none)(hk:∀ a o,s.heap.get? a=some o->g a=none->(∀ i,Z i≠some a)->sB.heap.get? a=some o):z0j I own env Y gb Z1 sB.heap where
 kind:=O.kind
 glob:=O.glob
 bi:=O.bi
 ns:=by
  obtain⟨m,⟨o,es,ep,h1,r⟩,h2⟩:=O.ns
  exact⟨m,⟨o,es,ep,hk _ _ h1 O.lg O.lb,r⟩,fun k x p a b c=>let ⟨v,e,q⟩:=h2 k x p a b c;⟨v,e,q.mono hg hb⟩⟩
 lg:=by obtain⟨o,h⟩:=O.locThere;rw [ho _ _ h];exact O.lg
 lb:=fun i e=>by
  obtain⟨o,h⟩:=O.locThere
  induction q:Z i using Option.casesOn with
  | none=>rw [hn i _ q e] at h;contradiction
  | some a=>rw [hb i a q] at e;injection e with e;subst e;exact O.lb i q
 lown:=O.lown
 cells:=fun x hx=>by
  obtain⟨c,ov,h1,h2,h3,h4,h5,h6⟩:=O.cells x hx
  refine⟨c,ov,h1,hk _ _ h2 h4 h5,h3,by rw [ho _ _ h2];exact h4,fun i e=>?_,fun k p a b=>let ⟨v,e,q⟩:=h6 k p a b;⟨v,e,q.mono hg hb⟩⟩
  induction q:Z i using Option.casesOn with
  | none=>rw [hn i _ q e] at h2;contradiction
  | some a=>rw [hb i a q] at e;injection e with e;subst e;exact h5 i q
 apart:=O.apart
 code:=O.code
 ownz:=fun a ha=>by
  obtain⟨h1,h2,o,h3⟩:=O.ownz a ha
  refine⟨by rw [ho _ _ h3];exact h1,fun i e=>?_,o,hk _ _ h3 h1 h2⟩
  induction q:Z i using Option.casesOn with
  | none=>rw [hn i _ q e] at h3;contradiction
  | some b=>rw [hb i b q] at e;injection e with e;subst e;exact h2 i q
theorem z0j.step(O:z0j I own env Y g Z s.heap)(G:z1e [] L g Z H s gb Z1 Hb sB):z0j I own env Y gb Z1 sB.heap:=
 O.grow G.gle G.gold G.ble G.bnew fun a o h _ hb=>G.kept a o h (by simp) fun i e=>(hb i e).elim
noncomputable def Go{V:Type}(I:z2w)(prog:Program)(w:World)(A:Around)(own:List Addr)(L:Lim)(g:Fz)(Z:Bt)(H:z0b)(t:Sem V)(H':z0b)(Post:Fz->Bt->Shared->V->Prop)(s:Shared):Prop:=
 ∀ (Q:V->Shared->Prop) (E:Value->Shared->Prop),(∀ a g' Z' s',z1e own L g Z H s g' Z' H' s'->SR I w.params g' Z' H' s'.heap->Post g' Z' s' a->Q a s')->wpAny (model prog w) A t Q E s
variable {V A8:Type} {t:Sem V} {f:V->Sem A8} {P1 P1':Fz->Bt->Shared->V->Prop} {P2:Fz->Bt->Shared->A8->Prop}
theorem Go.pure{a:V}(R:SR I w.params g Z H s.heap)(h:P1 g Z s a):Go I prog w A own L g Z H (Pure.pure a:Sem V) H P1 s:=
 fun Q E k=>AG (k a g Z s .refl R h)
theorem Go.bind(R:SR I w.params g Z H s.heap)(h:Go I prog w A own L g Z H t Hb P1 s)
 (k:∀ a gb Z1 sB,z1e own L g Z H s gb Z1 Hb sB->SR I w.params gb Z1 Hb sB.heap->P1 gb Z1 sB a->Go I prog w A own L gb Z1 Hb (f a) H2 P2 sB):Go I prog w A own L g Z H (t>>=f) H2 P2 s:=
 fun Q E q=>AB (h _ _ fun a gb Z1 sB G Rb p=>k a gb Z1 sB G Rb p Q E fun b gC Z2 sC Gc Rc pC=>q b gC Z2 sC (G.trans R Gc) Rc pC)
theorem Go.mono(h:Go I prog w A own L g Z H t Hb P1 s)(k:∀ a gb Z1 sB,z1e own L g Z H s gb Z1 Hb sB->SR I w.params gb Z1 Hb sB.heap->P1 gb Z1 sB a->P1' gb Z1 sB a):Go I prog w A own L g Z H t Hb P1' s:=
 fun Q E q=>h Q E fun a gb Z1 sB G R p=>q a gb Z1 sB G R (k a gb Z1 sB G R p)
theorem Go.own_le(hs:∀ a∈own,a∈own')(h:Go I prog w A own L g Z H t Hb P1 s):Go I prog w A own' L g Z H t Hb P1 s:=
 fun Q E q=>h Q E fun a gb Z1 sB G R p=>q a gb Z1 sB (G.own_le hs) R p
theorem Go.holding{vs:List Value}(h:Go I prog w A own L g Z H t Hb P1 s):Go I prog w A own L g Z H (PySem.holding vs t) Hb P1 s:=
 fun Q E q=>BQ (h Q E q)
theorem Go.standAt{pos:Pos}{f:Unit->Sem A8}(h:Go I prog w A own L g Z H (f ()) H2 P2 s):Go I prog w A own L g Z H (PySem.standAt pos>>=f) H2 P2 s:=
 fun Q E q=>AB (BT (h Q E q))
noncomputable def P.val(I:z2w)(p:PV):Fz->Bt->Shared->Value->Prop:=fun g Z _ v=>Rel I g Z v p
theorem Go.keepAll{t:Sem V}(R:SR I w.params g Z H s.heap)
 (h:∀ (Q:V->Shared->Prop) (E:Value->Shared->Prop),(∀ a h' tk,(∀ b o,s.heap.get? b=some o->h'.get? b=some o)->P1 g Z { s with heap:=h',toks:=tk } a->Q a { s with heap:=h',toks:=tk })->wpAny (model prog w) A t Q E s) :
  Go I prog w A own L g Z H t H P1 s:=
 fun Q E q=>h Q E fun a h' tk hk p=>q a g Z _ (.keepAll hk) (R.keepAll hk) p
theorem Go.tok{t:Sem V}(R:SR I w.params g Z H s.heap)(h:∀ (Q:V->Shared->Prop) (E:Value->Shared->Prop),(∀ a tk,P1 g Z { s with toks:=tk } a->Q a { s with toks:=tk })->wpAny (model prog w) A t Q E s) :
  Go I prog w A own L g Z H t H P1 s:=
 Go.keepAll R fun Q E q=>h Q E fun a tk p=>q a s.heap tk (fun _ _ e=>e) p
theorem Go.same{t:Sem V}(R:SR I w.params g Z H s.heap)(h:∀ (Q:V->Shared->Prop) (E:Value->Shared->Prop),(∀ a,P1 g Z s a->Q a s)->wpAny (model prog w) A t Q E s) :
  Go I prog w A own L g Z H t H P1 s:=
 fun Q E q=>h Q E fun a p=>q a g Z s .refl R p
theorem Go.fresh{t:Sem Value}{o:Obj}{p:PV}(R:SR I w.params g Z H s.heap)(hp:∀ a,Rel I (y3y g a o) Z (.ref a) p)
 (h:∀ (Q:Value->Shared->Prop) (E:Value->Shared->Prop),(∀ a h' tk,(∀ b o,s.heap.get? b=some o->h'.get? b=some o)->s.heap.get? a=none->h'.get? a=some o->Q (.ref a) { s with heap:=h',toks:=tk })->wpAny (model prog w) A t Q E s) :
  Go I prog w A own L g Z H t H (P.val I p) s:=
 fun Q E q=>h Q E fun a h' tk hk hn ho=>q _ _ Z _ (.add R hk hn) (R.add hk hn ho) (hp a)
theorem get?_size(h:Heap):h.get? h.objs.size=none:=by
 induction e:h.get? h.objs.size using Option.casesOn with
 | none=>rfl
 | some o=>exact absurd (CO e) (EX _)
theorem q4w{vs:List Value}{ps:List PV}(R:SR I w.params g Z H s.heap)(hr:z0e I g Z vs ps)(hl:vs.length<=z2n):Go I prog w A own L g Z H (newTuple vs) H (P.val I (.tup ps)) s:=by
 intro Q E q
 have hn:=get?_size s.heap
 refine DK ?_ (by show vs.toArray.size<=sizeLine;rw [BS];exact hl)
 have hk:∀ b o,s.heap.get? b=some o->(s.heap.push (x5t vs 0)).get? b=some o:=fun b o e=>AO _ e
 have ho:(s.heap.push (x5t vs 0)).get? s.heap.objs.size=some (x5t vs 0):=AZ _ rfl
 exact q _ _ Z _ (z1e.add (tk:=s.toks) R hk hn) (R.add hk hn ho) (.tup (z2f ..) (x0f _ _) hl (hr.mono (z2v (R.gfree hn)) fun _ _ e=>e))
theorem j0f{vs:List Value}{ps:List PV}(R:SR I w.params g Z H s.heap)(hr:z0e I g Z vs ps)(hl:vs.length<=z2n):Go I prog w A own L g Z H (newList vs) H (P.val I (.lst ps)) s:=by
 intro Q E q
 have hn:=get?_size s.heap
 refine DK ?_ (by show vs.toArray.size<=sizeLine;rw [BS];exact hl)
 have hk:∀ b o,s.heap.get? b=some o->(s.heap.push (z6f vs 0)).get? b=some o:=fun b o e=>AO _ e
 have ho:(s.heap.push (z6f vs 0)).get? s.heap.objs.size=some (z6f vs 0):=AZ _ rfl
 exact q _ _ Z _ (z1e.add (tk:=s.toks) R hk hn) (R.add hk hn ho) (.lst (z2f ..) (y9e _ _) hl (hr.mono (z2v (R.gfree hn)) fun _ _ e=>e))
theorem y6w{vs:List Value}{ps:List PV}(R:SR I w.params g Z H s.heap)(hr:z0e I g Z vs ps)(hl:vs.length<=z2n)(hf:z0w 0 ps=true) :
  Go I prog w A own L g Z H (newList vs) (H++[.lst ps]) (P.val I (.ref H.length)) s:=by
 intro Q E q
 have hn:=get?_size s.heap
 refine DK ?_ (by show vs.toArray.size<=sizeLine;rw [BS];exact hl)
 have hk:∀ b o,s.heap.get? b=some o->(s.heap.push (z6f vs 0)).get? b=some o:=fun b o e=>AO _ e
 have ho:(s.heap.push (z6f vs 0)).get? s.heap.objs.size=some (z6f vs 0):=AZ _ rfl
 exact q _ _ _ _ (z1e.cellNew (c:=.lst ps) (tk:=s.toks) R hk hn) (R.cellNew hk hn ⟨_,vs,ho,y9e _ _,hl,hr.mono (fun _ _ e=>e) (y1z R.none_at),hf⟩) (.ref (y0q ..))
theorem k3t{V:Type}{Q:V->Shared->Prop}{E:Value->Shared->Prop}{c:Prop}[Decidable c]{a b:Sem V}(hc:¬ c)(h:wpAny (model prog w) A b Q E s):wpAny (model prog w) A (if c then a else b) Q E s:=by rw [AS hc];exact h
theorem x0g{x:Str}{Q:Value->Shared->Prop}{E:Value->Shared->Prop}(hk:env.scope.kind=.function)(hl:env.kindOf x=some .local\/env.kindOf x=some .cell\/env.kindOf x=some .free)(hc:(x==("__classdict__":Str))=false)
 (h:∀ F:Option Value->Sem Value,(∀ v,F (some v)=pure v)->(env.kindOf x=some .local->wpAny (model prog w) A (nsGet env.locals x>>=F) Q E s)/\(env.kindOf x=some .cell\/env.kindOf x=some .free->wpAny (model prog w) A (cellOf env x>>=fun a=>cellGet a>>=F) Q E s)) :
  wpAny (model prog w) A (loadName env x) Q E s:=by
 unfold loadName
 refine k3t (by rw [hk];exact CJ) ?_
 rw [show env.blockKind=.function by unfold Env.blockKind;rw [hk];rfl]
 rcases hl with hl | hl | hl
 ·rw [hl]
  exact(h _ fun v=>rfl).1 hl
 ·rw [hl]
  exact(h _ fun v=>rfl).2 (.inl hl)
 ·rw [hl]
  exact k3t (by rw [hc];exact CJ) ((h _ fun v=>rfl).2 (.inr hl))
theorem y2z{x:Str}{k:Nat}{p:PV}(R:SR I w.params g Z H s.heap)(O:z0j I own' env Y g Z s.heap)(hn:I.nm[k]?=some x)(hv:Y k=some p)
 (hk:env.kindOf x=some .local\/env.kindOf x=some .cell\/env.kindOf x=some .free)(hc:(x==("__classdict__":Str))=false) :
  Go I prog w A own L g Z H (loadName env x) H (P.val I p) s:=by
 refine Go.same R fun Q E q=>x0g O.kind hk hc fun F hF=>⟨fun hk=>?_,fun hk=>?_⟩
 ·obtain⟨m,hm,h⟩:=O.ns
  obtain⟨v,e,r⟩:=h k x p hn hk hv
  refine AB (wpAny_nsGet hm ?_)
  rw [e,hF]
  exact AG (q v r)
 ·obtain⟨c,ov,h1,h2,_,_,_,h6⟩:=O.cells x hk
  obtain⟨v,rfl,r⟩:=h6 k p hn hv
  unfold cellOf cellGet
  rw [h1]
  refine AB (AG (AB (AB (wpAny_load h2 ?_))))
  refine AG ?_
  rw [hF]
  exact AG (q v r)
theorem k3u{x:Str}{k:Nat}{p:PV}{pos:Pos}(R:SR I w.params g Z H s.heap)(O:z0j I own' env Y g Z s.heap)(hn:I.nm[k]?=some x)(hv:Y k=some p)
 (hk:env.kindOf x=some .local\/env.kindOf x=some .cell\/env.kindOf x=some .free)(hd:(x==("__debug__":Str))=false)(hc:(x==("__classdict__":Str))=false) :
  Go I prog w A own L g Z H (eval (.Name x pos) env) H (P.val I p) s:=fun Q E q=>wpAny_Name (y2z R O hn hv hk hc Q E q) hd
end
section
variable {I:z2w} {own own':List Addr} {L:Lim} {w:World} {g gb gC:Fz} {Z Z1 Z2:Bt} {H Hb H2:z0b} {s sB sC:Shared} {env:Env} {Y:z0n} {A:Around} {prog:Program}
structure AOk(A:Around)(lv:Nat):Prop where
 handled:A.handled=none
 depth:A.depth+12*lv<=800
 units:A.units+200*lv<=9000
theorem z0e.length{vs:List Value}{ps:List PV}(h:z0e I g Z vs ps):vs.length=ps.length:=z0e.ind (M:=fun vs ps=>vs.length=ps.length) rfl (fun _ _ ih=>AT (·+1) ih) h
theorem z0e.append{vs ws:List Value}{ps qs:List PV}(h:z0e I g Z vs ps)(k:z0e I g Z ws qs):z0e I g Z (vs++ws) (ps++qs):=z0e.ind (M:=fun vs ps=>z0e I g Z (vs++ws) (ps++qs)) k (fun h _ ih=>.cons h ih) h
theorem z0e.get{vs:List Value}{ps:List PV}(h:z0e I g Z vs ps):∀ {j:Nat} {p:PV},ps[j]?=some p->∃ v,vs[j]?=some v/\Rel I g Z v p:=
 z0e.ind (M:=fun vs ps=>∀ {j:Nat} {p:PV},ps[j]?=some p->∃ v,vs[j]?=some v/\Rel I g Z v p) (fun h=>nomatch h) (fun {v vs p ps} a _ ih {j} q h=>by
  induction j using Nat.casesOn with
  | zero=>exact⟨v,rfl,AF h▸a⟩
  | succ j=>exact ih h) h
theorem z0e.take{vs:List Value}{ps:List PV}(h:z0e I g Z vs ps):∀ n:Nat,z0e I g Z (vs.take n) (ps.take n):=
 z0e.ind (M:=fun vs ps=>∀ n:Nat,z0e I g Z (vs.take n) (ps.take n)) (fun n=>by rw [List.take_nil,List.take_nil];exact .nil) (fun a _ ih n=>by
  induction n using Nat.casesOn with
  | zero=>exact .nil
  | succ n=>exact .cons a (ih n)) h
theorem z0e.drop{vs:List Value}{ps:List PV}(h:z0e I g Z vs ps):∀ n:Nat,z0e I g Z (vs.drop n) (ps.drop n):=
 z0e.ind (M:=fun vs ps=>∀ n:Nat,z0e I g Z (vs.drop n) (ps.drop n)) (fun n=>by rw [FL,FL];exact .nil) (fun a r ih n=>by
  induction n using Nat.casesOn with
  | zero=>exact .cons a r
  | succ n=>exact ih n) h
theorem z0e.set{vs:List Value}{ps:List PV}(h:z0e I g Z vs ps):∀ (n:Nat) {v:Value} {p:PV},Rel I g Z v p->z0e I g Z (vs.set n v) (ps.set n p):=
 z0e.ind (M:=fun vs ps=>∀ (n:Nat) {v:Value} {p:PV},Rel I g Z v p->z0e I g Z (vs.set n v) (ps.set n p)) (fun n _ _ _=>.nil) (fun a r ih n _ _ h=>by
  induction n using Nat.casesOn with
  | zero=>exact .cons h r
  | succ n=>exact .cons a (ih n h)) h
theorem z0e.one{v:Value}{p:PV}(h:Rel I g Z v p):z0e I g Z [v] [p]:=.cons h .nil
theorem z0e.listMul{vs:List Value}{ps:List PV}(h:z0e I g Z vs ps):∀ n,z0e I g Z ((List.replicate n vs).flatten) (Mine.listMul ps n)
 | 0=>.nil
 | n+1=>by
  rw [DP,List.flatten_cons]
  exact h.append (z0e.listMul h n)
theorem z9x(R:SR I w.params g Z H s.heap){i:Nat}{a:Addr}(hi:Z i=some a){l:List PV}(e:z0y H i=some l):∃ o vs,s.heap.get? a=some o/\IsL o vs/\vs.length<=z2n/\z0e I g Z vs l/\z0w 0 l=true:=R.cell i a _ hi (z3y e)
inductive k3v(I:z2w)(g:Fz)(Z:Bt)(h:Heap)(v:Value)(ps:List PV):Prop
 | mk (a:Addr) (o:Obj) (vs:List Value) (h1:v=.ref a) (h2:h.get? a=some o) (h3:IsL o vs) (h4:vs.length<=z2n) (h5:z0e I g Z vs ps):k3v I g Z h v ps
theorem Rel.listIn(R:SR I w.params g Z H s.heap){v:Value}{p:PV}(h:Rel I g Z v p){l:List PV}(e:z5l H p=some l):k3v I g Z s.heap v l:=by
 unfold z5l at e
 split at e
 ·injection e with e;subst e
  obtain⟨a,o,vs,e,h1,h2,h3,h4⟩:=h.lst_inv
  exact⟨a,o,vs,e,R.sub _ _ h1,h2,h3,h4⟩
 ·obtain⟨a,ea,hi⟩:=h.ref_inv
  obtain⟨o,vs,h1,h2,h3,h4,_⟩:=z9x R hi e
  exact⟨a,o,vs,ea,h1,h2,h3,h4⟩
 ·contradiction
theorem z0s{h:Heap}{a:Addr}{o:Obj}{vs:List Value}(e:h.get? a=some o)(q:IsL o vs):h.IsList a vs.toArray:=let ⟨a,n,b,_⟩:=q;⟨_,e,a,n,b⟩
theorem z3z{h:Heap}{a:Addr}{o:Obj}{vs:List Value}(e:h.get? a=some o)(q:IsT o vs):h.IsTuple a vs.toArray:=⟨_,e,q⟩
theorem j0g{o:Obj}{p:PV}{Q:Value->Shared->Prop}(R:SR I w.params g Z H s.heap)(hf:o.isFreed=false)(hp:g s.heap.objs.size=none->Rel I (y3y g s.heap.objs.size o) Z (.ref s.heap.objs.size) p)
 (q:∀ a g' Z' s',z1e own L g Z H s g' Z' H s'->SR I w.params g' Z' H s'.heap->P.val I p g' Z' s' a->Q a s'):Q (.ref s.heap.objs.size) { s with heap:=s.heap.push o }:=by
 have hn:=get?_size s.heap
 have hk:∀ b x,s.heap.get? b=some x->(s.heap.push o).get? b=some x:=fun b x e=>AO _ e
 have ho:(s.heap.push o).get? s.heap.objs.size=some o:=AZ _ hf
 exact q _ _ Z _ (z1e.add (tk:=s.toks) R hk hn) (R.add hk hn ho) (hp (R.gfree hn))
theorem Go.push{t:Sem Value}{o:Obj}{p:PV}(R:SR I w.params g Z H s.heap)(hf:o.isFreed=false)(hp:g s.heap.objs.size=none->Rel I (y3y g s.heap.objs.size o) Z (.ref s.heap.objs.size) p)
 (h:∀ (Q:Value->Shared->Prop) (E:Value->Shared->Prop),Q (.ref s.heap.objs.size) { s with heap:=s.heap.push o }->wpAny (model prog w) A t Q E s) :
  Go I prog w A own L g Z H t H (P.val I p) s:=fun Q E q=>h Q E (j0g R hf hp q)
theorem Go.pushCell{t:Sem Value}{o:Obj}{c:z3a}(R:SR I w.params g Z H s.heap)(hf:o.isFreed=false)(hc:∀ h':Heap,h'.get? s.heap.objs.size=some o->y0p I w.params g (q4p Z H.length s.heap.objs.size) h' s.heap.objs.size c)
 (h:∀ (Q:Value->Shared->Prop) (E:Value->Shared->Prop),Q (.ref s.heap.objs.size) { s with heap:=s.heap.push o }->wpAny (model prog w) A t Q E s) :
  Go I prog w A own L g Z H t (H++[c]) (P.val I (.ref H.length)) s:=by
 intro Q E q
 have hn:=get?_size s.heap
 have hk:∀ b x,s.heap.get? b=some x->(s.heap.push o).get? b=some x:=fun b x e=>AO _ e
 have ho:(s.heap.push o).get? s.heap.objs.size=some o:=AZ _ hf
 exact h Q E (q _ _ _ _ (z1e.cellNew (c:=c) (tk:=s.toks) R hk hn) (R.cellNew hk hn (hc _ ho)) (.ref (y0q ..)))
theorem q1f{a b:Addr}{oa ob:Obj}{vs ws:List Value}{Q:Value->Shared->Prop}{E:Value->Shared->Prop}(ha:s.heap.get? a=some oa)(qa:IsL oa vs)(hb:s.heap.get? b=some ob)(qb:IsL ob ws)(hl:vs.length+ws.length<=z2n)
 (h:Q (.ref s.heap.objs.size) { s with heap:=s.heap.push (z6f (vs++ws) 0) }):wpAny (model prog w) A (binaryOp .Add (.ref a) (.ref b)) Q E s:=by
 obtain⟨ca,da,ta,sa⟩:=oa
 obtain⟨cb,db,tb,sb⟩:=ob
 obtain⟨rfl,n,rfl,_⟩:=qa
 obtain⟨rfl,m,rfl,_⟩:=qb
 refine concat_meets ⟨_,ha,rfl⟩ ⟨_,hb,rfl⟩ noFill_list_add seq_list_add PySem.F.slot_list_add PySem.F.entry_list_add (PySem.F.args_list_add_2 _ _)
  (list_addW a b vs.toArray ws.toArray n m da db sa sb (by simpa [z2n,sizeLine] using hl)) ⟨ha,hb,?_⟩
 have e:vs.toArray++ws.toArray=(vs++ws).toArray:=by simp
 rw [e]
 exact h
theorem j0h{a b:Addr}{oa ob:Obj}{vs ws:List Value}{Q:Value->Shared->Prop}{E:Value->Shared->Prop}(ha:s.heap.get? a=some oa)(qa:IsT oa vs)(hb:s.heap.get? b=some ob)(qb:IsT ob ws)(hl:vs.length+ws.length<=z2n)
 (h0:vs=[]->Q (.ref b) s)(h1:ws=[]->Q (.ref a) s)(h:Q (.ref s.heap.objs.size) { s with heap:=s.heap.push (x5t (vs++ws) 0) }):wpAny (model prog w) A (binaryOp .Add (.ref a) (.ref b)) Q E s:=by
 obtain⟨ca,da,ta,sa⟩:=oa
 obtain⟨cb,db,tb,sb⟩:=ob
 obtain⟨rfl,n,rfl⟩:=qa
 obtain⟨rfl,m,rfl⟩:=qb
 by_cases hv:vs=[]
 ·exact concat_meets ⟨_,ha,rfl⟩ ⟨_,hb,rfl⟩ noFill_tuple_add seq_tuple_add PySem.F.slot_tuple_add PySem.F.entry_tuple_add (PySem.F.args_tuple_add_2 _ _)
   (tuple_addW0 a b vs.toArray ws.toArray n m da db sa sb (by simp [hv])) ⟨ha,hb,h0 hv⟩
 ·by_cases hw:ws=[]
  ·exact concat_meets ⟨_,ha,rfl⟩ ⟨_,hb,rfl⟩ noFill_tuple_add seq_tuple_add PySem.F.slot_tuple_add PySem.F.entry_tuple_add (PySem.F.args_tuple_add_2 _ _)
    (tuple_addW1 a b vs.toArray ws.toArray n m da db sa sb (by simpa using hv) (by simp [hw])) ⟨ha,hb,h1 hw⟩
  ·refine concat_meets ⟨_,ha,rfl⟩ ⟨_,hb,rfl⟩ noFill_tuple_add seq_tuple_add PySem.F.slot_tuple_add PySem.F.entry_tuple_add (PySem.F.args_tuple_add_2 _ _)
    (tuple_addW2 a b vs.toArray ws.toArray n m da db sa sb (by simpa using hv) (by simpa using hw) (by simpa [z2n,sizeLine] using hl)) ⟨ha,hb,?_⟩
   have e:vs.toArray++ws.toArray=(vs++ws).toArray:=by simp
   rw [e]
   exact h
theorem z8i(xs:List Value):∀ (n:Nat) (acc:Array Value),List.foldl (fun x1 x2=>x1++x2) acc (List.replicate n xs.toArray)=acc++((List.replicate n xs).flatten).toArray
 | 0,acc=>by simp
 | n+1,acc=>by
  rw [DP,CW,z8i xs n,DP,List.flatten_cons]
  simp [Array.append_assoc]
theorem z9q(xs:List Value):∀ n,((List.replicate n xs).flatten).length=n*xs.length
 | 0=>by simp
 | n+1=>by rw [DP,List.flatten_cons,AE,z9q xs n,Nat.succ_mul];omega
theorem q4x{a:Addr}{o:Obj}{vs:List Value}{x:Int}{u:Tok}{Q:Value->Shared->Prop}{E:Value->Shared->Prop}(ha:s.heap.get? a=some o)(qa:IsL o vs)(hx:x.natAbs<=1000)(hl:vs.length<=1000)
 (h:Q (.ref s.heap.objs.size) { s with heap:=s.heap.push (z6f ((List.replicate x.toNat vs).flatten) 0) }):wpAny (model prog w) A (binaryOp .Mult (.ref a) (.int x u)) Q E s:=by
 obtain⟨ca,da,ta,sa⟩:=o
 obtain⟨rfl,n,rfl,_⟩:=qa
 have hm:vs.length*x.toNat<=1000*1000:=CI hl (AA (q0z _) hx)
 refine wpAny_binaryOp_repeat_ref (T:="list") (U:="int") (by decide) ⟨_,ha,rfl⟩ (fun s'=>typeIs_int s' x u) noFill_list_mul F.fills_int_mul F.slot_int_rmul repeat_list F.slot_int_index.lookup
  (call_meets F.slot_int_rmul (typeIs_int s x u) F.entry_int_rmul (F.args_int_rmul_2 _ _) (lm_int_rmul_list_any x u a vs.toArray n da sa)
   ⟨ha,rfl,⟨_,ha,rfl⟩,call_meets F.slot_list_mul ⟨_,ha,rfl⟩ F.entry_list_mul (F.args_list_mul_2 _ _)
    (lm_list_mul_any a vs.toArray n da sa x u (by rw [show Builtin.List.listFitsIndex x=true from AH.mpr ⟨AV (i64 (lk hx rfl)).1,AV (i64 (lk hx rfl)).2⟩];decide) (by simp;omega) (by simp [Builtin.List.listTooLong,sizeLine];omega))
    ⟨ha,?_⟩⟩)
 rw [z8i]
 have e:(#[]:Array Value)++((List.replicate (if vs.toArray.isEmpty=true then 0 else x.toNat) vs).flatten).toArray=((List.replicate x.toNat vs).flatten).toArray:=by
  induction vs using List.casesOn with
  | nil=>simp
  | cons v vs=>simp
 rw [e]
 exact h
theorem w2h{x:Str}{n:Int}(hn:n.natAbs<=1000)(hx:x.length<=1000):MulOk x n:=by
 refine⟨by simp;omega,fun h1 _=>?_,fun h1 _=>?_⟩
 ·have:(2^63 - 1:Int) / n>=1000:=by
   have hp:0<n:=by omega
   exact(Int.le_ediv_iff_mul_le hp).mpr (by omega)
  omega
 ·have hm:x.length*n.toNat<=1000*1000:=CI hx (by omega)
  simp [Builtin.Str.tooLong,sizeLine];omega
noncomputable def BOp.op:BOp->Operator
 | .add=>.Add
 | .sub=>.Sub
 | .mul=>.Mult
 | .fdiv=>.FloorDiv
 | .mod=>.Mod
 | .shl=>.LShift
 | .pow=>.Pow
 | .band=>.BitAnd
 | .bxor=>.BitXor
theorem j3e{a b:Int}(ha:small a=true):IntMulOk a b:=by
 refine IntMulOk.of_left ?_
 have:a.natAbs<2^64:=AK ha
 unfold Builtin.Int.intBits
 split
 ·omega
 ·rename_i h
  have h0:a.natAbs≠0:=by
   intro e
   apply h
   simp [Int.natAbs_eq_zero.mp e]
  have:=(Nat.log2_lt h0).mpr this
  omega
end
section
variable {I:z2w} {own own':List Addr} {L:Lim} {w:World} {g gb gC:Fz} {Z Z1 Z2:Bt} {H Hb H2:z0b} {s sB sC:Shared} {env:Env} {Y:z0n} {A:Around} {prog:Program} {lv:Nat}
theorem z6k{op:Value->Value->Sem Value}{u v:Value}{p q r:PV}{k:Int->Int->Option PV}(hu:Rel I g Z u p)(hv:Rel I g Z v q)(e:y8v p q k=some r)
 (K:∀ a b t t',k a b=some r->Go I prog w A own L g Z H (op (.int a t) (.int b t')) H (P.val I r) s):Go I prog w A own L g Z H (op u v) H (P.val I r) s:=by
 obtain⟨a,b,rfl,rfl,e⟩:=y3v e
 obtain⟨t,rfl⟩:=hu.int_inv
 obtain⟨t',rfl⟩:=hv.int_inv
 exact K a b t t' e
theorem k3w{u v:Value}{p q r:PV}(R:SR I w.params g Z H s.heap)(hu:Rel I g Z u p)(hv:Rel I g Z v q)(e:w5x H p q=some r) :
  Go I prog w A own L g Z H (binaryOp .Add u v) H (P.val I r) s:=by
 obtain⟨a,ha,e⟩:=z1f e
 obtain⟨b,hb,e⟩:=z1f e
 obtain⟨c,hc,rfl⟩:=z1d e
 obtain⟨h,rfl⟩:=q0y hc
 obtain⟨x,ox,vs,rfl,h1,h4,h2,h3⟩:=hu.listIn R ha
 obtain⟨y,oy,ws,rfl,k1,k4,k2,k3⟩:=hv.listIn R hb
 have hl:vs.length+ws.length<=z2n:=by rw [h3.length,k3.length,<- AE];exact h
 intro Q E q
 exact q1f h1 h4 k1 k4 hl (j0g R rfl (fun hn=>.lst (z2f ..) (y9e _ _) (by rw [AE];exact hl) ((h3.append k3).mono (z2v hn) fun _ _ e=>e)) q)
theorem x7w{u v:Value}{a b:List PV}{r:PV}(R:SR I w.params g Z H s.heap)(hu:Rel I g Z u (.tup a))(hv:Rel I g Z v (.tup b))(e:(sz (a++b)).map .tup=some r) :
  Go I prog w A own L g Z H (binaryOp .Add u v) H (P.val I r) s:=by
 obtain⟨c,hc,rfl⟩:=z1d e
 obtain⟨h,rfl⟩:=q0y hc
 obtain⟨x,ox,vs,rfl,h1,h4,h2,h3⟩:=hu.tup_inv
 obtain⟨y,oy,ws,rfl,k1,k4,k2,k3⟩:=hv.tup_inv
 have hl:vs.length+ws.length<=z2n:=by rw [h3.length,k3.length,<- AE];exact h
 intro Q E q
 refine j0h (R.sub _ _ h1) h4 (R.sub _ _ k1) k4 hl (fun hv=>?_) (fun hw=>?_) ?_
 ·refine q _ g Z s .refl R ?_
  subst hv
  cases h3
  exact .tup k1 k4 k2 k3
 ·refine q _ g Z s .refl R ?_
  subst hw
  cases k3
  rw [CA]
  exact .tup h1 h4 h2 h3
 ·exact j0g R rfl (fun hn=>.tup (z2f ..) (x0f _ _) (by rw [AE];exact hl) ((h3.append k3).mono (z2v hn) fun _ _ e=>e)) q
theorem k3x{u v:Value}{p q r:PV}(R:SR I w.params g Z H s.heap)(hu:Rel I g Z u p)(hv:Rel I g Z v q)(e:w5y H p q=some r) :
  Go I prog w A own L g Z H (binaryOp .Add u v) H (P.val I r) s:=by
 induction p using PV.casesOn with
 | int a=>exact z6k (p:=.int a) hu hv (k:=fun a b=>some (.int (a+b))) e fun a b t t' e=>by injection e with e;subst e;exact Go.tok R fun Q E k=>PySem.P.add_int (k _ _ (.int _ _))
 | str x=>
  obtain⟨y,rfl,e⟩:=z5m (show j2n q _=some r from e)
  obtain⟨h,e⟩:=z0q e
  obtain⟨t,rfl⟩:=hu.str_inv
  obtain⟨t',rfl⟩:=hv.str_inv
  injection e with e;subst e
  exact Go.tok R fun Q E k=>PyProof.Rows.add_str (fun t' tk=>k _ _ (.str _ _)) h
 | tup a=>
  obtain⟨b,rfl,e⟩:=j9z (show w1x q _=some r from e)
  exact x7w R hu hv e
 | _=>exact k3w R hu hv e
theorem x7x{u:Value}{p r:PV}{n:Int}{t:Tok}(R:SR I w.params g Z H s.heap)(hu:Rel I g Z u p)(e:((z5l H p).bind fun a=>if n.natAbs<=1000/\a.length<=1000 then some (.lst (listMul a n.toNat)) else none)=some r) :
  Go I prog w A own L g Z H (binaryOp .Mult u (.int n t)) H (P.val I r) s:=by
 obtain⟨a,ha,e⟩:=z1f e
 obtain⟨h,e⟩:=z0q e
 injection e with e;subst e
 obtain⟨x,ox,vs,rfl,h1,h4,h2,h3⟩:=hu.listIn R ha
 intro Q E q
 have hl:vs.length<=1000:=by rw [h3.length];exact h.2
 refine q4x h1 h4 h.1 hl (j0g R rfl (fun hn=>.lst (z2f ..) (y9e _ _) ?_ ((h3.listMul n.toNat).mono (z2v hn) fun _ _ e=>e)) q)
 rw [z9q]
 exact AA (CI (show n.toNat<=1000 by have:=h.1;lia) hl) (by decide)
theorem k3y{u v:Value}{p q r:PV}(R:SR I w.params g Z H s.heap)(hu:Rel I g Z u p)(hv:Rel I g Z v q)(e:w1y H p q=some r) :
  Go I prog w A own L g Z H (binaryOp .Mult u v) H (P.val I r) s:=by
 obtain⟨n,rfl,e⟩:=z6h e
 obtain⟨t',rfl⟩:=hv.int_inv
 induction p using PV.casesOn with
 | int a=>
  obtain⟨h,e⟩:=z0q e
  obtain⟨t,rfl⟩:=hu.int_inv
  injection e with e;subst e
  exact Go.tok R fun Q E k=>PySem.P.mul_int (k _ _ (.int _ _)) (j3e (z0v h).1)
 | str x=>
  obtain⟨h,e⟩:=z0q e
  obtain⟨t,rfl⟩:=hu.str_inv
  injection e with e;subst e
  exact Go.tok R fun Q E k=>SB.mul (w2h h.1 h.2) (fun t' tk=>k _ _ (.str _ _))
 | _=>exact x7x R hu e
theorem k3z{o:BOp}{u v:Value}{p q r:PV}(R:SR I w.params g Z H s.heap)(hu:Rel I g Z u p)(hv:Rel I g Z v q)(e:y6q o H p q=some r) :
  Go I prog w A own L g Z H (binaryOp o.op u v) H (P.val I r) s:=by
 cases o with
 | add=>exact k3x R hu hv e
 | mul=>exact k3y R hu hv e
 | sub=>exact z6k hu hv e fun a b t t' e=>by injection e with e;subst e;exact Go.tok R fun Q E k=>PySem.P.sub_int (k _ _ (.int _ _))
 | fdiv=>
  refine z6k hu hv e fun a b t t' e=>?_
  obtain⟨h,e⟩:=z0q e
  injection e with e;subst e
  exact Go.tok R fun Q E k=>floordiv_int h.1 (k _ _ (.int _ _)) (Or.inl (PyProof.noPylong_small (BW h.2 (by decide))))
 | mod=>
  refine z6k hu hv e fun a b t t' e=>?_
  obtain⟨h,e⟩:=z0q e
  injection e with e;subst e
  exact Go.tok R fun Q E k=>mod_int' h (k _ _ (.int _ _))
 | shl=>
  refine z6k hu hv e fun a b t t' e=>?_
  obtain⟨h,e⟩:=z0q e
  injection e with e;subst e
  exact Go.tok R fun Q E k=>lshift_int_small h.1 h.2.1 h.2.2 (k _ _ (.int _ _))
 | pow=>
  refine z6k hu hv e fun a b t t' e=>?_
  obtain⟨h,e⟩:=z0q e
  injection e with e;subst e
  exact Go.tok R fun Q E k=>pow_int_small h.1 h.2.1 h.2.2 (k _ _ (.int _ _))
 | band=>exact z6k hu hv e fun a b t t' e=>by injection e with e;subst e;exact Go.tok R fun Q E k=>and_int (k _ _ (.int _ _))
 | bxor=>exact z6k hu hv e fun a b t t' e=>by injection e with e;subst e;exact Go.tok R fun Q E k=>xor_int (k _ _ (.int _ _))
theorem k4a{o:BOp}{u v:Value}{p q r:PV}(R:SR I w.params g Z H s.heap)(hu:Rel I g Z u p)(hv:Rel I g Z v q)(e:x5k o p q=some r) :
  Go I prog w A own L g Z H (inplaceOp o.op u v) H (P.val I r) s:=by
 cases o with
 | add=>exact z6k hu hv e fun a b t t' e=>by injection e with e;subst e;exact Go.tok R fun Q E k=>iadd_int (k _ _ (.int _ _))
 | bxor=>exact z6k hu hv e fun a b t t' e=>by injection e with e;subst e;exact Go.tok R fun Q E k=>ixor_int (k _ _ (.int _ _))
 | _=>contradiction
theorem Rel.reads(hs:∀ a o,g a=some o->s.heap.get? a=some o){v:Value}{p:PV}{d:PyData}(h:Rel I g Z v p):z1n p=some d->∃ as,Reads s.heap v d as:=
 Rel.rec (motive_1:=fun v p _=>∀ d,z1n p=some d->∃ as,Reads s.heap v d as) (motive_2:=fun vs ps _=>∀ ds,z0p ps=some ds->∃ as,ReadsAll s.heap vs ds as)
  (fun _ e=>AF e▸⟨_,.none⟩) (fun b _ e=>AF e▸⟨_,.bool b⟩) (fun i t _ e=>AF e▸⟨_,.int i t⟩) (fun x t d e=>AF (z0q (show(if PyData.strOk x then some (PyData.str x) else Option.none)=some d from e)).2▸⟨_,.str x t⟩)
  (fun {a o vs ps} h c l _ ih d e=>by
   obtain⟨ds,q,rfl⟩:=z1d (show(z0p ps).map PyData.tuple=some d from e)
   obtain⟨as,x⟩:=ih ds q
   obtain⟨c1,n,c2⟩:=c
   exact⟨_,.tuple (hs _ _ h) c1 c2 x⟩)
  (fun {a o vs ps} h c l _ ih d e=>by
   obtain⟨ds,q,rfl⟩:=z1d (show(z0p ps).map PyData.list=some d from e)
   obtain⟨as,x⟩:=ih ds q
   obtain⟨c1,n,c2,_⟩:=c
   exact⟨_,.list (hs _ _ h) c1 c2 x⟩)
  (fun _ _ e=>nomatch e) (fun _ _ _ e=>nomatch e) (fun _ _ e=>nomatch e) (fun _ _ _ e=>nomatch e)
  (fun _ e=>AF e▸⟨_,.nil⟩)
  (fun {v vs p ps} _ _ ih1 ih2 ds e=>by
   obtain⟨d,h1,e⟩:=z1f (show((z1n p).bind fun d=>(z0p ps).map fun ds=>d::ds)=some ds from e)
   obtain⟨es,h2,rfl⟩:=z1d e
   obtain⟨as,x⟩:=ih1 d h1
   obtain⟨bs,y⟩:=ih2 es h2
   exact⟨_,.cons x y⟩) h d
theorem z0e.reads(hs:∀ a o,g a=some o->s.heap.get? a=some o){vs:List Value}{ps:List PV}{ds:List PyData}(h:z0e I g Z vs ps)(e:z0p ps=some ds):∃ as,ReadsAll s.heap vs ds as:=
 z0e.ind (M:=fun vs ps=>∀ ds,z0p ps=some ds->∃ as,ReadsAll s.heap vs ds as) (fun _ e=>AF e▸⟨_,.nil⟩) (fun {v vs p ps} h _ ih ds e=>by
  obtain⟨d,h1,e⟩:=z1f (show((z1n p).bind fun d=>(z0p ps).map fun ds=>d::ds)=some ds from e)
  obtain⟨es,h2,rfl⟩:=z1d e
  obtain⟨as,x⟩:=h.reads hs h1
  obtain⟨bs,y⟩:=ih es h2
  exact⟨_,.cons x y⟩) h ds e
theorem y5d:(∀ p d,z1n p=some d->d.canLay0=true)/\(∀ ps ds,z0p ps=some ds->PyData.canLayAll0 ds=true):=
 have str:∀ x d,z1n (.str x)=some d->d.canLay0=true:=fun x d e=>by
  obtain⟨h,e⟩:=z0q (show(if PyData.strOk x then some (PyData.str x) else none)=some d from e)
  injection e with e;subst e
  exact h
 have tup:∀ l,(∀ ds,z0p l=some ds->PyData.canLayAll0 ds=true)->∀ d,z1n (.tup l)=some d->d.canLay0=true:=fun l ih d e=>by
  obtain⟨ds,q,rfl⟩:=z1d (show(z0p l).map PyData.tuple=some d from e)
  exact ih ds q
 have lst:∀ l,(∀ ds,z0p l=some ds->PyData.canLayAll0 ds=true)->∀ d,z1n (.lst l)=some d->d.canLay0=true:=fun l ih d e=>by
  obtain⟨ds,q,rfl⟩:=z1d (show(z0p l).map PyData.list=some d from e)
  exact ih ds q
 have nil:∀ ds,z0p []=some ds->PyData.canLayAll0 ds=true:=fun ds e=>AF e▸rfl
 have cons:∀ p ps,(∀ d,z1n p=some d->d.canLay0=true)->(∀ ds,z0p ps=some ds->PyData.canLayAll0 ds=true)->∀ ds,z0p (p::ps)=some ds->PyData.canLayAll0 ds=true:=fun p ps ih1 ih2 ds e=>by
  obtain⟨d,h1,e⟩:=z1f (show((z1n p).bind fun d=>(z0p ps).map fun ds=>d::ds)=some ds from e)
  obtain⟨es,h2,rfl⟩:=z1d e
  exact AH.mpr ⟨ih1 d h1,ih2 es h2⟩
 ⟨PV.rec (motive_1:=fun p=>∀ d,z1n p=some d->d.canLay0=true) (motive_2:=fun ps=>∀ ds,z0p ps=some ds->PyData.canLayAll0 ds=true) (fun _ e=>AF e▸rfl) (fun _ _ e=>AF e▸rfl) (fun _ _ e=>AF e▸rfl) str tup lst (fun _ _ e=>nomatch e) (fun _ _ _ e=>nomatch e) (fun _ _ e=>nomatch e) (fun _ e=>nomatch e) nil cons,
 PV.rec_1 (motive_1:=fun p=>∀ d,z1n p=some d->d.canLay0=true) (motive_2:=fun ps=>∀ ds,z0p ps=some ds->PyData.canLayAll0 ds=true) (fun _ e=>AF e▸rfl) (fun _ _ e=>AF e▸rfl) (fun _ _ e=>AF e▸rfl) str tup lst (fun _ _ e=>nomatch e) (fun _ _ _ e=>nomatch e) (fun _ _ e=>nomatch e) (fun _ e=>nomatch e) nil cons⟩
theorem z2p{p:PV}{d:PyData}(h:z1n p=some d):d.canLay0=true:=y5d.1 p d h
theorem z3p{ps:List PV}{ds:List PyData}(h:z0p ps=some ds):PyData.canLayAll0 ds=true:=y5d.2 ps ds h
theorem AOk.lt{n:Nat}(hA:AOk A lv)(h:n<=64):A.units+n<cLine:=by have:=hA.units;simp only [cLine];lia
theorem q7l{u v:Value}{p q:PV}{r:Bool}(R:SR I w.params g Z H s.heap)(hA:AOk A lv)(hu:Rel I g Z u p)(hv:Rel I g Z v q)(e:eqD p q=some r) :
  Go I prog w A own L g Z H (compareOp .Eq u v) H (P.val I (.bool r)) s/\Go I prog w A own L g Z H (compareOp .NotEq u v) H (P.val I (.bool (!r))) s:=by
 obtain⟨d,h1,e⟩:=z1f e
 obtain⟨d',h2,e⟩:=z1f e
 obtain⟨hd,e⟩:=z0q e
 injection e with e;subst e
 have hun:A.units+64<cLine:=hA.lt (by decide)
 obtain⟨as,x⟩:=hu.reads R.sub h1
 obtain⟨bs,y⟩:=hv.reads R.sub h2
 have sh:∀ {p:PV} {d:PyData},z1n p=some d->d.depth<=30->SeqAt.shaped d=true:=fun {p d} h hd=>by
  show(d.canLay0&&_)=true
  rw [z2p h]
  exact AV (by lia)
 exact⟨Go.same R fun Q E k=>eq_dataH x y (sh h1 hd.1) (sh h2 hd.2) hun (k _ (.bool _)),Go.same R fun Q E k=>ne_dataH x y (sh h1 hd.1) (sh h2 hd.2) hun (k _ (.bool _))⟩
theorem k4b{u v:Value}{p q:PV}{r:Bool}(R:SR I w.params g Z H s.heap)(hA:AOk A lv)(hu:Rel I g Z u p)(hv:Rel I g Z v q)(e:eqV p q=some r) :
  Go I prog w A own L g Z H (compareOp .Eq u v) H (P.val I (.bool r)) s/\Go I prog w A own L g Z H (compareOp .NotEq u v) H (P.val I (.bool (!r))) s:=by
 induction p using PV.casesOn with
 | int a=>
  induction q using PV.casesOn with
  | int b=>
   obtain⟨t,rfl⟩:=hu.int_inv
   obtain⟨t',rfl⟩:=hv.int_inv
   injection e with e;subst e
   exact⟨Go.same R fun Q E k=>PySem.P.eq_int (k _ (.bool _)),Go.same R fun Q E k=>PySem.P.ne_int (k _ (.bool _))⟩
  | _=>exact q7l R hA hu hv e
 | str a=>
  induction q using PV.casesOn with
  | str b=>
   obtain⟨t,rfl⟩:=hu.str_inv
   obtain⟨t',rfl⟩:=hv.str_inv
   injection e with e;subst e
   exact⟨Go.same R fun Q E k=>PyProof.Rows.eq_str (k _ (.bool _)),Go.same R fun Q E k=>PyProof.Rows.ne_str (k _ (.bool _))⟩
  | _=>exact q7l R hA hu hv e
 | bool a=>
  cases q with
  | bool b=>
   obtain rfl:=hu.bool_inv
   obtain rfl:=hv.bool_inv
   injection e with e;subst e
   exact⟨Go.same R fun Q E k=>PyProof.Rows.eq_bool (k _ (.bool _)),Go.same R fun Q E k=>PyProof.Rows.ne_bool (k _ (.bool _))⟩
  | _=>exact q7l R hA hu hv e
 | _=>exact q7l R hA hu hv e
theorem j3f{p:PV}{l:List PV}{r:Bool}(e:inL p l=some r):∃ ds d,z0p l=some ds/\z1n p=some d/\d.depth<=30/\(ds.any fun y=>PyData.eqv y d)=r:=by
 obtain⟨ds,h1,e⟩:=z1f e
 obtain⟨d,h2,e⟩:=z1f e
 obtain⟨hd,e⟩:=z0q e
 exact⟨ds,d,h1,h2,hd,AF e⟩
theorem y4a{d:PyData}{n:Nat}(hA:AOk A lv)(hd:d.depth<=30):A.units+1+min n d.depth<cLine:=
 Nat.add_assoc ..▸hA.lt (AA (DQ (AA (Nat.min_le_right _ _) hd) 1) (by decide))
theorem k4c{u v:Value}{p q:PV}{r:Bool}(R:SR I w.params g Z H s.heap)(hA:AOk A lv)(hu:Rel I g Z u p)(hv:Rel I g Z v q)(e:inV p q=some r) :
  Go I prog w A own L g Z H (compareOp .In u v) H (P.val I (.bool r)) s/\Go I prog w A own L g Z H (compareOp .NotIn u v) H (P.val I (.bool (!r))) s:=by
 induction q using PV.casesOn with
 | lst l=>
  obtain⟨ds,d,h1,h2,hd,rfl⟩:=j3f e
  have h3:z1n (.lst l)=some (.list ds):=by show(z0p l).map _=_;rw [h1];rfl
  obtain⟨as,x⟩:=hv.reads R.sub h3
  obtain⟨bs,y⟩:=hu.reads R.sub h2
  exact⟨Go.same R fun Q E k=>SeqAt.in_list_reads x y (z3p h1) (z2p h2) (y4a hA hd) (k _ (.bool _)),Go.same R fun Q E k=>SeqAt.notIn_list_reads x y (z3p h1) (z2p h2) (y4a hA hd) (k _ (.bool _))⟩
 | tup l=>
  obtain⟨ds,d,h1,h2,hd,rfl⟩:=j3f e
  have h3:z1n (.tup l)=some (.tuple ds):=by show(z0p l).map _=_;rw [h1];rfl
  obtain⟨as,x⟩:=hv.reads R.sub h3
  obtain⟨bs,y⟩:=hu.reads R.sub h2
  exact⟨Go.same R fun Q E k=>SeqAt.in_tuple_reads x y (z3p h1) (z2p h2) (y4a hA hd) (k _ (.bool _)),Go.same R fun Q E k=>SeqAt.notIn_tuple_reads x y (z3p h1) (z2p h2) (y4a hA hd) (k _ (.bool _))⟩
 | _=>contradiction
noncomputable def COp.op:COp->CmpOp
 | .eq=>.Eq
 | .ne=>.NotEq
 | .lt=>.Lt
 | .le=>.LtE
 | .gt=>.Gt
 | .ge=>.GtE
 | .in_=>.In
 | .nin=>.NotIn
theorem y9f{op:Value->Value->Sem Value}{u v:Value}{p q:PV}{r:Bool}{k:Int->Int->Bool}(hu:Rel I g Z u p)(hv:Rel I g Z v q)(e:(y8v p q fun a b=>some (k a b))=some r)
 (K:∀ a b t t',Go I prog w A own L g Z H (op (.int a t) (.int b t')) H (P.val I (.bool (k a b))) s):Go I prog w A own L g Z H (op u v) H (P.val I (.bool r)) s:=by
 obtain⟨a,b,rfl,rfl,e⟩:=y3v e
 obtain⟨t,rfl⟩:=hu.int_inv
 obtain⟨t',rfl⟩:=hv.int_inv
 injection e with e;subst e
 exact K a b t t'
theorem k4d{o:COp}{u v:Value}{p q:PV}{r:Bool}(R:SR I w.params g Z H s.heap)(hA:AOk A lv)(hu:Rel I g Z u p)(hv:Rel I g Z v q)(e:w1g o p q=some r) :
  Go I prog w A own L g Z H (compareOp o.op u v) H (P.val I (.bool r)) s:=by
 cases o with
 | eq=>exact(k4b R hA hu hv e).1
 | ne=>obtain⟨b,h,rfl⟩:=z1d e;exact(k4b R hA hu hv h).2
 | in_=>exact(k4c R hA hu hv e).1
 | nin=>obtain⟨b,h,rfl⟩:=z1d e;exact(k4c R hA hu hv h).2
 | lt=>exact y9f hu hv e fun a b t t'=>Go.same R fun Q E k=>PySem.P.lt_int (k _ (.bool _))
 | le=>exact y9f hu hv e fun a b t t'=>Go.same R fun Q E k=>PySem.P.le_int (k _ (.bool _))
 | gt=>exact y9f hu hv e fun a b t t'=>Go.same R fun Q E k=>PySem.P.gt_int (k _ (.bool _))
 | ge=>exact y9f hu hv e fun a b t t'=>Go.same R fun Q E k=>PySem.P.ge_int (k _ (.bool _))
theorem x0h{v:Value}{p:PV}{r:Bool}(R:SR I w.params g Z H s.heap)(hv:Rel I g Z v p)(e:z9n H p=some r) :
  Go I prog w A own L g Z H (truthy v) H (fun _ _ _ b=>b=r) s:=by
 cases p with
 | bool b=>obtain rfl:=hv.bool_inv;injection e with e;subst e;exact Go.same R fun Q E k=>AG (k _ rfl)
 | int i=>obtain⟨t,rfl⟩:=hv.int_inv;injection e with e;subst e;exact Go.same R fun Q E k=>PySem.P.truthy_int (k _ rfl)
 | none=>obtain rfl:=hv.none_inv;injection e with e;subst e;exact Go.same R fun Q E k=>AG (k _ rfl)
 | _=>contradiction
theorem x7y{ng:Bool}{v:Value}{p:PV}(R:SR I w.params g Z H s.heap)(hv:Rel I g Z v p) :
  Go I prog w A own L g Z H (compareOp (if ng then .IsNot else .Is) v .none) H (P.val I (.bool (z3b p != ng))) s:=by
 have e:(v==Value.none)=z3b p:=by cases hv<;>rfl
 induction ng using Bool.casesOn with
 | true=>
  refine Go.same R fun Q E k=>isnot_none_gen ?_
  rw [e];have:=k _ (.bool (z3b p != true));cases h:z3b p<;>simpa [h] using this
 | false=>
  refine Go.same R fun Q E k=>is_none_gen ?_
  rw [e];have:=k _ (.bool (z3b p != false));cases h:z3b p<;>simpa [h] using this
end
section
variable {I:z2w} {own own':List Addr} {L:Lim} {w:World} {g gb gC:Fz} {Z Z1 Z2:Bt} {H Hb H2:z0b} {s sB sC:Shared} {env:Env} {Y:z0n} {A:Around} {prog:Program} {lv:Nat}
theorem y4b{n:Nat}{k:Int}{j:Nat}(h:z7a n k=some j):j<n/\seqIndex? k n=some j/\(if k<0 then(j:Int)=k+n else(j:Int)=k):=by
 unfold z7a at h
 split at h
 ·rename_i h0
  split at h
  ·rename_i h1
   injection h with h;subst h
   have hk:¬ k<0:=by lia
   refine⟨by lia,?_,by rw [AS hk];lia⟩
   simp [seqIndex?,hk,h0,h1]
  ·contradiction
 ·rename_i h0
  split at h
  ·rename_i h1
   injection h with h;subst h
   have hk:k<0:=by lia
   have h2:k+(n:Int)<n:=by lia
   refine⟨by lia,?_,by rw [AQ hk];lia⟩
   simp [seqIndex?,hk,h1,h2]
  ·contradiction
noncomputable def z7d(e:Expr):Bool:=e.ctorIdx==26
theorem z5w{slice:Expr}{o i:Value}(h:z7d slice=false):subscripted slice false o i=operate [o,i] (getItem o i):=by
 cases slice<;>first | rfl | contradiction
theorem j3g{value slice:Expr}{a:Addr}{o:Obj}{vs:List Value}{l:List PV}{r:PV}{k:Int}{t:Tok}{j:Nat}(R:SR I w.params g Z H s.heap)(hsl:z7d slice=false)(ha:s.heap.get? a=some o)(qa:IsL o vs)(hlen:vs.length<=z2n)(hr:z0e I g Z vs l)
 (hj:z7a l.length k=some j)(e:l[j]?=some r):Go I prog w A own L g Z H (subscriptTail value slice (.ref a) (.int k t)) H (P.val I r) s:=by
 obtain⟨h1,h2,h3⟩:=y4b hj
 obtain⟨v,hv,rv⟩:=hr.get e
 have hll:vs.toArray.size=l.length:=List.size_toArray.trans hr.length
 have hlen':l.length<=16777216:=hr.length▸hlen
 have hv':vs.toArray[j]?=some v:=by rw [DR];exact hv
 refine Go.same R fun Q E q=>tail_any (z0s ha qa).typeIs slot_list_getitem.lookup ?_ (z5w hsl)
 by_cases hk:k<0
 ·rw [AQ hk] at h3
  exact wpAny_getItem_list_neg (x:=v) (z0s ha qa) hk (by lia) (by lia) (by rw [hll,<- h3];exact hv') (q _ rv)
 ·rw [AS hk] at h3
  exact wpAny_getItem_list (x:=v) (z0s ha qa) (by lia) (by lia) (by rw [<- h3];exact hv') (q _ rv)
theorem k4e{value slice:Expr}{u:Value}{p r:PV}{k:Int}{t:Tok}(R:SR I w.params g Z H s.heap)(hsl:z7d slice=false)(hu:Rel I g Z u p)(e:j2o H p k=some r) :
  Go I prog w A own L g Z H (subscriptTail value slice u (.int k t)) H (P.val I r) s:=by
 cases p with
 | str x=>
  obtain⟨hx,e⟩:=z0q e
  obtain⟨j,hj,e⟩:=z1f e
  obtain⟨c,hc,rfl⟩:=z1d e
  obtain⟨t',rfl⟩:=hu.str_inv
  obtain⟨h1,h2,h3⟩:=y4b hj
  refine Go.tok R fun Q E q=>?_
  have hb:(decide (k < -(2^63:Int)) || decide (k>=2^63))=false:=by
   rw [Bool.or_eq_false_iff]
   constructor
   ·exact EA (by split at h3<;>lia)
   ·exact EA (by split at h3<;>lia)
  exact tail_any (typeIs_str s x _) F.slot_str_getitem.lookup (PySem.P.getItem_str hb (by rw [h2];exact hc) (q _ _ (.str _ _))) (z5w hsl)
 | tup l=>
  obtain⟨j,hj,e⟩:=z1f (show((z7a l.length k).bind fun j=>l[j]?)=some r from e)
  obtain⟨h1,h2,h3⟩:=y4b hj
  obtain⟨a,o,vs,rfl,g1,g4,g2,g3⟩:=hu.tup_inv
  obtain⟨v,hv,rv⟩:=g3.get e
  have hlen':l.length<=16777216:=g3.length▸g2
  refine Go.same R fun Q E q=>tail_any (z3z (R.sub _ _ g1) g4).typeIs slot_tuple_getitem.lookup ?_ (z5w hsl)
  exact getItem_tuple (x:=v) (j:=j) (z3z (R.sub _ _ g1) g4) (by split at h3<;>lia) (by split at h3<;>lia) (by rw [BS,g3.length];exact h2) (by rw [DR];exact hv) (q _ rv)
 | lst l=>
  obtain⟨j,hj,e⟩:=z1f (show((z7a l.length k).bind fun j=>l[j]?)=some r from e)
  obtain⟨a,o,vs,rfl,g1,g4,g2,g3⟩:=hu.lst_inv
  exact j3g R hsl (R.sub _ _ g1) g4 g2 g3 hj e
 | ref i=>
  obtain⟨l',hl,e⟩:=z1f e
  obtain⟨j,hj,e⟩:=z1f e
  obtain⟨a,rfl,hi⟩:=hu.ref_inv
  obtain⟨o,vs,c1,c4,c2,c3,_⟩:=R.cell _ _ _ hi (z3y hl)
  exact j3g R hsl c1 c4 c2 c3 hj e
 | _=>contradiction
theorem z4t{lo hi:Option Expr}{pos:Pos}{o i:Value}:subscripted (.Slice lo hi none pos) false o i=operate [i,o] (getItem o i):=rfl
theorem k4f{V:Type}(l:List V)(a b:Nat):(l.drop (min a l.length)).take (min b l.length - min a l.length)=(l.take b).drop a:=by
 rw [List.drop_take]
 rcases Nat.le_total a l.length with h | h
 ·rw [Nat.min_eq_left h]
  rcases Nat.le_total b l.length with q | q
  ·rw [Nat.min_eq_left q]
  ·rw [Nat.min_eq_right q,EF (by simp),EF (by simp;lia)]
 ·rw [Nat.min_eq_right h,List.drop_of_length_le h,List.drop_of_length_le (AM _)]
  simp
theorem y9g{k:Int}{a:Nat}(h:x5l k=some a):k=(a:Int):=by
 obtain⟨h1,h2⟩:=z0q h
 injection h2 with h2;subst h2
 lia
theorem x0i(vs:List Value){lo hi:Option Int}{a:Nat}{b:Option Nat}(ha:loK lo=some a)(hb:hiK hi=some b):slicePick vs.toArray lo hi none=(k2u vs a (b.getD vs.length)).toArray:=by
 rw [slicePick_plain]
 congr 1
 have hlo:lo.elim 0 (clipAt vs.toArray.size)=min a vs.length:=by
  cases lo with
  | none=>injection ha with ha;subst ha;exact(Nat.zero_min _).symm
  | some k=>
   obtain rfl:=y9g (show x5l k=some a from ha)
   show clipAt vs.toArray.size (a:Int)=_
   rw [clipAt_nat,BS]
 have hhi:hi.elim vs.toArray.size (clipAt vs.toArray.size)=min (b.getD vs.length) vs.length:=by
  cases hi with
  | none=>injection hb with hb;subst hb;rw [Option.elim,BS];exact(Nat.min_self _).symm
  | some k=>
   obtain⟨c,hc,rfl⟩:=z1d (show(x5l k).map some=some b from hb)
   obtain rfl:=y9g hc
   show clipAt vs.toArray.size (c:Int)=_
   rw [clipAt_nat,BS];rfl
 rw [hlo,hhi]
 exact k4f vs _ _
theorem q4y(b n:Nat)(hb:b<=n):Builtin.Slice.sliceAdjust none (some (b:Int)) 1 (n:Int)=(0,(b:Int)):=by
 unfold Builtin.Slice.sliceAdjust
 have h1:¬ ((1:Int)<0):=by lia
 have h2:¬ ((b:Int)<0):=by lia
 simp only [h1,h2,if_false]
 congr 1
 lia
theorem q4z(b:Nat):Builtin.Slice.slicePlaces 0 (b:Int) 1=b:=by
 unfold Builtin.Slice.slicePlaces
 have h1:(1:Int) > 0:=by lia
 simp only [h1,if_true,Int.ediv_one]
 split<;>lia
theorem q1g{sl:Addr}{b n:Nat}{u:Tok}{Q:Int×Int×Nat->Shared->Prop}{E:Value->Shared->Prop}(hs:s.heap.IsSliceOf sl .none (.int b u) .none)(hb:b<=n)(h:Q (0,1,b) s) :
  wpAny (model prog w) A (Builtin.Slice.sliceApplied (.ref sl) (pure (n:Int))) Q E s:=by
 obtain⟨os,hos,hcs,hds⟩:=id hs
 unfold Builtin.Slice.sliceApplied Builtin.Slice.sliceFields
 refine AB (AB (wpAny_field hos hds (x:=.none) rfl (AB (wpAny_field hos hds (x:=.int b u) rfl (AB (wpAny_field hos hds (x:=.none) rfl (AG ?_)))))))
 refine AB (slicePart_none ?_)
 show wpAny _ _ (if((1:Int)==0)=true then _ else _) _ _ s
 rw [AS (by decide)]
 refine AB (slicePart_none (AB (slicePart_int (AB (AG ?_)))))
 show wpAny _ _ (match Builtin.Slice.sliceAdjust none (some (b:Int)) 1 (n:Int) with | (lo,hi)=>pure (lo,(1:Int),Builtin.Slice.slicePlaces lo hi 1)) _ _ s
 rw [q4y b n hb]
 show wpAny _ _ (pure ((0:Int),(1:Int),Builtin.Slice.slicePlaces (0:Int) (b:Int) 1)) _ _ s
 rw [q4z b]
 exact AG h
theorem j3h(xs:Array Value)(b:Nat)(hb:b<=xs.size):((List.range b).filterMap fun(k:Nat)=>xs[((0:Int)+(k:Int)*1).toNat]?).toArray=(xs.toList.take b).toArray:=by
 congr 1
 have e:(fun(k:Nat)=>xs[((0:Int)+(k:Int)*1).toNat]?)=fun k=>xs[k]?:=by
  funext k
  have:((0:Int)+(k:Int)*1).toNat=k:=by lia
  rw [this]
 rw [e]
 apply List.ext_getElem?
 intro i
 have:∀ (m:Nat),m<=xs.size->(List.range m).filterMap (fun k=>xs[k]?)=xs.toList.take m:=by
  intro m
  induction m with
  | zero=>intro _;simp
  | succ m ih=>
   intro hm
   rw [List.range_succ,List.filterMap_append,ih (by lia)]
   have hx:xs[m]?=some xs[m]:=by simp [show m<xs.size by lia]
   rw [List.take_add_one]
   simp [hx,show m<xs.size by lia]
 rw [this b hb]
theorem j0i{t sl:Addr}{items:Array Value}{b:Nat}{u:Tok}{Q:Value->Shared->Prop}{E:Value->Shared->Prop}(ht:IsTup s.heap t items)(hs:s.heap.IsSliceOf sl .none (.int b u) .none)(hb:b<items.size)
 (h:Q (.ref s.heap.objs.size) { s with heap:=s.heap.push { cls:=.type "tuple",data:=.seq (items.toList.take b).toArray } })
 (hsz:items.size<=sizeLine):wpAny (model prog w) A (getItem (.ref t) (.ref sl)) Q E s:=by
 have hdrop:sizeOk (.seq (items.toList.take b).toArray):=by
  show(items.toList.take b).toArray.size<=sizeLine
  rw [BS,List.length_take,CL]
  lia
 obtain⟨os,hos,hcs,hds⟩:=id hs
 have hTs:s.TypeIs (.ref sl) "slice":=⟨os,hos,hcs⟩
 unfold getItem
 try with_reducible refine BQ ?_
 first | refine AB (AG ?_) | skip
 refine AB (wpAny_sequenceKey ht.typeIs (by decide) ?_)
 refine AB (wpAny_callSpecial?_slot (name:=Str.ofString "__getitem__") ht.typeIs slot_tuple_getitem
  (EJ slot_tuple_getitem ht.typeIs entry_tuple_getitem ?_ (args_tuple_getitem _ _)))
 show wpAny _ _ (Builtin.Tuple.tupleItemsOf (.ref t)>>=_) _ _ s
 refine AB (tupleItemsOf_ ht ?_)
 refine AB (wpAny_typeOf hTs ?_)
 rw [AQ (by decide)]
 refine AB (q1g hs (BO hb) ?_)
 have hno:¬ (((0:Int)==0&&(1:Int)==1&&b==items.size)=true):=by
  have:(b==items.size)=false:=by rw [FA];lia
  rw [this];simp
 show wpAny _ _ (if((0:Int)==0&&(1:Int)==1&&b==items.size)=true then _ else _) _ _ s
 rw [AS hno,j3h items b (BO hb)]
 first
  | exact AB (m:=Builtin.Tuple.tupleExact _) (DK (AG ⟨_,rfl,AG h⟩) hdrop)
  | exact AB (m:=Builtin.Tuple.tupleExact _) (DK (AB (AG (AG ⟨_,rfl,AG h⟩))) hdrop)
  | exact AB (AB (m:=Builtin.Tuple.tupleExact _) (DK (AG (AG ⟨_,rfl,AG h⟩)) hdrop))
  | exact AB (AB (m:=Builtin.Tuple.tupleExact _) (DK (AG ⟨_,rfl,AG h⟩) hdrop))
inductive x0j:Value->Option Int->Prop
 | none:x0j .none none
 | int (i:Int) (t:Tok):x0j (.int i t) (some i)
theorem x0j.is:∀ {v:Value} {o:Option Int},x0j v o->IsPart v o
 | _,_,.none=>.none
 | _,_,.int i t=>.int i t
theorem q1h{value:Expr}{lo' hi':Option Expr}{pos:Pos}{vl vu:Value}{lo hi:Option Int}{sl x:Addr}{o:Obj}{vs:List Value}{l:List PV}{a:Nat}{b:Option Nat}(R:SR I w.params g Z H s.heap)(hs:s.heap.IsSliceOf sl vl vu .none)(pl:x0j vl lo)(pu:x0j vu hi)
 (ha:loK lo=some a)(hb:hiK hi=some b)(hx:s.heap.get? x=some o)(qx:IsL o vs)(hl:vs.length<=z2n)(hr:z0e I g Z vs l) :
  Go I prog w A own L g Z H (subscriptTail value (.Slice lo' hi' none pos) (.ref x) (.ref sl)) H (P.val I (.lst (k2u l a (b.getD l.length)))) s:=by
 intro Q E q
 refine tail_any (z0s hx qx).typeIs slot_list_getitem.lookup ?_ z4t
 refine wpAny_getItem_list_slice (z0s hx qx) hs pl.is pu.is .none (fun h=>nomatch h) ?_ (AA (CM BS) hl)
 rw [x0i vs ha hb]
 refine j0g (o:=z6f (k2u vs a (b.getD vs.length)) 0) R rfl (fun hn=>.lst (z2f ..) (y9e _ _) ?_ ?_) q
 ·unfold k2u;rw [List.length_drop,List.length_take];exact AA (Nat.sub_le _ _) (AA (Nat.min_le_right _ _) hl)
 ·rw [<- hr.length];exact((hr.take _).drop _).mono (z2v hn) fun _ _ e=>e
theorem x0k{value:Expr}{lo' hi':Option Expr}{pos:Pos}{u vl vu:Value}{p r:PV}{lo hi:Option Int}{sl:Addr}(R:SR I w.params g Z H s.heap)(hs:s.heap.IsSliceOf sl vl vu .none)(pl:x0j vl lo)(pu:x0j vu hi)
 (hu:Rel I g Z u p)(e:z7v H p lo hi=some r) :
  Go I prog w A own L g Z H (subscriptTail value (.Slice lo' hi' none pos) u (.ref sl)) H (P.val I r) s:=by
 obtain⟨a,ha,e⟩:=z1f e
 obtain⟨b,hb,e⟩:=z1f e
 cases p with
 | tup l=>
  obtain⟨h0,e⟩:=z0q e
  obtain⟨c,rfl,e⟩:=z1f e
  obtain⟨hk,e⟩:=z0q e
  injection e with e;subst e
  cases lo with
  | some _=>contradiction
  | none=>
   cases pl
   cases hi with
   | none=>contradiction
   | some i=>
    obtain⟨c',hc,e⟩:=z1d (show(x5l i).map some=some (some c) from hb)
    cases e
    obtain rfl:=y9g hc
    cases pu
    rename_i tk
    obtain⟨x,n,vs,rfl,g1,g4,g2,g3⟩:=hu.tup_inv
    intro Q E q
    refine tail_any (z3z (R.sub _ _ g1) g4).typeIs slot_tuple_getitem.lookup ?_ z4t
    refine j0i (b:=c) (u:=tk) (z3z (R.sub _ _ g1) g4) hs (by rw [BS,g3.length];exact hk) ?_ (AA (CM BS) g2)
    refine j0g (o:=x5t (vs.take c) 0) R rfl (fun hn=>.tup (z2f ..) (x0f _ _) ?_ ?_) q
    ·rw [List.length_take];exact AA (Nat.min_le_right _ _) g2
    ·exact(g3.take _).mono (z2v hn) fun _ _ e=>e
 | lst l=>
  injection e with e;subst e
  obtain⟨x,n,vs,rfl,g1,g4,g2,g3⟩:=hu.lst_inv
  exact q1h R hs pl pu ha hb (R.sub _ _ g1) g4 g2 g3
 | ref i=>
  obtain⟨l,hc,rfl⟩:=z1d e
  obtain⟨x,rfl,hi⟩:=hu.ref_inv
  obtain⟨o,vs,c1,c4,c2,c3,_⟩:=R.cell _ _ _ hi (z3y hc)
  exact q1h R hs pl pu ha hb c1 c4 c2 c3
 | _=>contradiction
theorem j3i{value:Expr}{pos:Pos}{u:Value}{p:PV}{l:List PV}{sl:Addr}(R:SR I w.params g Z H s.heap)(hs:s.heap.IsSliceOf sl .none .none .none)
 (hu:Rel I g Z u p)(e:z5l H p=some l)(hf:z0w 0 l=true) :
  Go I prog w A own L g Z H (subscriptTail value (.Slice none none none pos) u (.ref sl)) (H++[.lst l]) (P.val I (.ref H.length)) s:=by
 obtain⟨x,o,vs,rfl,h1,h4,h2,h3⟩:=hu.listIn R e
 refine Go.pushCell (o:=z6f vs 0) R rfl (fun h' ho=>⟨_,vs,ho,y9e _ _,h2,h3.mono (fun _ _ e=>e) (y1z R.none_at),hf⟩) fun Q E q=>?_
 refine tail_any (z0s h1 h4).typeIs slot_list_getitem.lookup ?_ z4t
 refine wpAny_getItem_list_slice (z0s h1 h4) hs .none .none .none (by simp) ?_ (by simpa [z2n,sizeLine] using h2)
 rw [slicePick_all]
 exact q
end
section
variable {I:z2w} {own own':List Addr} {L:Lim} {w:World} {g gb gC:Fz} {Z Z1 Z2:Bt} {H Hb H2:z0b} {s sB sC:Shared} {env:Env} {Y:z0n} {A:Around} {prog:Program} {lv:Nat}
theorem y2a{l:List PV}{vs:List Value}{ns:List Int}(h:z0e I g Z vs l)(e:z4y l=some ns):IntsAre vs ns:=
 z0e.ind (M:=fun vs l=>∀ ns,z4y l=some ns->IntsAre vs ns) (fun _ e=>AF e▸.nil) (fun {v vs p ps} h _ ih ns e=>by
  obtain⟨i,rfl,e⟩:=z6h (show j2m p (fun i=>(z4y ps).map (i::·))=some ns from e)
  obtain⟨is,q,rfl⟩:=z1d e
  obtain⟨t,rfl⟩:=h.int_inv
  exact .cons _ _ (ih is q)) h ns e
theorem j0j{l:List PV}{vs:List Value}{ts:List Str}(h:z0e I g Z vs l)(e:z8e l=some ts):∃ xs:List (Str×Tok),vs=strValues xs/\xs.map (·.1)=ts:=
 z0e.ind (M:=fun vs l=>∀ ts,z8e l=some ts->∃ xs:List (Str×Tok),vs=strValues xs/\xs.map (·.1)=ts) (fun _ e=>AF e▸⟨[],rfl,rfl⟩) (fun {v vs p ps} h _ ih ts e=>by
  obtain⟨x,rfl,e⟩:=z5m (show j2n p (fun x=>(z8e ps).map (x::·))=some ts from e)
  obtain⟨xs,q,rfl⟩:=z1d e
  obtain⟨t,rfl⟩:=h.str_inv
  obtain⟨ys,rfl,rfl⟩:=ih xs q
  exact⟨(x,t)::ys,rfl,rfl⟩) h ts e
theorem y0r:∀ (xs:List (Str×Tok)),z0e I g Z (strValues xs) ((xs.map (·.1)).map .str)
 | []=>.nil
 | x::xs=>.cons (.str _ _) (y0r xs)
theorem q1i{vs:List Value}(h:vs.length<=z2n):((vs.toArray.size:Nat):Int)<2^63:=by
 rw [BS];simp only [z2n] at h;lia
theorem j3j{a:Addr}{o:Obj}{vs:List Value}{l:List PV}(R:SR I w.params g Z H s.heap)(ha:s.heap.get? a=some o)(qa:IsL o vs)(hl:vs.length<=z2n)(hr:z0e I g Z vs l) :
  Go I prog w A own L g Z H (call (.builtin "len") [.ref a]) H (P.val I (.int l.length)) s:=by
 have e:vs.toArray.size=l.length:=List.size_toArray.trans hr.length
 refine Go.tok R fun Q E q=>PySem.Calls.call_len_list (z0s ha qa) (q1i hl) ?_
 rw [e]
 exact q _ _ (.int _ _)
theorem k4g{u:Value}{p r:PV}(R:SR I w.params g Z H s.heap)(hu:Rel I g Z u p)(e:w6b H p=some r) :
  Go I prog w A own L g Z H (call (.builtin "len") [u]) H (P.val I r) s:=by
 induction p using PV.casesOn with
 | str x=>
  obtain⟨h,e⟩:=z0q e
  obtain⟨t,rfl⟩:=hu.str_inv
  injection e with e;subst e
  exact Go.tok R fun Q E q=>PySem.P.len_str (by lia) (q _ _ (.int _ _))
 | tup l=>
  injection e with e;subst e
  obtain⟨a,o,vs,rfl,g1,g4,g2,g3⟩:=hu.tup_inv
  have e:vs.toArray.size=l.length:=List.size_toArray.trans g3.length
  refine Go.tok R fun Q E q=>len_tuple (z3z (R.sub _ _ g1) g4) (q1i g2) ?_
  rw [e]
  exact q _ _ (.int _ _)
 | lst l=>
  injection e with e;subst e
  obtain⟨a,o,vs,rfl,g1,g4,g2,g3⟩:=hu.lst_inv
  exact j3j R (R.sub _ _ g1) g4 g2 g3
 | ref i=>
  obtain⟨l,hl,rfl⟩:=z1d e
  obtain⟨a,rfl,hi⟩:=hu.ref_inv
  obtain⟨o,vs,c1,c4,c2,c3,_⟩:=R.cell _ _ _ hi (z3y hl)
  exact j3j R c1 c4 c2 c3
 | _=>contradiction
theorem k4h{u:Value}{l:List PV}{ns:List Int}(R:SR I w.params g Z H s.heap)(hA:AOk A lv)(hu:Rel I g Z u (.lst l))(e:z4y l=some ns) :
  Go I prog w A own L g Z H (call (.builtin "sum") [u]) H (P.val I (.int ns.sum)) s:=by
 obtain⟨a,o,vs,rfl,g1,g4,g2,g3⟩:=hu.lst_inv
 have hi:=y2a g3 e
 obtain⟨xs,hx⟩:=hi.allInts.items
 have hl:s.heap.IsList a (intItems xs):=hx▸z0s (R.sub _ _ g1) g4
 refine Go.keepAll R fun Q E q=>sum_intListG hA.handled hl fun h' tk t' hk=>?_
 have hn:xs.toList.map (·.1)=ns:=by
  have h1:=hi.numsOf
  have h2:vs=(intItems xs).toList:=by rw [<- hx]
  rw [h2,nums_intItems] at h1
  exact h1
 have hs:preSum (numAt xs) xs.size=ns.sum:=by
  rw [preSum_eq,hn,EF (by rw [<- hn];simp)]
 rw [hs]
 exact q _ _ _ hk (.int _ _)
theorem x7z{u v:Value}{a b:Int}(R:SR I w.params g Z H s.heap)(hA:AOk A lv)(hu:Rel I g Z u (.int a))(hv:Rel I g Z v (.int b)) :
  Go I prog w A own L g Z H (call (.builtin "max") [u,v]) H (P.val I (.int (if b > a then b else a))) s:=by
 obtain⟨t,rfl⟩:=hu.int_inv
 obtain⟨t',rfl⟩:=hv.int_inv
 refine Go.keepAll R fun Q E q=>max_two_ints hA.handled fun h' tk hk=>?_
 refine q _ h' tk hk ?_
 split
 ·exact .int _ _
 ·exact .int _ _
theorem y7i:∀ (fuel n:Nat) (ds:List Char),(Nat.toDigitsCore 16 fuel n ds).length<=fuel+ds.length
 | 0,n,ds=>by simp [Nat.toDigitsCore]
 | f+1,n,ds=>by
  unfold Nat.toDigitsCore
  simp only
  split
  ·simp;lia
  ·have:=y7i f (n / 16) (Nat.digitChar (n % 16)::ds)
   simp at this ⊢;lia
theorem y3a:∀ (k fuel n:Nat) (ds:List Char),n<16^(k+1)->k<fuel->(Nat.toDigitsCore 16 fuel n ds).length<=k+1+ds.length
 | k,0,n,ds,_,h=>absurd h (ER _)
 | 0,f+1,n,ds,hn,_=>by
  unfold Nat.toDigitsCore
  have:n / 16=0:=Nat.div_eq_of_lt (by simpa using hn)
  simp only [this];simp;lia
 | k+1,f+1,n,ds,hn,h=>by
  unfold Nat.toDigitsCore
  simp only
  split
  ·simp;lia
  ·have:=y3a k f (n / 16) (Nat.digitChar (n % 16)::ds) (by
    rw [Nat.div_lt_iff_lt_mul (by decide)];rw [Nat.pow_succ] at hn;exact hn) (by lia)
   simp at this ⊢;lia
theorem x0l{i:Int}(h:i.natAbs<2^64):(baseText "0x" 16 i).length<=sizeLine:=by
 have h1:(Nat.toDigits 16 i.natAbs).length<=64:=by
  unfold Nat.toDigits
  by_cases q:15<i.natAbs+1
  ·have:=y3a 15 (i.natAbs+1) i.natAbs [] ‹_› q
   simp at this;exact lk ‹_› rfl
  ·have:=y7i (i.natAbs+1) i.natAbs []
   simp at this;lia
 unfold baseText
 have ha:∀ a b:Str,(a++b).length=a.length+b.length:=fun a b=>by
  show(a.cps++b.cps).size=_
  simp [Str.length]
 rw [ha,ha]
 have h2:(Str.ofString (if i<0 then "-" else "")).length<=1:=by split<;>decide
 have h3:(Str.ofString "0x").length=2:=by decide
 have h4:(Str.ofString (String.ofList (Nat.toDigits 16 i.natAbs))).length=(Nat.toDigits 16 i.natAbs).length:=by
  rw [Str.ofString_eq_toList];simp [Str.length]
 rw [h3,h4]
 simp only [sizeLine];lia
theorem k4i{u:Value}{i:Int}(R:SR I w.params g Z H s.heap)(hu:Rel I g Z u (.int i))(h:i.natAbs<2^64):Go I prog w A own L g Z H (call (.builtin "hex") [u]) H (P.val I (.str (baseText "0x" 16 i))) s:=by
 obtain⟨t,rfl⟩:=hu.int_inv
 exact Go.tok R fun Q E q=>PySem.P.hex_of_int (q _ _ (.str _ _)) (x0l h)
theorem x0m{u:Value}{p:PV}{l:List PV}(R:SR I w.params g Z H s.heap)(hu:Rel I g Z u p)(e:z5l H p=some l) :
  Go I prog w A own L g Z H (call (.type "tuple") [u]) H (P.val I (.tup l)) s:=by
 obtain⟨a,o,vs,rfl,h1,h4,h2,h3⟩:=hu.listIn R e
 intro Q E q
 refine call_tuple_list (z0s h1 h4) (fun h' hk=>?_) (by simpa [z2n,sizeLine] using h2)
 have R':=R.keepAll (s:=s) hk
 have hn:=get?_size h'
 have hk2:∀ b x,s.heap.get? b=some x->(h'.push (x5t vs 0)).get? b=some x:=fun b x e=>AO _ (hk b x e)
 have hn':s.heap.get? h'.objs.size=none:=by
  induction e:s.heap.get? h'.objs.size using Option.casesOn with
  | none=>rfl
  | some o=>rw [hk _ _ e] at hn;contradiction
 exact q _ _ Z _ (z1e.add (a:=h'.objs.size) (o:=x5t vs 0) (tk:=s.toks) R hk2 hn') (R.add hk2 hn' (AZ _ rfl)) (.tup (z2f ..) (x0f _ _) h2 (h3.mono (z2v (R.gfree hn')) fun _ _ e=>e))
theorem x0n{u:Value}{x:Str}(R:SR I w.params g Z H s.heap)(hu:Rel I g Z u (.str x))(h:x.length<=100000):Go I prog w A own L g Z H (call (.builtin "str.lower") [u]) H (P.val I (.str (Txt.lower x))) s:=by
 obtain⟨t,rfl⟩:=hu.str_inv
 exact Go.tok R fun Q E q=>SCL.lower (lk ‹_› rfl) fun _=>q _ _ (.str _ _)
theorem x0o{u:Value}{x:Str}(R:SR I w.params g Z H s.heap)(hu:Rel I g Z u (.str x))(h:x.length<=100000):Go I prog w A own L g Z H (call (.builtin "str.upper") [u]) H (P.val I (.str (Txt.upper x))) s:=by
 obtain⟨t,rfl⟩:=hu.str_inv
 exact Go.tok R fun Q E q=>SCL.upper (by lia) fun _=>q _ _ (.str _ _)
theorem q1j(x:Str)(y:Str)(h:x.length<=100000):(Builtin.Str.partsBetween x (Builtin.Str.occurrences x y 0 x.length (x.length+1)) y.length).length<=200000:=by
 rw [length_partsBetween]
 have:=StrLaws.occ_length_le x y 0 x.length (x.length+1)
 lia
theorem j3k(x y:Str)(h:x.length<=100000):(Txt.split x y).length<=200000:=by
 unfold Txt.split
 split
 ·simp
 ·split
  ·simp
  ·exact q1j x y h
theorem x0p{u v:Value}{x y:Str}(R:SR I w.params g Z H s.heap)(hu:Rel I g Z u (.str x))(hv:Rel I g Z v (.str y))(h:x.length<=100000)(hy:y.length≠0) :
  Go I prog w A own L g Z H (call (.builtin "str.split") [u,v]) H (P.val I (.lst ((Txt.split x y).map .str))) s:=by
 obtain⟨t,rfl⟩:=hu.str_inv
 obtain⟨t',rfl⟩:=hv.str_inv
 intro Q E q
 have hy':(y.length==0)=false:=by simpa using hy
 have fin:∀ (l:List (Str×Tok)) (tk:Nat),l.map (·.1)=Txt.split x y->Q (.ref s.heap.objs.size) { s with heap:=s.heap.push (z6f (strValues l) 0),toks:=tk }:=fun l tk hl=>by
  have hn:=get?_size s.heap
  have hk:∀ b x,s.heap.get? b=some x->(s.heap.push (z6f (strValues l) 0)).get? b=some x:=fun b x e=>AO _ e
  refine q _ _ Z _ (z1e.add (a:=s.heap.objs.size) (o:=z6f (strValues l) 0) R hk hn) (R.add hk hn (AZ _ rfl)) (.lst (z2f ..) (y9e _ _) ?_ (hl▸y0r l))
  have:=j3k x y h
  rw [<- hl] at this
  simp only [strValues,AJ,z2n] at this ⊢;exact lk ‹_› rfl
 cases h1:(decide (x.length<y.length) || decide (Builtin.Str.strKind x<Builtin.Str.strKind y))
 ·cases hf:(Builtin.Str.occurrences x y 0 x.length (x.length+1)).isEmpty
  ·refine call_meets F.slot_str_split (typeIs_str _ _ _) F.entry_str_split (F.args_str_split_2 _ _) (meets_str_split_sep x y t t' h1 hy' hf (by simp only [sizeLine];exact lk ‹_› rfl) (AA (q1j x y h) (by decide))) ?_
   show wants Q E _ { s with toks:=_,heap:=s.heap.push { cls:=.type "list",data:=.seq (strsFrom s.toks (Builtin.Str.partsBetween x (Builtin.Str.occurrences x y 0 x.length (x.length+1)) y.length)).toArray } }
   rw [strsFrom_eq]
   exact fin _ _ ((numbered_texts _ _).trans ((AS (ne_true_of_eq_false h1)).trans (AS (ne_true_of_eq_false hf))).symm)
  ·exact call_meets F.slot_str_split (typeIs_str _ _ _) F.entry_str_split (F.args_str_split_2 _ _) (meets_str_split_not_found x y t t' h1 hy' hf)
    (fin [(x,t)] _ ((AS (ne_true_of_eq_false h1)).trans (AQ hf)).symm)
 ·exact call_meets F.slot_str_split (typeIs_str _ _ _) F.entry_str_split (F.args_str_split_2 _ _) (meets_str_split_cannot_occur x y t t' h1)
   (fin [(x,t)] _ (AQ h1).symm)
theorem x8a{u v:Value}{x:Str}{p:PV}{l:List PV}{ts:List Str}(R:SR I w.params g Z H s.heap)(hu:Rel I g Z u (.str x))(hv:Rel I g Z v p)(e:z5l H p=some l)(ht:z8e l=some ts)(hok:JoinOk x ts=true) :
  Go I prog w A own L g Z H (call (.builtin "str.join") [u,v]) H (P.val I (.str (Txt.join x ts))) s:=by
 obtain⟨t,rfl⟩:=hu.str_inv
 obtain⟨a,o,vs,rfl,h1,h4,h2,h3⟩:=hv.listIn R e
 obtain⟨xs,rfl,rfl⟩:=j0j h3 ht
 exact Go.tok R fun Q E q=>SC.join (z0s h1 h4) rfl hok fun t' k=>q _ _ (.str _ _)
theorem y5e{d:PyData}:∀ {ds:List PyData} {n:Nat},z8f d ds=some n->n<ds.length/\(∀ y,ds[n]?=some y->PyData.eqv y d=true)/\∀ m y,m<n->ds[m]?=some y->PyData.eqv y d=false
 | [],_,e=>by contradiction
 | x::r,n,e=>by
  have e:(if PyData.eqv x d=true then some 0 else(z8f d r).map (·+1))=some n:=e
  by_cases h:PyData.eqv x d=true
  ·rw [AQ h] at e
   injection e with e;subst e
   exact⟨by simp,fun y hy=>by simp at hy;subst hy;exact h,fun m y hm=>absurd hm (ER _)⟩
  ·rw [AS h] at e
   induction q:z8f d r using Option.casesOn with
   | none=>rw [q] at e;contradiction
   | some k=>
    rw [q] at e;injection e with e;subst e
    obtain⟨h1,h2,h3⟩:=y5e q
    refine⟨by simp;exact h1,fun y hy=>h2 y (by simpa using hy),fun m y hm hy=>?_⟩
    induction m using Nat.casesOn with
    | zero=>simp at hy;subst hy;simpa using h
    | succ m=>exact h3 m y (by simp at hm;lia) (by simpa using hy)
theorem q1k(hs:∀ a o,g a=some o->s.heap.get? a=some o){vs:List Value}{l:List PV}{ds:List PyData}(h:z0e I g Z vs l)(e:z0p l=some ds):∀ j (hj:j<vs.length),ds[j]?=some (SeqAt.readOf s.heap vs[j]):=
 z0e.ind (M:=fun vs l=>∀ ds,z0p l=some ds->∀ j (hj:j<vs.length),ds[j]?=some (SeqAt.readOf s.heap vs[j])) (fun _ _ j hj=>absurd hj (ER _)) (fun {v vs p ps} h _ ih ds e j hj=>by
  obtain⟨d,h1,e⟩:=z1f (show((z1n p).bind fun d=>(z0p ps).map fun ds=>d::ds)=some ds from e)
  obtain⟨es,h2,rfl⟩:=z1d e
  induction j using Nat.casesOn with
  | zero=>
   obtain⟨as,x⟩:=h.reads hs h1
   exact AT some (SeqAt.readOf_eq (z2p h1) x).symm
  | succ j=>exact ih es h2 j (Nat.lt_of_succ_lt_succ hj)) h ds e
theorem y5f:∀ {l:List PV} {ds:List PyData},z0p l=some ds->l.length=ds.length
 | [],ds,e=>AF e▸rfl
 | p::l,ds,e=>by
  obtain⟨d,h1,e⟩:=z1f (show((z1n p).bind fun d=>(z0p l).map fun ds=>d::ds)=some ds from e)
  obtain⟨es,h2,rfl⟩:=z1d e
  exact AT (·+1) (y5f h2)
theorem x0q{u v:Value}{p:PV}{l:List PV}{ds:List PyData}{d:PyData}{n:Nat}(R:SR I w.params g Z H s.heap)(hA:AOk A lv)(hu:Rel I g Z u (.lst l))(hv:Rel I g Z v p)
 (h1:z0p l=some ds)(h2:z1n p=some d)(hd:d.depth=0)(h3:z8f d ds=some n) :
  Go I prog w A own L g Z H (call (.builtin "list.index") [u,v]) H (P.val I (.int n)) s:=by
 have hun:=hA.units
 obtain⟨a,o,vs,rfl,g1,g4,g2,g3⟩:=hu.lst_inv
 obtain⟨as,x⟩:=g3.reads R.sub h1
 obtain⟨bs,y⟩:=hv.reads R.sub h2
 obtain⟨i1,i2,i3⟩:=y5e h3
 have hlen:vs.length=ds.length:=g3.length.trans (y5f h1)
 have ho:=R.sub _ _ g1
 obtain⟨cls,dd,data,sl⟩:=o
 obtain⟨rfl,k,rfl,_⟩:=g4
 have hj:n<vs.length:=by lia
 simp only [z2n] at g2
 refine Go.tok R fun Q E q=>call_meets PySem.F.slot_list_index ⟨_,ho,rfl⟩ PySem.F.entry_list_index (PySem.F.args_list_index_2 _ _)
  (SeqAt.list_indexAt a vs.toArray k dd sl v (fun z=>PyData.eqv (SeqAt.readOf s.heap z) d) n (by simpa using hj) (by lia) ?_ ?_) ⟨ho,?_,q _ _ (.int _ _)⟩
 ·have:=q1k R.sub g3 h1 n hj
  simpa using i2 _ this
 ·intro m hm hlt
  have hm':m<vs.length:=by simpa using hm
  have:=q1k R.sub g3 h1 m hm'
  simpa using i3 m _ hlt this
 ·exact SeqAt.items_eqAt (by simpa using x) y (z3p h1) (z2p h2) (by rw [hd];simp only [cLine];lia)
end
noncomputable def KOk(n:Nat)(key:Nat->Int){V:Type}:KasT V->(V->Prop)->Prop
 | .ret a,Q=>Q a
 | .ask i j k,Q=>i<n/\j<n/\KOk n key (k (decide (key i<key j))) Q
section
variable {n:Nat} {key:Nat->Int} {V A8:Type}
theorem KOk.bind{Q:A8->Prop}{f:V->KasT A8}:∀ {t:KasT V},KOk n key t (fun a=>KOk n key (f a) Q)->KOk n key (t.bind f) Q
 | .ret _,h=>h
 | .ask _ _ _,h=>⟨h.1,h.2.1,KOk.bind h.2.2⟩
theorem KOk.wp{cmp:Nat->Nat->(Bool->Shared->Prop)->Shared->Prop}{s:Shared}(hc:∀ i j (C:Bool->Shared->Prop),i<n->j<n->C (decide (key i<key j)) s->cmp i j C s){Q:V->Shared->Prop}:∀ {t:KasT V},KOk n key t (fun a=>Q a s)->t.kasWp cmp Q s
 | .ret _,h=>h
 | .ask i j k,h=>hc i j _ h.1 h.2.1 (KOk.wp hc h.2.2)
theorem KOk.mono{Q Q':V->Prop}(hq:∀ a,Q a->Q' a):∀ {t:KasT V},KOk n key t Q->KOk n key t Q'
 | .ret _,h=>hq _ h
 | .ask _ _ _,h=>⟨h.1,h.2.1,KOk.mono hq h.2.2⟩
noncomputable def PB(n:Nat)(p:Array Nat):Prop:=p.Perm (List.range n).toArray
theorem PB.size{p:Array Nat}(h:PB n p):p.size=n:=by have:=h.size_eq;simpa using this
theorem PB.lt{p:Array Nat}(h:PB n p){i:Nat}(hi:i<n):p.getD i 0<n:=by
 have hi':i<p.size:=by rw [h.size];exact hi
 have e:p.getD i 0=p[i]:=by simp [Array.getD,hi']
 rw [e]
 have hm:p[i]∈(List.range n).toArray.toList:=(FN.mp h).mem_iff.mp (by simp)
 simpa using hm
theorem PB.trans{p q:Array Nat}(h:PB n p)(hq:q.Perm p):PB n q:=Array.Perm.trans hq h
noncomputable def kk(key:Nat->Int)(p:Array Nat)(i:Nat):Int:=key (p.getD i 0)
noncomputable def Srt(key:Nat->Int)(p:Array Nat)(k:Nat):Prop:=∀ i j,i<=j->j<k->kk key p i<=kk key p j
noncomputable def k4j(key:Nat->Int)(p:Array Nat)(k:Nat):Prop:=∀ i j,i<=j->j<k->kk key p j<=kk key p i
theorem y0s{xs ys:Array Nat}{i j:Nat}(h:xs[i]?=ys[j]?):kk key xs i=kk key ys j:=by
 unfold kk;rw [EG,EG,h]
theorem q1l{xs:Array Nat}{src d:Nat}(hs:src<xs.size)(hd:d<=src)(k:Nat) :
  kk key (bubble xs src d) k=if k=src - d then kk key xs src else if src - d<k/\k<=src then kk key xs (k - 1) else kk key xs k:=by
 have e:=getElem?_bubble hs d hd k
 by_cases h1:k=src - d
 ·rw [AQ h1] at e ⊢;exact y0s e
 ·rw [AS h1] at e ⊢
  by_cases h2:src - d<k/\k<=src
  ·rw [AQ h2] at e ⊢;exact y0s e
  ·rw [AS h2] at e ⊢;exact y0s e
theorem j3l{xs:Array Nat}{i j:Nat}(hj:j<=xs.size)(k:Nat) :
  kk key (kas_rev xs i j) k=if i<=k/\k<j then kk key xs (i+j - 1 - k) else kk key xs k:=by
 have e:=getElem?_mirror_all (i:=i) hj k
 by_cases h1:i<=k/\k<j
 ·rw [AQ h1] at e ⊢;exact y0s e
 ·rw [AS h1] at e ⊢;exact y0s e
theorem z8j{xs:Array Nat}{i j:Nat}(hj:j<=xs.size)(heq:∀ k,i<=k->k<j->kk key xs k=kk key xs (j - 1))(k:Nat) :
  kk key (kas_rev xs i j) k=kk key xs k:=by
 rw [j3l hj]
 split
 ·rw [heq _ (by lia) (by lia),heq k (by lia) (by lia)]
 ·rfl
theorem x8b{p:Array Nat}(hp:PB n p){Q:Nat->Prop}:∀ (f m:Nat),1<=m->m+f<=n->Srt key p m ->
  (∀ r,m<=r->r<=m+f->Srt key p r->(r=m+f\/kk key p r<kk key p (r - 1))->Q r)->KOk n key (kas_asc p f m) Q
 | 0,m,h1,h2,hs,h=>h m (AM _) (by lia) hs (.inl rfl)
 | f+1,m,h1,h2,hs,h=>by
  refine⟨hp.lt (by lia),hp.lt (by lia),?_⟩
  dsimp only
  by_cases hl:kk key p m<kk key p (m - 1)
  ·have e:decide (key (p.getD m 0)<key (p.getD (m - 1) 0))=true:=AV hl
   rw [AQ e]
   exact h m (AM _) (by lia) hs (.inr hl)
  ·have e:¬ decide (key (p.getD m 0)<key (p.getD (m - 1) 0))=true:=fun e=>hl (AK e)
   rw [AS e]
   refine x8b hp f (m+1) (by lia) (by lia) (fun i j hij hj=>?_) fun r a b c d=>h r (by lia) (by lia) c (by rcases d with d | d;exact .inl (by lia);exact .inr d)
   by_cases hjx:j<m
   ·exact hs i j hij hjx
   ·have hj':j=m:=by lia
    subst hj'
    by_cases hi':i=j
    ·subst hi';exact FO _
    ·exact FI (hs i (j - 1) (by lia) (by lia)) (Int.not_lt.mp hl)
theorem j3m{Q:Array Nat×Nat×Nat->Prop}:∀ (f:Nat) (p:Array Nat) (m q:Nat),PB n p->1<=m->m+f<=n->k4j key p m->q+1<=m->(∀ i,m - (q+1)<=i->i<m->kk key p i=kk key p (m - 1)) ->
  (∀ p' m' q',PB n p'->m<=m'->m'<=m+f->k4j key p' m'->q'+1<=m'->(∀ i,m' - (q'+1)<=i->i<m'->kk key p' i=kk key p' (m' - 1))->Q (p',m',q'))->KOk n key (kas_desc f p m q) Q
 | 0,p,m,q,hp,h1,h2,hs,hq,he,h=>h p m q hp (AM _) (by lia) hs hq he
 | f+1,p,m,q,hp,h1,h2,hs,hq,he,h=>by
  refine⟨hp.lt (by lia),hp.lt (by lia),?_⟩
  dsimp only
  by_cases hl:kk key p m<kk key p (m - 1)
  ·have e:decide (key (p.getD m 0)<key (p.getD (m - 1) 0))=true:=AV hl
   rw [AQ e]
   have step1:∀ xs:Array Nat,(∀ k,kk key xs k=kk key p k)->k4j key xs (m+1):=by
    intro xs hk i j hij hj
    rw [hk,hk]
    by_cases hjx:j<m
    ·exact hs i j hij hjx
    ·have hj':j=m:=by lia
     subst hj'
     by_cases hi':i=j
     ·subst hi';exact FO _
     ·exact FI (Int.le_of_lt hl) (hs i (j - 1) (by lia) (by lia))
   have go:∀ xs:Array Nat,PB n xs->(∀ k,kk key xs k=kk key p k)->KOk n key (kas_desc f xs (m+1) 0) Q:=fun xs hx hk=>
    j3m f xs (m+1) 0 hx (by lia) (by lia) (step1 xs hk) (by lia) (fun i a b=>by congr 1;lia) fun p' m' q' a b c d e' g=>h p' m' q' a (by lia) (by lia) d e' g
   by_cases hq0:q > 0
   ·rw [AQ hq0]
    exact go _ (hp.trans (mirror_perm _ _ _ _)) (z8j (by rw [hp.size];lia) he)
   ·rw [AS hq0]
    exact go p hp fun _=>rfl
  ·have e:¬ decide (key (p.getD m 0)<key (p.getD (m - 1) 0))=true:=fun e=>hl (AK e)
   rw [AS e]
   refine⟨hp.lt (by lia),hp.lt (by lia),?_⟩
   dsimp only
   by_cases hg:kk key p (m - 1)<kk key p m
   ·have e2:decide (key (p.getD (m - 1) 0)<key (p.getD m 0))=true:=AV hg
    rw [AQ e2]
    exact h p m q hp (AM _) (by lia) hs hq he
   ·have e2:¬ decide (key (p.getD (m - 1) 0)<key (p.getD m 0))=true:=fun e=>hg (AK e)
    rw [AS e2]
    have heqx:kk key p m=kk key p (m - 1):=by lia
    refine j3m f p (m+1) (q+1) hp (by lia) (by lia) (fun i j hij hj=>?_) (by lia) (fun i a b=>?_) fun p' m' q' a b c d e' g=>h p' m' q' a (by lia) (by lia) d e' g
    ·by_cases hjx:j<m
     ·exact hs i j hij hjx
     ·have hj':j=m:=by lia
      subst hj'
      by_cases hi':i=j
      ·subst hi';exact FO _
      ·rw [heqx];exact hs i (j - 1) (by lia) (by lia)
    ·rw [show m+1 - 1=m by lia]
     by_cases hix:i=m
     ·subst hix;rfl
     ·rw [heqx];exact he i (by lia) (by lia)
theorem j3n{p:Array Nat}{m:Nat}{Q:Nat×Array Nat->Prop}(hp:PB n p)(h1:1<=m)(h2:m<=n)(hs:k4j key p m)(h:∀ r p',PB n p'->1<=r->r<=n->Srt key p' r->Q (r,p')):KOk n key (kas_tail3 m n p) Q:=by
 have hp':PB n (kas_rev p 0 m):=hp.trans (mirror_perm _ _ _ _)
 refine KOk.bind (x8b hp' _ _ h1 (by lia) (fun i j hij hj=>?_) fun r a b c _=>h r _ hp' (by lia) (by lia) c)
 have hsz:m<=p.size:=by rw [hp.size];exact h2
 rw [j3l hsz,j3l hsz,AQ (by lia),AQ (by lia)]
 exact hs _ _ (by lia) (by lia)
theorem y7j{p:Array Nat}{m:Nat}{Q:Nat×Array Nat->Prop}(hp:PB n p)(h2:m+1<=n)(hs:k4j key p (m+1))(h:∀ r p',PB n p'->1<=r->r<=n->Srt key p' r->Q (r,p')):KOk n key (kas_descPart m n p) Q:=by
 refine KOk.bind (j3m _ p (m+1) 0 hp (by lia) (by lia) hs (by lia) (fun i a b=>by congr 1;lia) fun p' m' q' a b c d e' g=>?_)
 dsimp only
 have hsz:m'<=p'.size:=by rw [a.size];lia
 by_cases hq:q' > 0
 ·rw [AQ hq]
  refine j3n (a.trans (mirror_perm _ _ _ _)) (by lia) (by lia) (fun i j hij hj=>?_) h
  rw [z8j hsz g,z8j hsz g]
  exact d i j hij hj
 ·rw [AS hq]
  exact j3n a (by lia) (by lia) d h
theorem x8c{p:Array Nat}{Q:Nat×Array Nat->Prop}(hp:PB n p)(h1:1<=n)(h:∀ r p',PB n p'->1<=r->r<=n->Srt key p' r->Q (r,p')):KOk n key (kas_count n p) Q:=by
 refine KOk.bind (x8b hp (n - 1) 1 (AM 1) (by lia) (fun i j hij hj=>by
  have:i=j:=by lia
  subst this
  exact FO _) fun m a b c d=>?_)
 by_cases hm:m=n
 ·rw [AQ (by simpa using hm)]
  exact h m p hp a (by lia) c
 ·rw [AS (by simpa using hm)]
  have hlt:kk key p m<kk key p (m - 1):=d.resolve_left (by lia)
  by_cases hgt:m > 1
  ·rw [AQ hgt]
   refine⟨hp.lt (by lia),hp.lt (by lia),?_⟩
   dsimp only
   by_cases hr:kk key p 0<kk key p (m - 1)
   ·have e:decide (key (p.getD 0 0)<key (p.getD (m - 1) 0))=true:=AV hr
    rw [AQ e]
    exact h m p hp a (by lia) c
   ·have e:¬ decide (key (p.getD 0 0)<key (p.getD (m - 1) 0))=true:=fun e=>hr (AK e)
    rw [AS e]
    have hsz:m<=p.size:=by rw [hp.size];lia
    have hall:∀ k,0<=k->k<m->kk key p k=kk key p (m - 1):=by
     intro k _ hk
     have a1:=c 0 k (by lia) hk
     have a2:=c k (m - 1) (by lia) (by lia)
     lia
    refine y7j (hp.trans (mirror_perm _ _ _ _)) (by lia) (fun i j hij hj=>?_) h
    rw [z8j hsz hall,z8j hsz hall]
    by_cases hjn:j<m
    ·rw [hall i (by lia) (by lia),hall j (by lia) hjn];exact FO _
    ·have hj':j=m:=by lia
     subst hj'
     by_cases hi':i=j
     ·subst hi';exact FO _
     ·rw [hall i (by lia) (by lia)];exact Int.le_of_lt hlt
  ·rw [AS hgt]
   have hn1:m=1:=by lia
   subst hn1
   refine y7j hp (by lia) (fun i j hij hj=>?_) h
   by_cases hi':i=j
   ·subst hi';exact FO _
   ·have hi0:i=0:=by lia
    have hj1:j=1:=by lia
    subst hi0;subst hj1
    exact Int.le_of_lt hlt
theorem q5a{p:Array Nat}{k:Nat}{Q:Nat->Prop}(hp:PB n p)(hk:k<n)(hs:Srt key p k)
 (h:∀ l,l<=k->(∀ i,i<l->kk key p i<=kk key p k)->(∀ i,l<=i->i<k->kk key p k<kk key p i)->Q l):∀ (f l r:Nat),l<=r->r<=k->r - l<=f ->
   (∀ i,i<l->kk key p i<=kk key p k)->(∀ i,r<=i->i<k->kk key p k<kk key p i)->KOk n key (kas_place p k f l r) Q
 | 0,l,r,h1,h2,h3,hlo,hhi=>by
  have:l=r:=by lia
  subst this
  exact h l h2 hlo hhi
 | f+1,l,r,h1,h2,h3,hlo,hhi=>by
  unfold kas_place
  by_cases hge:l>=r
  ·rw [AQ hge]
   have:l=r:=by lia
   subst this
   exact h l h2 hlo hhi
  ·rw [AS hge]
   refine⟨hp.lt hk,hp.lt (by lia),?_⟩
   dsimp only
   by_cases hl:kk key p k<kk key p ((l+r) / 2)
   ·have e:decide (key (p.getD k 0)<key (p.getD ((l+r) / 2) 0))=true:=AV hl
    rw [AQ e]
    exact q5a hp hk hs h f l ((l+r) / 2) (by lia) (by lia) (by lia) hlo fun i a b=>Int.lt_of_lt_of_le hl (hs _ _ a b)
   ·have e:¬ decide (key (p.getD k 0)<key (p.getD ((l+r) / 2) 0))=true:=fun e=>hl (AK e)
    rw [AS e]
    exact q5a hp hk hs h f ((l+r) / 2+1) r (by lia) (by lia) (by lia) (fun i a=>FI (hs i ((l+r) / 2) (by lia) (by lia)) (Int.not_lt.mp hl)) hhi
theorem k4k{Q:Array Nat->Prop}(h:∀ p,PB n p->Srt key p n->Q p):∀ (f:Nat) (p:Array Nat) (k:Nat),PB n p->k+f=n->Srt key p k->KOk n key (kas_bin f p k) Q
 | 0,p,k,hp,hk,hs=>by
  have:k=n:=by lia
  subst this
  exact h p hp hs
 | f+1,p,k,hp,hk,hs=>by
  refine KOk.bind (q5a hp (by lia) hs (fun l hl hlo hhi=>?_) k 0 k (by lia) (by lia) (by lia) (fun i a=>by lia) fun i a b=>by lia)
  refine k4k h f _ (k+1) (hp.trans (bubble_perm _ _ _)) (by lia) fun i j hij hj=>?_
  have hks:k<p.size:=by rw [hp.size];lia
  rw [q1l hks (by lia),q1l hks (by lia),show k - (k - l)=l by lia]
  repeat' split
  all_goals first
   | (exfalso;lia)
   | exact FO _
   | exact hlo _ (by lia)
   | exact Int.le_of_lt (hhi _ (by lia) (by lia))
   | exact hs _ _ (by lia) (by lia)
theorem k4l(h1:1<=n):KOk n key (kas_sort n) (fun p=>PB n p/\Srt key p n):=by
 unfold kas_sort
 refine KOk.bind (x8c (Array.Perm.refl _) h1 fun r p a b c d=>?_)
 dsimp only
 by_cases hr:r<n
 ·rw [AQ hr,show max r 1=r by lia]
  exact k4k (fun p x y=>⟨x,y⟩) _ p r a (by lia) d
 ·rw [AS hr]
  have:r=n:=by lia
  subst this
  exact⟨a,d⟩
end
end Mine
end
section
open PySem PySem.W PyProof.Rows PySem.NumText
namespace Mine
section
variable {I:z2w} {own own':List Addr} {L:Lim} {w:World} {g gb gC:Fz} {Z Z1 Z2:Bt} {H Hb H2:z0b} {s sB sC:Shared} {env:Env} {Y:z0n} {A:Around} {prog:Program} {lv:Nat}
theorem q5b{x:Str}{i:Int}(h:y8w x=some i):∃ c:Nat,x.cps.toList=[c]/\48<=c/\c<=57/\i=(c:Int) - 48:=by
 unfold y8w at h
 split at h
 ·rename_i c hc
  obtain⟨h1,h2⟩:=z0q h
  exact⟨c,hc,h1.1,h1.2,(AF h2).symm⟩
 ·cases h
theorem k4m{u:Value}{x:Str}{i:Int}(R:SR I w.params g Z H s.heap)(hu:Rel I g Z u (.str x))(h:y8w x=some i):Go I prog w A own L g Z H (call (.type "int") [u]) H (P.val I (.int i)) s:=by
 obtain⟨t,rfl⟩:=hu.str_inv
 obtain⟨c,hc,h1,h2,rfl⟩:=q5b h
 have hl:x.length=1:=by
  show x.cps.size=1
  rw [<- CL,hc];rfl
 have hd:AllDigits x.cps.toList:=by
  rw [hc]
  intro d hd
  obtain rfl:=AL.mp hd
  exact⟨h1,h2⟩
 have e:PySem.intText? x=some ((c:Int) - 48):=by
  rw [intText_digits hd (by rw [hc];exact DS _ _) (by rw [hl];decide),hc]
  show some (((0*10+(c - 48):Nat)):Int)=_
  congr 1
  lia
 exact Go.tok R fun Q E q=>KIN.call_text e (by rw [hl];decide) (q _ _ (.int _ _))
theorem q1m:∀ (ns:List Int) (n:Int),(ns.foldl (fun a b=>if b > a then b else a) n∈n::ns)/\∀ a,a∈n::ns->a<=ns.foldl (fun a b=>if b > a then b else a) n
 | [],n=>⟨AL.mpr rfl,fun a h=>Int.le_of_eq (AL.mp h)⟩
 | b::ns,n=>by
  obtain⟨h1,h2⟩:=q1m ns (if b > n then b else n)
  rw [CW]
  refine⟨?_,fun a ha=>?_⟩
  ·rcases AR.mp h1 with h | h
   ·rw [h];split
    ·exact AD _ AC
    ·exact AC
   ·exact AD _ (AD _ h)
  ·rcases AR.mp ha with h | h
   ·refine FI ?_ (h2 _ AC)
    rw [h];split<;>lia
   ·rcases AR.mp h with h | h
    ·refine FI ?_ (h2 _ AC)
     rw [h];split<;>lia
    ·exact h2 _ (AD _ h)
theorem x8d{u:Value}{l:List PV}{ns:List Int}{r:PV}(R:SR I w.params g Z H s.heap)(hA:AOk A lv)(hu:Rel I g Z u (.lst l))(e:z4y l=some ns)(hr:w1z ns=some r) :
  Go I prog w A own L g Z H (call (.builtin "max") [u]) H (P.val I r) s:=by
 obtain⟨a,o,vs,rfl,g1,g4,g2,g3⟩:=hu.lst_inv
 cases ns with
 | nil=>cases hr
 | cons n ns=>
  cases hr
  have hi:=y2a g3 e
  obtain⟨xs,hx⟩:=hi.allInts.items
  have hl:s.heap.IsList a (intItems xs):=hx▸z0s (R.sub _ _ g1) g4
  have hns:n::ns=xs.toList.map (·.1):=by rw [<- hi.numsOf,<- nums_intItems,<- hx]
  have hsz:0<xs.size:=by
   have:=AT List.length hns
   rw [AJ,BD] at this
   rw [<- CL]
   lia
  refine Go.keepAll R fun Q E q=>max_intList hA.handled hl hsz fun v h' tk hv hk=>?_
  obtain⟨t,rfl⟩:=intItems_at hv
  obtain⟨h1,h2⟩:=argBest_gt (numAt xs) (xs.size - 1)
  obtain⟨m1,m2⟩:=q1m ns n
  have hM:numAt xs (argBest (fun i j=>decide (numAt xs i > numAt xs j)) (xs.size - 1))=ns.foldl (fun a b=>if b > a then b else a) n:=by
   apply Int.le_antisymm
   ·refine m2 _ ?_
    rw [hns,numAt_eq]
    exact PySem.getD_mem (by rw [AJ,CL];lia)
   ·rw [hns] at m1
    obtain⟨j,hj,e⟩:=mem_getD m1
    rw [AJ,CL] at hj
    rw [<- e,<- numAt_eq]
    exact h2 j (by lia)
  rw [hM]
  exact q _ h' tk hk (.int _ _)
noncomputable def y7k(h:Heap)(v:Value)(q:Int×Int):Prop:=∃ T o t u n,v=.ref T/\h.get? T=some o/\o.cls=.type "tuple"/\o.data=.seq #[.int q.1 t,.int q.2 u] n
theorem q1n:∀ {l:List PV} {ps:List (Int×Int)},pairsOf l=some ps->l=ps.map fun q=>.tup [.int q.1,.int q.2]
 | [],_,h=>by cases h;rfl
 | p::l,ps,h=>by
  cases p with
  | tup t=>
   match t,h with
   | [.int a,.int b],h=>
    obtain⟨qs,h1,rfl⟩:=z1d (show(Mine.pairsOf l).map ((a,b)::·)=some ps from h)
    rw [q1n h1];rfl
  | _=>cases h
theorem x0r{v:Value}{q:Int×Int}(R:SR I w.params g Z H s.heap)(h:Rel I g Z v (.tup [.int q.1,.int q.2])):y7k s.heap v q:=by
 obtain⟨a,o,vs,rfl,g1,g4,g2,g3⟩:=h.tup_inv
 cases g3 with
 | cons x r=>
  cases r with
  | cons y r=>
   cases r
   obtain⟨t,rfl⟩:=x.int_inv
   obtain⟨u,rfl⟩:=y.int_inv
   obtain⟨c,n,d⟩:=g4
   exact⟨a,o,t,u,n,rfl,R.sub _ _ g1,c,d⟩
noncomputable def q4q(q:Int×Int):Int:=q.1*1000+q.2
theorem x8e{h:Heap}{v v':Value}{q q':Int×Int}{C:Bool->Shared->Prop}{E:Value->Shared->Prop}(h1:y7k s.heap v q)(h2:y7k s.heap v' q')(m1:(z2o q.1&&z2o q.2)=true)(m2:(z2o q'.1&&z2o q'.2)=true)
 (k:C (decide (q4q q<q4q q')) s):wpAny (model prog w) A (keyLt' (tuples' true) v v') C E s:=by
 obtain⟨x,y⟩:=q
 obtain⟨x',y'⟩:=q'
 obtain⟨T,o,t,u,n,rfl,a1,a2,a3⟩:=h1
 obtain⟨T',o',t',u',n',rfl,b1,b2,b3⟩:=h2
 dsimp only at *
 have mid:∀ {i:Int},z2o i=true->0<=i/\i<1000:=fun h=>⟨AK (z0v h).1,AK (z0v h).2⟩
 have hy:=mid (z0v m1).2
 have hy':=mid (z0v m2).2
 unfold q4q at k
 dsimp only at k
 refine kat_lt a1 a3 b1 b3 (kat_cons (wpAny_eqBool_int ?_))
 by_cases hx:x=x'
 ·subst hx
  rw [DC]
  refine kat_yes (kat_cons (wpAny_eqBool_int ?_))
  by_cases hyy:y=y'
  ·subst hyy
   rw [DC]
   rw [EA (Int.lt_irrefl _)] at k
   exact kat_yes (kat_nil k)
  ·rw [FA.mpr hyy]
   refine kat_no (kat_one _ _ (PySem.P.lt_int ?_))
   show C (decide (y<y')) s
   rwa [show decide (y<y')=decide (x*1000+y<x*1000+y') by congr 1;exact propext (by lia)]
 ·rw [FA.mpr hx]
  refine kat_no (oneLt_int ?_)
  rwa [show decide (x<x')=decide (x*1000+y<x'*1000+y') by congr 1;exact propext (by lia)]
theorem q7m:∀ {vs:List Value} {ps:List (Int×Int)},vs.length=ps.length->(∀ (i:Nat) (q:Int×Int),ps[i]?=some q->∃ v,vs[i]?=some v/\y7k s.heap v q)->∃ fs,KatTups s.heap vs fs/\fs.length=vs.length/\∀ v,v∈fs->∃ i t,v=Value.int i t
 | [],[],_,_=>⟨[],KatTups.nil,rfl,fun v h=>(nomatch h)⟩
 | [],_::_,h,_=>(nomatch h)
 | _::_,[],h,_=>(nomatch h)
 | v::vs,q::ps,h,hp=>by
  obtain⟨v',e,T,o,t,u,n,rfl,h1,h2,h3⟩:=hp 0 q rfl
  cases e
  obtain⟨fs,k1,k2,k3⟩:=q7m (vs:=vs) (ps:=ps) (Nat.succ.inj h) fun i q e=>hp (i+1) q e
  refine⟨.int q.1 t::fs,KatTups.cons h1 h2 h3 rfl k1,AT Nat.succ k2,fun v hv=>?_⟩
  rcases AR.mp hv with rfl | hv
  ·exact⟨_,_,rfl⟩
  ·exact k3 v hv
theorem y5g{a:Addr}{vs:List Value}{ps:List (Int×Int)}{n:Nat}{P:PySem.Fin->Shared->Prop}{E:Value->Shared->Prop}(ho:s.heap.get? a=some (seqObj "list" vs.toArray n))(h2:2<=vs.length)(h64:vs.length<64)(hl:vs.length=ps.length)
 (hp:∀ (i:Nat) (q:Int×Int),ps[i]?=some q->∃ v,vs[i]?=some v/\v≠.ref a/\y7k s.heap v q)(hm:∀ q,q∈ps->(z2o q.1&&z2o q.2)=true)
 (h:∀ p:Array Nat,PB vs.length p->Srt (fun i=>q4q (ps.getD i (0,0))) p vs.length->P (.done (.ret .none)) { s with heap:=sortedHeap s.heap a vs (p.toList.map fun i=>vs.getD i Value.none).toArray }) :
  wpAny (model prog w) A (Builtin.«list.sort» ⟨[.ref a],[]⟩) P E s:=by
 rw [list_sort_plain]
 have ha:a<s.heap.objs.size:=CO ho
 have hsz:vs.toArray.size=vs.length:=BS
 have hline:∀ m,m<=vs.length->m<=sizeLine:=fun m hm=>by rw [GD];lia
 refine AB (listItems_at ho rfl ?_)
 refine AB (listUpdate_at ho rfl ?_ (hline _ (CM hsz)) (BM _))
 obtain⟨e1,ho1⟩:∃ e1,(s.heap.update a (Obj.mapSeq fun _=>#[])).get? a=some (seqObj "list" #[] e1):=⟨_,get?_update_seq ho (fun _=>#[])⟩
 refine AB (seqEpoch_at ho1 rfl ?_)
 refine AB (wpAny_newTuple ?_ (hline _ (AM _)))
 refine AB (wpAny_newList ?_ (BM _))
 refine BQ ?_
 have keep:∀ b o,b≠a->s.heap.get? b=some o->(((s.heap.update a (Obj.mapSeq fun _=>#[])).push (seqObj "tuple" vs.toArray 0)).push (seqObj "list" #[] 0)).get? b=some o:=fun b o hne e=>
  AO _ (AO _ ((Heap.get?_update_ne _ _ _ _ hne).trans e))
 have ho6:(((s.heap.update a (Obj.mapSeq fun _=>#[])).push (seqObj "tuple" vs.toArray 0)).push (seqObj "list" #[] 0)).get? a=some (seqObj "list" #[] e1):=AO _ (AO _ ho1)
 show wpAny (model prog w) A _ P E { s with heap:=((s.heap.update a (Obj.mapSeq fun _=>#[])).push (seqObj "tuple" vs.toArray 0)).push (seqObj "list" #[] 0) }
 dsimp only
 have hp':∀ (i:Nat) (q:Int×Int),ps[i]?=some q->∃ v,vs[i]?=some v/\y7k (((s.heap.update a (Obj.mapSeq fun _=>#[])).push (seqObj "tuple" vs.toArray 0)).push (seqObj "list" #[] 0)) v q:=fun i q e=>by
  obtain⟨v,e1,hne,T,o,t,u,m,rfl,b1,b2,b3⟩:=hp i q e
  exact⟨_,e1,T,o,t,u,m,rfl,keep _ _ (fun e=>hne (by rw [e])) b1,b2,b3⟩
 have hn2:¬ vs.toArray.size<2:=by rw [hsz];lia
 rw [AS hn2,AS hn2]
 obtain⟨fs,k1,k2,k3⟩:=q7m (s:={ s with heap:=((s.heap.update a (Obj.mapSeq fun _=>#[])).push (seqObj "tuple" vs.toArray 0)).push (seqObj "list" #[] 0) }) hl hp'
 refine AB (kat_kind (T:=.type "int") k1 (by lia) (fun v hv=>?_) rfl ?_)
 ·obtain⟨i,t,rfl⟩:=k3 v hv
  exact .now
 refine AB (CZ (kat_run (A:=A) (E:=E) (Q:=fun st' s'=>∃ p:Array Nat,PB vs.length p/\Srt (fun i=>q4q (ps.getD i (0,0))) p vs.length/\arrOf st'=p.map (kas_item (vs.toArray.zip vs.toArray))/\failedOf st'=none/\s'=_)
  (G:=fun p s'=>PB vs.length p/\Srt (fun i=>q4q (ps.getD i (0,0))) p vs.length/\s'={ s with heap:=((s.heap.update a (Obj.mapSeq fun _=>#[])).push (seqObj "tuple" vs.toArray 0)).push (seqObj "list" #[] 0) })
  rfl h2 h64 (fun p' st' s' a1 a2 a3 a4=>⟨p',a4.1,a4.2.1,a2,a3,a4.2.2⟩) (KOk.wp (key:=fun i=>q4q (ps.getD i (0,0))) (n:=vs.length) (fun i j C hi hj hC=>?_) (KOk.mono (fun p hp=>⟨hp.1,hp.2,rfl⟩) (k4l (by lia))))) ?_ fun _ _ e=>e)
 ·obtain⟨q,hq⟩:∃ q,ps[i]?=some q:=⟨_,AP (hl▸hi)⟩
  obtain⟨q',hq'⟩:∃ q,ps[j]?=some q:=⟨_,AP (hl▸hj)⟩
  obtain⟨v,e1,p1⟩:=hp' i q hq
  obtain⟨v',e2,p2⟩:=hp' j q' hq'
  show wpAny _ _ (keyLt' (tuples' true) (vs.getD i Value.none) (vs.getD j Value.none)) C _ _
  rw [AI,AI,e1,e2]
  refine x8e (h:=s.heap) p1 p2 (hm _ (CB hq)) (hm _ (CB hq')) ?_
  rw [AI,AI,hq,hq'] at hC
  exact hC
 rintro⟨⟨⟩,st'⟩ s' ⟨p,b1,b2,b3,b4,rfl⟩
 dsimp only
 rw [kat_snds rfl b3]
 refine AB (seqEpoch_at ho6 rfl ?_)
 refine AB (listUpdate_at ho6 rfl ?_ (BM _) (CF (hline _ (by rw [BS,AJ,CL,b1.size];exact AM _))))
 rw [b4]
 simp only [bne_self_eq_false,DT,if_false]
 exact AG (h p b1 b2)
theorem x8f{a b:Int×Int}(ha:(z2o a.1&&z2o a.2)=true)(hb:(z2o b.1&&z2o b.2)=true)(h:q4q a=q4q b):a=b:=by
 obtain⟨x,y⟩:=a
 obtain⟨x',y'⟩:=b
 have mid:∀ {i:Int},z2o i=true->0<=i/\i<1000:=fun h=>⟨AK (z0v h).1,AK (z0v h).2⟩
 have h1:=mid (z0v ha).2
 have h2:=mid (z0v hb).2
 unfold q4q at h
 dsimp only at h h1 h2
 have e1:x=x':=by lia
 have e2:y=y':=by lia
 rw [e1,e2]
theorem k4n{a b:Int×Int}(ha:(z2o a.1&&z2o a.2)=true)(hb:(z2o b.1&&z2o b.2)=true)(h:z3o a b=true):q4q a<=q4q b:=by
 obtain⟨x,y⟩:=a
 obtain⟨x',y'⟩:=b
 have mid:∀ {i:Int},z2o i=true->0<=i/\i<1000:=fun h=>⟨AK (z0v h).1,AK (z0v h).2⟩
 have h1:=mid (z0v ha).2
 have h2:=mid (z0v hb).2
 unfold q4q
 dsimp only at h1 h2 ⊢
 rcases BX.mp h with h | h
 ·have:=AK h
  dsimp only at this
  lia
 ·have e1:=BI (z0v h).1
  have e2:=AK (z0v h).2
  dsimp only at e1 e2
  lia
theorem y2b(a b:Int×Int):(z3o a b || z3o b a)=true:=by
 unfold z3o
 by_cases h1:a.1<b.1
 ·rw [AV h1];rfl
 ·by_cases h2:b.1<a.1
  ·rw [AV h2,Bool.true_or,Bool.or_true]
  ·have e:a.1=b.1:=by lia
   rw [e,DC,Bool.true_and,Bool.true_and]
   by_cases h3:a.2<=b.2
   ·rw [AV h3,Bool.or_true,Bool.true_or]
   ·rw [AV (show b.2<=a.2 by lia),Bool.or_true,Bool.or_true]
theorem z8k(a b c:Int×Int)(h1:z3o a b=true)(h2:z3o b c=true):z3o a c=true:=by
 have key:∀ {a b:Int×Int},z3o a b=true↔a.1<b.1\/(a.1=b.1/\a.2<=b.2):=fun {a b}=>by
  unfold z3o
  rw [BX,AH,BY,BE,BY]
 rw [key] at h1 h2 ⊢
 lia
theorem j3o{ps:List (Int×Int)}{p:Array Nat}(hm:∀ q,q∈ps->(z2o q.1&&z2o q.2)=true)(hp:PB ps.length p)(hs:Srt (fun i=>q4q (ps.getD i (0,0))) p ps.length) :
  (p.toList.map fun i=>ps.getD i (0,0))=ps.mergeSort z3o:=by
 have hperm:(p.toList.map fun i=>ps.getD i (0,0)).Perm ps:=by
  have h1:p.toList.Perm (List.range ps.length):=FN.mp hp
  refine(h1.map _).trans ?_
  have:((List.range ps.length).map fun i=>ps.getD i (0,0))=ps:=by
   apply List.ext_getElem
   ·rw [AJ,DY]
   ·intro i h1 h2
    rw [EK,List.getElem_range,AI,AP h2];rfl
  rw [this]
 have hperm2:=FW ps z3o
 refine List.Perm.eq_of_pairwise (le:=fun a b=>q4q a<=q4q b) (fun a b ha hb h1 h2=>x8f (hm a (hperm.mem_iff.mp ha)) (hm b (hperm2.mem_iff.mp hb)) (Int.le_antisymm h1 h2)) ?_ ?_ (hperm.trans hperm2.symm)
 ·rw [FS]
  intro i j hi hj hij
  rw [AJ,CL,hp.size] at hi hj
  have:=hs i j (BO hij) hj
  unfold kk at this
  rw [EK,EK]
  have gd:∀ {k:Nat} (hk:k<p.toList.length),p.getD k 0=p.toList[k]:=fun {k} hk=>by
   have hk':k<p.size:=by rwa [CL] at hk
   rw [EG,FT hk'];rfl
  rwa [gd,gd] at this
 ·refine List.Pairwise.imp_of_mem (fun {a b} ha hb h=>k4n (hm a (hperm2.mem_iff.mp ha)) (hm b (hperm2.mem_iff.mp hb)) h) (List.pairwise_mergeSort z8k y2b ps)
theorem q7n{vs:List Value}{l:List PV}(r:z0e I g Z vs l):∀ (js:List Nat),(∀ j,j∈js->j<l.length)->z0e I g Z (js.map fun i=>vs.getD i .none) (js.map fun i=>l.getD i .none)
 | [],_=>.nil
 | j::js,h=>by
  obtain⟨v,e1,e2⟩:=r.get (AP (h j AC))
  refine .cons ?_ (q7n r js fun k hk=>h k (AD _ hk))
  show Rel I g Z (vs.getD j .none) (l.getD j .none)
  rw [AI,AI,e1,AP (h j AC)]
  exact e2
theorem j3p{u:Value}{l:List PV}{r:PV}(R:SR I w.params g Z H s.heap)(hu:Rel I g Z u (.lst l))(e:k3j l=some r):Go I prog w A own L g Z H (call (.builtin "sorted") [u]) H (P.val I r) s:=by
 obtain⟨ps,hps,e⟩:=z1f e
 obtain⟨⟨hn1,h64,hall⟩,e⟩:=z0q e
 cases e
 obtain⟨a,o,vs,rfl,g1,g4,g2,g3⟩:=hu.lst_inv
 have hl:=q1n hps
 have hlen:vs.length=ps.length:=by rw [g3.length,hl,AJ]
 have hm:∀ q,q∈ps->(z2o q.1&&z2o q.2)=true:=fun q hq=>BA.mp hall q hq
 have hL:=z0s (R.sub _ _ g1) g4
 have hnone:s.heap.get? (s.heap.objs.size+1)=none:=by
  cases e:s.heap.get? (s.heap.objs.size+1) with
  | none=>rfl
  | some o=>exact absurd (CO e) (CH.mpr (GE _))
 intro Q E q
 have fin:∀ out:List Value,out.length<=z2n->z0e I g Z out ((ps.mergeSort z3o).map fun q=>.tup [.int q.1,.int q.2])->Q (.ref (s.heap.objs.size+1)) { s with heap:=sortedAll s.heap vs out.toArray }:=fun out ho hr=>by
  obtain⟨ep,he⟩:=sortedAll_at s.heap vs out.toArray
  have hk:∀ b x,s.heap.get? b=some x->(sortedAll s.heap vs out.toArray).get? b=some x:=fun b x e=>sortedAll_old e
  exact q _ _ Z _ (z1e.add (a:=s.heap.objs.size+1) (o:=seqObj "list" out.toArray ep) (tk:=s.toks) R hk hnone) (R.add hk hnone he)
   (.lst (z2f ..) ⟨rfl,ep,rfl,rfl⟩ ho (hr.mono (z2v (R.gfree hnone)) fun _ _ e=>e))
 by_cases h2:2<=ps.length
 ·refine Calls.call_function_entry kind_sorted plain_sorted entry_sorted (args_sorted1 _) ?_
  unfold Builtin.«sorted»
  refine AB (m:=checkCount "sorted" 1 1 _) (AG ?_)
  have hline:vs.length<=sizeLine:=by rw [GD];lia
  refine AB (collect_list hL ?_ hline)
  refine AB (wpAny_newList ?_ hline)
  have hsz:((s.heap.push (seqObj "list" #[] 0)).update s.heap.objs.size (Obj.mapSeq (·++vs.toArray))).objs.size=s.heap.objs.size+1:=by rw [Heap.size_update,size_push']
  have hoL:(((s.heap.push (seqObj "list" #[] 0)).update s.heap.objs.size (Obj.mapSeq (·++vs.toArray))).push (seqObj "list" vs.toArray 0)).get? (s.heap.objs.size+1)=some (seqObj "list" vs.toArray 0):=by
   rw [<- hsz];exact AZ _ rfl
  have keep:∀ b o,s.heap.get? b=some o->(((s.heap.push (seqObj "list" #[] 0)).update s.heap.objs.size (Obj.mapSeq (·++vs.toArray))).push (seqObj "list" vs.toArray 0)).get? b=some o:=fun b o q=>
   AO _ ((Heap.get?_update_ne _ _ _ _ (DL (CO q))).trans (AO _ q))
  show wpAny _ _ _ _ _ { s with heap:=((s.heap.push (seqObj "list" #[] 0)).update s.heap.objs.size (Obj.mapSeq (·++vs.toArray))).push (seqObj "list" vs.toArray 0) }
  rw [hsz]
  refine AB (BQ (EJ slot_list_sort ⟨_,hoL,rfl⟩ entry_list_sort (y5g hoL (hlen▸h2) (hlen▸h64) hlen (fun i qq hi=>?_) hm fun p b1 b2=>⟨_,rfl,?_⟩) (args_list_sort _)))
  ·have hli:l[i]?=some (.tup [.int qq.1,.int qq.2]):=by rw [hl,BC,hi];rfl
   obtain⟨v,e1,e2⟩:=g3.get hli
   obtain⟨T,o,t,u,m,rfl,c1,c2,c3⟩:=x0r R e2
   exact⟨_,e1,(fun e=>by cases e;rw [hnone] at c1;cases c1),T,o,t,u,m,rfl,keep _ _ c1,c2,c3⟩
  ·refine AG ⟨_,rfl,?_⟩
   rw [hlen] at b1 b2
   refine fin (p.toList.map fun i=>vs.getD i .none) (by rw [AJ,CL,b1.size];exact AA (BO h64) (by decide)) ?_
   rw [<- j3o hm b1 b2,AW]
   have hlt:∀ j,j∈p.toList->j<l.length:=fun j hj=>by
    rw [hl,AJ]
    exact AN.mp ((FN.mp b1).mem_iff.mp hj)
   have:=q7n g3 p.toList hlt
   rwa [show(p.toList.map fun i=>l.getD i .none)=p.toList.map ((fun q:Int×Int=>PV.tup [.int q.1,.int q.2])∘fun i=>ps.getD i (0,0)) from CG fun j hj=>by
    have h:=hlt j hj
    rw [hl,AJ] at h
    show l.getD j .none=PV.tup [.int (ps.getD j (0,0)).1,.int (ps.getD j (0,0)).2]
    rw [hl,AI,AI,BC,AP h];rfl] at this
 ·have h0:ps=[]:=by
   cases ps with
   | nil=>rfl
   | cons qq ps=>exact absurd (show 2<=(qq::ps).length by have:=BD (a:=qq) (as:=ps);lia) h2
  subst h0
  have hv:vs=[]:=List.length_eq_zero_iff.mp hlen
  subst hv
  refine sorted_ints hL IntsAre.nil (by decide) fun out ns' i1 i2 i3=>?_
  have hns:ns'=[]:=i2.eq_nil
  subst hns
  have ho:out.toList=[]:=by
   have:=i1.length
   exact List.length_eq_zero_iff.mp this
  have:=fin out.toList (by rw [ho];exact BM _) (by rw [ho,(FW [] z3o).eq_nil];exact .nil)
  rwa [Array.toArray_toList] at this
end
end Mine
end
section
open PySem PySem.W PyProof.Rows
namespace Mine
section
variable {I:z2w} {own own':List Addr} {L:Lim} {w:World} {g gb gC:Fz} {Z Z1 Z2:Bt} {H Hb H2:z0b} {s sB sC:Shared} {env:Env} {Y Y':z0n} {A:Around} {prog:Program} {lv:Nat}
theorem SR.off_(R:SR I w.params g Z H s.heap){h':Heap}(W:Addr->Prop)(hg:∀ a,W a->g a=none)(hb:∀ a i,W a->Z i≠some a)(hk:∀ a o,¬ W a->s.heap.get? a=some o->h'.get? a=some o):SR I w.params g Z H h' where
 base:=R.base
 sub:=fun a o e=>hk a o (fun x=>by rw [hg a x] at e;contradiction) (R.sub a o e)
 dom:=R.dom
 lt:=R.lt
 inj:=R.inj
 off:=R.off
 cell:=fun i a c hi hc=>by
  obtain⟨o,ho⟩:=R.here hi
  exact(R.cell i a c hi hc).mono (fun _ _ q=>q) (fun _ _ q=>q) (by rw [hk a o (fun x=>hb a i x hi) ho,ho])
theorem z1e.touch(G:z1e own L g Z H s gb Z1 Hb sB){h':Heap}{tk:Nat}(W:Addr->Prop)(hw:∀ a o,W a->s.heap.get? a=some o->a∈own)(hk:∀ a o,¬ W a->sB.heap.get? a=some o->h'.get? a=some o)
 (ha:∀ a o,W a->sB.heap.get? a=some o->∃ o',h'.get? a=some o'):z1e own L g Z H s gb Z1 Hb { sB with heap:=h',toks:=tk }:=
 { G with
  kept:=fun a o h n f=>hk a o (fun x=>n (hw a o x h)) (G.kept a o h n f)
  alive:=fun a o h=>by
   obtain⟨o',h1⟩:=G.alive a o h
   by_cases x:W a
   ·exact ha a o' x h1
   ·exact⟨o',hk a o' x h1⟩
  rest:=by rw [G.rest] }
theorem q1o(hn:I.nm.Nodup){j k:Nat}{x:Str}(h1:I.nm[j]?=some x)(h2:I.nm[k]?=some x):j=k:=by
 obtain⟨l1,e1⟩:=AU.mp h1
 obtain⟨l2,e2⟩:=AU.mp h2
 have hp:=FS.mp hn
 rcases Nat.lt_trichotomy j k with h | h | h
 ·exact absurd (e1.trans e2.symm) (hp j k l1 l2 h)
 ·exact h
 ·exact absurd (e2.trans e1.symm) (hp k j l2 l1 h)
theorem y3b{x:Str}{k:Nat}{v:Value}{p:PV}(hnd:I.nm.Nodup)(R:SR I w.params g Z H s.heap)(O:z0j I own env Y g Z s.heap)(hn:I.nm[k]?=some x)(hs:Mine.storeable env own x)(hv:Rel I g Z v p) :
  Go I prog w A own L g Z H (storeName env x v) H (fun g' Z' s' _=>z0j I own env (upd Y k p) g' Z' s'.heap/\g'=g/\Z'=Z) s:=by
 intro Q E q
 obtain⟨m,hm,hmk⟩:=O.ns
 obtain⟨oL,hoL⟩:=O.locThere
 rcases hs with hl | ⟨c,hc,hcl,hco⟩
 ·refine wpAny_storeName_local hl hm (fun h' hn' hs'=>?_) (by simp [O.kind])
  have hk:∀ a o,a≠env.locals->s.heap.get? a=some o->h'.get? a=some o:=fun a o h e=>(hs'.2 a h).trans e
  have R':SR I w.params g Z H h':=R.off_ (fun a=>a=env.locals) (fun a e=>e▸O.lg) (fun a i e=>e▸O.lb i) fun a o h e=>hk a o h e
  refine q () g Z { s with heap:=h',toks:=s.toks+1 } (z1e.touch .refl (fun a=>a=env.locals) (fun a o e _=>e▸O.lown) hk (fun a o e _=>?_)) R' ⟨?_,rfl,rfl⟩
  ·subst e;obtain⟨o',_,_,ho',_⟩:=hn';exact⟨o',ho'⟩
  ·exact {
    kind:=O.kind,glob:=O.glob,bi:=O.bi,lg:=O.lg,lb:=O.lb,lown:=O.lown,apart:=O.apart,code:=O.code
    ownz:=fun a ha=>by
     obtain⟨h1,h2,o,h3⟩:=O.ownz a ha
     refine⟨h1,h2,?_⟩
     by_cases e:a=env.locals
     ·subst e;obtain⟨o',_,_,ho',_⟩:=hn';exact⟨o',ho'⟩
     ·exact⟨o,hk _ _ e h3⟩
    ns:=⟨_,hn',fun j y r h1 h2 h3=>by
     unfold upd at h3
     by_cases e:j=k
     ·subst e
      rw [AQ rfl] at h3;injection h3 with h3;subst h3
      rw [hn] at h1;injection h1 with h1;subst h1
      exact⟨v,AQ rfl,hv⟩
     ·rw [AS e] at h3
      obtain⟨u,hu,ru⟩:=hmk j y r h1 h2 h3
      refine⟨u,?_,ru⟩
      rw [AS (fun e':y=x=>e (q1o hnd h1 (e'▸hn)))]
      exact hu⟩
    cells:=fun y hy=>by
     obtain⟨c,ov,h1,h2,h3,h4,h5,h6⟩:=O.cells y hy
     refine⟨c,ov,h1,hk _ _ h3 h2,h3,h4,h5,fun j r a b=>?_⟩
     unfold upd at b
     by_cases e:j=k
     ·subst e
      rw [hn] at a;injection a with a;subst a
      rw [hl] at hy
      rcases hy with hy | hy<;>contradiction
     ·rw [AS e] at b;exact h6 j r a b }
 ·obtain⟨c',ov,h1,h2,h3,h4,h5,h6⟩:=O.cells x (.inl hc)
  rw [hcl] at h1;injection h1 with h1;subst h1
  unfold storeName
  have e1:(env.kindOf x==some NameKind.globalImplicit)=false:=by rw [hc];rfl
  have e2:(env.scope.kind==ScopeKind.class)=false:=by rw [O.kind];rfl
  simp only [e1,hc,e2,Bool.false_and,DT,if_false]
  unfold cellOf
  rw [hcl]
  refine AB (AG ?_)
  unfold cellSet
  refine AB (wpAny_load h2 ?_)
  show wpAny _ _ (update c fun o=>{ o with data:=.cell (some v) }) _ _ s
  refine wpAny_update h2 ?_
  have hup:(s.heap.update c fun o=>{ o with data:=.cell (some v) }).get? c=some (k2z (some v)):=Heap.get?_update_self _ h2 rfl
  have hk:∀ a o,a≠c->s.heap.get? a=some o->(s.heap.update c fun o=>{ o with data:=.cell (some v) }).get? a=some o:=fun a o h e=>(Heap.get?_update_ne _ _ _ _ h).trans e
  generalize s.heap.update c (fun o=>{ o with data:=.cell (some v) })=h' at hup hk ⊢
  have R':SR I w.params g Z H h':=R.off_ (fun a=>a=c) (fun a e=>e▸h4) (fun a i e=>e▸h5 i) fun a o h e=>hk a o h e
  refine q () g Z { s with heap:=h' } (z1e.touch (tk:=s.toks) .refl (fun a=>a=c) (fun a o e _=>e▸hco) hk (fun a o e _=>⟨_,e▸hup⟩)) R' ⟨?_,rfl,rfl⟩
  exact {
   kind:=O.kind,glob:=O.glob,bi:=O.bi,lg:=O.lg,lb:=O.lb,lown:=O.lown,apart:=O.apart,code:=O.code
   ownz:=fun a ha=>by
    obtain⟨h1,h2,o,h3⟩:=O.ownz a ha
    refine⟨h1,h2,?_⟩
    by_cases e:a=c
    ·exact⟨_,e▸hup⟩
    ·exact⟨o,hk _ _ e h3⟩
   ns:=by
    obtain⟨o,es,ep,a1,a2⟩:=hm
    refine⟨m,⟨o,es,ep,hk _ _ (Ne.symm h3) a1,a2⟩,fun j y r b1 b2 b3=>?_⟩
    unfold upd at b3
    by_cases e:j=k
    ·subst e
     rw [hn] at b1;injection b1 with b1;subst b1
     rw [hc] at b2;contradiction
    ·rw [AS e] at b3;exact hmk j y r b1 b2 b3
   cells:=fun y hy=>by
    obtain⟨c',ov',k1,k2,k3,k4,k5,k6⟩:=O.cells y hy
    by_cases e:c'=c
    ·subst e
     have hxy:=O.apart _ _ _ k1 hcl
     subst hxy
     refine⟨c',some v,k1,hup,k3,k4,k5,fun j r a b=>?_⟩
     unfold upd at b
     have:j=k:=q1o hnd a hn
     rw [AQ this] at b;injection b with b;subst b
     exact⟨v,rfl,hv⟩
    ·refine⟨c',ov',k1,hk _ _ e k2,k3,k4,k5,fun j r a b=>?_⟩
     unfold upd at b
     by_cases e2:j=k
     ·subst e2
      rw [hn] at a;injection a with a;subst a
      rw [k1] at hcl;injection hcl with hcl;subst hcl
      exact absurd rfl e
     ·rw [AS e2] at b;exact k6 j r a b }
theorem y0t{x:Str}{k:Nat}{v:Value}{p:PV}(hnd:I.nm.Nodup)(R:SR I w.params g Z H s.heap)(O:z0j I own env Y g Z s.heap)(hn:I.nm[k]?=some x)(hs:Mine.storeable env own x)(hv:Rel I g Z v p) :
  Go I prog w A own L g Z H (bindName env x v) H (fun g' Z' s' _=>z0j I own env (upd Y k p) g' Z' s'.heap/\g'=g/\Z'=Z) s:=
 fun Q E q=>wpAny_bindName (y3b hnd R O hn hs hv Q E q)
noncomputable def z7e(I:z3w)(ok:Str->Bool)(e:Expr)(k:Nat):Bool:=y9b e fun x=>I.nm[k]?==some x&&ok x
noncomputable def z4j(I:z3w)(ok:Str->Bool):List Expr->List Nat->Bool
 | [],[]=>true
 | e::es,k::ks=>z7e I ok e k&&z4j I ok es ks
 | _,_=>false
noncomputable def z5x(I:z3w)(ok:Str->Bool)(e:Expr)(p:Pat):Bool:=match p with
 | .one k=>z7e I ok e k
 | .tup ks=>x7u e fun es=>z4j I ok es ks
theorem z3c{I:z3w}{ok:Str->Bool}{e:Expr}{k:Nat}(h:z7e I ok e k=true):∃ x pos,e=.Name x pos/\I.nm[k]?=some x/\ok x=true:=by
 obtain⟨x,p,h1,h2⟩:=q1d h
 exact⟨x,p,h1,BI (z0v h2).1,(z0v h2).2⟩
noncomputable def y7l(I:z2w)(own:List Addr)(env:Env)(Y:z0n)(g:Fz)(Z:Bt):Fz->Bt->Shared->Unit->Prop:=
 fun g' Z' s' _=>z0j I own env Y g' Z' s'.heap/\(∀ a o,g a=some o->g' a=some o)/\∀ i a,Z i=some a->Z' i=some a
theorem y0u{Y Y':z0n}{k:Nat}{ks:List Nat}{ps:List PV}(h:z4g Y (k::ks) ps=some Y'):∃ v vs,ps=v::vs/\z4g (upd Y k v) ks vs=some Y':=by
 induction ps using List.casesOn with
 | nil=>exact sn h
 | cons v vs=>exact⟨v,vs,rfl,h⟩
theorem q7o{Y Y':z0n}{ps:List PV}(h:z4g Y [] ps=some Y'):ps=[]/\Y=Y':=by
 induction ps using List.casesOn with
 | nil=>exact⟨rfl,AF h⟩
 | cons v vs=>exact sn h
theorem q7p{ok:Str->Bool}(hnd:I.nm.Nodup)(hok:∀ x,ok x=true->Mine.storeable env own x):∀ {es:List Expr} {ks:List Nat} {vs:List Value} {ps:List PV} {Y Y':z0n} {g:Fz} {Z:Bt} {s:Shared},
  z4j I.t ok es ks=true->SR I w.params g Z H s.heap->z0j I own env Y g Z s.heap->z0e I g Z vs ps->z4g Y ks ps=some Y' ->
  Go I prog w A own L g Z H (assignInOrder ((assignEach es env).map (·.2)) vs) H (y7l I own env Y' g Z) s
 | [],ks,vs,ps,Y,Y',g,Z,s,hc,R,O,hr,hu=>by
  induction ks using List.casesOn with
  | cons _ _=>contradiction
  | nil=>
   induction ps using List.casesOn with
   | cons _ _=>contradiction
   | nil=>
    cases hr
    obtain rfl:Y=Y':=AF hu
    exact Go.pure R ⟨O,fun _ _ h=>h,fun _ _ h=>h⟩
 | e::es,ks,vs,ps,Y,Y',g,Z,s,hc,R,O,hr,hu=>by
  induction ks using List.casesOn with
  | nil=>contradiction
  | cons k ks=>
   obtain⟨h1,h2⟩:=AH.mp hc
   obtain⟨x,pos,rfl,hx,hxo⟩:=z3c h1
   induction ps using List.casesOn with
   | nil=>contradiction
   | cons p ps=>
    cases hr with
    | cons hv hr=>
     rename_i v vs
     show Go I prog w A own L g Z H (PySem.holding vs (PySem.standAt pos>>=fun _=>bindName env x v)>>=fun _=>assignInOrder ((assignEach es env).map (·.2)) vs) H _ s
     refine Go.bind R (Go.holding (Go.standAt (y0t hnd R O hx (hok x hxo) hv))) fun _ gb Z1 sB G Rb q=>?_
     obtain⟨Ob,rfl,rfl⟩:=q
     exact q7p hnd hok h2 Rb Ob hr hu
theorem z7w{I:z3w}(env:Env){ok:Str->Bool}:∀ {es:List Expr} {ks:List Nat},z4j I ok es ks=true->(assignEach es env).length=es.length/\(assignEach es env).findIdx? (·.1)=none/\es.length=ks.length
 | [],ks,h=>by
  induction ks using List.casesOn with
  | nil=>exact⟨rfl,rfl,rfl⟩
  | cons _ _=>contradiction
 | e::es,ks,h=>by
  induction ks using List.casesOn with
  | nil=>contradiction
  | cons k ks=>
   obtain⟨h1,h2⟩:=AH.mp h
   obtain⟨x,pos,rfl,_,_⟩:=z3c h1
   obtain⟨a,b,c⟩:=z7w env h2
   refine⟨by show(_::assignEach es env).length=_;simp [a],?_,by simp [c]⟩
   show List.findIdx? _ ((false,_)::assignEach es env)=none
   rw [List.findIdx?_cons]
   simp [b]
theorem y5h{ks:List Nat}{p:PV}{Y Y':z0n}(h:z1v Y (.tup ks) p=some Y'):∃ l,p=.tup l/\z4g Y ks l=some Y':=by
 induction p using PV.casesOn<;>first | exact⟨_,rfl,h⟩ | contradiction
theorem y2c:∀ {ks:List Nat} {ps:List PV} {Y Y':z0n},z4g Y ks ps=some Y'->ks.length=ps.length
 | [],[],_,_,_=>rfl
 | [],_::_,_,_,h=>by contradiction
 | _::_,[],_,_,h=>by contradiction
 | k::ks,p::ps,_,_,h=>by simp [y2c (ks:=ks) (ps:=ps) h]
theorem y0v{ok:Str->Bool}{t:Expr}{pt:Pat}{v:Value}{p:PV}(hnd:I.nm.Nodup)(hok:∀ x,ok x=true->Mine.storeable env own x)(hA:AOk A lv)(hc:z5x I.t ok t pt=true)(R:SR I w.params g Z H s.heap)(O:z0j I own env Y g Z s.heap)
 (hv:Rel I g Z v p)(hb:z1v Y pt p=some Y'):Go I prog w A own L g Z H (assign t env v) H (y7l I own env Y' g Z) s:=by
 cases pt with
 | one k=>
  obtain⟨x,pos,rfl,h1,h2⟩:=z3c (show z7e I.t ok t k=true from hc)
  injection hb with hb;subst hb
  show Go I prog w A own L g Z H (PySem.standAt pos>>=fun _=>bindName env x v) H _ s
  refine(Go.standAt (y0t hnd R O h1 (hok x h2) hv)).mono fun _ gb Z1 sB G Rb q=>?_
  obtain⟨Ob,rfl,rfl⟩:=q
  exact⟨Ob,fun _ _ h=>h,fun _ _ h=>h⟩
 | tup ks=>
  obtain⟨es,k,pos,rfl,hc⟩:=y9c (show x7u t (fun es=>z4j I.t ok es ks)=true from hc)
  obtain⟨l,rfl,hb⟩:=y5h hb
  obtain⟨a,o,vs,rfl,g1,g4,g2,g3⟩:=hv.tup_inv
  obtain⟨e1,e2,e3⟩:=z7w env hc
  have e4:=y2c hb
  have e5:=g3.length
  intro Q E q
  show wpAny (model prog w) A (PySem.standAt pos>>=fun _=>unpack (.ref a) (assignEach es env)) Q E s
  refine AB (BT (wpAny_unpack_tuple hA.handled (z3z (R.sub _ _ g1) g4) (by rw [e1,e3,e4,<- e5];simp) e2 fun h' he=>?_))
  have hk:∀ b o,s.heap.get? b=some o->h'.get? b=some o:=fun b o e=>he b o (DL (CO e)) e
  have R':SR I w.params g Z H h':=R.keepAll hk
  have G':z1e own L g Z H s g Z H { s with heap:=h' }:=z1e.keepAll (tk:=s.toks) hk
  have O':z0j I own env Y g Z h':=(O.step (z1e.keepAll (L:=L) (H:=H) (tk:=s.toks) hk):z0j I own env Y g Z _)
  exact q7p (s:={ s with heap:=h' }) hnd hok hc R' O' g3 hb Q E fun a gb Z1 sB G Rb p=>q a gb Z1 sB (G'.trans R G) Rb p
end
noncomputable def y4c(prog:Program)(w:World)(A:Around)(tgt:Expr)(A7:Addr)(N:Shared->Prop)(K E:Value->Shared->Prop):Option Value->Shared->Prop
 | none,sB=>N sB
 | some v,sB=>wpAny (model prog w) A (letOwnedTupleGo tgt (.ref A7) v) (fun _ sC=>K v sC) E sB
structure y0w(prog:Program)(w:World)(A:Around)(zp:Bool)(A7:Addr)(fp wr:List Addr)(n:Nat)(Pi:Nat->Value->Prop)(Pt:Nat->List Value->Prop)(St:Nat->Heap->Prop):Prop where
 sub:∀ b,b∈wr->b∈fp
 frame:∀ i h h',St i h->(∀ b,b∈fp->∀ o,h.get? b=some o->h'.get? b=some o)->St i h'
 item:∀ i (s:Shared) (tgt:Expr) (N:Shared->Prop) (K E:Value->Shared->Prop),(zp=true->tgt.ctorIdx=25)->i<n->St i s.heap ->
  (∀ v h' tk,Pi i v->St (i+1) h'->(∀ b o,b∉wr->s.heap.get? b=some o->h'.get? b=some o)->K v { s with heap:=h',toks:=tk }) ->
  (∀ T o vs h' tk,Pt i vs->s.heap.get? T=none->h'.get? T=some o->IsT o vs->St (i+1) h'->(∀ b o,b∉wr->s.heap.get? b=some o->h'.get? b=some o)->K (.ref T) { s with heap:=h',toks:=tk }) ->
  wpAny (model prog w) A (pyNext (.ref A7)) (y4c prog w A tgt A7 N K E) E s
 done:∀ (s:Shared) (tgt:Expr) (N:Shared->Prop) (K E:Value->Shared->Prop),St n s.heap ->
  (∀ h' tk,(∀ b o,b∉wr->s.heap.get? b=some o->h'.get? b=some o)->N { s with heap:=h',toks:=tk })->wpAny (model prog w) A (pyNext (.ref A7)) (y4c prog w A tgt A7 N K E) E s
 self:∀ i (s:Shared) (Q:Value->Shared->Prop) (E:Value->Shared->Prop),St i s.heap->Q (.ref A7) s->wpAny (model prog w) A (pyIter (.ref A7)) Q E s
 alive:∀ i (h:Heap),St i h->∀ b,b∈wr->∃ o,h.get? b=some o
inductive x5u(prog:Program)(w:World)(A:Around)(I:z2w)(zp:Bool)(own:List Addr)(L:Lim)(g:Fz)(Z:Bt)(H:z0b)(items:List PV)(s0:Heap)(it:Value)(h:Heap):Prop
 | mk (A7:Addr) (fp wr:List Addr) (Pi:Nat->Value->Prop) (Pt:Nat->List Value->Prop) (St:Nat->Heap->Prop) (h1:it=.ref A7) (h2:y0w prog w A zp A7 fp wr items.length Pi Pt St) (h3:St 0 h) (h4:∀ i v,Pi i v->∃ p,items[i]?=some p/\Rel I g Z v p) (h5:∀ i vs,Pt i vs->∃ ps,items[i]?=some (.tup ps)/\z0e I g Z vs ps/\vs.length<=z2n)
  (h6:∀ b,b∈fp->(∃ o,h.get? b=some o)/\b∉own/\z9l L Z H b) (h7:∀ b,b∈wr->g b=none/\(∀ i,Z i≠some b)/\s0.get? b=none):x5u prog w A I zp own L g Z H items s0 it h
noncomputable def Lim.up(L:Lim)(up:Bool)(H:z0b):Lim:=if up then⟨H.length,H.length⟩ else L
section
variable {I:z2w} {own own':List Addr} {L:Lim} {w:World} {g gb gC:Fz} {Z Z1 Z2:Bt} {H Hb H2:z0b} {s sB sC:Shared} {env:Env} {Y Y':z0n} {A:Around} {prog:Program} {lv:Nat}
theorem z1o{a:Addr}(h:∀ i,Z i≠some a):z9l L Z H a:=fun i e=>(h i e).elim
theorem y9h{L:Lim}(R:SR I w.params g Z H s.heap)(a:Addr):z9l ⟨H.length,H.length⟩ Z H a:=fun i e=>⟨fun _ _=>R.lt i a e,fun _ _=>R.lt i a e⟩
theorem SR.not_frozen_cell(R:SR I w.params g Z H s.heap){a:Addr}{o:Obj}(h:g a=some o):∀ i,Z i≠some a:=fun i e=>by rw [R.off i a e] at h;contradiction
theorem z0e.getP{vs:List Value}{ps:List PV}{i:Nat}{v:Value}(r:z0e I g Z vs ps)(h:vs[i]?=some v):∃ p,ps[i]?=some p/\Rel I g Z v p:=by
 have hlt:i<ps.length:=r.length▸(AU.mp h).1
 obtain⟨v',e1,e2⟩:=r.get (AP hlt)
 cases h.symm.trans e1
 exact⟨_,AP hlt,e2⟩
noncomputable def y4d(n:String):Bool:=(["enumerate","zip","dict_itemiterator","dict_reverseitemiterator","odict_iterator","itertools.zip_longest","itertools.pairwise"]:List String).contains n
theorem y6x{tgt:Expr}{A7:Addr}{v:Value}{o:Obj}{n:String}{Q:Unit->Shared->Prop}{E:Value->Shared->Prop}(ho:s.heap.get? A7=some o)(hc:o.cls=.type n)(hn:y4d n=false)(hq:Q () s) :
  wpAny (model prog w) A (letOwnedTupleGo tgt (.ref A7) v) Q E s:=by
 have key:∀ a:Addr,wpAny (model prog w) A (do
   let o<-load A7
   match o.cls,o.data with
   | .type n,.fields vs=>
    if["enumerate","zip","dict_itemiterator","dict_reverseitemiterator","odict_iterator","itertools.zip_longest","itertools.pairwise"].contains n&&vs[0]?==some (rawInt a) then
     rule "for.unpacks-the-owned-tuple"
     updateField A7 0 .none
   | _,_=>pure ()) Q E s:=fun a=>by
  refine AB (wpAny_load ho ?_)
  rw [hc]
  cases hd:o.data<;>first | exact AG hq | skip
  unfold y4d at hn
  show wpAny _ _ (if(_&&_)=true then _ else _) _ _ _
  rw [hn,Bool.false_and]
  exact AG hq
 have k2:wpAny (model prog w) A (letOwnedTupleGo (.Tuple [] 0 default) (.ref A7) v) Q E s:=by induction v using Value.casesOn<;>first | exact AG hq | exact key _
 have k3:wpAny (model prog w) A (pure ()) Q E s:=AG hq
 clear key ho hc hn hq
 induction tgt using Expr.casesOn<;>first | exact k3 | exact k2
theorem y0w.of{A7:Addr}{fp:List Addr}{n:Nat}{P:Nat->Value->Prop}{St:Nat->Heap->Prop}(hT:∀ i (h:Heap),St i h->∃ o n,h.get? A7=some o/\o.cls=.type n/\y4d n=false)(W:Walks prog w A A7 fp [A7] n P St) :
  y0w prog w A false A7 fp [A7] n P (fun _ _=>False) St where
 sub:=W.sub
 frame:=W.frame
 item:=fun i s tgt N K E _ hi st k _=>W.item i s _ E hi st fun v h' tk hv hst hk=>by
  obtain⟨o,m,h1,h2,h3⟩:=hT _ _ hst
  exact y6x (s:={ s with heap:=h',toks:=tk }) h1 h2 h3 (k v h' tk hv hst hk)
 done:=fun s tgt N K E st k=>W.done s _ E st fun h' tk hk=>k h' tk hk
 self:=W.self
 alive:=fun i h st b hb=>by
  obtain⟨o,m,h1,_⟩:=hT i h st
  exact⟨o,AL.mp hb▸h1⟩
theorem y0x{items:List PV}{oI:Obj}{fp:List Addr}{P:Nat->Value->Prop}{St:Nat->Heap->Prop}(R:SR I w.params g Z H s.heap)
 (hz:∀ a,a∈own->∃ o,s.heap.get? a=some o)
 (hf:oI.isFreed=false)(hT:∀ i (h:Heap),St i h->∃ o n,h.get? s.heap.objs.size=some o/\o.cls=.type n/\y4d n=false)
 (W:Walks prog w A s.heap.objs.size fp [s.heap.objs.size] items.length P St)(hst:St 0 (s.heap.push oI))(hP:∀ i v,P i v->∃ p,items[i]?=some p/\Rel I g Z v p)
 (hfp:∀ b,b∈fp->b≠s.heap.objs.size->(∃ o,s.heap.get? b=some o)/\b∉own/\z9l L Z H b):x5u prog w A I false own L g Z H items s.heap (.ref s.heap.objs.size) (s.heap.push oI):=by
 have hnone:=get?_size s.heap
 have hnb:∀ i,Z i≠some s.heap.objs.size:=fun i e=>by obtain⟨o,ho⟩:=R.here e;rw [hnone] at ho;contradiction
 refine⟨s.heap.objs.size,fp,[s.heap.objs.size],P,_,St,rfl,y0w.of hT W,hst,hP,fun i vs h=>h.elim,fun b hb=>?_,fun b hb=>?_⟩
 ·by_cases e:b=s.heap.objs.size
  ·subst e
   exact⟨⟨oI,AZ _ hf⟩,(fun m=>by obtain⟨o,ho⟩:=hz _ m;rw [hnone] at ho;contradiction),z1o hnb⟩
  ·obtain⟨⟨o,ho⟩,h2,h3⟩:=hfp b hb e
   exact⟨⟨o,AO _ ho⟩,h2,h3⟩
 ·rw [AL.mp hb]
  exact⟨R.gfree hnone,hnb,hnone⟩
theorem q1p{a:Addr}{o:Obj}{vs:List Value}{items:List PV}(R:SR I w.params g Z H s.heap)(hA:A.handled=none)(hz:∀ a,a∈own->∃ o,s.heap.get? a=some o)(ha:s.heap.get? a=some o)(qa:IsL o vs)(hr:z0e I g Z vs items)(hno:a∉own)(hfx:z9l L Z H a)
 {Q:Value->Shared->Prop}{E:Value->Shared->Prop}(q:∀ it oI tk,oI.isFreed=false->x5u prog w A I false own L g Z H items s.heap it (s.heap.push oI)->Q it { s with heap:=s.heap.push oI,toks:=tk }):wpAny (model prog w) A (pyIter (.ref a)) Q E s:=by
 have hne:a≠s.heap.objs.size:=DL (CO ha)
 refine wpAny_pyIter_list (z0s ha qa) (q _ _ s.toks rfl ?_)
 have W:=Walks.list (prog:=prog) (w:=w) hA s.heap.objs.size a hne vs.toArray
 rw [List.size_toArray.trans hr.length] at W
 refine y0x R hz rfl (fun i h st=>let ⟨o,h1,h2,_⟩:=st.1;⟨o,_,h1,h2,by decide⟩) W ⟨⟨_,AZ _ rfl,rfl,rfl⟩,(z0s ha qa).push _⟩ (fun i v hv=>hr.getP (DR▸hv)) fun b hb hne'=>?_
 rcases AR.mp hb with h | h
 ·exact(hne' h).elim
 ·obtain rfl:=AL.mp h
  exact⟨⟨o,ha⟩,hno,hfx⟩
theorem q5c{u:Value}{p:PV}{items:List PV}{up:Bool}(R:SR I w.params g Z H s.heap)(hA:A.handled=none)(hz:∀ a,a∈own->g a=none/\(∀ i,Z i≠some a)/\∃ o,s.heap.get? a=some o)(hu:Rel I g Z u p)(e:x7o H p=some (items,up))
 {Q:Value->Shared->Prop}{E:Value->Shared->Prop}(q:∀ it oI tk,oI.isFreed=false->x5u prog w A I false own (L.up up H) g Z H items s.heap it (s.heap.push oI)->Q it { s with heap:=s.heap.push oI,toks:=tk }) :
  wpAny (model prog w) A (pyIter u) Q E s:=by
 have hz':∀ a,a∈own->∃ o,s.heap.get? a=some o:=fun a h=>(hz a h).2.2
 induction p using PV.casesOn with
 | lst l=>
  injection e with e;injection e with eB eC;subst eB;subst eC
  obtain⟨a,o,vs,rfl,g1,g4,g2,g3⟩:=hu.lst_inv
  exact q1p R hA hz' (R.sub _ _ g1) g4 g3 (fun m=>by rw [(hz _ m).1] at g1;contradiction) (z1o (R.not_frozen_cell g1)) q
 | tup l=>
  injection e with e;injection e with eB eC;subst eB;subst eC
  obtain⟨a,o,vs,rfl,g1,g4,g2,g3⟩:=hu.tup_inv
  have ha:=R.sub _ _ g1
  have hne:a≠s.heap.objs.size:=DL (CO ha)
  refine wpAny_pyIter_tuple (z3z ha g4) (q _ _ s.toks rfl ?_)
  have W:=Walks.tuple (prog:=prog) (w:=w) hA s.heap.objs.size a hne vs.toArray
  rw [List.size_toArray.trans g3.length] at W
  refine y0x R hz' rfl (fun i h st=>let ⟨o,h1,h2,_⟩:=st.1;⟨o,_,h1,h2,by decide⟩) W ⟨⟨_,AZ _ rfl,rfl,rfl⟩,⟨o,AO _ ha,g4⟩⟩ (fun i v hv=>g3.getP (DR▸hv)) fun b hb hne'=>?_
  rcases AR.mp hb with h | h
  ·exact(hne' h).elim
  ·obtain rfl:=AL.mp h
   exact⟨⟨o,ha⟩,(fun m=>by rw [(hz _ m).1] at g1;contradiction),z1o (R.not_frozen_cell g1)⟩
 | str x=>
  injection e with e;injection e with eB eC;subst eB;subst eC
  obtain⟨t,rfl⟩:=hu.str_inv
  have hP:∀ i v,SignAt x i v->∃ p,(x.cps.toList.map fun c=>PV.str ⟨#[c]⟩)[i]?=some p/\Rel I g Z v p:=fun i v hv=>by
   obtain⟨c,u,hc,rfl⟩:=hv
   exact⟨.str ⟨#[c]⟩,by rw [BC,Array.getElem?_toList,hc];rfl,.str _ _⟩
  have hfp:∀ b,b∈[s.heap.objs.size]->b≠s.heap.objs.size->(∃ o,s.heap.get? b=some o)/\b∉own/\z9l (L.up false H) Z H b:=fun b hb hn=>absurd (AL.mp hb) hn
  have hlen:x.cps.size=(x.cps.toList.map fun c=>PV.str ⟨#[c]⟩).length:=by rw [AJ,CL]
  cases ha:x.cps.all (·<128)
  ·refine wpAny_pyIter_wide ha (q _ _ s.toks rfl ?_)
   have W:=Walks.strWide (prog:=prog) (w:=w) hA s.heap.objs.size x t
   rw [hlen] at W
   exact y0x R hz' rfl (fun i h st=>let ⟨o,h1,h2,_⟩:=st;⟨o,_,h1,h2,by decide⟩) W ⟨_,AZ _ rfl,rfl,rfl⟩ hP hfp
  ·refine wpAny_pyIter_ascii ha (q _ _ s.toks rfl ?_)
   have W:=Walks.strAscii (prog:=prog) (w:=w) hA s.heap.objs.size x t
   rw [hlen] at W
   exact y0x R hz' rfl (fun i h st=>let ⟨o,h1,h2,_⟩:=st;⟨o,_,h1,h2,by decide⟩) W ⟨_,AZ _ rfl,rfl,rfl⟩ hP hfp
 | ref i=>
  obtain⟨l,hl,e⟩:=z1d e
  cases e
  obtain⟨a,rfl,hi⟩:=hu.ref_inv
  obtain⟨o,vs,c1,c4,c2,c3,_⟩:=R.cell _ _ _ hi (z3y hl)
  exact q1p R hA hz' c1 c4 c3 (fun m=>(hz _ m).2.1 _ hi) (y9h (L:=L) R _) q
 | _=>contradiction
theorem j0k{a b:Int}{i:Nat}(h:i<(b - a).toNat):(z5h a b)[i]?=some (.int (a+i)):=by
 unfold z5h
 rw [BC,EB h];rfl
theorem y2d(a b:Int):(z5h a b).length=(b - a).toNat:=by unfold z5h;simp
theorem y0y(a b:Int):Builtin.Range.rangeSize a b 1=((b - a).toNat:Int):=by
 show(if a<b then(b - a - 1) / 1+1 else 0)=_
 by_cases h:a<b
 ·rw [AQ h,Int.ediv_one];lia
 ·rw [AS h];lia
theorem y5i{x:Int}(h:x.natAbs<=2000000):Builtin.Range.rangeFitsLong x=true:=
 AH.mpr ⟨AV (i64 h).1,AV (i64 h).2⟩
theorem q5d{a b:Int}(ha:a.natAbs<=1000000)(hb:b.natAbs<=1000000):Builtin.Range.small a b 1=true:=by
 unfold Builtin.Range.small
 have h2:Builtin.Range.rangeFitsLong b=true:=y5i (AA hb (by decide))
 rw [y0y,Int.sub_self,Int.add_zero,y5i (x:=a) (AA ha (by decide)),h2,y5i (x:=(((b - a).toNat:Nat):Int)) (AA (AA (m:=(b - a).natAbs) (q0z _) (Int.natAbs_sub_le b a)) (BK hb ha))]
 show(true&&true&&_&&true&&(_ || true))=true
 rw [Bool.or_true]
 rfl
theorem q1q{a b:Int}{t u v:Tok}{r:Addr}{items:List PV}(R:SR I w.params g Z H s.heap)(hA:A.handled=none)(hz:∀ a,a∈own->g a=none/\(∀ i,Z i≠some a)/\∃ o,s.heap.get? a=some o)
 (hr:IsRange s.heap r a b 1 t u v)(ha:a.natAbs<=1000000)(hb:b.natAbs<=1000000)(hi:items=z5h a b)
 {Q:Value->Shared->Prop}{E:Value->Shared->Prop}(q:∀ it oI tk,oI.isFreed=false->x5u prog w A I false own L g Z H items s.heap it (s.heap.push oI)->Q it { s with heap:=s.heap.push oI,toks:=tk }) :
  wpAny (model prog w) A (pyIter (.ref r)) Q E s:=by
 subst hi
 refine wpAny_pyIter_range hr (q5d ha hb) (q _ _ s.toks rfl ?_)
 have W:=(Walks.range (prog:=prog) (w:=w) hA s.heap.objs.size a 1 (b - a).toNat).bound
 rw [<- y2d a b] at W
 refine y0x R (fun a h=>(hz a h).2.2) rfl (fun i h st=>⟨_,_,st,rfl,by decide⟩) W ?_ (fun i v hv=>?_) fun b hb hn=>absurd (AL.mp hb) hn
 ·rw [y0y,y2d]
  show IsRangeIter _ _ _ _ _
  have:=AZ (h:=s.heap) (o:={ cls:=.type "range_iterator",data:=.fields #[rawInt a,rawInt (((b - a).toNat:Nat):Int),rawInt 1] }) rfl
  simpa [IsRangeIter] using this
 ·obtain⟨hi,t,rfl⟩:=hv
  rw [y2d] at hi
  exact⟨_,j0k hi,by rw [Int.mul_one];exact .int _ _⟩
end
noncomputable abbrev Sc:=List (Str×NameKind)
noncomputable def q7q(sc:Sc)(x:Str):Bool:=(sc.lookup x==some .local || sc.lookup x==some .cell || sc.lookup x==some .free)&&!(x==("__debug__":Str))&&!(x==("__classdict__":Str))
noncomputable def q1r(I:z3w)(sc:Sc)(x:Str)(v:Value):Bool:=sc.lookup x==some .globalImplicit&&I.gv.lookup x==some v&&!(x==("__debug__":Str))
noncomputable def z1m(sc:Sc)(x:Str):Bool:=sc.lookup x==some .local || sc.lookup x==some .cell
noncomputable def z1h(e:Expr):Bool:=j0e e fun f es ks _=>f.ctorIdx==23&&d0 es&&d0 ks
noncomputable def y5j(e:Expr):Bool:=e.ctorIdx==7
noncomputable def z8l(e:Expr):Bool:=e.ctorIdx==22
noncomputable def z0z(I:z3w)(sc:Sc)(e:Expr)(v:Value):Bool:=y9b e fun x=>q1r I sc x v
noncomputable def q1s:q7h->Option Value
 | .len=>some (.builtin "len")
 | .sum=>some (.builtin "sum")
 | .max=>some (.builtin "max")
 | .sorted=>some (.builtin "sorted")
 | .int=>some (.type "int")
 | .hex=>some (.builtin "hex")
 | .tuple=>some (.type "tuple")
 | _=>none
noncomputable def y4e:q7h->Option String
 | .lower=>some "lower"
 | .upper=>some "upper"
 | .split=>some "split"
 | .join=>some "join"
 | .index=>some "index"
 | _=>none
noncomputable def y9i(e:Expr):Bool:=if e.ctorIdx==15 then k3n e fun _ os bs=>d1 os (fun _=>d1 bs fun r=>!y5j r) else !(e.ctorIdx==0)&&!(e.ctorIdx==5)&&!(e.ctorIdx==3&&dUn e fun o _=>o==.Not)
noncomputable def j3q:DisplayRoad->Bool
 | .oneByOne=>true
 | _=>false
noncomputable def z4s(sc inner:Sc):Sc:=inner.map fun nk=>if nk.2==.free&&sc.lookup nk.1==some .cell then(nk.1,.cell) else nk
noncomputable def z2k{V A8:Type}(f:V->A8->Bool):List V->List A8->Bool
 | [],[]=>true
 | a::as,b::bs=>f a b&&z2k f as bs
 | _,_=>false
noncomputable def j0l:z6g->Bool
 | .zip=>true
 | _=>false
noncomputable def z9r(e:Expr)(k:Expr->List Expr->Pos->Bool):Bool:=j0e e fun f es ks cp=>d0 ks&&k f es cp
noncomputable def y3c(e:Expr)(k:Expr->Str->List Expr->List Keyword->Bool):Bool:=j0e e fun f es ks cp=>q4v f fun o x ap=>ap.endLine==cp.line&&!z1h o&&k o x es ks
noncomputable def y2e(I:z3w)(cE:Expr->ME->Bool)(sc:Sc)(iter:Expr)(k:z6g)(args:List ME):Bool:=!y5j iter&&match k with
 | .over=>d1 args fun m=>cE iter m
 | .range=>z9r iter fun f es _=>z0z I sc f (.type "range")&&z2k cE es args
 | .zip=>z9r iter fun f es _=>z0z I sc f (.type "zip")&&z2k cE es args
 | .items=>d1 args fun m=>y3c iter fun o x es ks=>d0 es&&d0 ks&&x==("items":Str)&&cE o m
noncomputable def j3r(I:z3w)(cE:Expr->ME->Bool)(cT:Expr->ME->Bool)(sc:Sc)(ok:Str->Bool)(c:Comprehension)(gn:Pat×z6g×List ME×List ME):Bool:=
 z5x I ok c.target gn.1&&c.is_async==0&&z2k cT c.ifs gn.2.2.2&&(!j0l gn.2.1 || c.target.ctorIdx==25)
noncomputable def y4f(I:z3w)(cE cT:Expr->ME->Bool)(sc:Sc)(ok:Str->Bool):List Comprehension->List (Pat×z6g×List ME×List ME)->Bool
 | [],[]=>true
 | c::cs,gn::gs=>j3r I cE cT sc ok c gn&&y2e I cE sc c.iter gn.2.1 gn.2.2.1&&y4f I cE cT sc ok cs gs
 | _,_=>false
noncomputable def y5k(cE:Expr->ME->Bool):Option Expr->Option ME->Bool
 | none,none=>true
 | some e,some m=>cE e m
 | _,_=>false
noncomputable def q7r(I:z3w)(gs:List (Pat×z6g×List ME×List ME))(x:Str):Bool:=gs.any fun gn=>(z2u gn.1).any fun k=>I.nm[k]?==some x
noncomputable def y0z(I:z3w)(sc:Sc)(inner:Scope)(gs:List (Pat×z6g×List ME×List ME)):Bool:=
 inner.kind==.function&&(inner.names.all fun nk=>inner.names.lookup nk.1==some nk.2)&&decide ((gs.flatMap fun gn=>z2u gn.1).Nodup)&&inner.names.all (fun nk=>match nk.2 with
  | .local=>(nk.1==(".0":Str)&&!I.nm.contains (".0":Str)) || q7r I gs nk.1
  | .cell=>q7r I gs nk.1
  | .free=>sc.lookup nk.1==some .cell || sc.lookup nk.1==some .free
  | .globalImplicit=>true
  | .globalExplicit=>false)
noncomputable def x8g(inner:Scope)(x:Str):Bool:=inner.names.lookup x==some .local || inner.names.lookup x==some .cell
noncomputable def q1t(I:z3w)(cE cT:Sc->Expr->ME->Bool)(sc sc':Sc)(ok:Str->Bool):List Comprehension->List (Pat×z6g×List ME×List ME)->Bool
 | c::cs,gn::gs=>j3r I (cE sc') (cT sc') sc' ok c gn&&y2e I (cE sc) sc c.iter gn.2.1 gn.2.2.1&&y4f I (cE sc') (cT sc') sc' ok cs gs
 | _,_=>false
noncomputable def q5e(l:List ME)(k:ME->List ME->Bool):Bool:=match l with
 | o::r=>k o r
 | []=>false
noncomputable def y9j(I:z3w)(c:Expr->ME->Bool)(sc:Sc)(e:Expr)(p:q7h)(args:List ME):Bool:=match q1s p with
 | some v=>z9r e fun f es _=>z0z I sc f v&&decide (es.length<20)&&z2k c es args
 | none=>(match y4e p with
  | some nmx=>q5e args fun o r=>y3c e fun o' x es ks=>d0 ks&&x==Str.ofString nmx&&decide (es.length<20)&&c o' o&&z2k c es r
  | none=>(match p with
   | .flagGet=>j0e e fun f es ks cp=>q4v f fun d x ap=>ap.endLine==cp.line&&d0 ks&&x==("get":Str)&&z0z I sc d (.ref I.dA)&&es.length==2&&z2k c es args
   | .search=>q5e args fun o r=>y3c e fun o' x es ks=>d0 ks&&x==("search":Str)&&es.length==1&&c o' o&&z2k c es r
   | .lenSet=>z9r e fun f es _=>d1 es fun a=>w6d a fun es n=>n==0&&z0z I sc f (.builtin "len")&&es.length==4&&j3q (displayRoad 0 es)&&z2k c es args
   | _=>false))
noncomputable def q7s(I:z3w)(cE cT:Sc->Expr->ME->Bool)(sc:Sc)(e:Expr)(m:ME):Bool:=match m with
  | .none=>k2x e fun c=>c==.none
  | .bool b=>k2x e fun c=>c==.bool b
  | .int i=>k2x e fun c=>c==.int i
  | .str x=>k2x e fun c=>c==.str x
  | .dbg=>y9b e fun x=>x==("__debug__":Str)
  | .var k=>y9b e fun x=>I.nm[k]?==some x&&q7q sc x
  | .neg a=>dUn e fun o a'=>o==.USub&&cE sc a' a
  | .bin o a b=>w2d e fun a' o' b'=>o'==o.op&&cE sc a' a&&cE sc b' b
  | .cmp o a b=>k3n e fun a' os bs=>d1 os fun o'=>d1 bs fun b'=>o'==o.op&&!y5j b'&&cE sc a' a&&cE sc b' b
  | .isNone ng a=>k3n e fun a' os bs=>d1 os fun o'=>d1 bs fun b'=>o'==(if ng then .IsNot else .Is)&&k2x b' (fun c=>c==.none)&&cE sc a' a
  | .isTy ng t a=>k3n e fun l os bs=>d1 os fun o'=>d1 bs fun ty=>z9r l fun f es _=>d1 es fun a'=>o'==(if ng then .IsNot else .Is)&&z0z I sc f (.type "type")&&z0z I sc ty (.type (if t then "str" else "list"))&&cE sc a' a
  | .ite c a b=>dIf e fun c' a' b'=>cT sc c' c&&cE sc a' a&&cE sc b' b
  | .idx a i=>x7s e fun a' i'=>!z7d i'&&cE sc a' a&&cE sc i' i
  | .slice a lo hi=>x7s e fun a' i'=>q7k i' fun lo' hi' st=>st.isNone&&cE sc a' a&&y5k (cE sc) lo' lo&&y5k (cE sc) hi' hi
  | .tup l=>x7u e fun es=>decide (es.length<1000)&&z2k (cE sc) es l
  | .lst l=>x7t e fun es=>decide (es.length<1000)&&z2k (cE sc) es l
  | .mlst l=>x7t e fun es=>decide (es.length<1000)&&z2k (cE sc) es l
  | .mcat a b=>w2d e fun a' o' b'=>o'==.Add&&cE sc a' a&&cE sc b' b
  | .mslice a=>x7s e fun a' i'=>q7k i' fun lo' hi' st=>lo'.isNone&&hi'.isNone&&st.isNone&&cE sc a' a
  | .pure a=>cE sc e a
  | .gc a=>cE sc e a
  | .comp elt gs=>x7r e fun elt' cs inner=>y0z I sc inner gs&&q1t I cE cT sc (z4s sc inner.names) (x8g inner) cs gs&&cE (z4s sc inner.names) elt' elt
  | .call f args=>z9r e fun fe es _=>z0z I sc fe (.ref (I.fA f))&&(I.P.fn f).isSome&&decide (es.length<20)&&z2k (cE sc) es args
  | .new c args=>z9r e fun fe es _=>z0z I sc fe (.ref (I.cA c))&&decide (es.length<20)&&z2k (cE sc) es args
  | .newg c args=>z9r e fun fe es _=>z0z I sc fe (.ref (I.cA c))&&decide (es.length<20)&&z2k (cE sc) es args
  | .meth k o args=>y3c e fun o' x es ks=>d0 ks&&I.nm[k]?==some x&&decide (es.length<20)&&cE sc o' o&&z2k (cE sc) es args
  | .methk k o args kk ke=>y3c e fun o' x es ks=>d1 ks fun kw=>dO kw.arg fun kn=>(I.nm[k]?==some x&&decide (es.length<20)&&cE sc o' o&&z2k (cE sc) es args)&&I.nm[kk]?==some kn&&cE sc kw.value ke
  | .attr k o=>q4v e fun o' x _=>I.nm[k]?==some x&&I.atts.contains k&&!z1h o'&&cE sc o' o
  | .gattr k=>q4v e fun o' x _=>y9b o' fun c=>q1r I sc c (.ref (I.cA 0))&&I.nm[k]?==some x
  | .pat b=>y9b e fun x=>q1r I sc x (.ref (I.pA b))
  | .prim p args=>y9j I (cE sc) sc e p args
  | .notE _=>false
  | .andE _=>false
  | .orE _=>false
  | .stuck=>true
noncomputable def x5v(I:z3w)(cE cT:Sc->Expr->ME->Bool)(sc:Sc)(e:Expr)(m:ME):Bool:=!z8l e&&q7s I cE cT sc e m
noncomputable def k4o(cE cT:Sc->Expr->ME->Bool)(sc:Sc)(e:Expr)(m:ME):Bool:=match m with
 | .notE a=>dUn e fun o a'=>o==.Not&&cT sc a' a
 | .andE l=>y1x e fun o vs=>o==.And&&z2k (cT sc) vs l
 | .orE l=>y1x e fun o vs=>o==.Or&&z2k (cT sc) vs l
 | m=>y9i e&&cE sc e m
noncomputable def q5f(I:z3w):Nat->(Sc->Expr->ME->Bool)×(Sc->Expr->ME->Bool)
 | 0=>(fun _ _ _=>false,fun _ _ _=>false)
 | n+1=>(x5v I (q5f I n).1 (q5f I n).2,k4o (x5v I (q5f I n).1 (q5f I n).2) (q5f I n).2)
noncomputable def z0o(I:z3w)(n:Nat):Sc->Expr->ME->Bool:=(q5f I n).1
noncomputable def z6l(I:z3w)(n:Nat):Sc->Expr->ME->Bool:=(q5f I n).2
noncomputable def z3q(sc:Sc)(e t:Expr):Bool:=t.ctorIdx==23&&(e.ctorIdx==8&&match t,e with
 | .Name x pos,.ListComp _ _ s _=>sc.lookup x==some .local&&pos.line==e.pos.line&&!(s.names.any fun(n,k)=>n==x&&(k==.local || k==.cell))
 | _,_=>false)
noncomputable def j3s(x:ME):Bool:=x.ctorIdx==21
noncomputable def y4g(I:z3w)(ok:Str->Bool):List Expr->List Nat->Bool
 | [],[]=>true
 | e::es,k::ks=>z7e I ok e k&&y4g I ok es ks
 | _,_=>false
noncomputable def d2{V:Type}:List V->(V->V->Bool)->Bool
 | [a,b],k=>k a b
 | _,_=>false
theorem x5w{V:Type}{l:List V}{k:V->V->Bool}(h:d2 l k=true):∃ a b,l=[a,b]/\k a b=true:=by
 rcases l with _ | ⟨a,_ | ⟨b,_ | ⟨c,l⟩⟩⟩<;>first | exact ff h | exact⟨a,b,rfl,h⟩
noncomputable def d3{V:Type}:List V->(V->V->V->Bool)->Bool
 | [a,b,c],k=>k a b c
 | _,_=>false
theorem x5x{V:Type}{l:List V}{k:V->V->V->Bool}(h:d3 l k=true):∃ a b c,l=[a,b,c]/\k a b c=true:=by
 rcases l with _ | ⟨a,_ | ⟨b,_ | ⟨c,_ | ⟨d,l⟩⟩⟩⟩<;>first | exact ff h | exact⟨a,b,c,rfl,h⟩
noncomputable def y4h:Pat->Bool
 | .one _=>true
 | .tup ks=>d2 ks (fun a b=>a != b) || d3 ks fun a b c=>a != b&&(a != c&&b != c)
noncomputable def j3t(e:Expr):Bool:=e.ctorIdx==8 || e.ctorIdx==9 || e.ctorIdx==10
theorem q1u{I:z3w}{ok:Str->Bool}{t:Expr}{pt:Pat}(h:z5x I ok t pt=true):z8l t=false:=by
 cases pt with
 | one k=>obtain⟨x,p,rfl,_⟩:=z3c (show z7e I ok t k=true from h);rfl
 | tup ks=>obtain⟨es,n,p,rfl,_⟩:=y9c (show x7u t (fun es=>z4j I ok es ks)=true from h);rfl
noncomputable def z3d(e:Expr):Bool:=e.ctorIdx==9 || e.ctorIdx==10
noncomputable def j3u(e:Expr):List Expr:=match e with
 | .Tuple l _ _=>l
 | _=>[]
noncomputable def y7m(sc:Sc)(ts:List Expr):List Str:=ts.filterMap fun
 | .Name id pos=>if sc.lookup id==some .local&&pos.line==(ts.head?.map (·.pos.line)).getD 0 then some id else none
 | _=>none
noncomputable def j3v(sc:Sc)(ts vs:List Expr):Option (Option (List Str)):=
 if !(ts.length==2 || ts.length==3) || vs.length != ts.length then some none
 else if vs.any fun | .Starred ..=>true | _=>false then some none
 else if(y7m sc ts).length != ts.length || (y7m sc ts).eraseDups.length !=(y7m sc ts).length then some none
 else if vs.all (foldedForSure 8) then some none
 else if vs.all (constantsAlone 8) then none
 else some (some (y7m sc ts))
noncomputable def y5l(sc:Sc)(t e:Expr):Option (Option (List Str)):=if t.ctorIdx==25 then(if e.ctorIdx==25 then j3v sc (j3u t) (j3u e) else some none) else some none
noncomputable def x5y(r:Option (Option (List Str)))(p:Pat):Bool:=match r with
 | some none=>true
 | some (some _)=>y4h p
 | none=>false
noncomputable def k4p(I:z3w)(cE cT:Expr->ME->Bool)(sc:Sc)(cS:Stmt->MS->Bool)(st:Stmt)(m:MS):Bool:=match m with
 | .ret e=>w6e st fun v=>dO v fun e'=>cE e' e
 | .expr e=>x7v st fun e'=>!j3t e'&&cE e' e
 | .assign p e=>k2y st fun l e'=>d1 l fun t=>z5x I (z1m sc) t p&&cE e' e&&!z3d e'&&(!z3q sc e' t || j3s e)&&x5y (y5l sc t e') p
 | .assigns ks e=>k2y st fun l e'=>decide (2<=l.length)&&y4g I (z1m sc) l ks&&cE e' e
 | .aug o k e=>w6g st fun t o' e'=>y9b t fun x=>o'==o.op&&I.nm[k]?==some x&&q7q sc x&&z1m sc x&&cE e' e
 | .setAttr o k e=>k2y st fun l e'=>d1 l fun t=>q4v t fun o' x _=>!z3d e'&&I.nm[k]?==some x&&I.atts.contains k&&cE o' o&&cE e' e
 | .setIdx o i e=>k2y st fun l e'=>d1 l fun t=>x7s t fun o' i'=>!z3d e'&&!z7d i'&&cE o' o&&cE i' i&&cE e' e
 | .setAll o e=>k2y st fun l e'=>d1 l fun t=>x7s t fun o' i'=>q7k i' fun a b c=>(a.isNone&&b.isNone&&c.isNone)&&!z3d e'&&cE o' o&&cE e' e
 | .delIdx o i=>w6f st fun l=>d1 l fun t=>x7s t fun o' i'=>!z7d i'&&cE o' o&&cE i' i
 | .append o e=>x7v st fun v=>y3c v fun o' x es ks=>d0 ks&&d1 es fun e'=>x==("append":Str)&&cE o' o&&cE e' e
 | .ifs c a b=>sIf st fun t a' b'=>cT t c&&z2k cS a' a&&z2k cS b' b
 | .for_ p k src body orelse=>w6h st fun t it b' o'=>z5x I (z1m sc) t p&&y2e I cE sc it k src&&z2k cS b' body&&z2k cS o' orelse&&!j0l k
 | .while_ c body=>x5s st fun t b' o'=>d0 o'&&cT t c&&z2k cS b' body
 | .brk=>st.ctorIdx==26
 | .stuck=>true
noncomputable def y1a(I:z3w):Nat->Sc->Stmt->MS->Bool
 | 0=>fun _ _ _=>false
 | n+1=>fun sc=>k4p I (z0o I n sc) (z6l I n sc) sc (y1a I n sc)
structure k3a(A:Around)(lv:Nat):Prop where
 handled:A.handled=none
 depth:A.depth+12*lv<=806
 units:A.units+200*lv<=9100
theorem AOk.s{A:Around}{lv:Nat}(h:AOk A lv):k3a A lv:=⟨h.handled,by have:=h.depth;lia,by have:=h.units;lia⟩
structure z0r(I:z2w):Prop where
 nd:I.nm.Nodup
 kin:I.K.In I.B
 glob:∃ mg mb,I.B.Ns mainGlobals mg/\I.B.Ns builtinsNs mb/\∀ x v,I.gv.lookup x=some v->mg x=some v\/(mg x=none/\mb x=some v)
 keepF:∀ f,(I.P.fn f).isSome=true->keepIn I.K (.ref (I.fA f))=true
 keepC:∀ c,keepIn I.K (.ref (I.cA c))=true
 n0:I.nm[0]?=some ("__init__":Str)
 n1:I.nm[1]?=some ("__contains__":Str)
 n2:I.nm[2]?=some ("__getitem__":Str)
 n3:I.nm[3]?=some ("__setitem__":Str)
 n4:I.nm[4]?=some ("__delitem__":Str)
 meths:∀ c m f x,I.P.meth c m=some f->I.nm[m]?=some x->findIn I.K (.ref (I.cA c)) x=some (some (.ref (I.fA f)))/\isFn I.K (.ref (I.fA f))=true/\fnIn I.K (I.fA f)=true/\I.atts.contains m=false/\keepIn I.K (.ref (I.fA f))=true
 plainC:∀ c,plainGet I.K (I.cA c) Str.empty=true/\hasDictIn I.K (I.cA c)=true/\noSeq I.K (I.cA c)=true/\plainOver I.K (I.cA c)=true/\findIn I.K (.ref (I.cA c)) "__setattr__"=some (some (.builtin "object.__setattr__"))
 makesC:∀ c f,I.P.meth c 0=some f->makesIn I.K (I.cA c)=true
 attsC:∀ c k x,I.atts.contains k=true->I.nm[k]?=some x->findIn I.K (.ref (I.cA c)) x=some none
 gat:∀ k x y,I.P.gattr k=some x->I.nm[k]?=some y->∃ mc t,typeIn I.K (.ref (I.cA 0))=some mc/\readsIn I.K (I.cA 0) mc=true/\findCls I.K (.ref (I.cA 0)) mc y=some (.val (.str x t))
inductive w6k{V A8:Type}(m:M V)(f:V->M A8)(L:Lim)(H:z0b)(b:A8)(H':z0b):Prop
 | mk (a:V) (Hb:z0b) (h1:m L H=some (a,Hb)) (h2:f a L Hb=some (b,H')):w6k m f L H b H'
theorem M.bind_some{V A8:Type}{m:M V}{f:V->M A8}{L:Lim}{H H':z0b}{b:A8}(h:m.bind f L H=some (b,H')):w6k m f L H b H':=by
 unfold M.bind at h
 split at h
 ·exact⟨_,_,by assumption,h⟩
 ·contradiction
theorem M.pure_some{V:Type}{a b:V}{L:Lim}{H H':z0b}(h:M.pure a L H=some (b,H')):a=b/\H=H':=FP (AF h)
theorem M.ofOpt_some{V:Type}{o:Option V}{b:V}{L:Lim}{H H':z0b}(h:M.ofOpt o L H=some (b,H')):o=some b/\H=H':=by
 induction o using Option.casesOn with
 | none=>contradiction
 | some a=>have e:=M.pure_some (L:=L) h;exact⟨AT some e.1,e.2⟩
theorem M.getH_some{L:Lim}{H H' J:z0b}(h:z5f L H=some (J,H')):H=J/\H=H':=FP (AF h)
section
variable {V A8:Type} {L:Lim} {H H':z0b} {p r:PV} {x:V} {y:A8} {m:M V}
theorem M.getO_some{f:z0b->Option A8}(h:(z5f.bind fun J=>M.ofOpt (f J)) L H=some (y,H')):f H=some y/\H=H':=M.ofOpt_some (L:=L) h
inductive w6l(m:M V)(f:V->A8)(L:Lim)(H:z0b)(y:A8)(H':z0b):Prop
 | mk (a:V) (h1:m L H=some (a,H')) (h2:f a=y):w6l m f L H y H'
theorem M.map_some{f:V->A8}(h:(m.bind fun a=>M.pure (f a)) L H=some (y,H')):w6l m f L H y H':=by
 obtain⟨a,Hb,h1,h2⟩:=M.bind_some h
 obtain⟨e,rfl⟩:=M.pure_some h2
 exact⟨a,h1,e⟩
theorem M.then_some{f:z0b->V->Option A8}(h:(m.bind fun a=>z5f.bind fun J=>M.ofOpt (f J a)) L H=some (y,H')):∃ a,m L H=some (a,H')/\f H' a=some y:=by
 obtain⟨a,Hb,h1,h2⟩:=M.bind_some h
 obtain⟨e,rfl⟩:=M.getO_some h2
 exact⟨a,h1,e⟩
theorem M.opt_some{o:Option V}{f:V->M A8}(h:((M.ofOpt o).bind f) L H=some (y,H')):∃ a,o=some a/\f a L H=some (y,H'):=by
 obtain⟨a,Hb,h1,h2⟩:=M.bind_some h
 obtain⟨e,rfl⟩:=M.ofOpt_some h1
 exact⟨a,e,h2⟩
theorem M.if_some{c:Prop}[Decidable c](h:(if c then m else M.fail:M V) L H=some (x,H')):c/\m L H=some (x,H'):=by
 by_cases q:c
 ·rw [AQ q] at h;exact⟨q,h⟩
 ·rw [AS q] at h;contradiction
theorem z6o{i:Int}(h:y6v p L H=some (i,H')):p=.int i/\H=H':=by
 obtain⟨h,e⟩:=M.ofOpt_some h
 obtain⟨j,rfl,h⟩:=z6h h
 exact⟨AT PV.int (AF h),e⟩
theorem z9b{k:Nat->Nat->M V}(h:j2u p k L H=some (x,H')):∃ c i,p=.inst c i/\k c i L H=some (x,H'):=by
 induction p using PV.casesOn<;>first | exact⟨_,_,rfl,h⟩ | contradiction
theorem y5m{k:Nat->M V}(h:w1h p k L H=some (x,H')):∃ i,p=.ref i/\k i L H=some (x,H'):=by
 induction p using PV.casesOn<;>first | exact⟨_,rfl,h⟩ | contradiction
theorem z6p{P:MP}{C:z0h}{m:Nat}{args:List PV}{kw:List (Nat×PV)}(h:y0o P C m p args kw L H=some (r,H')):∃ c i f,p=.inst c i/\P.meth c m=some f/\C f (p::args) kw L H=some (r,H'):=by
 obtain⟨c,i,e,h⟩:=z9b h
 obtain⟨f,hf,h⟩:=M.opt_some h
 exact⟨c,i,f,e,hf,h⟩
theorem y7n{i:Nat}{l:List (Nat×PV)}(h:y6u i L H=some (l,H')):H[i]?=some (.att l)/\H=H':=by
 unfold y6u at h
 split at h
 ·have e:=FP (AF h);exact⟨e.1▸(by assumption),e.2⟩
 ·contradiction
theorem z9c{i:Nat}{l:List PV}(h:y8x i L H=some (l,H')):H[i]?=some (.lst l)/\H=H':=by
 unfold y8x at h
 split at h
 ·have e:=FP (AF h);exact⟨e.1▸(by assumption),e.2⟩
 ·contradiction
theorem j0m{k:Nat}(h:x0c k p L H=some (r,H')):∃ c i l,p=.inst c i/\H[i]?=some (.att l)/\l.lookup k=some r/\H=H':=by
 obtain⟨c,i,e,h⟩:=z9b h
 obtain⟨l,Hb,h1,h2⟩:=M.bind_some h
 obtain⟨a,rfl⟩:=y7n h1
 obtain⟨b,e'⟩:=M.ofOpt_some h2
 exact⟨c,i,l,e,a,b,e'⟩
theorem q1v{u:Unit}(h:q4s p L H=some (u,H')):∃ c i l,p=.inst c i/\H=H'/\H[i]?=some (.att l):=by
 obtain⟨c,i,e,h⟩:=z9b h
 obtain⟨l,h1,_⟩:=M.map_some h
 obtain⟨a,b⟩:=y7n h1
 exact⟨c,i,l,e,b,a⟩
theorem z9y{l:List PV}(h:z8g l L H=some (r,H')):z0w 0 l=true/\r=.ref H.length/\H'=H++[.lst l]:=by
 obtain⟨a,b⟩:=z0q (show(if z0w 0 l=true then some (PV.ref H.length,H++[.lst l]) else none)=some (r,H') from h)
 have e:=FP (AF b)
 exact⟨a,e.1.symm,e.2.symm⟩
theorem j0n{b:Bool}(h:q7j p L H=some (b,H')):p=.bool b/\H=H':=by
 unfold q7j at h
 split at h
 ·obtain⟨rfl,e⟩:=M.pure_some h;exact⟨rfl,e⟩
 ·contradiction
theorem x0s{o:COp}(h:w2b o=true):o=.in_:=by cases o<;>first | rfl | contradiction
end
noncomputable def z4q(I:z2w)(prog:Program)(w:World)(lv:Nat)(f:z0n->ME->M PV):Prop:=
 ∀ {n own env Y A L g Z H s e m p H'},AOk A lv->SR I w.params g Z H s.heap->z0j I own env Y g Z s.heap->z0o I.t n env.scope.names e m=true->f Y m L H=some (p,H') ->
  Go I prog w A [] L g Z H (eval e env) H' (P.val I p) s
noncomputable def q0w(I:z2w)(prog:Program)(w:World)(lv:Nat)(f:z0n->ME->M Bool):Prop:=
 ∀ {n own env Y A L g Z H s e m p H'},AOk A lv->SR I w.params g Z H s.heap->z0j I own env Y g Z s.heap->z6l I.t n env.scope.names e m=true->f Y m L H=some (p,H') ->
  Go I prog w A [] L g Z H (isTrue e env (eval e env)) H' (fun _ _ _ r=>r=p) s
noncomputable def z4k(I:z2w)(own:List Addr)(env:Env)(fl:Fl):Fz->Bt->Shared->Flow->Prop:=fun g' Z' s' f=>match fl with
 | .next Y'=>f=.next/\z0j I own env Y' g' Z' s'.heap
 | .brk Y'=>f=.brk/\z0j I own env Y' g' Z' s'.heap
 | .ret v=>∃ x,f=.ret x/\Rel I g' Z' x v
noncomputable def j9w(I:z2w)(prog:Program)(w:World)(lv:Nat)(f:z0n->MS->M Fl):Prop:=
 ∀ {n own env Y A L g Z H s e m p H'},AOk A lv->SR I w.params g Z H s.heap->z0j I own env Y g Z s.heap->(∀ x,z1m env.scope.names x=true->Mine.storeable env own x)->y1a I.t n env.scope.names e m=true->f Y m L H=some (p,H') ->
  Go I prog w A own L g Z H (exec e env) H' (z4k I own env p) s
inductive y6y(I:z2w)(g:Fz)(Z:Bt):List (Str×Value)->List (Nat×PV)->Prop
 | nil:y6y I g Z [] []
 | cons {x:Str} {v:Value} {k:Nat} {p:PV} {l:List (Str×Value)} {m:List (Nat×PV)}:I.nm[k]?=some x->Rel I g Z v p->y6y I g Z l m->y6y I g Z ((x,v)::l) ((k,p)::m)
noncomputable def j3w(I:z2w)(prog:Program)(w:World)(A:Around)(L:Lim)(g:Fz)(Z:Bt)(H:z0b)(f:Value)(vs:List Value)(kvs:List (Str×Value))(H':z0b)(p:PV)(s:Shared):Prop:=
 ∀ (R:Result->Shared->Prop),(∀ v g' Z' s',z1e [] L g Z H s g' Z' H' s'->SR I w.params g' Z' H' s'.heap->Rel I g' Z' v p->R (.ok (.ret v)) s')->codeAny (model prog w) A (.call f ⟨vs,kvs⟩) R s
theorem j3w.go{I:z2w}{prog:Program}{w:World}{A:Around}{L:Lim}{g:Fz}{Z:Bt}{H:z0b}{f:Value}{vs:List Value}{kvs:List (Str×Value)}{H':z0b}{p:PV}{s:Shared}(h:j3w I prog w A L g Z H f vs kvs H' p s) :
  Go I prog w A [] L g Z H (call f vs kvs) H' (P.val I p) s:=fun Q E q=>wpAny_call (h _ fun v g' Z' s' G R p=>q v g' Z' s' G R p)
noncomputable def j0o(I:z2w)(prog:Program)(w:World)(lv:Nat)(C:z0h):Prop:=
 ∀ {A L g Z H s f pos kw vs kvs p H'},k3a A lv->SR I w.params g Z H s.heap->z0e I g Z vs pos->y6y I g Z kvs kw->C f pos kw L H=some (p,H')->j3w I prog w A L g Z H (.ref (I.fA f)) vs kvs H' p s
section
variable {I:z2w} {own own':List Addr} {L:Lim} {w:World} {g gb gC:Fz} {Z Z1 Z2:Bt} {H Hb H2 H':z0b} {s sB sC:Shared} {env:Env} {Y Y':z0n} {A:Around} {prog:Program} {lv n:Nat} {S:z6z} {C:z0h} {p q r:PV}
theorem z0r.there(T:z0r I)(R:SR I w.params g Z H s.heap):I.K.In s.heap:=fun a o e=>R.sub _ _ (R.base _ _ (T.kin _ _ e))
theorem SR.up(R:SR I w.params g Z H s.heap):∀ a o,I.B.get? a=some o->s.heap.get? a=some o:=fun a o e=>R.sub _ _ (R.base _ _ e)
theorem z4a{n:Nat}{sc:Sc}{e:Expr}{m:ME}(h:z0o I.t n sc e m=true):z8l e=false:=by
 induction n using Nat.casesOn with
 | zero=>contradiction
 | succ n=>exact q0v (z0v (show(!z8l e&&_)=true from h)).1
theorem z2i{e:Expr}(h:z8l e=false)(rest:List Expr)(env:Env):starEach (e::rest) env=(false,eval e env)::starEach rest env:=by
 cases e<;>first | rfl | contradiction
theorem z7f{pos:Pos}(hS:z4q I prog w lv S.ev)(hA:AOk A lv):∀ {es:List Expr} {ms:List ME} {g:Fz} {Z:Bt} {H H':z0b} {s:Shared} {ps:List PV},SR I w.params g Z H s.heap->z0j I own env Y g Z s.heap->z2k (z0o I.t n env.scope.names) es ms=true ->
  z3t (S.ev Y) ms L H=some (ps,H')->Go I prog w A [] L g Z H (spliced (backTo pos (starEach es env))) H' (fun g' Z' _ vs=>z0e I g' Z' vs ps) s
 | [],ms,g,Z,H,H',s,ps,R,O,hc,hm=>by
  induction ms using List.casesOn with
  | cons _ _=>contradiction
  | nil=>injection hm with hm;injection hm with eB eC;subst eB;subst eC;exact Go.pure R .nil
 | e::es,ms,g,Z,H,H',s,ps,R,O,hc,hm=>by
  induction ms using List.casesOn with
  | nil=>contradiction
  | cons m ms=>
   obtain⟨c1,c2⟩:=z0v hc
   obtain⟨p,Hb,h1,h2⟩:=M.bind_some hm
   obtain⟨qs,H2,h3,h4⟩:=M.bind_some h2
   obtain⟨rfl,rfl⟩:=M.pure_some h4
   intro Q E q
   refine wpAny_items_cons (hS hA R O c1 h1 _ _ fun v gb Z1 sB Gb Rb pB=>?_) (z2i (z4a c1) _ _)
   exact z7f hS hA Rb (O.step Gb) c2 h3 _ _ fun vs gC Z2 sC Gc Rc pC=>q _ gC Z2 sC (Gb.trans R Gc) Rc (.cons (pB.mono Gc.gle Gc.ble) pC)
theorem y9k{pos:Pos}:∀ {es:List Expr} {ms:List ME},z2k (z0o I.t n env.scope.names) es ms=true->(backTo pos (starEach es env)).any (·.1)=false
 | [],_,_=>rfl
 | e::es,[],h=>by contradiction
 | e::es,m::ms,h=>by
  obtain⟨c1,c2⟩:=z0v h
  rw [z2i (z4a c1)]
  show(false || (backTo pos (starEach es env)).any (·.1))=false
  rw [y9k c2];rfl
noncomputable def q7t(I:z2w)(prog:Program)(w:World)(f:Value):Prop:=∀ h,I.K.In h->∃ k,(k=Keeper.frame\/k=Keeper.machine\/k=Keeper.boundFrame)/\Looks (model prog w) h (keeperOf f) k
theorem z2q{f:Value}(h:∀ a,f≠.ref a):q7t I prog w f:=fun hp _=>⟨.machine,.inr (.inl rfl),by
 have:keeperOf f=pure .machine:=by induction f using Value.casesOn<;>first | rfl | exact(h _ rfl).elim
 rw [this];exact .now⟩
theorem y3d{pos:Pos}{f:Value}{first:List Value}{es:List Expr}{ms:List ME}{ps:List PV}(T:z0r I)(hS:z4q I prog w lv S.ev)(hA:AOk A lv)(hf:q7t I prog w f)(R:SR I w.params g Z H s.heap)(O:z0j I own env Y g Z s.heap)
 (hc:z2k (z0o I.t n env.scope.names) es ms=true)(hm:z3t (S.ev Y) ms L H=some (ps,Hb)){Q E:Value->Shared->Prop}
 (k:∀ vs gb Z1 sB,z1e [] L g Z H s gb Z1 Hb sB->SR I w.params gb Z1 Hb sB.heap->z0e I gb Z1 vs ps->wpAny (model prog w) A (call f (first++vs) []) Q E sB) :
  wpAny (model prog w) A (callWith pos f first (backTo pos (starEach es env)) []) Q E s:=by
 have key:wpAny (model prog w) A (evalArgs f true (backTo pos (starEach es env)) []) (fun a sB=>I.K.In sB.heap/\wpAny (model prog w) A (call f (first++a.pos) a.kw) Q E sB) E s:=by
  have main:wpAny (model prog w) A (spliced (backTo pos (starEach es env))) (fun vs sB=>I.K.In sB.heap/\wpAny (model prog w) A (call f (first++vs) []) Q E sB) E s:=
   z7f hS hA R O hc hm _ _ fun vs gb Z1 sB Gb Rb pB=>⟨T.there Rb,k vs gb Z1 sB Gb Rb pB⟩
  induction es using List.casesOn with
  | nil=>
   induction ms using List.casesOn with
   | cons _ _=>contradiction
   | nil=>
    cases hm
    exact evalArgs_nil3 ⟨T.there R,k [] g Z s .refl R .nil⟩
  | cons e es=>
   induction ms using List.casesOn with
   | nil=>contradiction
   | cons m ms=>
    rw [z2i (z4a (z0v hc).1)] at main ⊢
    exact Calls.evalArgs_plain main
 exact callWith_of (by rw [y9k hc];rfl) hf key
theorem z4u{pos:Pos}{f:Value}{first:List Value}{es:List Expr}{ms:List ME}{ps:List PV}{Pst:Fz->Bt->Shared->Value->Prop}(T:z0r I)(hS:z4q I prog w lv S.ev)(hA:AOk A lv)(hf:q7t I prog w f)(R:SR I w.params g Z H s.heap)(O:z0j I own env Y g Z s.heap)
 (hc:z2k (z0o I.t n env.scope.names) es ms=true)(hm:z3t (S.ev Y) ms L H=some (ps,Hb))
 (k:∀ vs gb Z1 sB,z1e [] L g Z H s gb Z1 Hb sB->SR I w.params gb Z1 Hb sB.heap->z0e I gb Z1 vs ps->Go I prog w A [] L gb Z1 Hb (call f (first++vs) []) H2 Pst sB) :
  Go I prog w A [] L g Z H (callWith pos f first (backTo pos (starEach es env)) []) H2 Pst s:=fun Q E q=>
 y3d T hS hA hf R O hc hm fun vs gb Z1 sB Gb Rb pB=>k vs gb Z1 sB Gb Rb pB _ _ fun a gC Z2 sC Gc Rc pC=>q a gC Z2 sC (Gb.trans R Gc) Rc pC
theorem z4b{e:Expr}{v:Value}{sc:Sc}(h:z0z I.t sc e v=true):∃ x pos,e=.Name x pos/\sc.lookup x=some .globalImplicit/\I.gv.lookup x=some v/\(x==("__debug__":Str))=false:=by
 obtain⟨x,p,rfl,h⟩:=q1d h
 obtain⟨h3,h4,h2⟩:=z4d h
 exact⟨_,_,rfl,BI h3,BI h4,q0v h2⟩
theorem z8m{e:Expr}{v:Value}(T:z0r I)(R:SR I w.params g Z H s.heap)(O:z0j I own env Y g Z s.heap)(h:z0z I.t env.scope.names e v=true) :
  Go I prog w A [] L g Z H (eval e env) H (fun _ _ _ u=>u=v) s:=by
 obtain⟨x,pos,rfl,h1,h2,h3⟩:=z4b h
 obtain⟨mg,mb,a1,a2,a3⟩:=T.glob
 refine Go.same R fun Q E q=>Calls.Name_function_global O.kind h1 ?_ h3
 have b1:s.heap.Ns env.globals mg:=by rw [O.glob];exact a1.at' fun o e=>R.up _ _ e
 rcases a3 x v h2 with h4 | ⟨h4,h5⟩
 ·exact Calls.loadGlobal_global b1 h4 (q _ rfl)
 ·exact Calls.loadGlobal_builtin b1 h4 (by rw [O.bi];exact a2.at' fun o e=>R.up _ _ e) h5 (q _ rfl)
end
section
variable {I:z2w} {own own':List Addr} {L:Lim} {w:World} {g gb gC:Fz} {Z Z1 Z2:Bt} {H Hb H2 H':z0b} {s sB sC:Shared} {env:Env} {Y Y':z0n} {A:Around} {prog:Program} {lv n:Nat} {S:z6z} {C:z0h} {p q r:PV}
theorem k4q{x:Str}{pos:Pos}(R:SR I w.params g Z H s.heap)(h:(x==("__debug__":Str))=true):Go I prog w A [] L g Z H (eval (.Name x pos) env) H (P.val I (.bool true)) s:=by
 refine Go.same R fun Q E q=>?_
 show wpAny (model prog w) A (PySem.standAt pos>>=fun _=>if(x==("__debug__":Str))=true then debugConstant else loadName env x) Q E s
 rw [AQ h]
 exact AB (BT (AB (wpAny_rule (AG (q _ (.bool true))))))
theorem y7o{sc:Sc}{x:Str}(h:q7q sc x=true):(sc.lookup x=some .local\/sc.lookup x=some .cell\/sc.lookup x=some .free)/\(x==("__debug__":Str))=false/\(x==("__classdict__":Str))=false:=by
 obtain⟨h1,h2⟩:=z0v h
 obtain⟨h3,h4⟩:=z0v h1
 refine⟨?_,by simpa using h4,by simpa using h2⟩
 rcases BX.mp h3 with h | h
 ·rcases BX.mp h with h | h
  ·exact .inl (BE.mp h)
  ·exact .inr (.inl (BE.mp h))
 ·exact .inr (.inr (BE.mp h))
theorem q1w{op:CmpOp}{e:Expr}(h:y5j e=false):behindInMarks op e=false:=by
 cases e<;>first | rfl | contradiction
theorem k4r{a:Expr}{x:ME}{pos:Pos}(hE:z4q I prog w lv S.ev)(hA:AOk A lv)(R:SR I w.params g Z H s.heap)(O:z0j I own env Y g Z s.heap)
 (hc:z0o I.t n env.scope.names a x=true)(h:z1g I.P C S Y (.neg x) L H=some (p,H')):Go I prog w A [] L g Z H (eval (.UnaryOp .USub a pos) env) H' (P.val I p) s:=by
 obtain⟨u,Hb,h1,h2⟩:=M.bind_some h
 obtain⟨i,h3,e⟩:=M.map_some h2
 obtain⟨e1,e2⟩:=z6o h3
 clear h h2 h3
 subst e e1 e2
 intro Q E q
 refine wpAny_UnaryOp (hE hA R O hc h1 _ _ fun v gb Z1 sB Gb Rb pB=>?_)
 obtain⟨t,rfl⟩:=pB.int_inv
 exact P.neg_int (q _ gb Z1 _ (Gb.trans R (.keepAll (tk:=sB.toks+1) fun _ _ e=>e)) (Rb.keepAll fun _ _ e=>e) (.int _ _))
theorem k4s{a b:Expr}{o:BOp}{x y:ME}{pos:Pos}(hE:z4q I prog w lv S.ev)(hA:AOk A lv)(R:SR I w.params g Z H s.heap)(O:z0j I own env Y g Z s.heap)
 (hc:z0o I.t n env.scope.names a x=true)(hc':z0o I.t n env.scope.names b y=true)(h:z1g I.P C S Y (.bin o x y) L H=some (p,H')):Go I prog w A [] L g Z H (eval (.BinOp a o.op b pos) env) H' (P.val I p) s:=by
 obtain⟨u,Hb,h1,h2⟩:=M.bind_some h
 obtain⟨v,h3,e⟩:=M.then_some h2
 intro Q E q
 exact wpAny_BinOp (hE hA R O hc h1 _ _ fun u' gb Z1 sB Gb Rb pB=>hE hA Rb (O.step Gb) hc' h3 _ _ fun v' gC Z2 sC Gc Rc pC=>
  k3z Rc (pB.mono Gc.gle Gc.ble) pC e Q E fun a gD Z3 sd Gd Rd pd=>q a gD Z3 sd (Gb.trans R (Gc.trans Rb Gd)) Rd pd)
theorem x8h{a b:Expr}{x y:ME}{pos:Pos}(hE:z4q I prog w lv S.ev)(hA:AOk A lv)(R:SR I w.params g Z H s.heap)(O:z0j I own env Y g Z s.heap)
 (hc:z0o I.t n env.scope.names a x=true)(hc':z0o I.t n env.scope.names b y=true)(h:z1g I.P C S Y (.mcat x y) L H=some (p,H')):Go I prog w A [] L g Z H (eval (.BinOp a .Add b pos) env) H' (P.val I p) s:=by
 obtain⟨u,Hb,h1,h2⟩:=M.bind_some h
 obtain⟨v,H2,h3,h4⟩:=M.bind_some h2
 obtain⟨l1,e1,h5⟩:=M.opt_some (f:=fun x=>(M.ofOpt (z5l H2 v)).bind fun y=>(M.ofOpt (sz (x++y))).bind fun l=>z8g l) h4
 obtain⟨l2,e2,h6⟩:=M.opt_some h5
 obtain⟨l,e3,h7⟩:=M.opt_some h6
 obtain⟨hl,rfl⟩:=q0y e3
 obtain⟨hf,e4,e5⟩:=z9y h7
 clear h h2 h4 h5 h6 h7 e3
 subst e4 e5
 intro Q E q
 refine wpAny_BinOp (hE hA R O hc h1 _ _ fun u' gb Z1 sB Gb Rb pB=>hE hA Rb (O.step Gb) hc' h3 _ _ fun v' gC Z2 sC Gc Rc pC=>?_)
 obtain⟨a1,o1,vs1,rfl,a2,a3,a4,a5⟩:=(pB.mono Gc.gle Gc.ble).listIn Rc e1
 obtain⟨b1,o2,vs2,rfl,b2,b3,b4,b5⟩:=pC.listIn Rc e2
 have hlen:vs1.length+vs2.length<=z2n:=by rw [a5.length,b5.length,<- AE];exact hl
 exact Go.pushCell (o:=z6f (vs1++vs2) 0) (c:=.lst (l1++l2)) Rc rfl (fun h' ho=>⟨_,vs1++vs2,ho,y9e _ _,by rw [AE];exact hlen,(a5.append b5).mono (fun _ _ e=>e) (y1z Rc.none_at),hf⟩)
  (fun Q E q=>q1f a2 a3 b2 b3 hlen q) Q E fun a gD Z3 sd Gd Rd pd=>q a gD Z3 sd (Gb.trans R (Gc.trans Rb Gd)) Rd pd
theorem j3x{a:Expr}{ng:Bool}{x:ME}{k:Nat}{pos pos':Pos}(hE:z4q I prog w lv S.ev)(hA:AOk A lv)(R:SR I w.params g Z H s.heap)(O:z0j I own env Y g Z s.heap)
 (hc:z0o I.t n env.scope.names a x=true)(h:z1g I.P C S Y (.isNone ng x) L H=some (p,H')) :
  Go I prog w A [] L g Z H (eval (.Compare a [if ng then .IsNot else .Is] [.Constant .none k pos'] pos) env) H' (P.val I p) s:=by
 obtain⟨u,h1,e⟩:=M.map_some h
 clear h
 subst e
 intro Q E q
 exact wpAny_Compare1 (hE hA R O hc h1 _ _ fun v gb Z1 sB Gb Rb pB=>wpAny_Constant_none (x7y Rb pB Q E fun a gC Z2 sC Gc Rc pC=>q a gC Z2 sC (Gb.trans R Gc) Rc pC)) (by induction ng using Bool.casesOn<;>rfl)
theorem x0t{t:Bool}{v:Value}{p:PV}{r:Bool}(R:SR I w.params g Z H s.heap)(hv:Rel I g Z v p)(h:q4r H t p=some r) :
  ∃ T,s.TypeIs v T/\(T="str"\/T="list")/\r=(T==(if t then "str" else "list")):=by
 induction p using PV.casesOn with
 | str x=>
  obtain⟨t',rfl⟩:=hv.str_inv
  injection h with h;subst h
  exact⟨"str",rfl,.inl rfl,by induction t using Bool.casesOn<;>rfl⟩
 | lst l=>
  obtain⟨a,o,vs,rfl,g1,g4,_⟩:=hv.lst_inv
  injection h with h;subst h
  exact⟨"list",(z0s (R.sub _ _ g1) g4).typeIs,.inr rfl,by induction t using Bool.casesOn<;>rfl⟩
 | ref i=>
  obtain⟨l,hl,rfl⟩:=z1d h
  obtain⟨a,rfl,hi⟩:=hv.ref_inv
  obtain⟨o,vs,c1,c4,_⟩:=z9x R hi hl
  exact⟨"list",(z0s c1 c4).typeIs,.inr rfl,by induction t using Bool.casesOn<;>rfl⟩
 | _=>contradiction
theorem k4t{c a b:Expr}{x y z:ME}{pos:Pos}(hE:z4q I prog w lv S.ev)(hT:q0w I prog w lv S.ts)(hA:AOk A lv)(R:SR I w.params g Z H s.heap)(O:z0j I own env Y g Z s.heap)
 (h0:z6l I.t n env.scope.names c x=true)(hc:z0o I.t n env.scope.names a y=true)(hc':z0o I.t n env.scope.names b z=true)(h:z1g I.P C S Y (.ite x y z) L H=some (p,H')) :
  Go I prog w A [] L g Z H (eval (.IfExp c a b pos) env) H' (P.val I p) s:=by
 obtain⟨t,Hb,h1,h2⟩:=M.bind_some h
 intro Q E q
 refine wpAny_IfExp (hT hA R O h0 h1 _ _ fun v gb Z1 sB Gb Rb pB=>?_)
 subst pB
 induction v using Bool.casesOn with
 | true=>exact hE hA Rb (O.step Gb) hc h2 Q E fun a gC Z2 sC Gc Rc pC=>q a gC Z2 sC (Gb.trans R Gc) Rc pC
 | false=>exact hE hA Rb (O.step Gb) hc' h2 Q E fun a gC Z2 sC Gc Rc pC=>q a gC Z2 sC (Gb.trans R Gc) Rc pC
theorem z9d{V A8:Type}{f:V->A8->Bool}:∀ {as:List V} {bs:List A8},z2k f as bs=true->as.length=bs.length
 | [],[],_=>rfl
 | [],_::_,h=>by contradiction
 | _::_,[],h=>by contradiction
 | a::as,b::bs,h=>by rw [BD,BD,z9d (z0v h).2]
theorem y9l{f:ME->M PV}:∀ {ms:List ME} {ps:List PV} {H H':z0b},z3t f ms L H=some (ps,H')->ms.length=ps.length
 | [],_,_,_,h=>by injection h with h;injection h with eB eC;subst eB;subst eC;rfl
 | m::ms,ps,H,H',h=>by
  obtain⟨p,Hb,h1,h2⟩:=M.bind_some h
  obtain⟨qs,H2,h3,h4⟩:=M.bind_some h2
  obtain⟨rfl,rfl⟩:=M.pure_some h4
  rw [BD,BD,y9l h3]
theorem q5g{es:List Expr}{ms:List ME}{ps:List PV}{vs:List Value}{sc:Sc}(pr:z0e I g Z vs ps)(h:z3t (S.ev Y) ms L H=some (ps,Hb))(hc:z2k (z0o I.t n sc) es ms=true)(hl:es.length<1000):vs.length<=z2n:=by
 rw [pr.length,<- y9l h,<- z9d hc]
 exact AA (BO hl) (by decide)
theorem k4u{es:List Expr}{ms:List ME}{k:Nat}{pos:Pos}(hE:z4q I prog w lv S.ev)(hA:AOk A lv)(R:SR I w.params g Z H s.heap)(O:z0j I own env Y g Z s.heap)
 (hc:z2k (z0o I.t n env.scope.names) es ms=true)(hl:es.length<1000)(h:z1g I.P C S Y (.tup ms) L H=some (p,H')):Go I prog w A [] L g Z H (eval (.Tuple es k pos) env) H' (P.val I p) s:=by
 obtain⟨ps,h1,e⟩:=M.map_some h
 clear h
 subst e
 intro Q E q
 rw [arm_eval_Tuple]
 exact AB (BT (AB (z7f hE hA R O hc h1 _ _ fun vs gb Z1 sB Gb Rb pB=>
  q4w Rb pB (q5g pB h1 hc hl) Q E fun a gC Z2 sC Gc Rc pC=>q a gC Z2 sC (Gb.trans R Gc) Rc pC)))
theorem k4v{es:List Expr}{ms:List ME}{pos:Pos}(hE:z4q I prog w lv S.ev)(hA:AOk A lv)(R:SR I w.params g Z H s.heap)(O:z0j I own env Y g Z s.heap)
 (hc:z2k (z0o I.t n env.scope.names) es ms=true)(hl:es.length<1000)(h:z1g I.P C S Y (.lst ms) L H=some (p,H')):Go I prog w A [] L g Z H (eval (.List es pos) env) H' (P.val I p) s:=by
 obtain⟨ps,h1,e⟩:=M.map_some h
 clear h
 subst e
 intro Q E q
 rw [arm_eval_List]
 exact AB (BT (AB (z7f hE hA R O hc h1 _ _ fun vs gb Z1 sB Gb Rb pB=>
  j0f Rb pB (q5g pB h1 hc hl) Q E fun a gC Z2 sC Gc Rc pC=>q a gC Z2 sC (Gb.trans R Gc) Rc pC)))
theorem x8i{es:List Expr}{ms:List ME}{pos:Pos}(hE:z4q I prog w lv S.ev)(hA:AOk A lv)(R:SR I w.params g Z H s.heap)(O:z0j I own env Y g Z s.heap)
 (hc:z2k (z0o I.t n env.scope.names) es ms=true)(hl:es.length<1000)(h:z1g I.P C S Y (.mlst ms) L H=some (p,H')):Go I prog w A [] L g Z H (eval (.List es pos) env) H' (P.val I p) s:=by
 obtain⟨ps,Hb,h1,h2⟩:=M.bind_some h
 obtain⟨hf,e4,e5⟩:=z9y h2
 clear h h2
 subst e4 e5
 intro Q E q
 rw [arm_eval_List]
 exact AB (BT (AB (z7f hE hA R O hc h1 _ _ fun vs gb Z1 sB Gb Rb pB=>
  y6w Rb pB (q5g pB h1 hc hl) hf Q E fun a gC Z2 sC Gc Rc pC=>q a gC Z2 sC (Gb.trans R Gc) Rc pC)))
inductive k4w(I:z2w)(P:Params)(g:Fz)(Z:Bt)(h:Heap)(v:Value)(c i:Nat)(l:List (Nat×PV)):Prop
 | mk (x d:Addr) (es:List DictEntry) (n:Nat) (h1:v=.ref x) (h2:Z i=some d) (h3:h.get? d=some (dictOf es n)) (h4:z4i I P g Z es l) (h5:InstAt h x (instObj (I.cA c) d) (I.cA c) (some (dictOf es n))):k4w I P g Z h v c i l
theorem Rel.instAt(R:SR I w.params g Z H s.heap){v:Value}{c i:Nat}{l:List (Nat×PV)}(h:Rel I g Z v (.inst c i))(hl:H[i]?=some (.att l)):k4w I w.params g Z s.heap v c i l:=by
 obtain⟨x,d,e,h1,h2⟩:=h.inst_inv
 obtain⟨es,n,a1,a2,_⟩:=R.cell _ _ _ h1 hl
 exact⟨x,d,es,n,e,h1,a1,a2,⟨R.sub _ _ h2,rfl,rfl,a1⟩⟩
theorem Rel.instAny(R:SR I w.params g Z H s.heap){v:Value}{c i:Nat}(h:Rel I g Z v (.inst c i)):∃ x d od,v=.ref x/\InstAt s.heap x (instObj (I.cA c) d) (I.cA c) (some od):=by
 obtain⟨x,d,rfl,h1,h2⟩:=h.inst_inv
 obtain⟨o,ho⟩:=R.here h1
 exact⟨_,_,o,rfl,⟨R.sub _ _ h2,rfl,rfl,ho⟩⟩
theorem q5h{P:Params}{es:List DictEntry}{l:List (Nat×PV)}(hnd:I.nm.Nodup)(h:z4i I P g Z es l){k:Nat}{x:Str}(hk:I.nm[k]?=some x) :
  es.any (·.refKey)=false/\(match l.lookup k with | some p=>∃ v,getL x es=some (some v)/\Rel I g Z v p | none=>getL x es=some none):=by
 induction h with
 | nil=>exact⟨rfl,rfl⟩
 | cons a1 a0 a2 a3 ih=>
  rename_i j y t v p es l
  obtain⟨i1,i2⟩:=ih
  have hr:(⟨PyData.keyHash P y,.str y t,v⟩:DictEntry).refKey=false:=rfl
  refine⟨by rw [List.any_cons,hr,i1];rfl,?_⟩
  rw [DU]
  by_cases e:k=j
  ·subst e
   rw [hk] at a1;injection a1 with a1;subst a1
   simp only [DC]
   refine⟨v,?_,a2⟩
   unfold getL
   rw [List.find?_cons]
   simp [Value.isStr]
  ·have hne:¬ (y=x):=fun e'=>e (q1o hnd hk (e'▸a1))
   have e1:(k==j)=false:=by simpa using e
   simp only [e1]
   have e2:getL x (⟨PyData.keyHash P y,.str y t,v⟩::es)=getL x es:=by
    unfold getL
    rw [List.find?_cons]
    have:(Value.str y t).isStr x=false:=by simp [Value.isStr,hne]
    simp only [this,List.any_cons,hr,Bool.false_or]
   rw [e2];exact i2
theorem z4i.key{P:Params}{es:List DictEntry}{l:List (Nat×PV)}(h:z4i I P g Z es l){k:Nat}(hk:I.atts.contains k=false):l.lookup k=none:=by
 induction h with
 | nil=>rfl
 | cons a1 a0 a2 a3 ih=>
  rename_i j y t v p es l
  rw [DU]
  have e:(k==j)=false:=by
   by_cases e:k=j
   ·subst e;rw [a0] at hk;contradiction
   ·simpa using e
  rw [e];exact ih
theorem j0p{v:Value}{p:PV}(h:Rel I g Z v p):handedIn v=true:=by cases h<;>rfl
theorem y4i{o:Expr}{x:Str}{whole:Sem Value}(h:z1h o=false):attributeBase o x env whole=whole:=by
 cases o with
 | Call f es ks p=>
  cases f with
  | Name id q=>
   induction es using List.casesOn with
   | cons _ _=>rfl
   | nil=>
    induction ks using List.casesOn with
    | cons _ _=>rfl
    | nil=>contradiction
  | _=>rfl
 | _=>rfl
theorem j3y{k:Nat}{x:Str}{a:Expr}{m:ME}{pos:Pos}(T:z0r I)(hE:z4q I prog w lv S.ev)(hA:AOk A lv)(R:SR I w.params g Z H s.heap)(O:z0j I own env Y g Z s.heap)
 (hk:I.nm[k]?=some x)(hat:I.atts.contains k=true)(hsf:z1h a=false)(hc:z0o I.t n env.scope.names a m=true)(h:z1g I.P C S Y (.attr k m) L H=some (p,H')) :
  Go I prog w A [] L g Z H (eval (.Attribute a x pos) env) H' (P.val I p) s:=by
 obtain⟨u,Hb,h1,h2⟩:=M.bind_some h
 obtain⟨c,i,l,e0,hl,e,e1⟩:=j0m h2
 clear h h2
 subst e0 e1
 intro Q E q
 rw [arm_eval_Attribute,y4i hsf]
 refine AB (hE hA R O hc h1 _ _ fun v gb Z1 sB Gb Rb pB=>?_)
 obtain⟨x',d,es,n',rfl,b1,c1,c2,c4⟩:=Rel.instAt Rb pB hl
 have e2:=(q5h T.nd c2 hk).2
 rw [e] at e2
 obtain⟨v,e3,e4⟩:=e2
 have t:=T.plainC c
 exact AB (BT (AB (BQ (get_value (T.there Rb) c4 (plainGet_of t.1).1 (findObj_own t.2.1 (T.attsC c k x hat hk) rfl (by rw [lookIn_dict];exact e3)) (j0p e4)
  (AB (wpAny_letTemporaryGo (AG (q _ gb Z1 _ (Gb.trans R (z1e.keepAll (h':=sB.heap) (fun _ _ e=>e))) (Rb.keepAll (h':=sB.heap) fun _ _ e=>e) e4))))))))
end
section
variable {I:z2w} {own own':List Addr} {L:Lim} {w:World} {g gb gC:Fz} {Z Z1 Z2:Bt} {H Hb H2 H':z0b} {s sB sC:Shared} {env:Env} {Y Y':z0n} {A:Around} {prog:Program} {lv n:Nat} {S:z6z} {C:z0h} {p q r:PV}
theorem x0u{K:Frag}{x CC f:Addr}{ox:Obj}{od:Option Obj}{v:Value}{Q:Bool->Shared->Prop}{E:Value->Shared->Prop}(X:K.In s.heap)(II:InstAt s.heap x ox CC od)(hs:findIn K (.ref CC) "__contains__"=some (some (.ref f)))(hf:isFn K (.ref f)=true)
 (h:wpAny (model prog w) A (call (.ref f) [.ref x,v]) (fun r s'=>wpAny (model prog w) A (truthy r) Q E s') E s):wpAny (model prog w) A (contains (.ref x) v) Q E s:=by
 unfold contains
 refine BQ (AB (AB (II.type.here ((looks_findIn X hs).here ?_))))
 rw [AS (by simp)]
 exact AB (unlessNone_K X II hs hf h)
theorem x8j{K:Frag}{x CC f:Addr}{ox:Obj}{od:Option Obj}{v:Value}{Q:Value->Shared->Prop}{E:Value->Shared->Prop}(X:K.In s.heap)(II:InstAt s.heap x ox CC od)(hs:findIn K (.ref CC) "__contains__"=some (some (.ref f)))(hf:isFn K (.ref f)=true)
 (h:wpAny (model prog w) A (call (.ref f) [.ref x,v]) (fun r s'=>wpAny (model prog w) A (truthy r) (fun b=>Q (.bool b)) E s') E s):wpAny (model prog w) A (compareOp .In v (.ref x)) Q E s:=
 AB (x0u X II hs hf (CZ h (fun _ _ z=>CZ z (fun _ _ z=>AG z) fun _ _ z=>z) fun _ _ z=>z))
theorem j3z{K:Frag}{x CC f:Addr}{ox:Obj}{od:Option Obj}{i:Value}{value slice:Expr}{Q:Value->Shared->Prop}{E:Value->Shared->Prop}(X:K.In s.heap)(II:InstAt s.heap x ox CC od)(hs:findIn K (.ref CC) "__getitem__"=some (some (.ref f)))(hf:fnIn K f=true)(hfn:isFn K (.ref f)=true)
 (h:wpAny (model prog w) A.in1 (call (.ref f) [.ref x,i]) Q E s)(hsl:subscripted slice true (.ref x) i=runValue (.builtin "lifetime.subscript" ⟨[.ref x,i],[]⟩)):wpAny (model prog w) A (subscriptTail value slice (.ref x) i) Q E s:=by
 unfold fnIn at hf
 split at hf
 ·rename_i e
  unfold subscriptTail getitemInPython
  refine AB (AB (AB (II.type.here ((looks_findIn X hs).here ?_))))
  dsimp only
  refine AB (wpAny_load (X _ _ e) (AG ?_))
  dsimp only
  rw [hsl]
  refine AB (wpAny_runValue (codeAny_builtin entry_sub ?_))
  unfold Builtin.«lifetime.subscript»
  refine AB (special_fn X II hs (BE.mp hfn) (CZ h (fun v s' z=>?_) fun _ _ z=>z))
  refine AG ?_
  show wpAny (model prog w) A (letTemporaryGo value (.ref x) v>>=fun _=>pure v) Q E s'
  exact AB (wpAny_letTemporaryGo (AG z))
 ·contradiction
theorem x0v{o:COp}{u v:PV}(h:z9p I.P C o u v L H=some (p,H')):(∃ c i f b,o=.in_/\v=.inst c i/\I.P.meth c y4z=some f/\C f [v,u] [] L H=some (.bool b,H')/\p=.bool b)\/∃ b,w1g o u v=some b/\p=.bool b/\H=H':=by
 unfold z9p at h
 split at h
 ·rename_i hin
  obtain⟨r,Hd,h5,h6⟩:=M.bind_some h
  obtain⟨b,h7,e⟩:=M.map_some h6
  obtain⟨rfl,rfl⟩:=j0n h7
  obtain⟨c,i,f,e0,hf,h9⟩:=z6p h5
  exact .inl ⟨c,i,f,b,x0s (z0v hin).1,e0,hf,h9,e.symm⟩
 ·obtain⟨b,h5,e⟩:=M.map_some h
  obtain⟨a,e2⟩:=M.ofOpt_some h5
  exact .inr ⟨b,a,e.symm,e2⟩
theorem k4x{a b:Expr}{o:COp}{x y:ME}{pos:Pos}(T:z0r I)(hC:j0o I prog w lv C)(hE:z4q I prog w lv S.ev)(hA:AOk A lv)(R:SR I w.params g Z H s.heap)(O:z0j I own env Y g Z s.heap)
 (hs:y5j b=false)(hc:z0o I.t n env.scope.names a x=true)(hc':z0o I.t n env.scope.names b y=true)(h:z1g I.P C S Y (.cmp o x y) L H=some (p,H')):Go I prog w A [] L g Z H (eval (.Compare a [o.op] [b] pos) env) H' (P.val I p) s:=by
 obtain⟨u,Hb,h1,h2⟩:=M.bind_some h
 obtain⟨v,H2,h3,h4⟩:=M.bind_some h2
 clear h h2
 intro Q E q
 refine wpAny_Compare1 (hE hA R O hc h1 _ _ fun u' gb Z1 sB Gb Rb pB=>hE hA Rb (O.step Gb) hc' h3 _ _ fun v' gC Z2 sC Gc Rc pC=>?_) (q1w hs)
 have pu:=pB.mono Gc.gle Gc.ble
 rcases x0v h4 with⟨c,i,f,b,e1,e2,hf,h9,e3⟩ | ⟨b,e,e1,e2⟩
 ·clear h4
  subst e1 e2 e3
  obtain⟨xx,d,od,rfl,hI⟩:=Rel.instAny Rc pC
  have t:=T.meths _ _ _ _ hf T.n1
  refine x8j (T.there Rc) hI t.1 t.2.1 ((hC hA.s Rc (.cons pC (.one pu)) .nil h9).go _ _ fun a gD Z3 sd Gd Rd pd=>?_)
  obtain rfl:=pd.bool_inv
  exact wpAny_truthy_bool (q _ gD Z3 sd (Gb.trans R (Gc.trans Rb Gd)) Rd (.bool _))
 ·clear h4
  subst e1 e2
  exact k4d Rc hA pu pC e Q E fun a gD Z3 sd Gd Rd pd=>q a gD Z3 sd (Gb.trans R (Gc.trans Rb Gd)) Rd pd
theorem y1b{f:Expr}{v:Value}{es:List Expr}{ms:List ME}{ps:List PV}{pos:Pos}{Pst:Fz->Bt->Shared->Value->Prop}(T:z0r I)(hE:z4q I prog w lv S.ev)(hA:AOk A lv)(R:SR I w.params g Z H s.heap)(O:z0j I own env Y g Z s.heap)
 (hf:z0z I.t env.scope.names f v=true)(hk:q7t I prog w v)(hc:z2k (z0o I.t n env.scope.names) es ms=true)(hm:z3t (S.ev Y) ms L H=some (ps,Hb))
 (k:∀ vs gb Z1 sB,z1e [] L g Z H s gb Z1 Hb sB->SR I w.params gb Z1 Hb sB.heap->z0e I gb Z1 vs ps->Go I prog w A [] L gb Z1 Hb (call v vs []) H2 Pst sB) :
  Go I prog w A [] L g Z H (eval (.Call f es [] pos) env) H2 Pst s:=by
 obtain⟨y,py,rfl,y1,y2,y3⟩:=z4b hf
 intro Q E q
 rw [FX]
 refine AB (z8m (L:=L) T R O hf _ _ fun fv gb Z1 sB Gb Rb eB=>?_)
 subst eB
 have hm':=hm
 exact z4u (first:=[]) T hE hA hk Rb (O.step Gb) hc hm (fun vs gC Z2 sC Gc Rc pC=>k vs gC Z2 sC (Gb.trans R Gc) Rc pC) Q E fun a gC Z2 sC Gc Rc pC=>q a gC Z2 sC (Gb.trans R Gc) Rc pC
theorem q7u{f:ME->M PV}{x:ME}(h:f x L H=some (p,Hb)):z3t f [x] L H=some ([p],Hb):=by
 unfold z3t M.bind
 rw [h];rfl
theorem y4j{e:Expr}{x:ME}{sc:Sc}(hc:z0o I.t n sc e x=true):z2k (z0o I.t n sc) [e] [x]=true:=AH.mpr ⟨hc,rfl⟩
theorem z0e.cons_inv{vs:List Value}{ps:List PV}(h:z0e I g Z vs (p::ps)):∃ v ws,vs=v::ws/\Rel I g Z v p/\z0e I g Z ws ps:=by
 cases h with
 | cons a b=>exact⟨_,_,rfl,a,b⟩
theorem z0e.nil_inv{vs:List Value}(h:z0e I g Z vs []):vs=[]:=by cases h;rfl
theorem z0e.one_inv{vs:List Value}(h:z0e I g Z vs [p]):∃ v,vs=[v]/\Rel I g Z v p:=by
 obtain⟨v,ws,rfl,a,b⟩:=h.cons_inv
 obtain rfl:=b.nil_inv
 exact⟨v,rfl,a⟩
theorem z0e.two_inv{vs:List Value}(h:z0e I g Z vs [p,q]):∃ u v,vs=[u,v]/\Rel I g Z u p/\Rel I g Z v q:=by
 obtain⟨u,ws,rfl,a,b⟩:=h.cons_inv
 obtain⟨v,rfl,c⟩:=b.one_inv
 exact⟨u,v,rfl,a,c⟩
theorem q1x{f:Expr}{v:Value}{sc:Sc}{G:Expr->Prop}(hf:z0z I.t sc f v=true)(k:∀ y py,z0z I.t sc (.Name y py) v=true->G (.Name y py)):G f:=by
 obtain⟨y,py,rfl,_⟩:=z4b hf
 exact k y py hf
theorem x8k{f a:Expr}{x:ME}{u:PV}{t r:Bool}{pos':Pos}(T:z0r I)(hE:z4q I prog w lv S.ev)(hA:AOk A lv)(R:SR I w.params g Z H s.heap)(O:z0j I own env Y g Z s.heap)
 (hf:z0z I.t env.scope.names f (.type "type")=true)(hc:z0o I.t n env.scope.names a x=true)(h1:S.ev Y x L H=some (u,Hb))(e:q4r Hb t u=some r) :
  Go I prog w A [] L g Z H (eval (.Call f [a] [] pos') env) Hb (fun g' Z' s' v=>∃ T,(T="str"\/T="list")/\v=.type T/\r=(T==(if t then "str" else "list"))) s:=by
 refine q1x (G:=fun f=>Go I prog w A [] L g Z H (eval (.Call f [a] [] pos') env) Hb _ s) hf fun y py hf Q E q=>?_
 rw [FX]
 refine AB (z8m (L:=L) T R O hf _ _ fun fv gb Z1 sB Gb Rb eB=>?_)
 subst eB
 refine callWith_of (P:=fun h=>I.K.In h) (by rw [y9k (y4j hc)];rfl) (z2q (fun _ h=>by contradiction)) ?_
 rw [z2i (z4a hc)]
 refine Calls.evalArgs_plain ?_
 have hmain:=z7f (pos:=pos') hE hA Rb (O.step Gb) (y4j hc) (q7u h1)
 rw [z2i (z4a hc)] at hmain
 refine hmain _ _ fun vs gC Z2 sC Gc Rc pC=>⟨T.there Rc,?_⟩
 obtain⟨v,rfl,pv⟩:=pC.one_inv
 obtain⟨Ty,t1,t2,t3⟩:=x0t Rc pv e
 exact call_type_of t1 (by rcases t2 with rfl | rfl<;>decide) (q _ gC Z2 sC (Gb.trans R Gc) Rc ⟨Ty,t2,rfl,t3⟩)
theorem j4a{ng t:Bool}{x:ME}(h:z1g I.P C S Y (.isTy ng t x) L H=some (p,H')):∃ u r,S.ev Y x L H=some (u,H')/\q4r H' t u=some r/\p=.bool (r != ng):=by
 obtain⟨u,Hb,h1,h2⟩:=M.bind_some h
 obtain⟨r,h5,e⟩:=M.map_some (m:=M.ofOpt (q4r Hb t u)) (f:=fun r=>PV.bool (r != ng)) h2
 obtain⟨a,b⟩:=M.ofOpt_some h5
 exact⟨u,r,b▸h1,b▸a,e.symm⟩
theorem x8l{f a ty:Expr}{ng t:Bool}{x:ME}{pos pos':Pos}(T:z0r I)(hE:z4q I prog w lv S.ev)(hA:AOk A lv)(R:SR I w.params g Z H s.heap)(O:z0j I own env Y g Z s.heap)
 (hf:z0z I.t env.scope.names f (.type "type")=true)(hty:z0z I.t env.scope.names ty (.type (if t then "str" else "list"))=true)
 (hc:z0o I.t n env.scope.names a x=true)(h:z1g I.P C S Y (.isTy ng t x) L H=some (p,H')) :
  Go I prog w A [] L g Z H (eval (.Compare (.Call f [a] [] pos') [if ng then .IsNot else .Is] [ty] pos) env) H' (P.val I p) s:=by
 obtain⟨u,r,h1,e,ep⟩:=j4a h
 clear h
 subst ep
 intro Q E q
 refine wpAny_Compare1 ?_ (q1w (q1x (G:=fun ty=>y5j ty=false) hty fun _ _ _=>rfl))
 refine x8k T hE hA R O hf hc h1 e _ _ fun v gb Z1 sB Gb Rb pB=>?_
 obtain⟨Ty,t2,rfl,rfl⟩:=pB
 refine z8m (L:=L) T Rb (O.step Gb) hty _ _ fun b gC Z2 sC Gc Rc eC=>?_
 subst eC
 have fin:∀ bb,bb=((Ty==(if t then "str" else "list")) != ng)->Q (.bool bb) sC:=fun bb e=>e▸q _ gC Z2 sC (Gb.trans R Gc) Rc (.bool _)
 have hb:(Value.type Ty==Value.type (if t=true then "str" else "list"))=(Ty==(if t then "str" else "list")):=by
  rcases t2 with rfl | rfl<;>induction t using Bool.casesOn<;>decide
 cases ng with
 | true=>exact wpAny_isNot_plain rfl (fin _ (by rw [hb];cases(Ty==(if t then "str" else "list"))<;>rfl))
 | false=>exact wpAny_is_plain rfl (fin _ (by rw [hb];cases(Ty==(if t then "str" else "list"))<;>rfl))
theorem x8m{fe:Expr}{f:Nat}{es:List Expr}{ms:List ME}{pos:Pos}(T:z0r I)(hC:j0o I prog w lv C)(hE:z4q I prog w lv S.ev)(hA:AOk A lv)(R:SR I w.params g Z H s.heap)(O:z0j I own env Y g Z s.heap)
 (hf:z0z I.t env.scope.names fe (.ref (I.fA f))=true)(hs:(I.P.fn f).isSome=true)(hc:z2k (z0o I.t n env.scope.names) es ms=true)(h:z1g I.P C S Y (.call f ms) L H=some (p,H')) :
  Go I prog w A [] L g Z H (eval (.Call fe es [] pos) env) H' (P.val I p) s:=by
 obtain⟨ps,Hb,h1,h2⟩:=M.bind_some h
 exact y1b T hE hA R O hf (fun h X=>keeps_K (T.keepF f hs) h X) hc h1 fun vs gb Z1 sB Gb Rb pB=>(hC hA.s Rb pB .nil h2).go
theorem x0w{c y:Str}{k:Nat}{pos pos':Pos}(T:z0r I)(R:SR I w.params g Z H s.heap)(O:z0j I own env Y g Z s.heap)
 (hf:q1r I.t env.scope.names c (.ref (I.cA 0))=true)(hk:I.nm[k]?=some y)(h:z1g I.P C S Y (.gattr k) L H=some (p,H')) :
  Go I prog w A [] L g Z H (eval (.Attribute (.Name c pos') y pos) env) H' (P.val I p) s:=by
 obtain⟨x,h1,ep⟩:=M.map_some h
 obtain⟨e,es⟩:=M.ofOpt_some h1
 clear h h1
 subst ep es
 obtain⟨mc,t,a1,a2,a3⟩:=T.gat k x y e hk
 intro Q E q
 rw [arm_eval_Attribute,y4i rfl]
 refine AB (z8m (L:=L) (e:=.Name c pos') T R O (show z0z I.t env.scope.names (.Name c pos') _=true from hf) _ _ fun fv gb Z1 sB Gb Rb eB=>?_)
 subst eB
 exact AB (BT (AB (BQ (cls_value (T.there Rb) a2 a3 rfl
  (AB (wpAny_letTemporaryGo (AG (q _ gb Z1 _ (Gb.trans R (z1e.keepAll (h':=sB.heap) (fun _ _ e=>e))) (Rb.keepAll (h':=sB.heap) fun _ _ e=>e) (.str _ _)))))))))
theorem z8n{o':Expr}{x:Str}{ap cp:Pos}{es:List Expr}{kws:List Keyword}{Pst:Fz->Bt->Shared->Value->Prop}(hsf:z1h o'=false)(hline:(ap.endLine==cp.line)=true)
 (hform:methodCallForm (es.length+kws.length) (backTo cp (starEach es env)) (backToKw cp (keywordEach kws env))=true)
 (R:SR I w.params g Z H s.heap)(ho:Go I prog w A [] L g Z H (eval o' env) Hb (P.val I p) s)
 (hk:∀ v gb Z1 sB,z1e [] L g Z H s gb Z1 Hb sB->SR I w.params gb Z1 Hb sB.heap->Rel I gb Z1 v p->∃ f first,(∀ (Q:Value×List Value->Shared->Prop) E pl,Q (f,first) sB->wpAny (model prog w) A (getMethod v x pl) Q E sB) /\
   Go I prog w A [] L gb Z1 Hb (callWith cp f first (backTo cp (starEach es env)) (backToKw cp (keywordEach kws env))) H2 Pst sB) :
  Go I prog w A [] L g Z H (eval (.Call (.Attribute o' x ap) es kws cp) env) H2 Pst s:=by
 intro Q E q
 rw [arm_eval_Call,y4i hsf]
 refine AB (ho _ _ fun v gb Z1 sB Gb Rb pB=>?_)
 obtain⟨f,first,k1,k2⟩:=hk v gb Z1 sB Gb Rb pB
 refine AB (BT ?_)
 have hpos:methodCallPos true o' env ap cp=pure cp:=by unfold methodCallPos;simp [hline]
 unfold methodCall
 rw [hform]
 unfold calleeOf
 rw [AQ rfl]
 refine AB (BQ (k1 _ _ _ ?_))
 refine AB (wpAny_of_eq hpos ?_)
 exact k2 Q E fun a gC Z2 sC Gc Rc pC=>q a gC Z2 sC (Gb.trans R Gc) Rc pC
theorem y9m{pos:Pos}:∀ {es:List Expr} {ms:List ME},z2k (z0o I.t n env.scope.names) es ms=true->(backTo pos (starEach es env)).all (fun x=>!x.1)=true
 | [],_,_=>rfl
 | e::es,[],h=>by contradiction
 | e::es,m::ms,h=>by
  obtain⟨c1,c2⟩:=z0v h
  rw [z2i (z4a c1)]
  show(true&&(backTo pos (starEach es env)).all (fun x=>!x.1))=true
  rw [y9m c2];rfl
theorem y9n{pos:Pos}{es:List Expr}{ms:List ME}(hc:z2k (z0o I.t n env.scope.names) es ms=true)(hl:es.length<20):methodCallForm (es.length+0) (backTo pos (starEach es env)) (backToKw pos (keywordEach [] env))=true:=by
 unfold methodCallForm
 rw [y9m hc]
 show(true&&true&&decide (es.length+0+0<30))=true
 simp;omega
theorem y1c{v:Value}{c i m f:Nat}{x:Str}{l:List (Nat×PV)}{Q:Value×List Value->Shared->Prop}{E:Value->Shared->Prop}{pl:Sem Bool}(T:z0r I)(R:SR I w.params g Z H s.heap)(hv:Rel I g Z v (.inst c i))(hcell:H[i]?=some (.att l))
 (hf:I.P.meth c m=some f)(hm:I.nm[m]?=some x)(q:Q (.ref (I.fA f),[v]) s):wpAny (model prog w) A (getMethod v x pl) Q E s:=by
 have t:=T.meths _ _ _ _ hf hm
 have t':=T.plainC c
 obtain⟨xx,d,es,n',rfl,b1,c1,c2,c4⟩:=hv.instAt R hcell
 have e2:=(q5h T.nd c2 hm).2
 rw [c2.key t.2.2.2.1] at e2
 exact method_fn (T.there R) c4 (plainGet_of t'.1).1 (plainGet_of t'.1).2 t.1 (BE.mp t.2.1) (by show(lookIn x (dictOf es n')).map _=_;rw [lookIn_dict,e2];rfl) q
theorem j4b{m:Nat}{mo:ME}{ms:List ME}(h:z1g I.P C S Y (.meth m mo ms) L H=some (p,H')):∃ c i l Hb H2 ps f,S.ev Y mo L H=some (.inst c i,Hb)/\Hb[i]?=some (.att l)/\z3t (S.ev Y) ms L Hb=some (ps,H2)/\I.P.meth c m=some f/\C f (.inst c i::ps) [] L H2=some (p,H'):=by
 obtain⟨u,Hb,h1,h2⟩:=M.bind_some h
 obtain⟨_,_,h6,h7⟩:=M.bind_some h2
 obtain⟨c,i,l,e,e2,hl⟩:=q1v h6
 clear h h2
 subst e e2
 obtain⟨ps,H2,h3,h4⟩:=M.bind_some h7
 obtain⟨_,_,f,e0,hf,h5⟩:=z6p h4
 injection e0 with e0;subst e0
 exact⟨c,i,l,Hb,H2,ps,f,h1,hl,h3,hf,h5⟩
theorem x8n{o':Expr}{x:Str}{m:Nat}{mo:ME}{es:List Expr}{ms:List ME}{ap cp:Pos}(T:z0r I)(hC:j0o I prog w lv C)(hE:z4q I prog w lv S.ev)(hA:AOk A lv)(R:SR I w.params g Z H s.heap)(O:z0j I own env Y g Z s.heap)
 (hm:I.nm[m]?=some x)(hsf:z1h o'=false)(hline:(ap.endLine==cp.line)=true)(hl:es.length<20)(hc:z0o I.t n env.scope.names o' mo=true)(hcs:z2k (z0o I.t n env.scope.names) es ms=true)
 (h:z1g I.P C S Y (.meth m mo ms) L H=some (p,H')):Go I prog w A [] L g Z H (eval (.Call (.Attribute o' x ap) es [] cp) env) H' (P.val I p) s:=by
 obtain⟨c,i,l,Hb,H2,ps,f,h1,hcell,h3,hf,h5⟩:=j4b h
 exact z8n hsf hline (y9n hcs hl) R (hE hA R O hc h1) fun v gb Z1 sB Gb Rb pB=>⟨.ref (I.fA f),[v],fun Q E pl q=>y1c T Rb pB hcell hf hm q,
  z4u T hE hA (fun h X=>keeps_K (T.meths _ _ _ _ hf hm).2.2.2.2 h X) Rb (O.step Gb) hcs h3 fun vs gC Z2 sC Gc Rc pC=>(hC hA.s Rc (.cons (pB.mono Gc.gle Gc.ble) pC) .nil h5).go⟩
end
section
variable {I:z2w} {own own':List Addr} {L L':Lim} {w:World} {g gb gC g':Fz} {Z Z1 Z2 Z':Bt} {H Hb H2 H':z0b} {s sB sC s':Shared} {env:Env} {Y Y':z0n} {A:Around} {prog:Program} {lv n:Nat} {S:z6z} {C:z0h} {p q r:PV}
open Classical in
noncomputable def q0x(g':Fz)(Z':Bt)(H':z0b)(n:Nat)(h:Heap):Fz:=fun a=>
 if ∃ i l,n<=i/\Z' i=some a/\H'[i]?=some (.lst l) then h.get? a else g' a
theorem z5y(R':SR I w.params g' Z' H' s'.heap):∀ a o,g' a=some o->q0x g' Z' H' n s'.heap a=some o:=fun a o h=>by
 unfold q0x
 split
 ·rename_i hx
  obtain⟨i,l,_,hi,_⟩:=hx
  rw [R'.off i a hi] at h;contradiction
 ·exact h
theorem Rel.frz(R':SR I w.params g' Z' H' s'.heap)(hZ:∀ i a,i<n->Z' i=some a->Z i=some a){v:Value}{p:PV}(h:Rel I g' Z' v p):y6t n p=true->Rel I (q0x g' Z' H' n s'.heap) Z v p:=
 Rel.rec (motive_1:=fun v p _=>y6t n p=true->Rel I (q0x g' Z' H' n s'.heap) Z v p) (motive_2:=fun vs ps _=>z0w n ps=true->z0e I (q0x g' Z' H' n s'.heap) Z vs ps)
  (fun _=>.none) (fun b _=>.bool b) (fun i t _=>.int i t) (fun x t _=>.str x t) (fun h q l _ ih hn=>.tup (z5y R' _ _ h) q l (ih hn)) (fun h q l _ ih hn=>.lst (z5y R' _ _ h) q l (ih hn))
  (fun h hn=>.ref (hZ _ _ (AK hn) h)) (fun h q hn=>.inst (hZ _ _ (AK hn) h) (z5y R' _ _ q)) (fun b _=>.pat b) (fun h q _=>.edict (z5y R' _ _ h) q) (fun _=>.nil) (fun _ _ a b hn=>.cons (a (z0v hn).1) (b (z0v hn).2)) h
theorem z0e.frz(R':SR I w.params g' Z' H' s'.heap)(hZ:∀ i a,i<n->Z' i=some a->Z i=some a){vs:List Value}{ps:List PV}(h:z0e I g' Z' vs ps):z0w n ps=true->z0e I (q0x g' Z' H' n s'.heap) Z vs ps:=
 z0e.ind (M:=fun vs ps=>z0w n ps=true->z0e I (q0x g' Z' H' n s'.heap) Z vs ps) (fun _=>.nil) (fun a _ ih hn=>.cons (a.frz R' hZ (z0v hn).1) (ih (z0v hn).2)) h
theorem j4c{m n:Nat}(hm:m<=n){l:List PV}:z0w m l=true->z0w n l=true:=
 PV.rec_1 (motive_1:=fun p=>y6t m p=true->y6t n p=true) (motive_2:=fun l=>z0w m l=true->z0w n l=true) (fun h=>h) (fun _ h=>h) (fun _ h=>h) (fun _ h=>h) (fun _ ih h=>ih h) (fun _ ih h=>ih h)
  (fun _ h=>AV (BW (AK h) hm)) (fun _ _ h=>AV (BW (AK h) hm)) (fun _ h=>h) (fun h=>h) (fun h=>h) (fun _ _ a b h=>AH.mpr ⟨a (z0v h).1,b (z0v h).2⟩) l
theorem Rel.frzV(R':SR I w.params g' Z' H' s'.heap)(hZ:∀ i a,i<n->Z' i=some a->Z i=some a){v:Value}{p q:PV}(h:Rel I g' Z' v p):Mine.frz n H' p=some q->Rel I (q0x g' Z' H' n s'.heap) Z v q:=
 Rel.rec (motive_1:=fun v p _=>∀ q,Mine.frz n H' p=some q->Rel I (q0x g' Z' H' n s'.heap) Z v q) (motive_2:=fun vs ps _=>∀ qs,j0b n H' ps=some qs->z0e I (q0x g' Z' H' n s'.heap) Z vs qs)
  (fun _ h=>AF h▸.none) (fun b _ h=>AF h▸.bool b) (fun i t _ h=>AF h▸.int i t) (fun x t _ h=>AF h▸.str x t)
  (fun {a o vs ps} k c l _ ih q h=>by
   obtain⟨l',h1,rfl⟩:=z1d (show(j0b n H' ps).map PV.tup=some q from h)
   exact .tup (z5y R' _ _ k) c l (ih l' h1))
  (fun {a o vs ps} k c l _ ih q h=>by
   obtain⟨l',h1,rfl⟩:=z1d (show(j0b n H' ps).map PV.lst=some q from h)
   exact .lst (z5y R' _ _ k) c l (ih l' h1))
  (fun {i a} k q h=>by
   by_cases hi:i<n
   ·cases(AQ hi).symm.trans (show(if i<n then some (PV.ref i) else(z0y H' i).bind fun l=>if z0w n l then some (.lst l) else Option.none)=some q from h)
    exact .ref (hZ _ _ hi k)
   ·obtain⟨l,hl,h⟩:=z1f ((AS hi).symm.trans (show(if i<n then some (PV.ref i) else(z0y H' i).bind fun l=>if z0w n l then some (.lst l) else Option.none)=some q from h))
    obtain⟨hnr,h⟩:=z0q h
    injection h with h;subst h
    obtain⟨o,vs,c1,c2,c3,c4,_⟩:=z9x R' k hl
    refine .lst (o:=o) ?_ c2 c3 (z0e.frz R' hZ c4 hnr)
    unfold q0x
    rw [AQ ⟨i,_,Nat.le_of_not_lt hi,k,z3y hl⟩]
    exact c1)
  (fun {c i x d} k e q h=>by
   obtain⟨hi,h⟩:=z0q (show(if i<n then some (PV.inst c i) else Option.none)=some q from h)
   injection h with h;subst h
   exact .inst (hZ _ _ hi k) (z5y R' _ _ e))
  (fun b _ h=>AF h▸.pat b) (fun k q _ h=>AF h▸.edict (z5y R' _ _ k) q) (fun _ h=>AF h▸.nil)
  (fun {v vs p ps} _ _ a b qs h=>by
   obtain⟨q,h1,h⟩:=z1f (show((Mine.frz n H' p).bind fun q=>(j0b n H' ps).map fun qs=>q::qs)=some qs from h)
   obtain⟨qs',h2,rfl⟩:=z1d h
   exact .cons (a q h1) (b qs' h2)) h q
theorem z4i.frz(R':SR I w.params g' Z' H' s'.heap)(hZ:∀ i a,i<n->Z' i=some a->Z i=some a){es:List DictEntry}{l:List (Nat×PV)}(h:z4i I w.params g' Z' es l)(hl:z8h n l=true) :
  z4i I w.params (q0x g' Z' H' n s'.heap) Z es l:=by
 induction h with
 | nil=>exact .nil
 | cons h1 h0 h2 _ ih=>
  exact .cons h1 h0 (h2.frz R' hZ (z0v hl).1) (ih (z0v hl).2)
theorem y9o(R:SR I w.params g Z H s.heap)(G:z1e own L g Z H s g' Z' H' s'):∀ i a,i<H.length->Z' i=some a->Z i=some a:=fun i a hi h=>by
 obtain⟨b,hb⟩:=R.dom i hi
 rw [G.ble i b hb] at h;injection h with h;subst h;exact hb
theorem SR.letGo(R:SR I w.params g Z H s.heap)(G:z1e own L' g Z H s g' Z' H' s')(R':SR I w.params g' Z' H' s'.heap)(hown:∀ a∈own,∀ i,Z i≠some a)
 (hatt:∀ i l,i<H.length->H'[i]?=some (.att l)->(i<L'.ab/\H[i]?=some (.att l))\/z8h H.length l=true):SR I w.params (q0x g' Z' H' H.length s'.heap) Z (H'.take H.length) s'.heap where
 base:=fun a o h=>z5y R' _ _ (R'.base a o h)
 sub:=fun a o h=>by
  unfold q0x at h
  split at h
  ·exact h
  ·exact R'.sub a o h
 dom:=fun i hi=>R.dom i (by have:=G.len;simp at hi;lia)
 lt:=fun i a h=>by have:=G.len;have:=R.lt i a h;simp;lia
 inj:=R.inj
 off:=fun i a h=>by
  unfold q0x
  split
  ·rename_i hx
   obtain⟨j,l,hj,hj2,_⟩:=hx
   have e:=R'.inj i j a (G.ble i a h) hj2
   have:=R.lt i a h
   lia
  ·exact R'.off i a (G.ble i a h)
 cell:=fun i a c h hc=>by
  have hlt:=R.lt i a h
  have hlen:=G.len
  have hc':H'[i]?=some c:=by rw [EN] at hc;simpa [hlt] using hc
  have hx:=R'.cell i a c (G.ble i a h) hc'
  have hZ:=y9o R G
  cases c with
  | lst l=>
   obtain⟨o,vs,c1,c2,c3,c4,c5⟩:=hx
   exact⟨o,vs,c1,c2,c3,z0e.frz R' hZ c4 (j4c (BM _) c5),c5⟩
  | att l=>
   rcases hatt i l hlt hc' with⟨hL,he⟩ | hf
   ·obtain⟨es,m,c1,c2,c3⟩:=R.cell i a _ h he
    have hk:s'.heap.get? a=some (dictOf es m):=G.kept a _ c1 (fun m=>hown a m i h) fun j hj=>by
     have e:=R.inj i j a h hj
     subst e
     exact⟨fun l' hl'=>(by rw [he] at hl';cases hl'),fun l' hl'=>hL⟩
    exact⟨es,m,hk,c2.mono (fun b o hb=>z5y R' _ _ (G.gle b o hb)) (fun _ _ q=>q),c3⟩
   ·obtain⟨es,m,c1,c2,c3⟩:=hx
    exact⟨es,m,c1,c2.frz R' hZ hf,c3⟩
theorem z1e.letGo(R:SR I w.params g Z H s.heap)(G:z1e own L' g Z H s g' Z' H' s')(R':SR I w.params g' Z' H' s'.heap)
 (hfix:∀ a,z9l L Z H a->z9l L' Z H a)(hl:∀ (i:Nat) (l:List PV),H[i]?=some (.lst l)->i<L.b->i<L'.b)(ha:∀ (i:Nat) (l:List (Nat×PV)),H[i]?=some (.att l)->i<L.ab->i<L'.ab) :
  z1e own L g Z H s (q0x g' Z' H' H.length s'.heap) Z (H'.take H.length) s' where
 gle:=fun a o h=>z5y R' _ _ (G.gle a o h)
 gold:=fun a o h=>by
  unfold q0x
  split
  ·rename_i hx
   obtain⟨i,l,hi,hb,_⟩:=hx
   induction e:Z i using Option.casesOn with
   | some b=>
    have:=R.lt i b e
    lia
   | none=>
    have:=G.bnew i a e hb
    rw [h] at this;contradiction
  ·exact G.gold a o h
 ble:=fun _ _ h=>h
 bnew:=fun i a h q=>by rw [h] at q;contradiction
 kept:=fun a o h hn hf=>G.kept a o h hn (hfix a hf)
 alive:=G.alive
 len:=by have:=G.len;simp;lia
 kinds:=fun i c h=>by
  have hlt:i<H.length:=(AU.mp h).1
  obtain⟨c',h',k⟩:=G.kinds i c h
  exact⟨c',by rw [EN];simpa [hlt] using h',k⟩
 lsts:=fun i l h hi=>by
  have hlt:i<H.length:=(AU.mp h).1
  rw [EN]
  simpa [hlt] using G.lsts i l h (hl i l h hi)
 atts:=fun i l h hi=>by
  have hlt:i<H.length:=(AU.mp h).1
  rw [EN]
  simpa [hlt] using G.atts i l h (ha i l h hi)
 rest:=G.rest
theorem j4d(G:z1e own ⟨H.length,H.length⟩ g Z H s g' Z' H' s'):H'.take H.length=H:=by
 apply List.ext_getElem?
 intro i
 rw [EN]
 by_cases h:i<H.length
 ·simp only [h,if_true]
  induction hc:H[i]? using Option.casesOn with
  | none=>rw [List.getElem?_eq_none_iff] at hc;lia
  | some c=>
   cases c with
   | lst l=>exact G.lsts i l hc h
   | att l=>exact G.atts i l hc h
 ·simp only [h,if_false]
  rw [CY (by lia)]
theorem x8o{t:Sem Value}{m:M PV}(R:SR I w.params g Z H s.heap)(h:j0c m L H=some (p,H'))
 (ht:∀ q Hb,m ⟨H.length,H.length⟩ H=some (q,Hb)->Go I prog w A [] ⟨H.length,H.length⟩ g Z H t Hb (P.val I q) s):Go I prog w A [] L g Z H t H' (P.val I p) s:=by
 unfold j0c at h
 split at h
 case h_2=>contradiction
 rename_i v Hb h1
 split at h
 case h_2=>contradiction
 rename_i v' h2
 injection h with h;injection h with eB eC;subst eB;subst eC
 intro Q E q
 refine ht v Hb h1 Q E fun a g' Z' s' G R' pv=>?_
 have e:=j4d G
 have R'':=SR.letGo R G R' (by simp) fun i l hi hc=>.inl ⟨hi,by rw [<- e,EN];simpa [hi] using hc⟩
 have G'':=z1e.letGo (L:=L) R G R' (fun a _=>y9h (L:=L) R a) (fun i l h _=>(AU.mp h).1) (fun i l h _=>(AU.mp h).1)
 rw [e] at R'' G''
 exact q a _ Z s' G'' R'' (Rel.frzV R' (y9o R G) pv h2)
theorem w2i{t:Sem Value}{m:M PV}(R:SR I w.params g Z H s.heap)(h:gcM m L H=some (p,H'))
 (ht:∀ q Hb,m ⟨L.b,H.length⟩ H=some (q,Hb)->Go I prog w A [] ⟨L.b,H.length⟩ g Z H t Hb (P.val I q) s):Go I prog w A [] L g Z H t H' (P.val I p) s:=by
 unfold gcM at h
 split at h
 case h_2=>contradiction
 rename_i v Hb h1
 split at h
 case h_2=>contradiction
 rename_i v' h2
 injection h with h;injection h with eB eC;subst eB;subst eC
 intro Q E q
 refine ht v Hb h1 Q E fun a g' Z' s' G R' pv=>?_
 have R'':=SR.letGo R G R' (by simp) fun i l hi hc=>.inl ⟨hi,by
  obtain⟨c,hcc⟩:∃ c,H[i]?=some c:=⟨_,AP hi⟩
  obtain⟨c',h3,h4⟩:=G.kinds i c hcc
  rw [hc] at h3;injection h3 with h3;subst h3
  cases c with
  | lst _=>exact h4.elim
  | att l'=>
   have:=G.atts i l' hcc hi
   rw [hc] at this;cases this;exact hcc⟩
 have G'':=z1e.letGo (L:=L) R G R' (fun a hf i hi=>⟨fun l hl=>(hf i hi).1 l hl,fun l hl=>R.lt i a hi⟩) (fun i l h hb=>hb) (fun i l h _=>(AU.mp h).1)
 exact q a _ Z s' G'' R'' (Rel.frzV R' (y9o R G) pv h2)
end
section
variable {I:z2w} {own own':List Addr} {L L':Lim} {w:World} {g gb gC g':Fz} {Z Z1 Z2 Z':Bt} {H Hb H2 H':z0b} {s sB sC s':Shared} {env:Env} {Y Y':z0n} {A:Around} {prog:Program} {lv n:Nat} {S:z6z} {C:z0h} {p q r:PV}
theorem y1d(R:SR I w.params g Z H s.heap)(o:Obj):z1e own L g Z H s g Z H { s with heap:=s.heap.push o }:=z1e.keepAll (tk:=s.toks) fun b x e=>AO _ e
theorem k4y{i:Expr}{x v:Value}(hs:z7d i=false):subscripted i true x v=runValue (.builtin "lifetime.subscript" ⟨[x,v],[]⟩):=by
 cases i<;>first | rfl | contradiction
theorem x0x{u v:PV}(h:j9v I.P C u v L H=some (p,H')):(∃ c j f,u=.inst c j/\I.P.meth c q7i=some f/\C f [u,v] [] L H=some (p,H'))\/∃ k,v=.int k/\j2o H u k=some p/\H=H':=by
 unfold j9v at h
 split at h
 ·obtain⟨c,j,f,e,hf,h9⟩:=z6p h
  exact .inl ⟨c,j,f,e,hf,h9⟩
 ·obtain⟨k,Hd,h5,h6⟩:=M.bind_some h
  obtain⟨e,rfl⟩:=z6o h5
  obtain⟨a,b⟩:=M.getO_some (f:=fun H=>j2o H u k) h6
  exact .inr ⟨k,e,a,b⟩
theorem k4z{a i:Expr}{x y:ME}{pos:Pos}(T:z0r I)(hC:j0o I prog w lv C)(hE:z4q I prog w lv S.ev)(hA:AOk A lv)(R:SR I w.params g Z H s.heap)(O:z0j I own env Y g Z s.heap)
 (hs:z7d i=false)(hc:z0o I.t n env.scope.names a x=true)(hc':z0o I.t n env.scope.names i y=true)(h:z1g I.P C S Y (.idx x y) L H=some (p,H')):Go I prog w A [] L g Z H (eval (.Subscript a i pos) env) H' (P.val I p) s:=by
 obtain⟨u,Hb,h1,h2⟩:=M.bind_some h
 obtain⟨v,H2,h3,h4⟩:=M.bind_some h2
 clear h h2
 intro Q E q
 refine Subscript_ (hE hA R O hc h1 _ _ fun u' gb Z1 sB Gb Rb pB=>hE hA Rb (O.step Gb) hc' h3 _ _ fun v' gC Z2 sC Gc Rc pC=>?_)
 have pu:=pB.mono Gc.gle Gc.ble
 rcases x0x h4 with⟨c,j,f,e,hf,h9⟩ | ⟨k,e,h5,e2⟩
 ·clear h4
  subst e
  obtain⟨xx,d,od,rfl,hI⟩:=Rel.instAny Rc pu
  have t:=T.meths _ _ _ _ hf T.n2
  have hA1:k3a A.in1 lv:=⟨hA.handled,by have:=hA.depth;simp;lia,by have:=hA.units;simp;lia⟩
  exact j3z (T.there Rc) hI t.1 t.2.2.1 t.2.1 ((hC hA1 Rc (.cons pu (.one pC)) .nil h9).go _ _ fun a gD Z3 sd Gd Rd pd=>q a gD Z3 sd (Gb.trans R (Gc.trans Rb Gd)) Rd pd) (k4y hs)
 ·clear h4
  subst e e2
  obtain⟨t,rfl⟩:=pC.int_inv
  exact k4e Rc hs pu h5 Q E fun a gD Z3 sd Gd Rd pd=>q a gD Z3 sd (Gb.trans R (Gc.trans Rb Gd)) Rd pd
theorem j4e{e:Option Expr}{m:Option ME}{o:Option PV}{k:Option Int}{Hd:z0b}(hE:z4q I prog w lv S.ev)(hA:AOk A lv)(R:SR I w.params g Z H s.heap)(O:z0j I own env Y g Z s.heap)
 (hc:y5k (z0o I.t n env.scope.names) e m=true)(h:x0b (S.ev Y) m L H=some (o,Hb))(hk:z9o o L H2=some (k,Hd)):Go I prog w A [] L g Z H (evalPart e env) Hb (fun _ _ _ v=>x0j v k) s:=by
 induction m using Option.casesOn with
 | none=>
  induction e using Option.casesOn with
  | some _=>contradiction
  | none=>
   obtain⟨rfl,rfl⟩:=M.pure_some (L:=L) h
   obtain⟨rfl,_⟩:=M.pure_some (L:=L) hk
   exact Go.pure R .none
 | some m=>
  induction e using Option.casesOn with
  | none=>contradiction
  | some e=>
   obtain⟨u,h1,e1⟩:=M.map_some (L:=L) (m:=S.ev Y m) h
   clear h
   subst e1
   obtain⟨i,h2,e2⟩:=M.map_some (L:=L) (m:=y6v u) hk
   obtain⟨e3,_⟩:=z6o h2
   clear hk h2
   subst e2 e3
   intro Q E q
   refine hE hA R O hc h1 Q E fun v gb Z1 sB Gb Rb pB=>q v gb Z1 sB Gb Rb ?_
   obtain⟨t,rfl⟩:=pB.int_inv
   exact .int _ _
theorem q1y{o:Option PV}{k:Option Int}(h:z9o o L H=some (k,H')):H=H':=by
 induction o using Option.casesOn with
 | none=>exact(M.pure_some (L:=L) h).2
 | some u=>
  obtain⟨i,h2,_⟩:=M.map_some (L:=L) (m:=y6v u) h
  exact(z6o h2).2
theorem j0q{x:ME}{ml mh:Option ME}(h:z1g I.P C S Y (.slice x ml mh) L H=some (p,H')):∃ u Hb l H2 hv kl kh J,S.ev Y x L H=some (u,Hb)/\x0b (S.ev Y) ml L Hb=some (l,H2)/\x0b (S.ev Y) mh L H2=some (hv,H')/\z9o l L J=some (kl,J)/\z9o hv L J=some (kh,J)/\z7v H' u kl kh=some p:=by
 obtain⟨u,Hb,h1,h2⟩:=M.bind_some h
 obtain⟨l,H2,h3,h4⟩:=M.bind_some h2
 obtain⟨hv,Hd,h5,h6⟩:=M.bind_some h4
 obtain⟨kl,H4,h7,h8⟩:=M.bind_some h6
 obtain⟨kh,H5,h9,h10⟩:=M.bind_some h8
 obtain⟨e,e3⟩:=M.getO_some (f:=fun H=>z7v H u kl kh) h10
 have e1:=q1y h7
 have e2:=q1y h9
 clear h h2 h4 h6 h8 h10
 subst e1 e2 e3
 exact⟨u,Hb,l,H2,hv,kl,kh,_,h1,h3,h5,h7,h9,e⟩
theorem x0y{a:Expr}{lo hi:Option Expr}{x:ME}{ml mh:Option ME}{pos pos':Pos}(hE:z4q I prog w lv S.ev)(hA:AOk A lv)(R:SR I w.params g Z H s.heap)(O:z0j I own env Y g Z s.heap)
 (hc:z0o I.t n env.scope.names a x=true)(hl:y5k (z0o I.t n env.scope.names) lo ml=true)(hh:y5k (z0o I.t n env.scope.names) hi mh=true)(h:z1g I.P C S Y (.slice x ml mh) L H=some (p,H')) :
  Go I prog w A [] L g Z H (eval (.Subscript a (.Slice lo hi none pos') pos) env) H' (P.val I p) s:=by
 obtain⟨u,Hb,l,H2,hv,kl,kh,J,h1,h3,h5,h7,h9,e⟩:=j0q h
 intro Q E q
 refine Subscript_ (hE hA R O hc h1 _ _ fun u' gb Z1 sB Gb Rb pB=>wpAny_Slice (j4e hE hA Rb (O.step Gb) hl h3 h7 _ _ fun v gC Z2 sC Gc Rc pC=>
  j4e hE hA Rc ((O.step Gb).step Gc) hh h5 h9 _ _ fun v' gD Z3 sd Gd Rd pd=>AG ?_))
 have hk:∀ b o,sd.heap.get? b=some o->(sd.heap.push { cls:=.type "slice",data:=.fields #[v,v',.none] }).get? b=some o:=fun b o e=>AO _ e
 have G4:=y1d (own:=[]) (L:=L) Rd { cls:=.type "slice",data:=.fields #[v,v',.none] }
 exact x0k (s:={ sd with heap:=sd.heap.push { cls:=.type "slice",data:=.fields #[v,v',.none] } }) (lo':=lo) (hi':=hi) (pos:=pos') (Rd.keepAll hk) ⟨_,AZ _ rfl,rfl,rfl⟩ pC pd ((pB.mono Gc.gle Gc.ble).mono Gd.gle Gd.ble) e Q E
  fun a gE Z4 se Ge RE p4=>q a gE Z4 se (Gb.trans R (Gc.trans Rb (Gd.trans Rc (G4.trans Rd Ge)))) RE p4
theorem j4f{a:Expr}{x:ME}{pos pos':Pos}(hE:z4q I prog w lv S.ev)(hA:AOk A lv)(R:SR I w.params g Z H s.heap)(O:z0j I own env Y g Z s.heap)
 (hc:z0o I.t n env.scope.names a x=true)(h:z1g I.P C S Y (.mslice x) L H=some (p,H')) :
  Go I prog w A [] L g Z H (eval (.Subscript a (.Slice none none none pos') pos) env) H' (P.val I p) s:=by
 obtain⟨u,Hb,h1,h2⟩:=M.bind_some h
 obtain⟨l,e,h3⟩:=M.opt_some (o:=z5l Hb u) (f:=fun x=>z8g x) h2
 obtain⟨hf,e4,e5⟩:=z9y h3
 clear h h2 h3
 subst e4 e5
 intro Q E q
 refine Subscript_ (hE hA R O hc h1 _ _ fun u' gb Z1 sB Gb Rb pB=>wpAny_Slice (AG (AG (AG ?_))))
 have G4:=y1d (own:=[]) (L:=L) Rb { cls:=.type "slice",data:=.fields #[.none,.none,.none] }
 exact j3i (s:={ sB with heap:=sB.heap.push { cls:=.type "slice",data:=.fields #[.none,.none,.none] } }) (pos:=pos') (Rb.keepAll fun b o e=>AO _ e) ⟨_,AZ _ rfl,rfl,rfl⟩ pB e hf Q E
  fun a gE Z4 se Ge RE p4=>q a gE Z4 se (Gb.trans R (G4.trans Rb Ge)) RE p4
theorem k5a{x:Str}{b:Bool}{pos:Pos}(T:z0r I)(R:SR I w.params g Z H s.heap)(O:z0j I own env Y g Z s.heap)(hf:q1r I.t env.scope.names x (.ref (I.pA b))=true)(h:z1g I.P C S Y (.pat b) L H=some (p,H')) :
  Go I prog w A [] L g Z H (eval (.Name x pos) env) H' (P.val I p) s:=by
 obtain⟨rfl,rfl⟩:=M.pure_some (L:=L) h
 exact fun Q E q=>z8m (L:=L) (e:=.Name x pos) T R O hf Q E fun fv gb Z1 sB Gb Rb eB=>q fv gb Z1 sB Gb Rb (eB▸.pat b)
theorem q7v{o':Expr}{x:Str}{ap cp:Pos}{es:List Expr}{mo:ME}{ms:List ME}{ps:List PV}{T' id:String}{Pst:Fz->Bt->Shared->Value->Prop}(T:z0r I)(hE:z4q I prog w lv S.ev)(hA:AOk A lv)(R:SR I w.params g Z H s.heap)(O:z0j I own env Y g Z s.heap)
 (hsf:z1h o'=false)(hline:(ap.endLine==cp.line)=true)(hl:es.length<20)(hc:z0o I.t n env.scope.names o' mo=true)(hcs:z2k (z0o I.t n env.scope.names) es ms=true)
 (h1:S.ev Y mo L H=some (p,Hb))(h2:z3t (S.ev Y) ms L Hb=some (ps,H2))(pa:PlainAttrs T')(slot:Slot T' x id)(hty:typeOf (.builtin id)=pure (.type "method_descriptor"))
 (hT:∀ v gb Z1 (sB:Shared),SR I w.params gb Z1 Hb sB.heap->Rel I gb Z1 v p->sB.TypeIs v T'/\∀ a,v=.ref a->∃ ob:Obj,sB.heap.get? a=some ob/\ob.dict=none)
 (k:∀ v vs gC Z2 (sC:Shared),z1e [] L g Z H s gC Z2 H2 sC->SR I w.params gC Z2 H2 sC.heap->Rel I gC Z2 v p->z0e I gC Z2 vs ps->Go I prog w A [] L gC Z2 H2 (call (.builtin id) (v::vs) []) H' Pst sC) :
  Go I prog w A [] L g Z H (eval (.Call (.Attribute o' x ap) es [] cp) env) H' Pst s:=by
 refine z8n hsf hline (y9n hcs hl) R (hE hA R O hc h1) fun v gb Z1 sB Gb Rb pB=>?_
 obtain⟨t1,t2⟩:=hT v gb Z1 sB Rb pB
 refine⟨.builtin id,[v],fun Q E pl q=>getMethod_builtin t1 pa slot hty t2 q,?_⟩
 exact z4u T hE hA (z2q (fun _ h=>by contradiction)) Rb (O.step Gb) hcs h2 fun vs gC Z2 sC Gc Rc pC=>k v vs gC Z2 sC (Gb.trans R Gc) Rc (pB.mono Gc.gle Gc.ble) pC
theorem x8p{p':q7h}{fv:Value}{ps:List PV}{vs:List Value}(R:SR I w.params g Z H s.heap)(hA:AOk A lv)(hp:q1s p'=some fv)(pr:z0e I g Z vs ps)(e:z4z I.P p' H ps=some p):Go I prog w A [] L g Z H (call fv vs []) H (P.val I p) s:=by
 have K1:∀ {k:PV->Option PV},one ps k=some p->(∀ v a,Rel I g Z v a->k a=some p->Go I prog w A [] L g Z H (call fv [v] []) H (P.val I p) s)->Go I prog w A [] L g Z H (call fv vs []) H (P.val I p) s:=fun e k=>by
  obtain⟨a,rfl,e⟩:=one_inv e
  obtain⟨v,rfl,pv⟩:=pr.one_inv
  exact k v a pv e
 cases p' with
 | len=>injection hp with hp;subst hp;exact K1 e fun v a pv e=>k4g R pv e
 | sum=>
  injection hp with hp;subst hp
  refine K1 e fun v a pv e=>?_
  obtain⟨l,rfl,e⟩:=z7b e
  obtain⟨ns,hn,rfl⟩:=z1d e
  exact k4h R hA pv hn
 | max=>
  injection hp with hp;subst hp
  clear K1
  have e':w2a ps=some p:=e
  clear e
  unfold w2a at e'
  split at e'
  ·obtain⟨v,rfl,pv⟩:=pr.one_inv
   obtain⟨l,rfl,e⟩:=z7b e'
   obtain⟨ns,hn,e⟩:=z1f e
   exact x8d R hA pv hn e
  ·obtain⟨i,j,rfl,rfl,e⟩:=y3v e'
   injection e with e;subst e
   obtain⟨u,v,rfl,pu,pv⟩:=pr.two_inv
   exact x7z R hA pu pv
  ·contradiction
 | sorted=>
  injection hp with hp;subst hp
  refine K1 e fun v a pv e=>?_
  obtain⟨l,rfl,e⟩:=z7b e
  exact j3p R pv e
 | int=>
  injection hp with hp;subst hp
  refine K1 e fun v a pv e=>?_
  obtain⟨x,rfl,e⟩:=z5m e
  obtain⟨i,hi,rfl⟩:=z1d e
  exact k4m R pv hi
 | hex=>
  injection hp with hp;subst hp
  refine K1 e fun v a pv e=>?_
  obtain⟨i,rfl,e⟩:=z6h e
  obtain⟨hl,e⟩:=z0q e
  injection e with e;subst e
  exact k4i R pv hl
 | tuple=>
  injection hp with hp;subst hp
  refine K1 e fun v a pv e=>?_
  obtain⟨l,hl,rfl⟩:=z1d e
  exact x0m R pv hl
 | _=>cases hp
theorem j0r{p':q7h}{fv:Value}(hp:q1s p'=some fv)(a:Addr):fv≠.ref a:=fun ha=>by
 subst ha
 cases p'<;>cases hp
theorem j4g{p':q7h}{f:Expr}{fv:Value}{es:List Expr}{ms:List ME}{pos:Pos}(T:z0r I)(hE:z4q I prog w lv S.ev)(hA:AOk A lv)(R:SR I w.params g Z H s.heap)(O:z0j I own env Y g Z s.heap)
 (hp:q1s p'=some fv)(hf:z0z I.t env.scope.names f fv=true)(hcs:z2k (z0o I.t n env.scope.names) es ms=true)(h:z1g I.P C S Y (.prim p' ms) L H=some (p,H')) :
  Go I prog w A [] L g Z H (eval (.Call f es [] pos) env) H' (P.val I p) s:=by
 obtain⟨ps,h1,e⟩:=M.then_some (f:=fun J vs=>z4z I.P p' J vs) h
 exact y1b T hE hA R O hf (z2q (j0r hp)) hcs h1 fun vs gb Z1 sB Gb Rb pr=>x8p Rb hA hp pr e
end
structure q1z(I:z2w)(prog:Program)(w:World):Prop where
 flags:∃ kvs,I.B.DictOf (intKind prog w) I.dA kvs/\(I.dA==sysModules)=false/\∀ k,match I.P.flags.lookup k with | some x=>∃ t,valueAt kvs k=some (.str x t) | none=>valueAt kvs k=none
 pats:∀ b,∃ o,I.B.get? (I.pA b)=some o/\o.cls=.type "re.Pattern"/\o.dict=none
 patA:PlainAttrs "re.Pattern"
 patS:Slot "re.Pattern" "search" "re.Pattern.search"
 patT:typeOf (.builtin "re.Pattern.search")=pure (.type "method_descriptor")
 search:∀ (b:Bool) (x:Str) (t:Tok) (A:Around) (s:Shared) (Q:Value->Shared->Prop) (E:Value->Shared->Prop),I.P.okPat b x=true->(∀ a o,I.B.get? a=some o->s.heap.get? a=some o) ->
  (∀ tk,Q .none { s with toks:=tk })->wpAny (model prog w) A (call (.builtin "re.Pattern.search") [.ref (I.pA b),.str x t]) Q E s
section
variable {I:z2w} {own own':List Addr} {L L':Lim} {w:World} {g gb gC g':Fz} {Z Z1 Z2 Z':Bt} {H Hb H2 H':z0b} {s sB sC s':Shared} {env:Env} {Y Y':z0n} {A:Around} {prog:Program} {lv n:Nat} {S:z6z} {C:z0h} {p q r:PV}
theorem y5n{f:ME->M PV}{m:ME}{ms:List ME}{ps:List PV}(h:z3t f (m::ms) L H=some (ps,H')):∃ p qs Hb,ps=p::qs/\f m L H=some (p,Hb)/\z3t f ms L Hb=some (qs,H'):=by
 obtain⟨p,Hb,h1,h2⟩:=M.bind_some h
 obtain⟨qs,H2,h3,h4⟩:=M.bind_some h2
 obtain⟨rfl,rfl⟩:=M.pure_some h4
 exact⟨p,qs,Hb,rfl,h1,h3⟩
theorem y4k{v:Value}{x:Str}(h:Rel I g Z v (.str x)):s.TypeIs v "str"/\∀ a,v=.ref a->∃ ob:Obj,s.heap.get? a=some ob/\ob.dict=none:=by
 obtain⟨t,rfl⟩:=h.str_inv
 exact⟨rfl,fun a ha=>by cases ha⟩
theorem x0z{v:Value}{l:List PV}(R:SR I w.params g Z H s.heap)(h:Rel I g Z v (.lst l)):s.TypeIs v "list"/\∀ a,v=.ref a->∃ ob:Obj,s.heap.get? a=some ob/\ob.dict=none:=by
 obtain⟨a,o,vs,rfl,g1,g4,g2,g3⟩:=h.lst_inv
 obtain⟨n,_,hd⟩:=g4.2
 exact⟨(z0s (R.sub _ _ g1) g4).typeIs,fun a ha=>by injection ha with ha;subst ha;exact⟨_,R.sub _ _ g1,hd⟩⟩
theorem x8q{p':q7h}{nmx:String}{p0:PV}{ps:List PV}{G:Prop}(hA:AOk A lv)(hp:y4e p'=some nmx)(e:z4z I.P p' H (p0::ps)=some p)
 (k:∀ T' id,PlainAttrs T'->Slot T' (Str.ofString nmx) id->typeOf (.builtin id)=pure (.type "method_descriptor") ->
   (∀ v gb Z1 Hb (sB:Shared),SR I w.params gb Z1 Hb sB.heap->Rel I gb Z1 v p0->sB.TypeIs v T'/\∀ a,v=.ref a->∃ ob:Obj,sB.heap.get? a=some ob/\ob.dict=none) ->
   (∀ v vs gC Z2 (sC:Shared),SR I w.params gC Z2 H sC.heap->Rel I gC Z2 v p0->z0e I gC Z2 vs ps->Go I prog w A [] L gC Z2 H (call (.builtin id) (v::vs) []) H (P.val I p) sC)->G):G:=by
 cases p' with
 | lower=>
  obtain rfl:=AF hp
  obtain⟨a,hq,e1⟩:=one_inv e
  obtain⟨x,ex,e2⟩:=z5m e1
  obtain⟨hb,e3⟩:=z0q e2
  have q:=List.cons.inj hq
  refine k _ _ F.plainAttrs_str F.slot_str_lower F.type_str_lower (fun v gb Z1 Hb sB Rb pv=>y4k (ex▸q.1▸pv)) fun v vs gC Z2 sC Rc pv pr=>?_
  have pr':z0e I gC Z2 vs []:=q.2▸pr
  rw [pr'.nil_inv,<- AF e3]
  exact x0n Rc (ex▸q.1▸pv) hb
 | upper=>
  obtain rfl:=AF hp
  obtain⟨a,hq,e1⟩:=one_inv e
  obtain⟨x,ex,e2⟩:=z5m e1
  obtain⟨hb,e3⟩:=z0q e2
  have q:=List.cons.inj hq
  refine k _ _ F.plainAttrs_str F.slot_str_upper F.type_str_upper (fun v gb Z1 Hb sB Rb pv=>y4k (ex▸q.1▸pv)) fun v vs gC Z2 sC Rc pv pr=>?_
  have pr':z0e I gC Z2 vs []:=q.2▸pr
  rw [pr'.nil_inv,<- AF e3]
  exact x0o Rc (ex▸q.1▸pv) hb
 | split=>
  obtain rfl:=AF hp
  obtain⟨a,b,hq,e1⟩:=two_inv e
  obtain⟨x,ex,e2⟩:=z5m e1
  obtain⟨y,ey,e3⟩:=z5m e2
  obtain⟨hb,e4⟩:=z0q e3
  have q:=List.cons.inj hq
  refine k _ _ F.plainAttrs_str F.slot_str_split F.type_str_split (fun v gb Z1 Hb sB Rb pv=>y4k (ex▸q.1▸pv)) fun v vs gC Z2 sC Rc pv pr=>?_
  obtain⟨u,rfl,pu⟩:=(q.2▸pr).one_inv
  rw [<- AF e4]
  exact x0p Rc (ex▸q.1▸pv) (ey▸pu) hb.1 hb.2
 | join=>
  obtain rfl:=AF hp
  obtain⟨a,b,hq,e1⟩:=two_inv e
  obtain⟨x,ex,e2⟩:=z5m e1
  obtain⟨l,hl',e3⟩:=z1f e2
  obtain⟨ts,hts,e4⟩:=z1f e3
  obtain⟨hj,e5⟩:=z0q e4
  have q:=List.cons.inj hq
  refine k _ _ F.plainAttrs_str F.slot_str_join F.type_str_join (fun v gb Z1 Hb sB Rb pv=>y4k (ex▸q.1▸pv)) fun v vs gC Z2 sC Rc pv pr=>?_
  obtain⟨u,rfl,pu⟩:=(q.2▸pr).one_inv
  rw [<- AF e5]
  exact x8a Rc (ex▸q.1▸pv) pu hl' hts hj
 | index=>
  obtain rfl:=AF hp
  obtain⟨a,b,hq,e1⟩:=two_inv e
  obtain⟨l,el,e2⟩:=z7b e1
  obtain⟨ds,hds,e3⟩:=z1f e2
  obtain⟨d,hd,e4⟩:=z1f e3
  obtain⟨hdd,e5⟩:=z0q e4
  obtain⟨m,hi,e6⟩:=z1d e5
  have q:=List.cons.inj hq
  refine k _ _ F.plainAttrs_list F.slot_list_index F.type_list_index (fun v gb Z1 Hb sB Rb pv=>x0z Rb (el▸q.1▸pv)) fun v vs gC Z2 sC Rc pv pr=>?_
  obtain⟨u,rfl,pu⟩:=(q.2▸pr).one_inv
  rw [<- e6]
  exact x0q Rc hA (el▸q.1▸pv) pu hds hd hdd hi
 | _=>contradiction
theorem q2a{pr:q7h}{mo:ME}{ms:List ME}(h:z1g I.P C S Y (.prim pr (mo::ms)) L H=some (p,H')):∃ p0 ps Hb,S.ev Y mo L H=some (p0,Hb)/\z3t (S.ev Y) ms L Hb=some (ps,H')/\z4z I.P pr H' (p0::ps)=some p:=by
 obtain⟨qs,h1,e⟩:=M.then_some (f:=fun J vs=>z4z I.P pr J vs) h
 obtain⟨p0,ps,Hb,e1,h5,h6⟩:=y5n h1
 exact⟨p0,ps,Hb,h5,h6,e1▸e⟩
theorem q5i{p':q7h}{x:Str}{nmx:String}{o':Expr}{es:List Expr}{mo:ME}{ms:List ME}{ap cp:Pos}(T:z0r I)(hE:z4q I prog w lv S.ev)(hA:AOk A lv)(R:SR I w.params g Z H s.heap)(O:z0j I own env Y g Z s.heap)
 (hp:y4e p'=some nmx)(hx:x=Str.ofString nmx)(hsf:z1h o'=false)(hline:(ap.endLine==cp.line)=true)(hl:es.length<20)(hc:z0o I.t n env.scope.names o' mo=true)(hcs:z2k (z0o I.t n env.scope.names) es ms=true)
 (h:z1g I.P C S Y (.prim p' (mo::ms)) L H=some (p,H')):Go I prog w A [] L g Z H (eval (.Call (.Attribute o' x ap) es [] cp) env) H' (P.val I p) s:=by
 obtain⟨p0,ps,Hb,h5,h6,e⟩:=q2a h
 exact x8q (I:=I) (L:=L) (w:=w) (prog:=prog) hA hp e fun T' id m1 m2 m3 m4 m5=>q7v T hE hA R O hsf hline hl hc hcs h5 h6 m1 (hx▸m2) m3 (fun v gb Z1 sB Rb pv=>m4 v gb Z1 _ sB Rb pv) fun v vs gC Z2 sC G Rc pv pr=>m5 v vs gC Z2 sC Rc pv pr
theorem j0s{x:Str}{d:Expr}{es:List Expr}{ms:List ME}{ap cp:Pos}(T:z0r I)(W:q1z I prog w)(hE:z4q I prog w lv S.ev)(hA:AOk A lv)(R:SR I w.params g Z H s.heap)(O:z0j I own env Y g Z s.heap)
 (hx:x=("get":Str))(hd:z0z I.t env.scope.names d (.ref I.dA)=true)(hline:(ap.endLine==cp.line)=true)(hl:es.length=2)(hcs:z2k (z0o I.t n env.scope.names) es ms=true)
 (h:z1g I.P C S Y (.prim .flagGet ms) L H=some (p,H')):Go I prog w A [] L g Z H (eval (.Call (.Attribute d x ap) es [] cp) env) H' (P.val I p) s:=by
 obtain⟨ps,h1,e⟩:=M.then_some (f:=fun J vs=>z4z I.P .flagGet J vs) h
 obtain⟨kp,df,e0,e⟩:=two_inv e
 obtain⟨k,e1,e⟩:=z6h e
 clear h
 subst e1 e0
 subst hx
 obtain⟨kvs,D,hsys,hk⟩:=W.flags
 intro Q E q
 obtain⟨y,py,rfl,_⟩:=z4b hd
 rw [arm_eval_Call,y4i rfl]
 refine AB (z8m (L:=L) T R O hd _ _ fun fv gb Z1 sB Gb Rb eB=>?_)
 subst eB
 refine AB (BT ?_)
 have hpos:methodCallPos true (.Name y py) env ap cp=pure cp:=by unfold methodCallPos;simp [hline]
 unfold methodCall
 have hform:methodCallForm (es.length+([]:List Keyword).length) (backTo cp (starEach es env)) (backToKw cp (keywordEach [] env))=true:=y9n hcs (by omega)
 rw [hform]
 unfold calleeOf
 rw [AQ rfl]
 have D1:=D.keep Rb.up
 refine AB (BQ (getMethod_builtin D1.typeIs F.plainAttrs_dict F.slot_dict_get F.type_dict_get D1.mapOf.noDict ?_))
 refine AB (wpAny_of_eq hpos ?_)
 refine z4u (first:=[.ref I.dA]) (Pst:=P.val I p) T hE hA (z2q (fun _ h=>by contradiction)) Rb (O.step Gb) hcs h1 (fun vs gC Z2 sC Gc Rc pC=>?_) Q E fun a gC Z2 sC Gc Rc pC=>q a gC Z2 sC (Gb.trans R Gc) Rc pC
 obtain⟨u,v,rfl,pu,pv⟩:=pC.two_inv
 obtain⟨tk,rfl⟩:=pu.int_inv
 have Dc:=D.keep Rc.up
 refine Go.tok Rc fun Q E q=>call_meetsIn F.slot_dict_get Dc.typeIs F.entry_dict_get (F.args_dict_get_3 _ _ _) (meets_dict_get_default (intKind prog w) I.dA (intKind_is prog w k tk) hsys v) ⟨_,Dc.mapOf,?_⟩
 have hkk:=hk k
 refine q _ _ ?_
 clear q
 injection e with e;subst e
 split at hkk
 ·rename_i y hy
  obtain⟨t,ht⟩:=hkk
  rw [ht]
  first | exact .str _ _ | (rw [hy];exact .str _ _)
 ·rename_i hy
  rw [hkk]
  first | exact pv | (rw [hy];exact pv)
theorem j4h{x:Str}{o':Expr}{es:List Expr}{mo:ME}{ms:List ME}{ap cp:Pos}(T:z0r I)(W:q1z I prog w)(hE:z4q I prog w lv S.ev)(hA:AOk A lv)(R:SR I w.params g Z H s.heap)(O:z0j I own env Y g Z s.heap)
 (hx:x=("search":Str))(hsf:z1h o'=false)(hline:(ap.endLine==cp.line)=true)(hl:es.length<20)(hc:z0o I.t n env.scope.names o' mo=true)(hcs:z2k (z0o I.t n env.scope.names) es ms=true)
 (h:z1g I.P C S Y (.prim .search (mo::ms)) L H=some (p,H')):Go I prog w A [] L g Z H (eval (.Call (.Attribute o' x ap) es [] cp) env) H' (P.val I p) s:=by
 obtain⟨p0,ps,Hb,h5,h6,e⟩:=q2a h
 obtain⟨a,b,hq,f1⟩:=two_inv e
 obtain⟨t,e1,f2⟩:=x0a f1
 obtain⟨x',e2,f3⟩:=z5m f2
 obtain⟨hb,f4⟩:=z0q f3
 clear h e f1 f2 f3
 cases hq
 cases f4
 subst e1 e2 hx
 refine q7v T hE hA R O hsf hline hl hc hcs h5 h6 W.patA W.patS W.patT (fun v gb Z1 sB Rb pv=>?_) fun v vs gC Z2 sC G Rc pv pr=>?_
 ·obtain rfl:=pv.pat_inv
  obtain⟨o,ho,h7,h8⟩:=W.pats t
  exact⟨⟨o,Rb.up _ _ ho,h7⟩,fun a ha=>Value.ref.inj ha▸⟨o,Rb.up _ _ ho,h8⟩⟩
 ·obtain⟨u,rfl,pu⟩:=pr.one_inv
  obtain rfl:=pv.pat_inv
  obtain⟨tk,rfl⟩:=pu.str_inv
  exact Go.tok Rc fun Q E q=>W.search _ _ _ _ _ _ _ hb Rc.up fun tk=>q _ _ .none
end
section
variable {I:z2w} {own own':List Addr} {L L':Lim} {w:World} {g gb gC g':Fz} {Z Z1 Z2 Z':Bt} {H Hb H2 H':z0b} {s sB sC s':Shared} {env:Env} {Y Y':z0n} {A:Around} {prog:Program} {lv n:Nat} {S:z6z} {C:z0h} {p q r:PV}
theorem x8r{pos:Pos}{es:List Expr}{ms:List ME}{kn:Str}{ke:Expr}{kp:Pos}(hc:z2k (z0o I.t n env.scope.names) es ms=true)(hl:es.length<20):methodCallForm (es.length+1) (backTo pos (starEach es env)) (backToKw pos (keywordEach [⟨some kn,ke,kp⟩] env))=true:=by
 unfold methodCallForm
 rw [y9m hc]
 show(true&&true&&decide (es.length+1+1<30))=true
 simp;lia
theorem x8s{m kk:Nat}{mo mk:ME}{ms:List ME}{G:Prop}(h:z1g I.P C S Y (.methk m mo ms kk mk) L H=some (p,H'))
 (k:∀ c i l Hb H2 Hd ps pk f,S.ev Y mo L H=some (.inst c i,Hb)->Hb[i]?=some (.att l)->z3t (S.ev Y) ms L Hb=some (ps,H2)->S.ev Y mk L H2=some (pk,Hd)->I.P.meth c m=some f->C f (.inst c i::ps) [(kk,pk)] L Hd=some (p,H')->G):G:=by
 obtain⟨u,Hb,h1,h2⟩:=M.bind_some h
 obtain⟨_,_,h6,h7⟩:=M.bind_some h2
 obtain⟨c,i,l,e,e2,hl⟩:=q1v h6
 obtain⟨ps,H2,h3,h4⟩:=M.bind_some h7
 obtain⟨pk,Hd,h8,h9⟩:=M.bind_some h4
 obtain⟨c',i',f,e0,hf,h5⟩:=z6p h9
 have q:=PV.inst.inj (e.symm.trans e0)
 exact k c i l Hb H2 Hd ps pk f (e▸h1) hl (e2▸h3) h8 (q.1▸hf) (e▸h5)
theorem x1a{o':Expr}{x kn:Str}{m kk:Nat}{mo mk:ME}{es:List Expr}{ke:Expr}{kp:Pos}{ms:List ME}{ap cp:Pos}(T:z0r I)(hC:j0o I prog w lv C)(hE:z4q I prog w lv S.ev)(hA:AOk A lv)(R:SR I w.params g Z H s.heap)(O:z0j I own env Y g Z s.heap)
 (hm:I.nm[m]?=some x)(hsf:z1h o'=false)(hline:(ap.endLine==cp.line)=true)(hl:es.length<20)(hc:z0o I.t n env.scope.names o' mo=true)(hcs:z2k (z0o I.t n env.scope.names) es ms=true)
 (hkn:I.nm[kk]?=some kn)(hck:z0o I.t n env.scope.names ke mk=true)
 (h:z1g I.P C S Y (.methk m mo ms kk mk) L H=some (p,H')):Go I prog w A [] L g Z H (eval (.Call (.Attribute o' x ap) es [⟨some kn,ke,kp⟩] cp) env) H' (P.val I p) s:=by
 refine x8s h fun c i l Hb H2 Hd ps pk f h1 hcell h3 h8 hf h5=>?_
 clear h
 refine z8n hsf hline (x8r hcs hl) R (hE hA R O hc h1) fun v gb Z1 sB Gb Rb pB=>⟨.ref (I.fA f),[v],fun Q E pl q=>y1c T Rb pB hcell hf hm q,fun Q E q=>?_⟩
 have Ob:=O.step Gb
 have tail:∀ vs gC Z2 sC,z1e [] L gb Z1 Hb sB gC Z2 H2 sC->SR I w.params gC Z2 H2 sC.heap->z0e I gC Z2 vs ps ->
   wpAny (model prog w) A (evalAll ((backToKw cp (keywordEach [⟨some kn,ke,kp⟩] env)).map (·.2))) (fun ks sd=>I.K.In sd.heap/\wpAny (model prog w) A (call (.ref (I.fA f)) ([v]++vs) (((backToKw cp (keywordEach [⟨some kn,ke,kp⟩] env)).filterMap (·.1)).zip ks)) Q E sd) E sC:=fun vs gC Z2 sC Gc Rc pC=>by
  refine wpAny_evalAll_cons ?_
  show wpAny (model prog w) A (eval ke env>>=fun v=>PySem.standAt cp>>=fun _=>pure v) _ E sC
  exact AB (hE hA Rc (Ob.step Gc) hck h8 _ _ fun kv gD Z3 sd Gd Rd pd=>AB (BT (AG (wpAny_evalAll_nil ⟨T.there Rd,
   (hC hA.s Rd (.cons ((pB.mono Gc.gle Gc.ble).mono Gd.gle Gd.ble) (pC.mono Gd.gle Gd.ble)) (.cons hkn pd .nil) h5).go Q E fun a gE Z4 se Ge RE p4=>q a gE Z4 se (Gc.trans Rb (Gd.trans Rc Ge)) RE p4⟩))))
 refine callWith_of (by rw [y9k hcs];rfl) (fun h X=>keeps_K (T.meths _ _ _ _ hf hm).2.2.2.2 h X) ?_
 clear q
 induction es using List.casesOn with
 | nil=>
  induction ms using List.casesOn with
  | cons _ _=>contradiction
  | nil=>
   injection h3 with h3;injection h3 with eB eC;subst eB;subst eC
   exact evalArgs_kw_nil rfl (tail [] gb Z1 sB .refl Rb .nil)
 | cons e es=>
  induction ms using List.casesOn with
  | nil=>contradiction
  | cons m' ms=>
   have hmain:=z7f (pos:=cp) hE hA Rb Ob hcs h3
   rw [z2i (z4a (z0v hcs).1)] at hmain ⊢
   exact evalArgs_kw rfl (hmain _ _ fun vs gC Z2 sC Gc Rc pC=>tail vs gC Z2 sC Gc Rc pC)
theorem j4i{c f:Nat}{vs:List Value}(T:z0r I)(hA:AOk A lv)(R:SR I w.params g Z H s.heap)(hf:I.P.meth c y4y=some f)
 (k:∀ x gb Z1 sB,z1e [] L g Z H s gb Z1 (H++[.att []]) sB->SR I w.params gb Z1 (H++[.att []]) sB.heap->Rel I gb Z1 (.ref x) (.inst c H.length) ->
   ∀ (A':Around) (Rr:Result->Shared->Prop),k3a A' lv->(∀ g' Z' s',z1e [] L gb Z1 (H++[.att []]) sB g' Z' H' s'->SR I w.params g' Z' H' s'.heap->Rr (.ok (.ret .none)) s')->codeAny (model prog w) A' (.call (.ref (I.fA f)) ⟨.ref x::vs,[]⟩) Rr sB) :
  Go I prog w A [] L g Z H (call (.ref (I.cA c)) vs []) H' (P.val I (.inst c H.length)) s:=by
 intro Q E q
 obtain⟨t1,t2,t3,t4,t5⟩:=T.meths _ _ _ _ hf T.n0
 have X:=T.there R
 have hn:=get?_size s.heap
 have hk1:∀ b x,s.heap.get? b=some x->(s.heap.push emptyDict).get? b=some x:=fun b x e=>AO _ e
 have G1:z1e [] L g Z H s g (q4p Z H.length s.heap.objs.size) (H++[.att []]) { s with heap:=s.heap.push emptyDict }:=z1e.cellNew (c:=.att []) (tk:=s.toks) R hk1 hn
 have R1:SR I w.params g (q4p Z H.length s.heap.objs.size) (H++[.att []]) (s.heap.push emptyDict):=R.cellNew hk1 hn ⟨[],0,AZ _ rfl,.nil,by decide⟩
 have hn2:=get?_size (s.heap.push emptyDict)
 have hk2:∀ b x,(s.heap.push emptyDict).get? b=some x->((s.heap.push emptyDict).push (instObj (I.cA c) s.heap.objs.size)).get? b=some x:=fun b x e=>AO _ e
 have hsz:(s.heap.push emptyDict).objs.size=s.heap.objs.size+1:=by rw [FQ]
 have ho2:((s.heap.push emptyDict).push (instObj (I.cA c) s.heap.objs.size)).get? (s.heap.push emptyDict).objs.size=some (instObj (I.cA c) s.heap.objs.size):=AZ _ rfl
 have G2:=z1e.add (own:=[]) (L:=L) (s:={ s with heap:=s.heap.push emptyDict }) (tk:=s.toks) (o:=instObj (I.cA c) s.heap.objs.size) R1 hk2 hn2
 have R2:=SR.add (s:={ s with heap:=s.heap.push emptyDict }) R1 hk2 hn2 ho2
 have G12:=G1.trans R G2
 have hrel:Rel I (y3y g (s.heap.push emptyDict).objs.size (instObj (I.cA c) s.heap.objs.size)) (q4p Z H.length s.heap.objs.size) (.ref (s.heap.push emptyDict).objs.size) (.inst c H.length):=.inst (y0q ..) (z2f ..)
 refine wpAny_call ?_
 obtain⟨hh,gs,dd,tt,os⟩:=s
 refine make_core (makes_of X (T.makesC c f hf)) (looks_findIn X t1) (fun self=>bind_fn X self (BE.mp t2)) (.inl rfl) ?_
 have hw:(Code.builtin "type.__call__" ⟨.ref (I.cA c)::vs,[]⟩).weight=1:=rfl
 have hu:(Code.builtin "type.__call__" ⟨.ref (I.cA c)::vs,[]⟩).cUnits=1:=rfl
 have hA':k3a (A.under (.builtin "type.__call__" ⟨.ref (I.cA c)::vs,[]⟩)) lv:=⟨hA.handled,by
  show A.depth+(Code.builtin "type.__call__" ⟨.ref (I.cA c)::vs,[]⟩).weight+12*lv<=806
  rw [hw];have:=hA.depth;lia,by
  show A.units+(Code.builtin "type.__call__" ⟨.ref (I.cA c)::vs,[]⟩).cUnits+200*lv<=9100
  rw [hu];have:=hA.units;lia⟩
 dsimp only at hsz G12 R2 hrel
 rw [<- hsz]
 exact k _ _ _ _ G12 R2 hrel _ _ hA' fun g' Z' s' G R'=>⟨rfl,q _ g' Z' s' (G12.trans R G) R' (hrel.mono G.gle G.ble)⟩
theorem w2j{c:Nat}{ms:List ME}{G:Prop}(h:z1g I.P C S Y (.new c ms) L H=some (p,H'))
 (k:∀ f ps Hb,I.P.meth c y4y=some f->z3t (S.ev Y) ms L H=some (ps,Hb)->C f (.inst c Hb.length::ps) [] L (Hb++[.att []])=some (.none,H')->p=.inst c Hb.length->G):G:=by
 obtain⟨f,hf,h1⟩:=M.opt_some (o:=I.P.meth c y4y) (f:=fun f=>(z3t (S.ev Y) ms).bind fun vs=>y4x.bind fun i=>(C f (.inst c i::vs) []).bind fun r=>if z3b r then M.pure (PV.inst c i) else(M.fail:M PV)) h
 obtain⟨ps,Hb,h2,h3⟩:=M.bind_some h1
 obtain⟨r,Hd,h5,h6⟩:=M.bind_some (m:=C f (.inst c Hb.length::ps) []) (f:=fun r=>if z3b r then M.pure (PV.inst c Hb.length) else(M.fail:M PV)) (L:=L) (H:=Hb++[z3a.att []]) h3
 obtain⟨hr,h7⟩:=M.if_some h6
 obtain⟨e1,e2⟩:=M.pure_some h7
 have er:r=.none:=by induction r using PV.casesOn<;>first | rfl | contradiction
 exact k f ps Hb hf h2 (er▸e2▸h5) e1.symm
theorem k5b{c:Nat}{ms:List ME}{G:Prop}(h:z1g I.P C S Y (.newg c ms) L H=some (p,H'))
 (k:∀ f ps Hb H4 l,I.P.meth c y4y=some f->z3t (S.ev Y) ms L H=some (ps,Hb)->C f (.inst c Hb.length::ps) [] ⟨L.b,Hb.length⟩ (Hb++[.att []])=some (.none,H4)->H4[Hb.length]?=some (.att l)->L.ab<=Hb.length->z8h (Hb++[z3a.att []]).length l=true->p=.inst c Hb.length->H'=H4.take (Hb++[z3a.att []]).length->G):G:=by
 obtain⟨f,hf,h1⟩:=M.opt_some (o:=I.P.meth c y4y) (f:=fun f=>(z3t (S.ev Y) ms).bind fun vs=>y4x.bind fun i=>(y2y i (C f (.inst c i::vs) [])).bind fun _=>M.pure (PV.inst c i)) h
 obtain⟨ps,Hb,h2,h3⟩:=M.bind_some h1
 obtain⟨r,h5,ep⟩:=M.map_some (m:=y2y Hb.length (C f (.inst c Hb.length::ps) [])) (f:=fun _=>PV.inst c Hb.length) (L:=L) (H:=Hb++[z3a.att []]) h3
 clear h h1 h3
 unfold y2y at h5
 split at h5
 ·split at h5
  ·rename_i v H4 h7 _ l hl
   obtain⟨⟨hab,_,hatt,hnone⟩,e⟩:=z0q h5
   have ev:v=.none:=by induction v using PV.casesOn<;>first | rfl | contradiction
   exact k f ps Hb H4 l hf h2 (ev▸h7) hl hab hatt ep.symm (FP (AF e)).2.symm
  ·contradiction
 ·contradiction
theorem k5c{fe:Expr}{c:Nat}{es:List Expr}{ms:List ME}{pos:Pos}(T:z0r I)(hC:j0o I prog w lv C)(hE:z4q I prog w lv S.ev)(hA:AOk A lv)(R:SR I w.params g Z H s.heap)(O:z0j I own env Y g Z s.heap)
 (hf:z0z I.t env.scope.names fe (.ref (I.cA c))=true)(hc:z2k (z0o I.t n env.scope.names) es ms=true)(h:z1g I.P C S Y (.new c ms) L H=some (p,H')) :
  Go I prog w A [] L g Z H (eval (.Call fe es [] pos) env) H' (P.val I p) s:=by
 refine w2j h fun f ps Hb hI h1 h5 ep=>?_
 clear h
 subst ep
 refine y1b T hE hA R O hf (fun h X=>keeps_K (T.keepC c) h X) hc h1 fun vs gb Z1 sB Gb Rb pB=>?_
 refine j4i T hA Rb hI fun x gC Z2 sC Gc Rc pC A' Rr hA1 k=>hC hA1 Rc (.cons pC (pB.mono Gc.gle Gc.ble)) .nil h5 Rr fun v g' Z' s' G R' pv=>?_
 obtain rfl:=pv.none_inv
 exact k g' Z' s' G R'
theorem j4j{l:List (Nat×PV)}{d:Nat}(G:z1e [] ⟨d,Hb.length⟩ g Z (Hb++[.att []]) s gb Z1 H2 sB)(hlt:∀ i,i<(Hb++[z3a.att []]).length->i≠Hb.length->i<Hb.length)(hl:H2[Hb.length]?=some (.att l))(hatt:z8h (Hb++[z3a.att []]).length l=true) :
  ∀ i l',i<(Hb++[z3a.att []]).length->H2[i]?=some (.att l')->(i<Hb.length/\(Hb++[z3a.att []])[i]?=some (.att l'))\/z8h (Hb++[z3a.att []]).length l'=true:=fun i l' hi hc'=>by
 by_cases e:i=Hb.length
 ·rw [e,hl] at hc'
  exact .inr (z3a.att.inj (AF hc')▸hatt)
 ·have hcc:=AP hi
  obtain⟨c',h3,h4⟩:=G.kinds i _ hcc
  rw [AF (h3.symm.trans hc')] at h4
  cases hk:(Hb++[z3a.att []])[i] with
  | lst _=>rw [hk] at h4;exact h4.elim
  | att l''=>
   rw [hk] at hcc
   have h5:=G.atts i l'' hcc (hlt i hi e)
   rw [z3a.att.inj (AF (hc'.symm.trans h5))]
   exact .inl ⟨hlt i hi e,hcc⟩
theorem j4k(Rc:SR I w.params g Z (Hb++[.att []]) s.heap)(G:z1e [] ⟨L.b,Hb.length⟩ g Z (Hb++[.att []]) s gb Z1 H2 sB)(R':SR I w.params gb Z1 H2 sB.heap)(hlt:∀ i,i<(Hb++[z3a.att []]).length->i≠Hb.length->i<Hb.length)(hab:L.ab<=Hb.length) :
  z1e [] L g Z (Hb++[.att []]) s (q0x gb Z1 H2 (Hb++[z3a.att []]).length sB.heap) Z (H2.take (Hb++[z3a.att []]).length) sB:=
 z1e.letGo (L:=L) Rc G R' (fun a hf j hj=>⟨fun l hl=>(hf j hj).1 l hl,fun l' hl'=>by
  by_cases e:j=Hb.length
  ·exact absurd (BW ((hf j hj).2 l' hl') hab) (e▸EX _)
  ·exact hlt j (Rc.lt j a hj) e⟩) (fun i l h hb=>hb) (fun i l h hb=>BW hb hab)
theorem x8t{fe:Expr}{c:Nat}{es:List Expr}{ms:List ME}{pos:Pos}(T:z0r I)(hC:j0o I prog w lv C)(hE:z4q I prog w lv S.ev)(hA:AOk A lv)(R:SR I w.params g Z H s.heap)(O:z0j I own env Y g Z s.heap)
 (hf:z0z I.t env.scope.names fe (.ref (I.cA c))=true)(hc:z2k (z0o I.t n env.scope.names) es ms=true)(h:z1g I.P C S Y (.newg c ms) L H=some (p,H')) :
  Go I prog w A [] L g Z H (eval (.Call fe es [] pos) env) H' (P.val I p) s:=by
 refine k5b h fun f ps Hb H4 l hI h1 h7 hl hab hatt ep es=>?_
 clear h
 subst ep es
 refine y1b T hE hA R O hf (fun h X=>keeps_K (T.keepC c) h X) hc h1 fun vs gb Z1 sB Gb Rb pB=>?_
 refine j4i T hA Rb hI fun x gC Z2 sC Gc Rc pC A' Rr hA1 k=>hC hA1 Rc (.cons pC (pB.mono Gc.gle Gc.ble)) .nil h7 Rr fun v' g' Z' s' G R' pv=>?_
 obtain rfl:=pv.none_inv
 have hlt:∀ i,i<(Hb++[z3a.att []]).length->i≠Hb.length->i<Hb.length:=fun i h1 h2=>Nat.lt_of_le_of_ne (DM (by rw [AE] at h1;exact h1)) h2
 exact k _ _ s' (j4k Rc G R' hlt hab) (SR.letGo Rc G R' (fun a h=>nomatch h) (j4j G hlt hl hatt))
theorem IntsAre.cons_inv{vs:List Value}{ns:List Int}{i:Int}(h:IntsAre vs (i::ns)):∃ t r,vs=.int i t::r/\IntsAre r ns:=by
 cases h with
 | cons _ t h=>exact⟨_,_,rfl,h⟩
theorem j0t{D:Addr}{St:Int->Bool}{m:Nat}{i:Int}{t:Tok}{Q:Shared->Prop}{E:Value->Shared->Prop}(hS:s.heap.SetOf (intKind prog w) D St m)(hroom:m+1<scanBound)
 (h:∀ h' tk,Heap.SameBut D s.heap h'->h'.SetOf (intKind prog w) D (fun k=>St k || decide (k=i)) (if St i then m else m+1)->Q { s with heap:=h',toks:=tk }):wpAny (model prog w) A (setAdd D (.int i t)) (fun _ s'=>Q s') E s:=by
 unfold setAdd
 refine BQ (AB ((intKind prog w).pyHash (k:=i) (intKind_is _ _ _ _) ?_))
 exact wpAny_setAddHashed_of (s:={ s with toks:=s.toks+1 }) (intKind_is _ _ _ _) rfl hS hroom fun h' hsb hS'=>h h' _ hsb hS'
theorem q7w{D:Addr}{Q:Value->Shared->Prop}{E:Value->Shared->Prop}:∀ {ns:List Int} {vs:List Value} {s:Shared} {St:Int->Bool} {m:Nat},IntsAre vs ns->s.heap.SetOf (intKind prog w) D St m->m+ns.length<100 ->
  (∀ h' tk,(∀ b,b≠D->h'.get? b=s.heap.get? b)->(∃ St',h'.SetOf (intKind prog w) D St' (m+z5s St ns))->Q (.ref D) { s with heap:=h',toks:=tk })->KdsFill (model prog w) A E false D Q vs s
 | [],vs,s,St,m,hi,hS,hb,k=>by
  cases hi
  exact kds_fill_nil rfl (k s.heap s.toks (fun _ _=>rfl) ⟨_,hS⟩)
 | i::ns,vs,s,St,m,hi,hS,hb,k=>by
  obtain⟨t,r,rfl,hr⟩:=IntsAre.cons_inv hi
  simp only [BD] at hb
  refine kds_fill_cons (j0t hS (by simp only [scanBound];lia) fun h' tk hsb hS'=>?_)
  refine q7w (ns:=ns) hr hS' (by split<;>lia) fun h'' tk' hk hS''=>k h'' tk' (fun b hb=>(hk b hb).trans (hsb.2 b hb)) ?_
  obtain⟨St',hS''⟩:=hS''
  refine⟨St',?_⟩
  have e:m+z5s St (i::ns)=(if St i=true then m else m+1)+z5s (fun k=>St k || decide (k=i)) ns:=by
   show m+((if St i=true then 0 else 1)+z5s (fun k=>St k || decide (k=i)) ns)=_
   split<;>lia
  rw [e];exact hS''
theorem q2b{D:Addr}(hE:z4q I prog w lv S.ev)(hA:AOk A lv){Q:List Value->Shared->Prop}{E:Value->Shared->Prop}:∀ {es:List Expr} {ms:List ME} {g:Fz} {Z:Bt} {H H':z0b} {s:Shared} {ps:List PV},SR I w.params g Z H s.heap->z0j I own env Y g Z s.heap ->
  z2k (z0o I.t n env.scope.names) es ms=true->z3t (S.ev Y) ms L H=some (ps,H') ->
  (∀ vs g' Z' s',z1e [] L g Z H s g' Z' H' s'->SR I w.params g' Z' H' s'.heap->z0e I g' Z' vs ps->Q vs s')->KdsAll (model prog w) A E env es Q s
 | [],ms,g,Z,H,H',s,ps,R,O,hc,hm,k=>by
  induction ms using List.casesOn with
  | cons _ _=>contradiction
  | nil=>injection hm with hm;injection hm with eB eC;subst eB;subst eC;exact k [] g Z s .refl R .nil
 | e::es,ms,g,Z,H,H',s,ps,R,O,hc,hm,k=>by
  induction ms using List.casesOn with
  | nil=>contradiction
  | cons m ms=>
   obtain⟨c1,c2⟩:=z0v hc
   obtain⟨p,qs,Hb,rfl,h1,h2⟩:=y5n hm
   show wpAny (model prog w) A (eval e env) _ E s
   refine hE hA R O c1 h1 _ _ fun v gb Z1 sB Gb Rb pB=>?_
   exact q2b (D:=D) hE hA Rb (O.step Gb) c2 h2 fun vs gC Z2 sC Gc Rc pC=>k _ gC Z2 sC (Gb.trans R Gc) Rc (.cons (pB.mono Gc.gle Gc.ble) pC)
theorem y7p:∀ {es:List Expr} {ms:List ME},z2k (z0o I.t n env.scope.names) es ms=true->es.all kdsPlain=true
 | [],_,_=>rfl
 | e::es,[],h=>by contradiction
 | e::es,m::ms,h=>by
  obtain⟨c1,c2⟩:=z0v h
  have h1:=z4a c1
  rw [List.all_cons,y7p c2]
  cases e<;>first | rfl | (contradiction;done)
theorem j4l{f:Expr}{es:List Expr}{ms:List ME}{pos cp:Pos}(T:z0r I)(hE:z4q I prog w lv S.ev)(hA:AOk A lv)(R:SR I w.params g Z H s.heap)(O:z0j I own env Y g Z s.heap)
 (hf:z0z I.t env.scope.names f (.builtin "len")=true)(hl:es.length=4)(hr:j3q (displayRoad 0 es)=true)(hcs:z2k (z0o I.t n env.scope.names) es ms=true)
 (h:z1g I.P C S Y (.prim .lenSet ms) L H=some (p,H')):Go I prog w A [] L g Z H (eval (.Call f [.Set es 0 pos] [] cp) env) H' (P.val I p) s:=by
 obtain⟨ps,Hb,h1,h2⟩:=M.bind_some h
 obtain⟨J,H2,h3,h4⟩:=M.bind_some h2
 obtain⟨rfl,rfl⟩:=M.getH_some h3
 obtain⟨e,rfl⟩:=M.ofOpt_some h4
 obtain⟨ns,hns,rfl⟩:=z1d (show((z4y ps).map fun ns=>PV.int (y3w ns))=some p from e)
 have hroad:displayRoad 0 es=.oneByOne:=by
  cases hd:displayRoad 0 es<;>rw [hd] at hr<;>first | rfl | contradiction
 obtain⟨y,py,rfl,_⟩:=z4b hf
 intro Q E q
 rw [FX]
 refine AB (z8m (L:=L) T R O hf _ _ fun fv gb Z1 sB Gb Rb eB=>?_)
 subst eB
 refine callWith_of (P:=fun h=>I.K.In h) rfl (z2q (fun _ h=>by contradiction)) (Calls.evalArgs_plain (Calls.spliced_cons ?_))
 rw [arm_eval_Set,hroad]
 refine AB (BT (AB (kds_main (T.there Rb) O.code fun b=>?_)))
 rw [kds_star es (y7p hcs),AW]
 refine kds_core (ts:=(evalEach es env).map fun t=>do let v<-t;PySem.standAt pos;pure v) rfl ?_ ?_ ?_ fun led=>?_
 ·refine List.findIdx?_eq_none_iff.mpr fun x hx=>?_
  obtain⟨t,_,rfl⟩:=AX.mp hx
  rfl
 ·rw [AJ,kds_len];lia
 ·rw [AW];rfl
 have hk:∀ b o,sB.heap.get? b=some o->(sB.heap.push { cls:=.type "set",dict:=none,data:=.set #[] 0 (.fresh 0 0 led) }).get? b=some o:=fun b o e=>AO _ e
 have G2:=y1d (own:=[]) (L:=L) Rb { cls:=.type "set",dict:=none,data:=.set #[] 0 (.fresh 0 0 led) }
 have R2:=Rb.keepAll hk
 have hn:=get?_size sB.heap
 have hnb:∀ i,Z1 i≠some sB.heap.objs.size:=fun i e=>by obtain⟨o,ho⟩:=Rb.here e;rw [hn] at ho;contradiction
 refine kds_all pos es _ _ (q2b (D:=0) (s:={ sB with heap:=sB.heap.push { cls:=.type "set",dict:=none,data:=.set #[] 0 (.fresh 0 0 led) } }) hE hA R2 ((O.step Gb).step G2) hcs h1 fun vs gD Z3 sd Gd Rd pd=>?_)
 have hD:sd.heap.get? sB.heap.objs.size=some { cls:=.type "set",dict:=none,data:=.set #[] 0 (.fresh 0 0 led) }:=Gd.kept _ _ (AZ _ rfl) (by simp) (z1o hnb)
 have hS:sd.heap.SetOf (intKind prog w) sB.heap.objs.size (fun _=>false) 0:=⟨_,#[],0,_,hD,⟨rfl,rfl,rfl⟩,rfl,fun e he=>by simp at he,fun k=>by simp,by decide,by rfl,rfl⟩
 have hi:=y2a pd hns
 have hlen:ns.length=4:=by
  have a1:=hi.length
  have a2:=pd.length
  have a3:=y9l h1
  have a4:=z9d hcs
  lia
 show KdsFill (model prog w) A _ false _ _ vs sd
 refine q7w hi hS (by lia) fun h' tk hsb hS'=>?_
 have hn3:gD sB.heap.objs.size=none:=by
  induction e:gD sB.heap.objs.size using Option.casesOn with
  | none=>rfl
  | some o=>
   have h1:=Gd.gold _ _ (AZ (h:=sB.heap) (o:={ cls:=.type "set",dict:=none,data:=.set #[] 0 (.fresh 0 0 led) }) rfl)
   rw [e] at h1
   rw [Rb.gfree hn] at h1;contradiction
 have hb3:∀ i,Z3 i≠some sB.heap.objs.size:=fun i e=>by
  induction h:Z1 i using Option.casesOn with
  | none=>
   have:=Gd.bnew i _ h e
   rw [AZ (h:=sB.heap) (o:={ cls:=.type "set",dict:=none,data:=.set #[] 0 (.fresh 0 0 led) }) rfl] at this;contradiction
  | some b=>rw [Gd.ble i b h] at e;injection e with e;subst e;exact hnb i h
 have R4:SR I w.params gD Z3 _ h':=Rd.off_ (fun a=>a=sB.heap.objs.size) (fun a e=>e▸hn3) (fun a i e=>e▸hb3 i) fun a o hne e=>(hsb a hne).trans e
 obtain⟨St',o',es',ep',t',ho',hx',hd',_,_,hb',hf',hn'⟩:=hS'
 have G4:z1e [] L gb Z1 _ sB gD Z3 _ { sd with heap:=h',toks:=tk+1+1 }:=z1e.touch (G2.trans Rb Gd) (fun a=>a=sB.heap.objs.size) (fun a o e ho=>by subst e;rw [hn] at ho;contradiction) (fun a o hne e=>(hsb a hne).trans e) (fun a o e ho=>⟨o',e▸ho'⟩)
 refine Calls.spliced_nil ⟨T.there (s:={ sd with heap:=h',toks:=tk }) R4,?_⟩
 refine call_len_set (s:={ sd with heap:=h',toks:=tk }) ho' hx' hd' hf' (by simp only [scanBound] at hb';lia) ?_
 refine q _ gD Z3 _ (Gb.trans R G4) R4 ?_
 have hz:es'.size=y3w ns:=by rw [hn'];simp [y3w]
 rw [hz]
 exact .int _ _
end
section
variable {P:Params} {D:Addr} {I:z2w} {own own':List Addr} {L L':Lim} {w:World} {g g0 gb gC g':Fz} {Z Z0 Z1 Z2 Z':Bt} {H H0 Hb H2 H':z0b} {s sA sB sC s':Shared} {env:Env} {Y Y0 Y':z0n} {A:Around} {prog:Program} {lv n:Nat} {S:z6z} {C:z0h} {p q r:PV}
 {items:List PV} {A7:Addr} {fp wr:List Addr} {Pi:Nat->Value->Prop} {Pt:Nat->List Value->Prop} {St:Nat->Heap->Prop} {i:Nat}
theorem z1e.freeze{o:Obj}(G:z1e own L g Z H s gb Z1 Hb sB)(hn:s.heap.get? D=none)(hg:gb D=none):z1e own L g Z H s (y3y gb D o) Z1 Hb sB:=
 { G with
  gle:=fun a x h=>z2v hg a x (G.gle a x h)
  gold:=fun a x h=>by
   unfold y3y
   rw [AS (fun e=>by rw [e,hn] at h;contradiction)]
   exact G.gold a x h }
theorem SR.freeze{o:Obj}{h:Heap}(R:SR I P g Z H h)(ho:h.get? D=some o)(hg:g D=none)(hb:∀ i,Z i≠some D):SR I P (y3y g D o) Z H h where
 base:=fun a x e=>z2v hg a x (R.base a x e)
 sub:=fun a x e=>by
  unfold y3y at e
  by_cases q:a=D
  ·subst q;rw [AQ rfl] at e;injection e with e;subst e;exact ho
  ·rw [AS q] at e;exact R.sub a x e
 dom:=R.dom
 lt:=R.lt
 inj:=R.inj
 off:=fun i a e=>by
  unfold y3y
  rw [AS (fun q:a=D=>hb i (by rw [<- q];exact e))]
  exact R.off i a e
 cell:=fun i a c e hc=>(R.cell i a c e hc).mono (z2v hg) (fun _ _ q=>q) rfl
structure y1e(I:z2w)(own:List Addr)(L:Lim)(g:Fz)(Z:Bt)(H:z0b)(items:List PV)(s0:Heap)(fp wr:List Addr)(Pi:Nat->Value->Prop)(Pt:Nat->List Value->Prop)(St:Nat->Heap->Prop)(i:Nat)(h:Heap):Prop where
 st:St i h
 val:∀ i v,Pi i v->∃ p,items[i]?=some p/\Rel I g Z v p
 valT:∀ i vs,Pt i vs->∃ ps,items[i]?=some (.tup ps)/\z0e I g Z vs ps/\vs.length<=z2n
 fp:∀ b,b∈fp->(∃ o,h.get? b=some o)/\b∉own/\z9l L Z H b
 wr:∀ b,b∈wr->g b=none/\(∀ i,Z i≠some b)/\s0.get? b=none
theorem y1e.grow{s0:Heap}{zp:Bool}(W:y0w prog w A zp A7 fp wr items.length Pi Pt St)(F:y1e I own L g Z H items s0 fp wr Pi Pt St i s.heap)(R:SR I w.params g Z H s.heap)(G:z1e own L g Z H s gb Z1 Hb sB) :
  y1e I own L gb Z1 Hb items s0 fp wr Pi Pt St i sB.heap where
 st:=W.frame _ _ _ F.st fun b hb o ho=>G.kept b o ho (F.fp b hb).2.1 (F.fp b hb).2.2
 val:=fun i v h=>let ⟨p,a,b⟩:=F.val i v h;⟨p,a,b.mono G.gle G.ble⟩
 valT:=fun i v h=>let ⟨p,a,b,c⟩:=F.valT i v h;⟨p,a,b.mono G.gle G.ble,c⟩
 fp:=fun b hb=>by
  obtain⟨⟨o,ho⟩,h1,h2⟩:=F.fp b hb
  exact⟨⟨o,G.kept b o ho h1 h2⟩,h1,h2.grow R G ho⟩
 wr:=fun b hb=>by
  obtain⟨h1,h2,h3⟩:=F.wr b hb
  obtain⟨⟨o,ho⟩,_⟩:=F.fp b (W.sub b hb)
  refine⟨by rw [G.gold b o ho];exact h1,fun j hj=>?_,h3⟩
  induction e:Z j using Option.casesOn with
  | none=>have:=G.bnew j b e hj;rw [ho] at this;contradiction
  | some c=>rw [G.ble j c e] at hj;injection hj with hj;subst hj;exact h2 j e
noncomputable def j4m(own:List Addr)(env:Env)(b:Addr):Prop:=b≠env.locals/\(∀ x c,(env.kindOf x=some .cell\/env.kindOf x=some .free)->env.cells.lookup x=some c->b≠c)/\b∉own
theorem z0j.apart_of{h:Heap}(O:z0j I own env Y g Z h){b:Addr}(hb:h.get? b=none):j4m own env b:=by
 refine⟨fun e=>?_,fun x c hx hc e=>?_,fun m=>?_⟩
 ·obtain⟨m,⟨o,_,_,ho,_⟩,_⟩:=O.ns
  rw [<- e,hb] at ho;contradiction
 ·obtain⟨c',ov,h1,h2,_⟩:=O.cells x hx
  rw [hc] at h1;injection h1 with h1;subst h1
  rw [<- e,hb] at h2;contradiction
 ·obtain⟨_,_,o,ho⟩:=O.ownz b m
  rw [hb] at ho;contradiction
theorem z0j.touch{h h':Heap}(O:z0j I own env Y g Z h)(W:Addr->Prop)(hW:∀ a,W a->j4m own env a)(hk:∀ a o,¬ W a->h.get? a=some o->h'.get? a=some o):z0j I own env Y g Z h' where
 kind:=O.kind
 glob:=O.glob
 bi:=O.bi
 ns:=by
  obtain⟨m,hm,h1⟩:=O.ns
  exact⟨m,hm.at' fun o e=>hk _ _ (fun x=>(hW _ x).1 rfl) e,h1⟩
 lg:=O.lg
 lb:=O.lb
 lown:=O.lown
 cells:=fun x hx=>by
  obtain⟨c,ov,h1,h2,h3,h4,h5,h6⟩:=O.cells x hx
  exact⟨c,ov,h1,hk _ _ (fun w=>(hW _ w).2.1 x c hx h1 rfl) h2,h3,h4,h5,h6⟩
 apart:=O.apart
 code:=O.code
 ownz:=fun a ha=>by
  obtain⟨h1,h2,o,h3⟩:=O.ownz a ha
  exact⟨h1,h2,o,hk _ _ (fun w=>(hW _ w).2.2 ha) h3⟩
theorem z0j.freeze{T:Addr}{o:Obj}(O:z0j I own env Y g Z s.heap)(hn:s.heap.get? T=none)(hg:g T=none):z0j I own env Y (y3y g T o) Z s.heap:=
 O.grow (s:=s) (sB:=s) (z2v hg) (y3z hn) (fun _ _ e=>e) (fun i a e e'=>by rw [e] at e';contradiction) (fun a o e _ _=>e)
theorem q2c{zp:Bool}{tgt:Expr}{N:Shared->Prop}{K E:Value->Shared->Prop}(hzp:zp=true->tgt.ctorIdx=25)(W:y0w prog w A zp A7 fp wr items.length Pi Pt St)(hsep:∀ b,b∈wr->j4m own env b)(F:y1e I own L g Z H items sA.heap fp wr Pi Pt St i s.heap)(R:SR I w.params g Z H s.heap)(O:z0j I own env Y g Z s.heap)
 (G:z1e own L g0 Z0 H0 sA g Z H s)
 (hd:i=items.length->∀ s',SR I w.params g Z H s'.heap->z0j I own env Y g Z s'.heap->z1e own L g0 Z0 H0 sA g Z H s'->(∀ b o,b∉wr->s.heap.get? b=some o->s'.heap.get? b=some o)->N s')
 (hi:∀ p,items[i]?=some p->∀ v g' s',Rel I g' Z v p->SR I w.params g' Z H s'.heap->z0j I own env Y g' Z s'.heap->z1e own L g0 Z0 H0 sA g' Z H s'->y1e I own L g' Z H items sA.heap fp wr Pi Pt St (i+1) s'.heap ->
   (∀ b o,b∉wr->s.heap.get? b=some o->s'.heap.get? b=some o)->(∀ b o,g b=some o->g' b=some o)->(∀ b o,s.heap.get? b=some o->g' b=g b)->K v s')
 (hle:i<=items.length):wpAny (model prog w) A (pyNext (.ref A7)) (y4c prog w A tgt A7 N K E) E s:=by
 have key:∀ (h':Heap) (g':Fz),SR I w.params g' Z H s.heap->z0j I own env Y g' Z s.heap->(∀ b,b∈wr->g' b=none)->(∀ b o,b∉wr->s.heap.get? b=some o->h'.get? b=some o)->SR I w.params g' Z H h'/\z0j I own env Y g' Z h':=fun h' g' R O hg hk=>
  ⟨R.off_ (fun a=>a∈wr) (fun a e=>hg a e) (fun a i e=>(F.wr a e).2.1 i) fun a o hn e=>hk a o hn e,
   O.touch (fun a=>a∈wr) hsep fun a o hn e=>hk a o hn e⟩
 have gro':∀ (h':Heap) (tk:Nat),(∀ b o,b∉wr->s.heap.get? b=some o->h'.get? b=some o)->z1e own L g0 Z0 H0 sA g Z H { s with heap:=h',toks:=tk }:=fun h' tk hk=>
  { G with
   kept:=fun a o h n f=>hk a o (fun x=>by rw [(F.wr a x).2.2] at h;contradiction) (G.kept a o h n f)
   alive:=fun a o h=>by
    obtain⟨o',h'⟩:=G.alive a o h
    exact⟨o',hk a o' (fun x=>by rw [(F.wr a x).2.2] at h;contradiction) h'⟩
   rest:=by rw [G.rest] }
 have fpN:∀ (h':Heap),St (i+1) h'->(∀ b o,b∉wr->s.heap.get? b=some o->h'.get? b=some o)->∀ b,b∈fp->(∃ o,h'.get? b=some o)/\b∉own/\z9l L Z H b:=fun h' hst hk b hb=>by
  obtain⟨⟨o,ho⟩,h1,h2⟩:=F.fp b hb
  refine⟨?_,h1,h2⟩
  by_cases hw:b∈wr
  ·exact W.alive _ _ hst b hw
  ·exact⟨o,hk b o hw ho⟩
 by_cases hlt:i<items.length
 ·refine W.item i s tgt _ _ _ hzp hlt F.st (fun v h' tk hv hst hk=>?_) fun T o vs h' tk hv hT ho hq hst hk=>?_
  ·obtain⟨p,hp,hr⟩:=F.val i v hv
   obtain⟨k1,k2⟩:=key h' g R O (fun b hb=>(F.wr b hb).1) hk
   exact hi p hp v g _ hr k1 k2 (gro' h' tk hk) ⟨hst,F.val,F.valT,fpN h' hst hk,F.wr⟩ hk (fun _ _ e=>e) fun _ _ _=>rfl
  ·obtain⟨ps,hp,hr,hl⟩:=F.valT i vs hv
   have hg:g T=none:=R.gfree hT
   have hle':=z2v (o:=o) hg
   have hbT:∀ i,Z i≠some T:=fun i e=>by obtain⟨x,hx⟩:=R.here e;rw [hT] at hx;contradiction
   obtain⟨k1,k2⟩:=key h' g R O (fun b hb=>(F.wr b hb).1) hk
   have hwT:∀ b,b∈wr->b≠T:=fun b hb e=>by
    obtain⟨⟨x,hx⟩,_⟩:=F.fp b (W.sub b hb)
    rw [e,hT] at hx;contradiction
   have O':z0j I own env Y (y3y g T o) Z h':=(O.freeze (s:=s) hT hg).touch (fun a=>a∈wr) hsep fun a o hn e=>hk a o hn e
   have hs0:sA.heap.get? T=none:=by
    induction e:sA.heap.get? T using Option.casesOn with
    | none=>rfl
    | some x=>obtain⟨x',hx⟩:=G.alive T x e;rw [hT] at hx;contradiction
   refine hi (.tup ps) hp (.ref T) (y3y g T o) _ (.tup (z2f ..) hq hl (hr.mono hle' fun _ _ e=>e)) (k1.freeze ho hg hbT) O' ((gro' h' tk hk).freeze hs0 hg)
    ⟨hst,fun i v h=>let ⟨p,a,b⟩:=F.val i v h;⟨p,a,b.mono hle' fun _ _ e=>e⟩,fun i v h=>let ⟨p,a,b,c⟩:=F.valT i v h;⟨p,a,b.mono hle' (fun _ _ e=>e),c⟩,fpN h' hst hk,fun b hb=>⟨?_,(F.wr b hb).2⟩⟩ hk hle' (y3z hT)
   unfold y3y
   rw [AS (hwT b hb)]
   exact(F.wr b hb).1
 ·have e:i=items.length:=by lia
  subst e
  refine W.done s tgt _ _ _ F.st fun h' tk hk=>?_
  obtain⟨k1,k2⟩:=key h' g R O (fun b hb=>(F.wr b hb).1) hk
  exact hd rfl _ k1 k2 (gro' h' tk hk) hk
theorem z1e.unraise{up:Bool}(R:SR I w.params g Z H s.heap)(G:z1e own (L.up up H) g Z H s gb Z1 Hb sB):z1e own L g Z H s gb Z1 Hb sB:=by
 induction up using Bool.casesOn with
 | false=>exact G
 | true=>
  exact { G with
   kept:=fun a o h hn _=>G.kept a o h hn (y9h (L:=L) R a)
   lsts:=fun i l h _=>G.lsts i l h (AU.mp h).1
   atts:=fun i l h _=>G.atts i l h (AU.mp h).1 }
theorem z7g(hX:j9w I prog w lv S.ex)(hA:AOk A lv)(hsto:∀ x,z1m env.scope.names x=true->Mine.storeable env own x):∀ {es:List Stmt} {ms:List MS} {Y:z0n} {g:Fz} {Z:Bt} {H H':z0b} {s:Shared} {fl:Fl},SR I w.params g Z H s.heap->z0j I own env Y g Z s.heap ->
  z2k (y1a I.t n env.scope.names) es ms=true->exs S.ex Y ms L H=some (fl,H')->Go I prog w A own L g Z H (execs es env) H' (z4k I own env fl) s
 | [],ms,Y,g,Z,H,H',s,fl,R,O,hc,h=>by
  induction ms using List.casesOn with
  | cons _ _=>contradiction
  | nil=>
   obtain⟨rfl,rfl⟩:=M.pure_some (L:=L) h
   exact fun Q E q=>wpAny_execs_nil (q .next g Z s .refl R ⟨rfl,O⟩)
 | e::es,ms,Y,g,Z,H,H',s,fl,R,O,hc,h=>by
  induction ms using List.casesOn with
  | nil=>contradiction
  | cons m ms=>
   obtain⟨c1,c2⟩:=z0v hc
   obtain⟨f,Hb,h1,h2⟩:=M.bind_some h
   intro Q E q
   refine wpAny_execs_cons (hX hA R O hsto c1 h1 _ _ fun x gb Z1 sB Gb Rb pB=>?_)
   cases f with
   | next Yb=>
    obtain⟨rfl,Ob⟩:=pB
    exact z7g hX hA hsto Rb Ob c2 h2 Q E fun x gC Z2 sC Gc Rc pC=>q x gC Z2 sC (Gb.trans R Gc) Rc pC
   | brk Yb=>
    obtain⟨rfl,Ob⟩:=pB
    obtain⟨rfl,rfl⟩:=M.pure_some (L:=L) h2
    exact q _ gb Z1 sB Gb Rb ⟨rfl,Ob⟩
   | ret v=>
    obtain⟨y,rfl,hy⟩:=pB
    obtain⟨rfl,rfl⟩:=M.pure_some (L:=L) h2
    exact q _ gb Z1 sB Gb Rb ⟨y,rfl,hy⟩
theorem q2d{V:Type}{l:List V}{i:Nat}{p:V}(h:l[i]?=some p):l.drop i=p::l.drop (i+1):=by
 obtain⟨h1,h2⟩:=AU.mp h
 rw [FU h1,h2]
theorem q5j{k i:Nat}(h:i<k):k - (i+1)<k - i:=Nat.sub_lt_sub_left h (DV i)
theorem j4n{ex:z0n->MS->M Fl}{pat:Pat}{mb mo:List MS}{fl:Fl}{v:PV}{vs:List PV}{G:Prop}(h:z3i ex pat mb mo Y (v::vs) L H=some (fl,H'))
 (k:∀ Yb f Hb,z1v Y pat v=some Yb->exs ex Yb mb L H=some (f,Hb)->(match f with
   | .next Yc=>z3i ex pat mb mo Yc vs L Hb=some (fl,H')
   | .brk Yc=>fl=.next Yc/\H'=Hb
   | .ret v=>fl=.ret v/\H'=Hb)->G):G:=by
 rw [j2s] at h
 induction hb:z1v Y pat v using Option.casesOn with
 | none=>rw [hb] at h;contradiction
 | some Yb=>
  rw [hb] at h
  obtain⟨f,Hb,h1,h2⟩:=M.bind_some h
  refine k Yb f Hb hb h1 ?_
  clear k h
  cases f with
  | next Yc=>exact h2
  | brk Yc=>have e:=M.pure_some (L:=L) h2;exact⟨e.1.symm,e.2.symm⟩
  | ret v=>have e:=M.pure_some (L:=L) h2;exact⟨e.1.symm,e.2.symm⟩
structure w8e(I:z2w)(prog:Program)(w:World)(own:List Addr)(env:Env)(L:Lim)(g0:Fz)(Z0:Bt)(H0:z0b)(sA:Shared)(items:List PV)(fp wr:List Addr)(Pi:Nat->Value->Prop)(Pt:Nat->List Value->Prop)(St:Nat->Heap->Prop)(run:z0n->List PV->z0b->Prop)
 (m:Nat)(s:Shared)(i:Nat)(Y:z0n)(g:Fz)(Z:Bt)(H:z0b):Prop where
 m:m=items.length - i
 le:i<=items.length
 F:y1e I own L g Z H items sA.heap fp wr Pi Pt St i s.heap
 R:SR I w.params g Z H s.heap
 O:z0j I own env Y g Z s.heap
 G:z1e own L g0 Z0 H0 sA g Z H s
 h:run Y (items.drop i) H
theorem j0u{pat:Pat}{tgt:Expr}{body orelse:List Stmt}{mb mo:List MS}{fl:Fl}{Rr:Result->Shared->Prop}(T:z0r I)(hX:j9w I prog w lv S.ex)(hA:AOk A lv)(hsto:∀ x,z1m env.scope.names x=true->Mine.storeable env own x)
 (hp:z5x I.t (z1m env.scope.names) tgt pat=true)(hb:z2k (y1a I.t n env.scope.names) body mb=true)(ho:z2k (y1a I.t n env.scope.names) orelse mo=true)
 (R:SR I w.params g0 Z0 H0 sA.heap)(Oa:z0j I own env Y0 g0 Z0 sA.heap)
 {it:Value}(hs:s={ sA with heap:=s.heap,toks:=s.toks })(hk:∀ b o,sA.heap.get? b=some o->s.heap.get? b=some o)(F:x5u prog w A I false own L g0 Z0 H0 items sA.heap it s.heap)
 (h:z3i S.ex pat mb mo Y0 items L H0=some (fl,H'))
 (q:∀ f g' Z' s',z1e own L g0 Z0 H0 sA g' Z' H' s'->SR I w.params g' Z' H' s'.heap->z4k I own env fl g' Z' s' f->Rr (.ok f) s') :
  codeAny (model prog w) A (.forLoop tgt it body orelse env) Rr s:=by
 obtain⟨A7,fp,wr,Pi,Pt,St,rfl,W,st0,hval,hvalT,hfp,hwr⟩:=F
 have G0:z1e own L g0 Z0 H0 sA g0 Z0 H0 s:=by rw [hs];exact z1e.keepAll hk
 refine codeAny_forLoop_any (fun m s'=>∃ i Y g Z H,w8e I prog w own env L g0 Z0 H0 sA items fp wr Pi Pt St (fun Y l H=>z3i S.ex pat mb mo Y l L H=some (fl,H')) m s' i Y g Z H) ?_ items.length
  ⟨0,Y0,g0,Z0,H0,rfl,BM _,⟨st0,hval,hvalT,hfp,hwr⟩,R.keepAll hk,Oa.grow (s:=sA) (sB:=s) (fun _ _ e=>e) (fun _ _ _=>rfl) (fun _ _ e=>e) (fun i a e e'=>by rw [e] at e';contradiction) (fun a o e _ _=>hk a o e),G0,h⟩
 clear h G0 hvalT hval hfp st0 hs hk
 rintro m s' ⟨i,Y,g,Z,H,A5⟩
 refine CZ (q2c (zp:=false) (tgt:=tgt) (fun h=>absurd h CJ) W (fun b hb=>Oa.apart_of (hwr b hb).2.2) A5.F A5.R A5.O A5.G (fun e sB Rb Ob Gb _=>?_) (fun p hpi v g sB hv Rb Ob Gb F1 _ _ _=>?_) A5.le) (fun r sB h=>by induction r using Option.casesOn<;>exact h) fun _ _ h=>h
 ·have hl:=A5.h
  rw [e,List.drop_length] at hl
  exact z7g hX hA hsto Rb Ob ho hl _ _ fun f gC Z2 sC Gc Rc pC=>q f gC Z2 sC (Gb.trans R Gc) Rc pC
 ·have hl:=A5.h
  rw [q2d hpi] at hl
  refine j4n hl fun Yb f Hb hbp h1 h2=>?_
  clear hl
  refine y0v (L:=L) T.nd hsto hA hp Rb Ob hv hbp _ _ fun _ gC Z2 sC Gc Rc pC=>?_
  refine z7g hX hA hsto Rc pC.1 hb h1 _ _ fun x gD Z3 sd Gd Rd pd=>?_
  have G13:=Gb.trans R (Gc.trans Rb Gd)
  cases f with
  | next Yc=>
   obtain⟨rfl,O3⟩:=pd
   exact⟨items.length - (i+1),A5.m▸q5j (AU.mp hpi).1,i+1,Yc,gD,Z3,Hb,rfl,(AU.mp hpi).1,(F1.grow W Rb Gc).grow W Rc Gd,Rd,O3,G13,h2⟩
  | brk Yc=>
   obtain⟨rfl,O3⟩:=pd
   exact q _ gD Z3 sd (h2.2▸G13) (h2.2▸Rd) (h2.1▸⟨rfl,O3⟩)
  | ret v=>
   obtain⟨y,rfl,hy⟩:=pd
   exact q _ gD Z3 sd (h2.2▸G13) (h2.2▸Rd) (h2.1▸⟨y,rfl,hy⟩)
end
section
variable {I:z2w} {own own':List Addr} {L L':Lim} {w:World} {g g0 gb gC g':Fz} {Z Z0 Z1 Z2 Z':Bt} {H H0 Hb H2 H':z0b} {s sA sB sC s':Shared} {env:Env} {Y Y0 Y':z0n} {A:Around} {prog:Program} {lv n:Nat} {S:z6z} {C:z0h} {p q r:PV}
 {items:List PV} {A7:Addr} {fp wr:List Addr} {Pi:Nat->Value->Prop} {St:Nat->Heap->Prop} {i:Nat}
theorem z9z:entryFor table "dict_itemiterator.__iter__"=some Builtin.«dict_keyiterator.__iter__»:=
 entryFor_alias (id':="dict_keyiterator.__iter__") (by kernel_rfl) rfl (by decide +kernel) (by kernel_rfl)
theorem q5k(hA:A.handled=none)(A7 d:Addr)(hne:A7≠d)(ep:Nat):y0w prog w A false A7 [A7,d] [A7] 0 (fun _ _=>False) (fun _ _=>False)
  (fun i h=>IsItemIter h A7 d 0 0 ep .none .none/\h.DictAt (strKind prog w) d [] ep) where
 sub:=fun b hb=>AL.mp hb▸AC
 frame:=fun i h h' st hk=>⟨hk A7 AC _ st.1,let ⟨o,es,a,r⟩:=st.2;⟨o,es,hk d (AD _ AC) _ a,r⟩⟩
 item:=fun i s tgt N K E _ hi=>absurd hi (ER _)
 done:=fun s tgt N K E st hQ=>wpAny_pyNext_items_end hA st.1 st.2 rfl fun h' hx=>hQ h' s.toks fun b o hb e=>hx b o (fun e'=>hb (AL.mpr e')) e
 self:=fun i s Q E st hq=>by
  have hT:s.TypeIs (.ref A7) "dict_itemiterator":=⟨_,st.1,rfl⟩
  refine wpAny_pyIter_slot hT F.slot_dict_itemiterator_iter (EJ F.slot_dict_itemiterator_iter hT z9z ?_ (F.args_dict_itemiterator_iter_1 _))
  show wpAny _ _ (ret (.ref A7)) _ _ s
  exact AG ⟨_,rfl,"dict_itemiterator",_,hT,F.slot_dict_itemiterator_next.lookup,hq⟩
 alive:=fun i h st b hb=>⟨_,AL.mp hb▸st.1⟩
theorem j4o(hA:A.handled=none)(z TI TO i1 i2 l1 l2:Addr)(D:ZipApart z TI TO i1 i2 l1 l2)(xs ys:List Value) :
  y0w prog w A true z [z,TI,TO,i1,i2,l1,l2] [z,TO,i1,i2] (min xs.length ys.length) (fun _ _=>False) (fun i vs=>∃ x y,xs[i]?=some x/\ys[i]?=some y/\vs=[x,y])
  (fun i h=>IsZip h z TI TO .none/\IsPair h TI (.ref i1) (.ref i2)/\(∃ a b,IsPair h TO a b)/\h.IsListIter i1 l1 i/\h.IsListIter i2 l2 i/\h.IsList l1 xs.toArray/\h.IsList l2 ys.toArray):=by
 have W:=WalksT.zip2 (prog:=prog) (w:=w) hA z TI TO i1 i2 l1 l2 D xs.toArray ys.toArray
 rw [BS,BS] at W
 exact {
  sub:=W.sub
  frame:=fun i h h' st hk=>W.frame i h h' st fun b hb o=>hk b hb o
  item:=fun i s tgt N K E hz hi st _ k=>by
   refine W.item i s _ E hi st fun T vals h' tk pt hT tup mid hk=>?_
   obtain⟨x,y,hx,hy,rfl⟩:=pt
   obtain⟨o,ho,hc,n,hd⟩:=tup
   refine Expr.Tuple.elim (motive_1:=fun tgt=>y4c prog w A tgt z N K E (some (.ref T)) { s with heap:=h',toks:=tk }) tgt (hz rfl) fun es kk pos=>?_
   refine W.go es kk pos i T { s with heap:=h',toks:=tk } _ E mid fun h'' st' hk'=>?_
   exact k T o [x,y] h'' tk ⟨x,y,by rw [<- hx,DR],by rw [<- hy,DR],rfl⟩ (Heap.get?_none_of_le hT) (hk' T o (W.apart i T _ mid) ho) ⟨hc,n,hd⟩ st' fun b o hb e=>hk' b o hb (hk b o hb e)
  done:=fun s tgt N K E st k=>W.done s _ E st fun h' tk hk=>k h' tk hk
  self:=W.self
  alive:=fun i h st b hb=>by
   obtain⟨a1,a2,⟨a,b',a3⟩,⟨o1,a4,_⟩,⟨o2,a5,_⟩,_⟩:=st
   rcases AR.mp hb with rfl | hb
   ·exact⟨_,a1⟩
   rcases AR.mp hb with rfl | hb
   ·exact⟨_,a3⟩
   rcases AR.mp hb with rfl | hb
   ·exact⟨_,a4⟩
   ·exact⟨_,AL.mp hb▸a5⟩ }
noncomputable def k5d(prog:Program)(w:World)(A:Around)(I:z2w)(zp:Bool)(own:List Addr)(L:Lim)(up:Bool)(g:Fz)(Z:Bt)(H Hb:z0b)(s:Shared)(items:List PV)(Q:Value->Shared->Prop):Prop:=
 ∀ it gb Z1 sB sC,z1e [] L g Z H s gb Z1 Hb sB->SR I w.params gb Z1 Hb sB.heap->sC={ sB with heap:=sC.heap,toks:=sC.toks }->(∀ b o,sB.heap.get? b=some o->sC.heap.get? b=some o) ->
  x5u prog w A I zp own (L.up up Hb) gb Z1 Hb items sB.heap it sC.heap->Q it sC
theorem x1b{iter:Expr}{m:ME}{up:Bool}(hE:z4q I prog w lv S.ev)(hA:AOk A lv)(R:SR I w.params g Z H s.heap)(O:z0j I own env Y g Z s.heap)(hc:z0o I.t n env.scope.names iter m=true)(h:S.ev Y m L H=some (p,Hb))(e:x7o Hb p=some (items,up))
 {Q E:Value->Shared->Prop}(q:k5d prog w A I false own L up g Z H Hb s items Q):wpAny (model prog w) A (eval iter env) (fun x sB=>wpAny (model prog w) A (pyIter x) Q E sB) E s:=
 hE hA R O hc h _ _ fun x gb Z1 sB Gb Rb pB=>q5c (own:=own) Rb hA.handled (O.step Gb).ownz pB e fun it oI tk hf F=>q it gb Z1 sB _ Gb Rb rfl (fun b o e=>AO _ e) F
theorem j0v{vs:List PV}{l:List PV}(h:j2r vs=some l):(∃ b:Int,vs=[.int b]/\b.natAbs<=1000000/\l=z5h 0 b)\/∃ a b:Int,vs=[.int a,.int b]/\a.natAbs<=1000000/\b.natAbs<=1000000/\l=z5h a b:=by
 match vs,h with
 | [a],h=>
  obtain⟨b,rfl,h⟩:=z6h (show j2m a _=some l from h)
  obtain⟨h1,h2⟩:=z0q h
  exact .inl ⟨b,rfl,h1,(AF h2).symm⟩
 | [a,b],h=>
  obtain⟨x,y,rfl,rfl,h⟩:=y3v (show y8v a b _=some l from h)
  obtain⟨h1,h2⟩:=z0q h
  exact .inr ⟨x,y,rfl,h1.1,h1.2,(AF h2).symm⟩
 | [],h=>contradiction
 | _::_::_::_,h=>contradiction
theorem j4p{f:Expr}{es:List Expr}{pos:Pos}{args:List ME}{vs:List PV}(T:z0r I)(hE:z4q I prog w lv S.ev)(hA:AOk A lv)(R:SR I w.params g Z H s.heap)(O:z0j I own env Y g Z s.heap)
 (hf:z0z I.t env.scope.names f (.type "range")=true)(hcs:z2k (z0o I.t n env.scope.names) es args=true)(h:z3t (S.ev Y) args L H=some (vs,Hb))(e:j2r vs=some items)
 {Q E:Value->Shared->Prop}(q:k5d prog w A I false own L false g Z H Hb s items Q):wpAny (model prog w) A (eval (.Call f es [] pos) env) (fun x sB=>wpAny (model prog w) A (pyIter x) Q E sB) E s:=by
 have post:Go I prog w A [] L g Z H (eval (.Call f es [] pos) env) Hb (fun _ _ s' x=>∃ a b r t u v,x=.ref r/\IsRange s'.heap r a b 1 t u v/\items=z5h a b/\a.natAbs<=1000000/\b.natAbs<=1000000) s:=by
  refine y1b T hE hA R O hf (z2q (fun _ h=>by contradiction)) hcs h fun ws gb Z1 sB Gb Rb pr=>?_
  rcases j0v e with⟨b,rfl,hb,rfl⟩ | ⟨a,b,rfl,ha,hb,rfl⟩
  ·obtain⟨v,rfl,pv⟩:=pr.one_inv
   obtain⟨t,rfl⟩:=pv.int_inv
   exact Go.keepAll Rb fun Q E k=>call_range_1 (k _ _ _ (fun b o e=>AO _ e) ⟨0,_,_,_,_,_,rfl,AZ _ rfl,rfl,by decide,hb⟩)
  ·obtain⟨u,v,rfl,pu,pv⟩:=pr.two_inv
   obtain⟨t,rfl⟩:=pu.int_inv
   obtain⟨t',rfl⟩:=pv.int_inv
   exact Go.keepAll Rb fun Q E k=>call_range_2 (k _ _ _ (fun b o e=>AO _ e) ⟨_,_,_,_,_,_,rfl,AZ _ rfl,rfl,ha,hb⟩)
 refine post _ _ fun x gb Z1 sB Gb Rb pB=>?_
 obtain⟨a,b,r,t,u,v,rfl,hr,hi,ha,hb⟩:=pB
 exact q1q (own:=own) Rb hA.handled (O.step Gb).ownz hr ha hb hi fun it oI tk hf F=>q it gb Z1 sB _ Gb Rb rfl (fun b o e=>AO _ e) F
theorem x8u{xs ys:List PV}{i:Nat}{p q:PV}(h1:xs[i]?=some p)(h2:ys[i]?=some q):((xs.zip ys).map fun r=>PV.tup [r.1,r.2])[i]?=some (.tup [p,q]):=by
 rw [BC,List.getElem?_zip_eq_some (z:=(p,q)) |>.mpr ⟨h1,h2⟩];rfl
theorem j0w{u v:Value}{a b:List PV}(R:SR I w.params g Z H s.heap)(hA:A.handled=none)(hz:∀ a,a∈own->∃ o,s.heap.get? a=some o)(hno:∀ a,a∈own->g a=none)(hu:Rel I g Z u (.lst a))(hv:Rel I g Z v (.lst b))
 {Q E:Value->Shared->Prop}(q:∀ it (sC:Shared),sC={ s with heap:=sC.heap,toks:=sC.toks }->(∀ b o,s.heap.get? b=some o->sC.heap.get? b=some o)->x5u prog w A I true own L g Z H ((a.zip b).map fun q=>.tup [q.1,q.2]) s.heap it sC.heap->Q it sC) :
  wpAny (model prog w) A (call (.type "zip") [u,v]) (fun x sB=>wpAny (model prog w) A (pyIter x) Q E sB) E s:=by
 obtain⟨x,o,vs,rfl,g1,g4,g2,g3⟩:=hu.lst_inv
 obtain⟨y,o',ws,rfl,k1,k4,k2,k3⟩:=hv.lst_inv
 have hx:=R.sub _ _ g1
 have hy:=R.sub _ _ k1
 have lx:=CO hx
 have ly:=CO hy
 refine call_zip_2 (z0s hx g4) (z0s hy k4) fun h' z1 z2 z3 z4 z5 z6 hk=>?_
 refine wpAny_pyIter_zip (s:={ s with heap:=h' }) z1 (q _ { s with heap:=h' } rfl hk ?_)
 have D:ZipApart (s.heap.objs.size+4) (s.heap.objs.size+2) (s.heap.objs.size+3) s.heap.objs.size (s.heap.objs.size+1) x y:=by
  have nx:∀ {c:Addr} (k:Nat),c<s.heap.objs.size->c≠s.heap.objs.size+k:=fun k h e=>absurd (e▸h) (CH.mpr (BG _ _))
  have na:∀ i j:Nat,i≠j->s.heap.objs.size+i≠s.heap.objs.size+j:=fun i j h e=>h (EC e)
  exact⟨na 2 4 (by decide),na 3 4 (by decide),na 0 4 (by decide),na 1 4 (by decide),na 2 3 (by decide),na 2 0 (by decide),na 2 1 (by decide),na 3 0 (by decide),na 3 1 (by decide),na 0 1 (by decide),
   nx 4 lx,nx 3 lx,nx 0 lx,nx 1 lx,nx 4 ly,nx 3 ly,nx 0 ly,nx 1 ly⟩
 have new:∀ {c:Addr},s.heap.objs.size<=c->s.heap.get? c=none:=fun h=>Heap.get?_none_of_le h
 have newb:∀ {c:Addr},s.heap.objs.size<=c->∀ i,Z i≠some c:=fun h i e=>by obtain⟨o,ho⟩:=R.here e;rw [new h] at ho;contradiction
 have newo:∀ {c:Addr},s.heap.objs.size<=c->c∉own:=fun h m=>by obtain⟨o,ho⟩:=hz _ m;rw [new h] at ho;contradiction
 have W:=j4o (prog:=prog) (w:=w) hA _ _ _ _ _ x y D vs ws
 have hlen:min vs.length ws.length=((a.zip b).map fun q=>PV.tup [q.1,q.2]).length:=by rw [AJ,List.length_zip,g3.length,k3.length]
 rw [hlen] at W
 obtain⟨o1,z4',_⟩:=id z4
 obtain⟨o2,z5',_⟩:=id z5
 refine⟨_,_,_,_,_,_,rfl,W,⟨z1,z2,⟨_,_,z3⟩,z4,z5,z0s (hk _ _ hx) g4,z0s (hk _ _ hy) k4⟩,fun i v h=>h.elim,fun i l h=>?_,fun c hc=>?_,fun c hc=>?_⟩
 ·obtain⟨p,q',h1,h2,rfl⟩:=h
  obtain⟨r1,e1,r1'⟩:=g3.getP h1
  obtain⟨r2,e2,r2'⟩:=k3.getP h2
  exact⟨[r1,r2],x8u e1 e2,.cons r1' (.one r2'),(by decide:2<=z2n)⟩
 ·have old:∀ {c:Addr} {o:Obj},g c=some o->(∃ o,h'.get? c=some o)/\c∉own/\z9l L Z H c:=fun {c o} h=>⟨⟨o,hk _ _ (R.sub _ _ h)⟩,(fun m=>by rw [hno _ m] at h;contradiction),z1o (R.not_frozen_cell h)⟩
  have fresh:∀ {c:Addr} {o:Obj},h'.get? c=some o->s.heap.objs.size<=c->(∃ o,h'.get? c=some o)/\c∉own/\z9l L Z H c:=fun ho h=>⟨⟨_,ho⟩,newo h,z1o (newb h)⟩
  rcases AR.mp hc with rfl | hc
  ·exact fresh z1 (BG _ _)
  rcases AR.mp hc with rfl | hc
  ·exact fresh z2 (BG _ _)
  rcases AR.mp hc with rfl | hc
  ·exact fresh z3 (BG _ _)
  rcases AR.mp hc with rfl | hc
  ·exact fresh z4' (AM _)
  rcases AR.mp hc with rfl | hc
  ·exact fresh z5' (BG _ _)
  rcases AR.mp hc with rfl | hc
  ·exact old g1
  ·obtain rfl:=AL.mp hc
   exact old k1
 ·have fresh:∀ {c:Addr},s.heap.objs.size<=c->g c=none/\(∀ i,Z i≠some c)/\s.heap.get? c=none:=fun h=>⟨R.gfree (new h),newb h,new h⟩
  rcases AR.mp hc with rfl | hc
  ·exact fresh (BG _ _)
  rcases AR.mp hc with rfl | hc
  ·exact fresh (BG _ _)
  rcases AR.mp hc with rfl | hc
  ·exact fresh (AM _)
  ·obtain rfl:=AL.mp hc
   exact fresh (BG _ _)
theorem x8v{f:Expr}{es:List Expr}{pos:Pos}{args:List ME}{a b:List PV}(T:z0r I)(hE:z4q I prog w lv S.ev)(hA:AOk A lv)(R:SR I w.params g Z H s.heap)(O:z0j I own env Y g Z s.heap)
 (hf:z0z I.t env.scope.names f (.type "zip")=true)(hcs:z2k (z0o I.t n env.scope.names) es args=true)(h:z3t (S.ev Y) args L H=some ([.lst a,.lst b],Hb))
 {Q E:Value->Shared->Prop}(q:k5d prog w A I true own L false g Z H Hb s ((a.zip b).map fun q=>.tup [q.1,q.2]) Q):wpAny (model prog w) A (eval (.Call f es [] pos) env) (fun x sB=>wpAny (model prog w) A (pyIter x) Q E sB) E s:=by
 obtain⟨y,py,rfl,y1,y2,y3⟩:=z4b hf
 rw [FX]
 refine AB (z8m (L:=L) T R O hf _ _ fun fv gb Z1 sB Gb Rb eB=>?_)
 subst eB
 refine y3d (first:=[]) T hE hA (z2q (fun _ h=>by contradiction)) Rb (O.step Gb) hcs h fun vs gC Z2 sC Gc Rc pC=>?_
 obtain⟨u,v,rfl,pu,pv⟩:=pC.two_inv
 have Oc:=(O.step Gb).step Gc
 exact j0w Rc hA.handled (fun a h=>(Oc.ownz a h).2.2) (fun a h=>(Oc.ownz a h).1) pu pv fun it sd e hk F=>q it gC Z2 sC sd (Gb.trans R Gc) Rc e hk F
theorem j4q{o:Expr}{ap cp:Pos}{m:ME}(T:z0r I)(hE:z4q I prog w lv S.ev)(hA:AOk A lv)(R:SR I w.params g Z H s.heap)(O:z0j I own env Y g Z s.heap)(hsf:z1h o=false)(hline:(ap.endLine==cp.line)=true)
 (hc:z0o I.t n env.scope.names o m=true)(h:S.ev Y m L H=some (.edict,Hb))
 {Q E:Value->Shared->Prop}(q:k5d prog w A I false own L false g Z H Hb s [] Q):wpAny (model prog w) A (eval (.Call (.Attribute o ("items":Str) ap) [] [] cp) env) (fun x sB=>wpAny (model prog w) A (pyIter x) Q E sB) E s:=by
 have post:Go I prog w A [] L g Z H (eval (.Call (.Attribute o ("items":Str) ap) [] [] cp) env) Hb (fun g' Z' s' x=>∃ v d m,x=.ref v/\s'.heap.IsItemsView v d/\s'.heap.get? d=some (dictOf [] m)/\v≠d/\g' d=some (dictOf [] m)) s:=by
  refine z8n (kws:=[]) hsf hline rfl R (hE hA R O hc h) fun v gb Z1 sB Gb Rb pB=>?_
  obtain⟨d,m',rfl,h1,h2⟩:=pB.edict_inv
  have hd:=Rb.sub _ _ h1
  have hT:sB.TypeIs (.ref d) "dict":=⟨_,hd,rfl⟩
  refine⟨.builtin "dict.items",[.ref d],fun Q E pl q=>getMethod_builtin hT F.plainAttrs_dict F.slot_dict_items F.type_dict_items (fun a ha=>by injection ha with ha;subst ha;exact⟨_,hd,rfl⟩) q,?_⟩
  refine z4u (n:=n) (es:=[]) (ms:=[]) T hE hA (z2q (fun _ h=>by contradiction)) Rb (O.step Gb) rfl rfl fun ws gC Z2 sC Gc Rc pC=>?_
  cases pC
  have hd2:=Rc.sub _ _ (Gc.gle _ _ h1)
  have hD2:sC.heap.DictOf (strKind prog w) d []:=⟨_,_,_,hd2,⟨rfl,rfl,rfl⟩,rfl,(fun e he=>nomatch he),by exact .nil,CX⟩
  refine Go.keepAll Rc fun Q E k=>call_meetsIn (self:=.ref d) (rest:=[]) F.slot_dict_items (⟨_,hd2,rfl⟩:sC.TypeIs (.ref d) "dict") F.entry_dict_items (F.args_dict_items_1 _) (meets_dict_items (strKind prog w) d h2) ⟨⟨[],hD2⟩,?_⟩
  refine k _ _ sC.toks (fun b o e=>AO _ e) ⟨_,d,m',rfl,⟨_,AZ _ rfl,rfl,rfl⟩,AO _ hd2,fun e=>?_,Gc.gle _ _ h1⟩
  exact EH (CO hd2) e
 refine post _ _ fun x gb Z1 sB Gb Rb pB=>?_
 obtain⟨v,d,m,rfl,hv,hd,hne,hgd⟩:=pB
 have hD:sB.heap.DictAt (strKind prog w) d [] m:=⟨_,_,hd,⟨rfl,rfl,rfl⟩,rfl,(fun e he=>nomatch he),by exact .nil,CX⟩
 have hne':sB.heap.objs.size≠d:=EH (CO hd)
 have Ob:=O.step Gb
 refine wpAny_pyIter_items hv hD ?_
 refine q _ gb Z1 sB { sB with heap:=sB.heap.push _ } Gb Rb rfl (fun b o e=>AO _ e) ?_
 have hn:=get?_size sB.heap
 have hnb:∀ i,Z1 i≠some sB.heap.objs.size:=fun i e=>by obtain⟨o,ho⟩:=Rb.here e;rw [hn] at ho;contradiction
 refine⟨sB.heap.objs.size,_,_,_,_,_,rfl,q5k hA.handled sB.heap.objs.size d hne' m,⟨AZ _ rfl,⟨_,_,AO _ hd,⟨rfl,rfl,rfl⟩,rfl,(fun e he=>nomatch he),by exact .nil,CX⟩⟩,fun i v h=>h.elim,fun i v h=>h.elim,fun b hb=>?_,fun b hb=>?_⟩
 ·rcases AR.mp hb with rfl | h
  ·exact⟨⟨_,AZ _ rfl⟩,fun m=>(by obtain⟨_,_,o,ho⟩:=Ob.ownz _ m;rw [hn] at ho;contradiction),z1o hnb⟩
  ·obtain rfl:=AL.mp h
   exact⟨⟨_,AO _ hd⟩,fun m=>(by rw [(Ob.ownz _ m).1] at hgd;contradiction),z1o (Rb.not_frozen_cell hgd)⟩
 ·obtain rfl:=AL.mp hb
  exact⟨Rb.gfree hn,hnb,hn⟩
theorem j0x{a:PV}(h:x5m a=true):a=.edict:=by induction a using PV.casesOn<;>first | rfl | contradiction
theorem y2f{e:Expr}{k:Expr->List Expr->Pos->Bool}(h:z9r e k=true):∃ f es p,e=.Call f es [] p/\k f es p=true:=by
 obtain⟨f,es,ks,p,rfl,hk⟩:=q1b h
 obtain rfl:=j2v (z0v hk).1
 exact⟨f,es,p,rfl,(z0v hk).2⟩
theorem y7q{e:Expr}{k:Expr->Str->List Expr->List Keyword->Bool}(h:y3c e k=true):∃ o x ap es ks cp,e=.Call (.Attribute o x ap) es ks cp/\(ap.endLine==cp.line)=true/\z1h o=false/\k o x es ks=true:=by
 obtain⟨f,es,ks,p,rfl,h⟩:=q1b h
 obtain⟨o,x,ap,rfl,h⟩:=j3b h
 obtain⟨h1,h2,h3⟩:=z4d h
 exact⟨o,x,ap,es,ks,p,rfl,h1,q0v h2,h3⟩
theorem y3e{f:ME->M PV}{m:ME}{a:PV}(h:z3t f [m] L H=some ([a],H')):f m L H=some (a,H'):=by
 obtain⟨q,qs,Hd,e,h3,h4⟩:=y5n h
 injection e with e;subst e
 injection h4 with h4;injection h4 with eB eC;subst eB;subst eC
 exact h3
theorem j4r{iter:Expr}{k:z6g}{args:List ME}{up:Bool}(T:z0r I)(hE:z4q I prog w lv S.ev)(hA:AOk A lv)(R:SR I w.params g Z H s.heap)(O:z0j I own env Y g Z s.heap)
 (hc:y2e I.t (z0o I.t n env.scope.names) env.scope.names iter k args=true)(h:z8z S Y k args L H=some ((items,up),Hb)){Q E:Value->Shared->Prop}(q:k5d prog w A I (j0l k) own L up g Z H Hb s items Q) :
  wpAny (model prog w) A (eval iter env) (fun x sB=>wpAny (model prog w) A (pyIter x) Q E sB) E s:=by
 obtain⟨vs,H2,h1,h2⟩:=M.bind_some h
 have e:k2v k H2 vs=some (items,up)/\H2=Hb:=by
  induction hv:k2v k H2 vs using Option.casesOn with
  | none=>rw [hv] at h2;contradiction
  | some r=>rw [hv] at h2;injection h2 with h2;injection h2 with eB eC;subst eB;subst eC;exact⟨rfl,rfl⟩
 obtain⟨e,rfl⟩:=e
 obtain⟨hset,hc⟩:=z0v hc
 cases k with
 | over=>
  obtain⟨m,rfl,hc⟩:=q1a hc
  obtain⟨a,rfl,e⟩:=one_inv e
  exact x1b hE hA R O hc (y3e h1) e q
 | range=>
  obtain⟨f,es,pos,rfl,hc⟩:=y2f hc
  obtain⟨l,hl,e⟩:=z1d e
  cases e
  exact j4p T hE hA R O (z0v hc).1 (z0v hc).2 h1 hl q
 | zip=>
  obtain⟨f,es,pos,rfl,hc⟩:=y2f hc
  obtain⟨a,b,rfl,e⟩:=two_inv e
  obtain⟨a,rfl,e⟩:=z7b e
  obtain⟨b,rfl,e⟩:=z7b e
  injection e with e;injection e with eB eC;subst eB;subst eC
  exact x8v T hE hA R O (z0v hc).1 (z0v hc).2 h1 q
 | items=>
  obtain⟨m,rfl,hc⟩:=q1a hc
  obtain⟨o,x,ap,es,ks,cp,rfl,hline,hsf,hc⟩:=y7q hc
  obtain⟨c1,c2,c3,c4⟩:=z5t hc
  obtain rfl:=j2v c1
  obtain rfl:=j2v c2
  obtain rfl:=BI c3
  obtain⟨a,rfl,e⟩:=one_inv e
  obtain⟨ha,e⟩:=z0q e
  obtain rfl:=j0x ha
  injection e with e;injection e with eB eC;subst eB;subst eC
  exact j4q T hE hA R O hsf hline c4 (y3e h1) q
end
section
variable {prog:Program} {w:World} {A:Around} {E:Value->Shared->Prop} {s:Shared}
theorem y9p{l:Addr}{o:Obj}{vs ws:List Value}{n:Nat}{f:Array Value->Array Value}(ho:s.heap.get? l=some o)(q:IsL o vs)(hf:f vs.toArray=ws.toArray) :
  ∃ o',(s.heap.update l (Obj.mapSeq f)).get? l=some o'/\IsL o' ws:=by
 obtain⟨cc,dd,da,sl⟩:=o
 obtain⟨h1,n,h2,h3⟩:=q
 dsimp only at h1 h2 h3
 subst h1 h2 h3
 obtain⟨n',hd'⟩:=Obj.data_mapSeq (o:={ cls:=.type "list",dict:=none,data:=.seq vs.toArray n,slots:=sl }) rfl f
 refine⟨_,Heap.get?_update_self _ ho (Obj.isFreed_of_seq hd'),(Obj.cls_mapSeq ..).trans rfl,n',by rw [hd',hf],?_⟩
 unfold Obj.mapSeq;rfl
theorem x1c{l:Addr}{o:Obj}{vs:List Value}{k:Int}{t:Tok}{j:Nat}{v:Value}{Q:Unit->Shared->Prop}(ho:s.heap.get? l=some o)(q:IsL o vs)(hl:vs.length<=z2n)(hp:z7a vs.length k=some j)(h0:0<=k)
 (hQ:∀ h',(∃ o',h'.get? l=some o'/\IsL o' (vs.set j v))->Heap.SameBut l s.heap h'->Q () { s with heap:=h' }):wpAny (model prog w) A (setItem (.ref l) (.int k t) v) Q E s:=by
 have L:=z0s ho q
 obtain⟨_,n,hd,_⟩:=id q
 obtain⟨hj,_,hk⟩:=y4b hp
 have hkj:k=(j:Int):=by split at hk<;>lia
 have hfit:k<2^63:=by simp only [z2n] at hl;lia
 unfold setItem
 try with_reducible refine BQ ?_
 first | refine AB (AG ?_) | skip
 refine AB (wpAny_sequenceKey L.typeIs (by decide) ?_)
 refine AB (wpAny_callSpecial?_slot (name:=Str.ofString "__setitem__") L.typeIs slot_list_setitem
  (EJ slot_list_setitem L.typeIs entry_list_setitem ?_ (args_list_setitem _ _ _)))
 show wpAny _ _ (Builtin.List.listSubscript? (.int k t)>>=_) _ _ s
 refine AB (wpAny_listSubscript_int (fitsIndex_of h0 hfit) ?_)
 have hx':vs.toArray[j]?=some vs[j]:=by simp [hj]
 clear hfit
 subst hkj
 show wpAny _ _ ((seqItemAt l j>>=fun r=>pure (r.map (j,·)))>>=_) _ _ s
 refine AB (AB (wpAny_seqItemAt ho hd (AG ?_)))
 rw [hx']
 show wpAny _ _ (setSeqItemAt l j v>>=_) _ _ s
 refine AB (wpAny_setSeqItemAt ho hd ?_)
 have fin:=hQ _ (y9p (n:=0) (f:=(·.setIfInBounds j v)) ho q (ws:=vs.set j v) (by simp)) (FY ..)
 first
  | exact AB (AG (AG ⟨.none,rfl,AG fin⟩))
  | exact AG ⟨.none,rfl,AG fin⟩
theorem x1d{sl:Addr}{Q:Option Int->Shared->Prop}(hTs:s.TypeIs (.ref sl) "slice")(q:Q none s):wpAny (model prog w) A (Builtin.List.listSubscript? (.ref sl)) Q E s:=by
 unfold Builtin.List.listSubscript?
 refine AB (wpAny_specialOf hTs slice_no_index ?_)
 exact AG q
theorem j0y{sl:Addr}{Q:Value×Value×Value->Shared->Prop}(hs:s.heap.IsSliceOf sl .none .none .none)(q:Q (.none,.none,.none) s):wpAny (model prog w) A (Builtin.List.listSliceParts (.ref sl)) Q E s:=by
 obtain⟨os,hos,hcs,hds⟩:=hs
 rw [listSliceParts_eq]
 refine AB (wpAny_field hos hds (x:=.none) rfl (AB (wpAny_listPart .none ?_)))
 rw [AS (by decide)]
 exact AB (wpAny_field hos hds (x:=.none) rfl (AB (wpAny_listPart .none (AB (wpAny_field hos hds (x:=.none) rfl (AB (wpAny_listPart .none (AG q))))))))
theorem x1e{V A8:Type}{c:Prop}[Decidable c]{m1 m2:Sem V}{a:V}{F:V->Sem A8}{Q:A8->Shared->Prop}(h1:∀ Q:V->Shared->Prop,Q a s->wpAny (model prog w) A m1 Q E s)(h2:∀ Q:V->Shared->Prop,Q a s->wpAny (model prog w) A m2 Q E s)(k:wpAny (model prog w) A (F a) Q E s) :
  wpAny (model prog w) A (if c then m1>>=F else m2>>=F) Q E s:=by
 by_cases h:c
 ·rw [AQ h];exact AB (h1 _ k)
 ·rw [AS h];exact AB (h2 _ k)
theorem y5o{l:Addr}{o:Obj}{vs:List Value}{Q:Array Value->Shared->Prop}(ho:s.heap.get? l=some o)(q:IsL o vs)(k:Q vs.toArray s):wpAny (model prog w) A (Builtin.List.listItems (.ref l)) Q E s:=by
 obtain⟨_,n,hd,_⟩:=q
 exact AB (wpAny_seqItems ho hd (AG k))
theorem q2e{l:Addr}{o:Obj}{vs:List Value}{Q:Array Value->Shared->Prop}{msg:String}(ho:s.heap.get? l=some o)(q:IsL o vs)(k:Q vs.toArray s):wpAny (model prog w) A (Builtin.List.listAllItems (.ref l) msg) Q E s:=by
 unfold Builtin.List.listAllItems
 refine AB (wpAny_typeOf (z0s ho q).typeIs ?_)
 rw [AQ (by decide)]
 exact y5o ho q k
theorem j4s{l b sl:Addr}{o ob:Obj}{vs ws:List Value}{Q:Unit->Shared->Prop}(ho:s.heap.get? l=some o)(q:IsL o vs)(hob:s.heap.get? b=some ob)(qb:IsL ob ws)(hs:s.heap.IsSliceOf sl .none .none .none)(hl:vs.length+ws.length<=z2n)
 (hQ:∀ h',(∃ o',h'.get? l=some o'/\IsL o' ws)->Heap.SameBut l s.heap h'->Q () { s with heap:=h' }):wpAny (model prog w) A (setItem (.ref l) (.ref sl) (.ref b)) Q E s:=by
 have L:=z0s ho q
 have hTs:s.TypeIs (.ref sl) "slice":=hs.elim fun os h=>⟨os,h.1,h.2.1⟩
 unfold setItem
 try with_reducible refine BQ ?_
 first | refine AB (AG ?_) | skip
 refine AB (wpAny_sequenceKey L.typeIs (by decide) ?_)
 refine AB (wpAny_callSpecial?_slot (name:=Str.ofString "__setitem__") L.typeIs slot_list_setitem
  (EJ slot_list_setitem L.typeIs entry_list_setitem ?_ (args_list_setitem _ _ _)))
 refine AB (m:=Builtin.List.listSubscript? (.ref sl)) (x1d hTs ?_)
 refine AB (m:=typeOf (.ref sl)) (wpAny_typeOf hTs ?_)
 rw [AS (by decide)]
 refine AB (j0y hs ?_)
 refine x1e (a:=ws.toArray) (fun Q k=>y5o hob qb k) (fun Q k=>q2e hob qb k) ?_
 refine AB (m:=Builtin.List.listItems (.ref l)) (y5o ho q ?_)
 have hsz:¬ (Builtin.List.listTooLong (vs.toArray.size+ws.toArray.size)=true):=by
  unfold Builtin.List.listTooLong
  simp only [BS,decide_eq_true_eq]
  simp only [z2n] at hl
  rw [GD]
  lia
 have hl1:vs.toArray.size<=sizeLine:=by rw [BS,GD];exact AA (BG _ _) hl
 have hl2:ws.length<=sizeLine+1:=by rw [GD];exact CF (AA (CP _ _) hl)
 obtain⟨_,n,hd,_⟩:=id q
 refine AB (wpAny_of_eq (sliceIndices_raw none none none vs.toArray.size (by simp)) ?_)
 refine AB (m:=rule "list.__setitem__.slice") (wpAny_rule ?_)
 rw [AS hsz]
 refine AB (m:=updateSeq l _) (wpAny_updateSeq ho hd ?_ hl1 ?_)
 ·refine AB (wpAny_letGo (AG ⟨.none,rfl,AG (hQ _ (y9p (n:=0) ho q ?_) (FY ..))⟩))
  simp [sliceBounds]
 ·simp [sliceBounds];lia
theorem q7x{l:Addr}{o:Obj}{vs:List Value}{x:Value}{Q:Value->Shared->Prop}(ho:s.heap.get? l=some o)(q:IsL o vs)(hl:vs.length<=z2n)
 (hQ:∀ h',(∃ o',h'.get? l=some o'/\IsL o' (vs++[x]))->Heap.SameBut l s.heap h'->Q .none { s with heap:=h' }):wpAny (model prog w) A (call (.builtin "list.append") [.ref l,x]) Q E s:=by
 have L:=z0s ho q
 obtain⟨_,n,hd,_⟩:=id q
 refine EJ slot_list_append L.typeIs entry_list_append ?_ (args_list_append _ _)
 show wpAny _ _ (updateSeq l (·.push x)>>=fun _=>ret .none) _ _ s
 have hl1:vs.toArray.size<=sizeLine:=by rw [BS,GD];simp only [z2n] at hl;lia
 refine AB (wpAny_updateSeq ho hd (AG ⟨.none,rfl,hQ _ (y9p (n:=0) ho q (by simp)) (FY ..)⟩) hl1 (by simp;simpa using hl1))
theorem j4t{K:Frag}{x C:Addr}{ox:Obj}{od:Option Obj}{i:Value}{nm:String}{Q:Value->Shared->Prop}(X:K.In s.heap)(II:InstAt s.heap x ox C od)(hq:noSeq K C=true)(h:Q i s):wpAny (model prog w) A (sequenceKey (.ref x) i nm) Q E s:=by
 unfold sequenceKey
 refine AB (II.type.here ?_)
 refine AB ((anyM_none X hq).here ?_)
 rw [AQ (show(!false)=true from rfl)]
 exact AG h
theorem q2f{K:Frag}{x C f:Addr}{ox:Obj}{od:Option Obj}{i v:Value}{Q:Unit->Shared->Prop}(X:K.In s.heap)(II:InstAt s.heap x ox C od)(hq:noSeq K C=true)(hs:findIn K (.ref C) "__setitem__"=some (some (.ref f)))(hf:isFn K (.ref f)=true)
 (h:wpAny (model prog w) A (call (.ref f) [.ref x,i,v]) (fun _=>Q ()) E s):wpAny (model prog w) A (setItem (.ref x) i v) Q E s:=by
 unfold setItem
 refine BQ (AB (j4t X II hq (AB (special_fn X II hs (BE.mp hf) (CZ h (fun _ _ z=>AG z) fun _ _ z=>z)))))
theorem q2g{K:Frag}{x C f:Addr}{ox:Obj}{od:Option Obj}{i:Value}{Q:Unit->Shared->Prop}(X:K.In s.heap)(II:InstAt s.heap x ox C od)(hq:noSeq K C=true)(hs:findIn K (.ref C) "__delitem__"=some (some (.ref f)))(hf:isFn K (.ref f)=true)
 (h:wpAny (model prog w) A (call (.ref f) [.ref x,i]) (fun _=>Q ()) E s):wpAny (model prog w) A (delItem (.ref x) i) Q E s:=by
 unfold delItem
 refine BQ (AB (j4t X II hq (AB (special_fn X II hs (BE.mp hf) (CZ h (fun _ _ z=>AG z) fun _ _ z=>z)))))
end
section
variable {I:z2w} {own own':List Addr} {L L':Lim} {w:World} {g g0 gb gC g':Fz} {Z Z0 Z1 Z2 Z':Bt} {H H0 Hb H2 H':z0b} {s sA sB sC s':Shared} {env:Env} {Y Y0 Y':z0n} {A:Around} {prog:Program} {lv n:Nat} {S:z6z} {C:z0h} {p q r:PV}
theorem j4u{e:Expr}{Q:Bool->Shared->Prop}{E:Value->Shared->Prop}(ht:y9i e=true)
 (h:wpAny (model prog w) A (eval e env) (fun v sB=>wpAny (model prog w) A (truthy v) Q E sB) E s):wpAny (model prog w) A (isTrue e env (eval e env)) Q E s:=by
 cases e<;>first | exact isTrue_plain h | (contradiction;done) | skip
 case Compare a ops rs pos=>
  match ops,rs,ht with
  | [op],[r],_=>
   have e:isTrue (.Compare a [op] [r] pos) env (eval (.Compare a [op] [r] pos) env)=eval (.Compare a [op] [r] pos) env>>=fun c=>PySem.holding [c] (truthy c):=by
    rw [isTrue_Compare1,eval_Compare1]
    simp only [bind_assoc]
   rw [e]
   exact AB (CZ h (fun v s h=>BQ h) fun _ _ e=>e)
 case UnaryOp op x pos=>
  cases op<;>first | exact isTrue_plain h | (contradiction;done)
theorem x5z(hT:q0w I prog w lv S.ts)(hA:AOk A lv):∀ {es:List Expr} {ms:List ME} {g:Fz} {Z:Bt} {H H':z0b} {s:Shared} {r:Bool},SR I w.params g Z H s.heap->z0j I own env Y g Z s.heap->z2k (z6l I.t n env.scope.names) es ms=true ->
  y4w (S.ts Y) ms L H=some (r,H')->Go I prog w A [] L g Z H (allTrue .And es env) H' (fun _ _ _ b=>b=r) s
 | [],ms,g,Z,H,H',s,r,R,O,hc,hm=>by
  induction ms using List.casesOn with
  | cons _ _=>contradiction
  | nil=>injection hm with hm;injection hm with eB eC;subst eB;subst eC;exact Go.pure R rfl
 | e::es,ms,g,Z,H,H',s,r,R,O,hc,hm=>by
  induction ms using List.casesOn with
  | nil=>contradiction
  | cons m ms=>
   obtain⟨c1,c2⟩:=z0v hc
   obtain⟨b,Hb,h1,h2⟩:=M.bind_some hm
   intro Q E q
   show wpAny (model prog w) A (do
    match BoolOp.And,<- isTrue e env (eval e env) with
    | .And,false=>pure false
    | .Or,true=>pure true
    | _,_=>allTrue .And es env) Q E s
   refine AB (hT hA R O c1 h1 _ _ fun v gb Z1 sB Gb Rb pB=>?_)
   subst pB
   induction v using Bool.casesOn with
   | false=>
    obtain⟨rfl,rfl⟩:=M.pure_some (L:=L) h2
    exact AG (q _ gb Z1 sB Gb Rb rfl)
   | true=>exact x5z hT hA Rb (O.step Gb) c2 h2 Q E fun a gC Z2 sC Gc Rc pC=>q a gC Z2 sC (Gb.trans R Gc) Rc pC
theorem x6a(hT:q0w I prog w lv S.ts)(hA:AOk A lv):∀ {es:List Expr} {ms:List ME} {g:Fz} {Z:Bt} {H H':z0b} {s:Shared} {r:Bool},SR I w.params g Z H s.heap->z0j I own env Y g Z s.heap->z2k (z6l I.t n env.scope.names) es ms=true ->
  x7p (S.ts Y) ms L H=some (r,H')->Go I prog w A [] L g Z H (allTrue .Or es env) H' (fun _ _ _ b=>b=r) s
 | [],ms,g,Z,H,H',s,r,R,O,hc,hm=>by
  induction ms using List.casesOn with
  | cons _ _=>contradiction
  | nil=>injection hm with hm;injection hm with eB eC;subst eB;subst eC;exact Go.pure R rfl
 | e::es,ms,g,Z,H,H',s,r,R,O,hc,hm=>by
  induction ms using List.casesOn with
  | nil=>contradiction
  | cons m ms=>
   obtain⟨c1,c2⟩:=z0v hc
   obtain⟨b,Hb,h1,h2⟩:=M.bind_some hm
   intro Q E q
   show wpAny (model prog w) A (do
    match BoolOp.Or,<- isTrue e env (eval e env) with
    | .And,false=>pure false
    | .Or,true=>pure true
    | _,_=>allTrue .Or es env) Q E s
   refine AB (hT hA R O c1 h1 _ _ fun v gb Z1 sB Gb Rb pB=>?_)
   subst pB
   induction v using Bool.casesOn with
   | true=>
    obtain⟨rfl,rfl⟩:=M.pure_some (L:=L) h2
    exact AG (q _ gb Z1 sB Gb Rb rfl)
   | false=>exact x6a hT hA Rb (O.step Gb) c2 h2 Q E fun a gC Z2 sC Gc Rc pC=>q a gC Z2 sC (Gb.trans R Gc) Rc pC
theorem j4v(hE:z4q I prog w lv S.ev)(hT:q0w I prog w lv S.ts):q0w I prog w lv (x5o S):=by
 intro n own env Y A L g Z H s e m r H' hA R O hc h
 have plain:∀ {n:Nat},(y9i e&&z0o I.t n env.scope.names e m)=true->((S.ev Y m).bind fun p=>z5f.bind fun H=>M.ofOpt (z9n H p)) L H=some (r,H')->Go I prog w A [] L g Z H (isTrue e env (eval e env)) H' (fun _ _ _ b=>b=r) s:=by
  intro n hc h
  obtain⟨c1,c2⟩:=z0v hc
  obtain⟨p,Hb,h1,h2⟩:=M.bind_some h
  obtain⟨J,H2,h3,h4⟩:=M.bind_some h2
  obtain⟨rfl,rfl⟩:=M.getH_some h3
  obtain⟨e1,rfl⟩:=M.ofOpt_some h4
  intro Q E q
  exact j4u c1 (hE hA R O c2 h1 _ _ fun v gb Z1 sB Gb Rb pB=>x0h Rb pB e1 _ _ fun b gC Z2 sC Gc Rc pC=>q b gC Z2 sC (Gb.trans R Gc) Rc pC)
 induction n using Nat.casesOn with
 | zero=>contradiction
 | succ n=>
 cases m with
 | notE a=>
  obtain⟨o,a',pos,rfl,hk⟩:=x7q (show dUn e (fun o a'=>o==.Not&&z6l I.t n env.scope.names a' a)=true from hc)
  obtain rfl:=BI (z0v hk).1
  obtain⟨t,Hb,h1,h2⟩:=M.bind_some h
  obtain⟨rfl,rfl⟩:=M.pure_some (L:=L) h2
  intro Q E q
  refine isTrue_not (hT hA R O (z0v hk).2 h1 _ _ fun b gb Z1 sB Gb Rb pB=>?_)
  subst pB
  exact q _ gb Z1 sB Gb Rb rfl
 | andE l=>
  obtain⟨o,vs,pos,rfl,hk⟩:=y5b (show y1x e (fun o vs=>o==.And&&z2k (z6l I.t n env.scope.names) vs l)=true from hc)
  obtain rfl:=BI (z0v hk).1
  exact x5z hT hA R O (z0v hk).2 h
 | orE l=>
  obtain⟨o,vs,pos,rfl,hk⟩:=y5b (show y1x e (fun o vs=>o==.Or&&z2k (z6l I.t n env.scope.names) vs l)=true from hc)
  obtain rfl:=BI (z0v hk).1
  exact x6a hT hA R O (z0v hk).2 h
 | _=>exact plain (n:=n+1) hc h
end
section
variable {I:z2w} {own own':List Addr} {L L':Lim} {w:World} {g g0 gb gC g':Fz} {Z Z0 Z1 Z2 Z':Bt} {H H0 Hb H2 H':z0b} {s sA sB sC s':Shared} {env:Env} {Y Y0 Y':z0n} {A:Around} {prog:Program} {lv n:Nat} {S:z6z} {C:z0h} {p q r:PV}
theorem y3f(h:env.scope.kind=.function):env.blockKind=.function:=by
 unfold Env.blockKind;simp [h,ScopeKind.isAnnotationScope]
theorem y3g{value t:Expr}{line:Nat}(hk:env.scope.kind=.function)(hs:z3d value=false):swapsWith value (some t) line env=pure (z3q env.scope.names value t):=by
 by_cases h8:(value.ctorIdx==8)=true
 ·refine Expr.ListComp.elim (motive_1:=fun value=>swapsWith value (some t) line env=pure (z3q env.scope.names value t)) value (BI h8) fun a b sc p=>?_
  cases t with
  | Name x q=>
   unfold swapsWith
   dsimp only
   rw [y3f hk]
   rfl
  | _=>rfl
 ·have e:z3q env.scope.names value t=false:=by
   unfold z3q
   rw [ET.mpr h8,Bool.false_and,Bool.and_false]
  rw [e]
  cases value<;>first | rfl | (contradiction;done) | exact absurd rfl h8
theorem y9q{V Z:Type}{c c':Prop}[Decidable c][Decidable c']{o:Option Z}{m:Sem V}{r1 r:Z}{f:Z->V}(hc:c'=c)(h:(if c then some r1 else o)=some r)(k:o=some r->m=pure (f r)):(if c' then pure (f r1) else m)=pure (f r):=by
 by_cases q:c
 ·rw [AQ q] at h
  rw [AQ (hc▸q),AF h]
 ·rw [AS q] at h
  rw [AS (hc▸q),k h]
theorem x8w{V Z:Type}{c:Prop}[Decidable c]{o:Option Z}{m m':Sem V}{r:Z}{f:Z->V}(h:(if c then none else o)=some r)(k:o=some r->m=pure (f r)):(if c then m' else m)=pure (f r):=by
 by_cases q:c
 ·rw [AQ q] at h;contradiction
 ·rw [AS q] at h
  rw [AS q,k h]
theorem j0z{ts vs:List Expr}{k k':Nat}{pos pos':Pos}{r:Option (List Str)}(hk:env.scope.kind=.function)(h:j3v env.scope.names ts vs=some r):swappedStores [.Tuple ts k pos] (.Tuple vs k' pos') env=pure r:=by
 have e0:(env.blockKind != ScopeKind.function)=false:=by rw [y3f hk];rfl
 exact y9q (f:=id) (by rw [e0,Bool.or_false]) h fun h=>y9q (f:=id) rfl h fun h=>y9q (f:=id) rfl h fun h=>y9q (f:=id) rfl h fun h=>x8w (f:=id) h fun h=>by rw [<- AF h];rfl
theorem y5p{ts:List Expr}{e:Expr}{k:Nat}{pos:Pos}{r:Option (List Str)}(hk:env.scope.kind=.function)(h:y5l env.scope.names (.Tuple ts k pos) e=some r):swappedStores [.Tuple ts k pos] e env=pure r:=by
 by_cases he:(e.ctorIdx==25)=true
 ·exact Expr.Tuple.elim (motive_1:=fun e=>y5l env.scope.names (.Tuple ts k pos) e=some r->swappedStores [.Tuple ts k pos] e env=pure r) e (BI he) (fun vs k' p' h=>j0z hk h) h
 ·have er:none=r:=AF ((AS he).symm.trans h)
  rw [<- er]
  cases e<;>first | rfl | exact absurd rfl he
theorem q5l{e:Expr}{line:Nat}(h:j3t e=false):swapsWith e none line env=pure false:=by
 cases e<;>first | rfl | contradiction
theorem q2h(hk:env.scope.kind=.function):interactive env=false:=by unfold interactive;rw [hk];rfl
theorem z6i{t value:Expr}{pos:Pos}{Q:Flow->Shared->Prop}{E:Value->Shared->Prop}(hk:env.scope.kind=.function)(hset:z3d value=false)(hsw:z3q env.scope.names value t=false)(hsp:swappedStores [t] value env=pure none)
 (e2:(assignEach [t] env).map (·.2)=[assign t env])(h:wpAny (model prog w) A (eval value env) (fun v sB=>wpAny (model prog w) A (assign t env v) (fun _=>Q .next) E sB) E s):wpAny (model prog w) A (exec (.Assign [t] value pos) env) Q E s:=by
 have e:exec (.Assign [t] value pos) env=(do
   PySem.standAt pos
   if<-swapsWithSole [t] value pos.line env then do
    evalThenUse value env fun v=>assignAll v ((assignEach [t] env).map (·.2))
    pure .next
   else do
    let v<-eval value env
    assignStores env v (<- swappedStores [t] value env) ((assignEach [t] env).map (·.2))):=rfl
 rw [e,e2]
 refine AB (BT (AB (m:=swapsWith value (some t) pos.line env) ?_))
 rw [y3g hk hset,hsw]
 refine AG ?_
 rw [AS (by simp)]
 refine AB (CZ h (fun v sB B4=>?_) fun _ _ e=>e)
 refine AB ?_
 rw [hsp]
 refine AG ?_
 show wpAny (model prog w) A (assignAll v [assign t env]>>=fun _=>pure .next) Q E sB
 exact AB (CZ B4 (fun _ _ h=>AG h) fun _ _ e=>e)
theorem y3h{v:Value}(hnd:I.nm.Nodup)(hok:∀ x,z1m env.scope.names x=true->Mine.storeable env own x):∀ {ts:List Expr} {ks:List Nat} {Y:z0n} {g:Fz} {Z:Bt} {s:Shared},y4g I.t (z1m env.scope.names) ts ks=true->SR I w.params g Z H s.heap->z0j I own env Y g Z s.heap->Rel I g Z v p ->
  Go I prog w A own L g Z H (assignAll v ((assignEach ts env).map (·.2))) H (fun g' Z' s' _=>z0j I own env (ks.foldl (fun Y k=>upd Y k p) Y) g' Z' s'.heap) s
 | [],ks,Y,g,Z,s,hc,R,O,hv=>by
  induction ks using List.casesOn with
  | cons _ _=>contradiction
  | nil=>exact Go.pure R O
 | t::ts,ks,Y,g,Z,s,hc,R,O,hv=>by
  induction ks using List.casesOn with
  | nil=>contradiction
  | cons k ks=>
   obtain⟨c1,c2⟩:=z0v hc
   obtain⟨x,px,rfl,hx,hxo⟩:=z3c c1
   have one:Go I prog w A own L g Z H (assign (.Name x px) env v) H (fun g' Z' s' _=>z0j I own env (upd Y k p) g' Z' s'.heap/\g'=g/\Z'=Z) s:=Go.standAt (y0t hnd R O hx (hok x hxo) hv)
   have hcons:(assignEach (.Name x px::ts) env).map (·.2)=assign (.Name x px) env::(assignEach ts env).map (·.2):=rfl
   rw [hcons]
   induction ts using List.casesOn with
   | nil=>
    induction ks using List.casesOn with
    | cons _ _=>contradiction
    | nil=>exact one.mono fun _ gb Z1 sB G Rb q=>q.1
   | cons t2 ts=>
    have e:(assignEach (t2::ts) env).map (·.2)≠[]:=by cases t2<;>(intro h;contradiction)
    induction hm:(assignEach (t2::ts) env).map (·.2) using List.casesOn with
    | nil=>exact absurd hm e
    | cons u us=>
     show Go I prog w A own L g Z H (PySem.holding [v] (assign (.Name x px) env v)>>=fun _=>assignAll v (u::us)) H _ s
     refine Go.bind R (Go.holding one) fun _ gb Z1 sB G Rb q=>?_
     obtain⟨Ob,rfl,rfl⟩:=q
     rw [<- hm]
     exact y3h (ks:=ks) (Y:=upd Y k p) hnd hok c2 Rb Ob hv
end
section
variable {I:z2w} {own own':List Addr} {L L':Lim} {w:World} {g g0 gb gC g':Fz} {Z Z0 Z1 Z2 Z':Bt} {H H0 Hb H2 H':z0b} {s sA sB sC s':Shared} {env:Env} {Y Y0 Y':z0n} {A:Around} {prog:Program} {lv n:Nat} {S:z6z} {C:z0h} {p q r:PV}
theorem y2g{j:Nat}{l:List PV}{x:Unit}(h:y0n j l L H=some (x,H')):∃ l0,H[j]?=some (.lst l0)/\L.b<=j/\z0w 0 l=true/\H'=H.set j (.lst l):=by
 obtain⟨⟨h1,h2⟩,h3⟩:=z0q h
 split at h3
 ·exact⟨_,by assumption,h1,h2,(FP (AF h3)).2.symm⟩
 ·contradiction
theorem y9r{j:Nat}{a:Addr}{l0 l:List PV}{h':Heap}{o':Obj}{vs:List Value}(R:SR I w.params g Z H s.heap)(hj:Z j=some a)(h0:H[j]?=some (.lst l0))(hL:L.b<=j)(hnr:z0w 0 l=true)
 (ho:h'.get? a=some o')(q:IsL o' vs)(hlen:vs.length<=z2n)(hr:z0e I g Z vs l)(hs:Heap.SameBut a s.heap h') :
  SR I w.params g Z (H.set j (.lst l)) h'/\z1e [] L g Z H s g Z (H.set j (.lst l)) { s with heap:=h' }:=by
 have hk:∀ b o,b≠a->s.heap.get? b=some o->h'.get? b=some o:=fun b o hne e=>(hs.2 b hne).trans e
 exact⟨R.cellPut hj hk ⟨o',vs,ho,q,hlen,hr,hnr⟩,z1e.cellPut (tk:=s.toks) (B2:=.lst l0) R hj h0 trivial ⟨fun _ _=>hL,fun _ h=>by cases h⟩ hk ⟨o',ho⟩⟩
inductive w6m(I:z2w)(g:Fz)(Z:Bt)(h:Heap)(v:Value)(j:Nat)(l:List PV):Prop
 | mk (a:Addr) (o:Obj) (vs:List Value) (h1:v=.ref a) (h2:Z j=some a) (h3:h.get? a=some o) (h4:IsL o vs) (h5:vs.length<=z2n) (h6:z0e I g Z vs l):w6m I g Z h v j l
theorem y4l{v:Value}{j:Nat}{l:List PV}(R:SR I w.params g Z H s.heap)(hv:Rel I g Z v (.ref j))(h0:H[j]?=some (.lst l)):w6m I g Z s.heap v j l:=by
 obtain⟨a,e,hj⟩:=hv.ref_inv
 obtain⟨o,vs,c1,c2,c3,c4,_⟩:=R.cell _ _ _ hj h0
 exact⟨a,o,vs,e,hj,c1,c2,c3,c4⟩
theorem y7r(o i:Expr)(pos:Pos)(env:Env)(v:Value):∃ f:Value->Value->List Value,assign (.Subscript o i pos) env v=(do
   let ov<-PySem.holding [v] (eval o env)
   let iv<-PySem.holding [v,ov] (eval i env)
   PySem.standAt pos
   PySem.holding [v,ov,iv] (setItem ov iv v)
   release (f ov iv) []):=⟨fun ov iv=>(match i with | .Slice _ _ none _=>[iv,v,ov] | _=>[v,ov,iv]),rfl⟩
theorem x1f{o i e:ME}{fl:Fl}{G:Prop}(h:z4h I.P C S Y (.setIdx o i e) L H=some (fl,H'))
 (k:∀ v p q Hb H2 Hd,S.ev Y e L H=some (v,Hb)->S.ev Y o L Hb=some (p,H2)->S.ev Y i L H2=some (q,Hd)->fl=.next Y ->
   ((∃ c j f r,p=.inst c j/\I.P.meth c y8y=some f/\C f [p,q,v] [] L Hd=some (r,H'))\/∃ j l kk m,p=.ref j/\q=.int kk/\Hd[j]?=some (.lst l)/\0<=kk/\z7a l.length kk=some m/\L.b<=j/\z0w 0 (l.set m v)=true/\H'=Hd.set j (.lst (l.set m v)))->G):G:=by
 obtain⟨v,Hb,h1,h2⟩:=M.bind_some h
 obtain⟨p,H2,h3,h4⟩:=M.bind_some h2
 obtain⟨q,Hd,h5,h6⟩:=M.bind_some h4
 obtain⟨u,h7,h8⟩:=M.map_some (m:=y5a I.P C p q v) h6
 refine k v p q Hb H2 Hd h1 h3 h5 h8.symm ?_
 clear k h h1 h2 h3 h4 h5 h6 h8
 unfold y5a at h7
 split at h7
 ·obtain⟨r,h9,_⟩:=M.map_some h7
  obtain⟨c,j,f,e,hf,h11⟩:=z6p h9
  exact .inl ⟨c,j,f,r,e,hf,h11⟩
 ·obtain⟨kk,H5,h9,h10⟩:=M.bind_some h7
  obtain⟨l,H6,h11,h12⟩:=M.bind_some h10
  obtain⟨m,hp,h14⟩:=M.opt_some h12
  obtain⟨e1,e2⟩:=z6o h9
  obtain⟨hl,e3⟩:=z9c h11
  obtain⟨h0,hp⟩:=z0q hp
  subst e2 e3
  obtain⟨l0,hl0,hL,hnr,e⟩:=y2g h14
  exact .inr ⟨_,l,kk,m,rfl,e1,hl,h0,hp,hL,hnr,e⟩
 ·contradiction
theorem j4w{o' i' e':Expr}{o i e:ME}{pos pos':Pos}{fl:Fl}(T:z0r I)(hC:j0o I prog w lv C)(hE:z4q I prog w lv S.ev)(hA:AOk A lv)(R:SR I w.params g Z H s.heap)(O:z0j I own env Y g Z s.heap)
 (hsl:z7d i'=false)(hset:z3d e'=false)(hco:z0o I.t n env.scope.names o' o=true)(hci:z0o I.t n env.scope.names i' i=true)(hce:z0o I.t n env.scope.names e' e=true)(h:z4h I.P C S Y (.setIdx o i e) L H=some (fl,H')) :
  Go I prog w A own L g Z H (exec (.Assign [.Subscript o' i' pos'] e' pos) env) H' (z4k I own env fl) s:=by
 refine x1f h fun v p q Hb H2 Hd h1 h3 h5 ef h7=>?_
 clear h
 subst ef
 intro Q E qq
 refine z6i O.kind hset rfl rfl rfl (hE hA R O hce h1 _ _ fun vv gb Z1 sB Gb Rb pB=>?_)
 obtain⟨ff,hasg⟩:=y7r o' i' pos' env vv
 rw [hasg]
 have Ob:=O.step Gb
 refine AB (BQ (hE hA Rb Ob hco h3 _ _ fun ov gC Z2 sC Gc Rc pC=>?_))
 have Oc:=Ob.step Gc
 refine AB (BQ (hE hA Rc Oc hci h5 _ _ fun iv gD Z3 sd Gd Rd pd=>AB (BT ?_)))
 have O3:=Oc.step Gd
 have p1':=(pB.mono Gc.gle Gc.ble).mono Gd.gle Gd.ble
 have p2':=pC.mono Gd.gle Gd.ble
 have G13:=Gb.trans R (Gc.trans Rb Gd)
 rcases h7 with⟨c,j,f,r,e,hf,h11⟩ | ⟨j,l,kk,m,e1,e2,hl,h0,hp,hL,hnr,e3⟩
 ·obtain⟨xx,d,od,rfl,hI⟩:=Rel.instAny Rd (e▸p2')
  have t:=T.meths _ _ _ _ hf T.n3
  refine AB (BQ (q2f (T.there Rd) hI (T.plainC c).2.2.1 t.1 t.2.1 ((hC hA.s Rd (.cons p2' (.cons pd (.one p1'))) .nil h11).go _ _ fun a gE Z4 se Ge RE p4=>wpAny_release ?_)))
  exact qq _ gE Z4 se ((G13.trans R Ge).own_le fun _ h=>absurd h BB) RE ⟨rfl,O3.step Ge⟩
 ·obtain⟨tk,rfl⟩:=(e2▸pd:Rel I gD Z3 iv (.int kk)).int_inv
  obtain⟨a,ob,vs,rfl,hj,ho,hq,hlen,hr⟩:=y4l Rd (e1▸p2') hl
  rw [<- hr.length] at hp
  refine AB (BQ (x1c ho hq hlen hp h0 fun h' hh hs=>wpAny_release ?_))
  obtain⟨o2,ho2,hq2⟩:=hh
  obtain⟨R4,G4⟩:=y9r (L:=L) Rd hj hl hL hnr ho2 hq2 (by rw [List.length_set];exact hlen) (hr.set m p1') hs
  subst e3
  exact qq _ gD Z3 _ ((G13.trans R G4).own_le fun _ h=>absurd h BB) R4 ⟨rfl,O3.step G4⟩
theorem j4x{o' i':Expr}{o i:ME}{pos pos':Pos}{fl:Fl}(T:z0r I)(hC:j0o I prog w lv C)(hE:z4q I prog w lv S.ev)(hA:AOk A lv)(R:SR I w.params g Z H s.heap)(O:z0j I own env Y g Z s.heap)
 (hco:z0o I.t n env.scope.names o' o=true)(hci:z0o I.t n env.scope.names i' i=true)(h:z4h I.P C S Y (.delIdx o i) L H=some (fl,H')) :
  Go I prog w A own L g Z H (exec (.Delete [.Subscript o' i' pos'] pos) env) H' (z4k I own env fl) s:=by
 obtain⟨p,H2,h3,h4⟩:=M.bind_some h
 obtain⟨q,Hd,h5,h6⟩:=M.bind_some h4
 obtain⟨u,h7,h8⟩:=M.map_some (m:=y0o I.P C y3x p [q] []) h6
 clear h h4 h6
 subst h8
 intro Q E qq
 have hex:exec (.Delete [.Subscript o' i' pos'] pos) env=(do
   PySem.standAt pos
   deleteEach [.Subscript o' i' pos'] env
   pure .next):=rfl
 have hde:deleteEach [.Subscript o' i' pos'] env=(do
   (do
    let ov<-eval o' env
    let iv<-PySem.holding [ov] (eval i' env)
    PySem.standAt pos'
    PySem.holding [ov,iv] (delItem ov iv)
    release [ov,iv] [])
   pure ()):=rfl
 rw [hex,hde]
 refine AB (BT (AB (AB (AB (hE hA R O hco h3 _ _ fun ov gC Z2 sC Gc Rc pC=>?_)))))
 have Oc:=O.step Gc
 refine AB (BQ (hE hA Rc Oc hci h5 _ _ fun iv gD Z3 sd Gd Rd pd=>AB (BT ?_)))
 have O3:=Oc.step Gd
 have p2':=pC.mono Gd.gle Gd.ble
 have G13:=Gc.trans R Gd
 obtain⟨c,j,f,rfl,hf,h11⟩:=z6p h7
 obtain⟨xx,d,od,rfl,hI⟩:=Rel.instAny Rd p2'
 obtain⟨t1,t2,t3,_⟩:=T.meths _ _ _ _ hf T.n4
 refine AB (BQ (q2g (T.there Rd) hI (T.plainC c).2.2.1 t1 t2 ((hC hA.s Rd (.cons p2' (.one pd)) .nil h11).go _ _ fun a gE Z4 se Ge RE p4=>wpAny_release (AG (AG ?_)))))
 exact qq _ gE Z4 se ((G13.trans R Ge).own_le fun _ h=>absurd h BB) RE ⟨rfl,O3.step Ge⟩
end
section
variable {I:z2w} {own own':List Addr} {L L':Lim} {w:World} {g g0 gb gC g':Fz} {Z Z0 Z1 Z2 Z':Bt} {H H0 Hb H2 H':z0b} {s sA sB sC s':Shared} {env:Env} {Y Y0 Y':z0n} {A:Around} {prog:Program} {lv n:Nat} {S:z6z} {C:z0h} {p q r:PV}
theorem j4y{u:PV}{x:Unit}(h:x0d u L H=some (x,Hb)):∃ j l,u=.ref j/\H=Hb/\H[j]?=some (.lst l):=by
 obtain⟨j,e,h⟩:=y5m h
 obtain⟨l,h1,_⟩:=M.map_some h
 obtain⟨hl,e2⟩:=z9c h1
 exact⟨j,l,e,e2,hl⟩
theorem w2k{j:Nat}{l l0:List PV}{x:Unit}{G:Prop}(h:((M.ofOpt (sz l0)).bind fun _=>y0n j l) L H=some (x,H'))(k:l0.length<=z2n->L.b<=j->z0w 0 l=true->H'=H.set j (.lst l)->G):G:=by
 obtain⟨l1,hsz,h12⟩:=M.opt_some h
 obtain⟨l0',_,hL,hnr,e⟩:=y2g h12
 exact k (q0y hsz).1 hL hnr e
theorem x1g{o e:ME}{fl:Fl}{G:Prop}(h:z4h I.P C S Y (.setAll o e) L H=some (fl,H'))
 (k:∀ l Hb H2 j l0,S.ev Y e L H=some (.lst l,Hb)->S.ev Y o L Hb=some (.ref j,H2)->H2[j]?=some (.lst l0)->(l0++l).length<=z2n->L.b<=j->z0w 0 l=true->fl=.next Y->H'=H2.set j (.lst l)->G):G:=by
 obtain⟨v,Hb,h1,h2⟩:=M.bind_some h
 obtain⟨p,H2,h3,h4⟩:=M.bind_some h2
 obtain⟨u,h7,h8⟩:=M.map_some (m:=y8z p v) h4
 obtain⟨j,e1,h9⟩:=y5m h7
 obtain⟨l,hv,h10⟩:=M.opt_some h9
 obtain⟨l',e2,h11⟩:=z7b hv
 obtain⟨l0,H5,h12,h13⟩:=M.bind_some h10
 obtain⟨hl,e3⟩:=z9c h12
 have e4:=AF h11
 exact w2k h13 fun a b c d=>k l Hb H2 j l0 (e4▸e2▸h1) (e1▸h3) hl a b c h8.symm (e3▸d)
theorem x1h{o e:ME}{fl:Fl}{G:Prop}(h:z4h I.P C S Y (.append o e) L H=some (fl,H'))
 (k:∀ j l Hb v H2 l1,S.ev Y o L H=some (.ref j,Hb)->Hb[j]?=some (.lst l)->S.ev Y e L Hb=some (v,H2)->H2[j]?=some (.lst l1)->(l1++[v]).length<=z2n->L.b<=j->z0w 0 (l1++[v])=true->fl=.next Y->H'=H2.set j (.lst (l1++[v]))->G):G:=by
 obtain⟨p,Hb,h1,h2⟩:=M.bind_some h
 obtain⟨u,H2,h3,h4⟩:=M.bind_some h2
 obtain⟨j,l,e1,e2,hl⟩:=j4y h3
 obtain⟨v,Hd,h5,h6⟩:=M.bind_some h4
 obtain⟨u',h7,h8⟩:=M.map_some (m:=y9a p v) h6
 obtain⟨j',e3,h9⟩:=y5m h7
 obtain⟨l1,H5,h10,h11⟩:=M.bind_some h9
 obtain⟨hl1,e4⟩:=z9c h10
 obtain⟨l2,hsz,h12⟩:=M.opt_some h11
 obtain⟨_,_,hL,hnr,e5⟩:=y2g h12
 have ej:=PV.ref.inj (e3.symm.trans e1)
 have s:=q0y hsz
 exact k j l Hb v Hd l1 (e1▸h1) hl (e2▸h5) (ej▸hl1) s.1 (ej▸hL) (s.2▸hnr) h8.symm (by rw [e5,<- e4,ej,s.2])
theorem j4z{o' e':Expr}{o e:ME}{pos pos' pos2:Pos}{fl:Fl}(T:z0r I)(hE:z4q I prog w lv S.ev)(hA:AOk A lv)(R:SR I w.params g Z H s.heap)(O:z0j I own env Y g Z s.heap)
 (hset:z3d e'=false)(hco:z0o I.t n env.scope.names o' o=true)(hce:z0o I.t n env.scope.names e' e=true)(h:z4h I.P C S Y (.setAll o e) L H=some (fl,H')) :
  Go I prog w A own L g Z H (exec (.Assign [.Subscript o' (.Slice none none none pos2) pos'] e' pos) env) H' (z4k I own env fl) s:=by
 refine x1g h fun l Hb H2 j l0 h1 h3 hl hsz hL hnr ef es=>?_
 clear h
 subst ef es
 intro Q E qq
 refine z6i O.kind hset rfl rfl rfl (hE hA R O hce h1 _ _ fun vv gb Z1 sB Gb Rb pB=>?_)
 obtain⟨ff,hasg⟩:=y7r o' (.Slice none none none pos2) pos' env vv
 rw [hasg]
 have Ob:=O.step Gb
 refine AB (BQ (hE hA Rb Ob hco h3 _ _ fun ov gC Z2 sC Gc Rc pC=>?_))
 have Oc:=Ob.step Gc
 refine AB (BQ (wpAny_Slice (AG (AG (AG (AB (BT ?_)))))))
 have G3:=y1d (own:=[]) (L:=L) Rc { cls:=.type "slice",data:=.fields #[.none,.none,.none] }
 have R3:SR I w.params gC Z2 H2 (sC.heap.push { cls:=.type "slice",data:=.fields #[.none,.none,.none] }):=Rc.keepAll fun b x e=>AO _ e
 obtain⟨a,ob,vs,rfl,hj,ho,hq,hlen,hr⟩:=y4l (s:={ sC with heap:=sC.heap.push { cls:=.type "slice",data:=.fields #[.none,.none,.none] } }) R3 pC hl
 obtain⟨b,oo,ws,rfl,k1,k2,k3,k4⟩:=(pB.mono Gc.gle Gc.ble).lst_inv
 have hlen2:vs.length+ws.length<=z2n:=by rw [hr.length,k4.length,<- AE];exact hsz
 refine AB (BQ (j4s (s:={ sC with heap:=sC.heap.push { cls:=.type "slice",data:=.fields #[.none,.none,.none] } }) ho hq (R3.sub _ _ k1) k2 ⟨_,AZ _ rfl,rfl,rfl⟩ hlen2 fun h' hh hs=>wpAny_release ?_))
 obtain⟨o2,ho2,hq2⟩:=hh
 obtain⟨R4,G4⟩:=y9r (L:=L) (s:={ sC with heap:=sC.heap.push { cls:=.type "slice",data:=.fields #[.none,.none,.none] } }) R3 hj hl hL hnr ho2 hq2 k3 k4 hs
 exact qq _ gC Z2 _ ((Gb.trans R (Gc.trans Rb (G3.trans Rc G4))).own_le fun _ h=>absurd h BB) R4 ⟨rfl,(Oc.step G3).step G4⟩
theorem j5a{o' e':Expr}{x:Str}{o e:ME}{pos ap cp:Pos}{fl:Fl}(T:z0r I)(hE:z4q I prog w lv S.ev)(hA:AOk A lv)(R:SR I w.params g Z H s.heap)(O:z0j I own env Y g Z s.heap)
 (hx:x=("append":Str))(hsf:z1h o'=false)(hline:(ap.endLine==cp.line)=true)(hco:z0o I.t n env.scope.names o' o=true)(hce:z0o I.t n env.scope.names e' e=true)(h:z4h I.P C S Y (.append o e) L H=some (fl,H')) :
  Go I prog w A own L g Z H (exec (.Expr (.Call (.Attribute o' x ap) [e'] [] cp) pos) env) H' (z4k I own env fl) s:=by
 refine x1h h fun j l Hb v H2 l1 h1 hl h5 hl1 hsz hL hnr ef es=>?_
 clear h
 subst ef es hx
 intro Q E qq
 refine wpAny_Expr_any ?_ (q2h O.kind) rfl
 refine z8n (H2:=_) (Pst:=fun g' Z' s' _=>z0j I own env Y g' Z' s'.heap) hsf hline (y9n (y4j hce) (show(1:Nat)<20 by decide)) R (hE hA R O hco h1) (fun vv gb Z1 sB Gb Rb pB=>?_) _ _ fun a gC Z2 sC Gc Rc pC=>qq _ gC Z2 sC (Gc.own_le fun _ h=>absurd h BB) Rc ⟨rfl,pC⟩
 clear qq
 obtain⟨a,ob,vs,rfl,hj,ho,hq,hlen,hr⟩:=y4l Rb pB hl
 refine⟨.builtin "list.append",[.ref a],fun Q E pl q=>getMethod_builtin (z0s ho hq).typeIs F.plainAttrs_list F.slot_list_append F.type_list_append (fun b hb=>Value.ref.inj hb▸⟨ob,ho,let ⟨_,_,_,hd⟩:=hq;hd⟩) q,?_⟩
 refine z4u T hE hA (z2q (fun _ h=>by contradiction)) Rb (O.step Gb) (y4j hce) (q7u h5) fun ws gC Z2 sC Gc Rc pC Q E q=>?_
 obtain⟨u,rfl,pu⟩:=pC.one_inv
 obtain⟨a',ob',vs',e,hj',ho',hq',hlen',hr'⟩:=y4l Rc (pB.mono Gc.gle Gc.ble) hl1
 have ea:=Value.ref.inj e
 subst ea
 refine q7x ho' hq' hlen' fun h' hh hs=>?_
 obtain⟨o2,ho2,hq2⟩:=hh
 have hlen3:(vs'++[u]).length<=z2n:=by
  rw [AE,hr'.length]
  rw [AE] at hsz
  exact hsz
 obtain⟨R4,G4⟩:=y9r (L:=L) Rc hj' hl1 hL hnr ho2 hq2 hlen3 (hr'.append (.one pu)) hs
 exact q _ gC Z2 _ G4 R4 (((O.step Gb).step Gc).step G4)
end
section
variable {I:z2w} {own own':List Addr} {L L':Lim} {w:World} {g g0 gb gC g':Fz} {Z Z0 Z1 Z2 Z':Bt} {H H0 Hb H2 H':z0b} {s sA sB sC s':Shared} {env:Env} {Y Y0 Y':z0n} {A:Around} {prog:Program} {lv n:Nat} {S:z6z} {C:z0h} {p q r:PV}
theorem z4i.len{P:Params}{es:List DictEntry}{l:List (Nat×PV)}(h:z4i I P g Z es l):es.length=l.length:=by
 induction h with
 | nil=>rfl
 | cons _ _ _ _ ih=>rw [BD,BD,ih]
theorem z4i.put{P:Params}{es:List DictEntry}{l:List (Nat×PV)}(hnd:I.nm.Nodup)(h:z4i I P g Z es l){k:Nat}{x:Str}{v:Value}{p:PV}(t:Tok)(hk:I.nm[k]?=some x)(ha:I.atts.contains k=true)(hv:Rel I g Z v p) :
  z4i I P g Z (putL x (PyData.keyHash P x) (.str x t) v es) (z2e k p l):=by
 induction h with
 | nil=>exact .cons hk ha hv .nil
 | cons a1 a0 a2 a3 ih=>
  rename_i j y t' v' p' es l
  unfold putL z2e
  by_cases e:j=k
  ·subst e
   rw [hk] at a1;injection a1 with a1;subst a1
   have e1:(Value.str x t').isStr x=true:=by simp [Value.isStr]
   simp only [e1,if_true]
   exact .cons hk a0 hv a3
  ·have hne:¬ (y=x):=fun e'=>e (q1o hnd (e'▸a1) hk)
   have e1:(Value.str y t').isStr x=false:=by simp [Value.isStr,hne]
   simp only [e1,DT,if_false,e]
   exact .cons a1 a0 a2 ih
theorem w8f{K:Frag}{x d CC:Addr}{es:List DictEntry}{m:Nat}{name:Str}{v:Value}{tk:Tok}{Rr:Result->Shared->Prop}(X:K.In s.heap)(II:InstAt s.heap x (instObj CC d) CC (some (dictOf es m)))
 (hD:s.heap.get? d=some (dictOf es m))(hp:plainOver K CC=true)(ht:takerIn K CC name=some none)(hh:hasDictIn K CC=true)
 (hr:es.any (·.refKey)=false)(hz:(putL name (PyData.keyHash w.params name) (.str name s.toks) v es).length<=1000)
 (h:∀ h' n',h'.get? d=some (dictOf (putL name (PyData.keyHash w.params name) (.str name s.toks) v es) n')->Heap.SameBut d s.heap h'->Rr (.ok (.ret .none)) { s with heap:=h',toks:=s.toks+1 }) :
  codeAny (model prog w) A (.call (.builtin "object.__setattr__") ⟨[.ref x,.str name tk,v],[]⟩) Rr s:=by
 refine osa_open X II hp ht fun b=>?_
 obtain⟨cd,hc,hd'⟩:=any_some hh
 obtain⟨hx,-,-,-⟩:=id II
 refine AB (AG (AB (AB (wpAny_loadPart hx (AB ((looks_clsIn X hc).here ?_))))))
 rw [hd']
 refine AG (a:=some d) (AB (AG (AB ?_)))
 unfold nsSet
 refine AB (AB (wpAny_askSetting (AG (AB (wpAny_mkText (AB (wpAny_loadPart hD ?_)))))))
 dsimp only
 have c:(!es.toArray.any (·.key.isStr name)&&es.toArray.any (·.refKey))=false:=by
  rw [<- Array.any_toList,<- Array.any_toList]
  simp only [hr,Bool.and_false]
 rw [aRefKeyMayBeTheName_at,c]
 have hup:(s.heap.update d (Obj.putName name (PyData.keyHash w.params name) (.str name s.toks) v)).get? d=some (dictOf (putL name (PyData.keyHash w.params name) (.str name s.toks) v es) (putN name es m)):=by
  have e:=putName_dict name (PyData.keyHash w.params name) (.str name s.toks) v es m
  have:=Heap.get?_update_self (h:=s.heap) (f:=Obj.putName name (PyData.keyHash w.params name) (.str name s.toks) v) hD (by rw [e];rfl)
  rw [this,e]
 refine wpAny_updatePart hD ?_
 refine AB (wpAny_lookBehind hup (by
  exact pastItsLine_dict (by rw [BS,GD];lia)) ?_)
 exact AG (h _ _ hup (FY ..))
theorem x1i{K:Frag}{x d CC:Addr}{es:List DictEntry}{m:Nat}{name:Str}{v:Value}{Q:Unit->Shared->Prop}{E:Value->Shared->Prop}(X:K.In s.heap)(II:InstAt s.heap x (instObj CC d) CC (some (dictOf es m)))
 (hD:s.heap.get? d=some (dictOf es m))(hs:findIn K (.ref CC) "__setattr__"=some (some (.builtin "object.__setattr__")))(hp:plainOver K CC=true)(ht:takerIn K CC name=some none)(hh:hasDictIn K CC=true)
 (hr:es.any (·.refKey)=false)(hz:(putL name (PyData.keyHash w.params name) (.str name (s.toks+1)) v es).length<=1000)
 (h:∀ h' n',h'.get? d=some (dictOf (putL name (PyData.keyHash w.params name) (.str name (s.toks+1)) v es) n')->Heap.SameBut d s.heap h'->Q () { s with heap:=h',toks:=s.toks+1+1 }) :
  wpAny (model prog w) A (setAttr (.ref x) name v) Q E s:=
 set_plain X II hs (w8f (s:={ s with toks:=s.toks+1 }) X II hD hp ht hh hr hz fun h' n' a b=>h h' n' a b)
theorem q5m(o:Expr)(x:Str)(pos:Pos)(env:Env)(v:Value):assign (.Attribute o x pos) env v=(do
   let ov<-PySem.holding [v] (eval o env)
   PySem.standAt pos.atName
   PySem.holding [v,ov] (setAttr ov x v)
   release [v,ov] []):=rfl
theorem j5b{o e:ME}{k:Nat}{fl:Fl}{G:Prop}(h:z4h I.P C S Y (.setAttr o k e) L H=some (fl,H'))
 (kk:∀ v Hb c i H2 l,S.ev Y e L H=some (v,Hb)->S.ev Y o L Hb=some (.inst c i,H2)->L.ab<=i->H2[i]?=some (.att l)->(z2e k v l).length<=900->fl=.next Y->H'=H2.set i (.att (z2e k v l))->G):G:=by
 obtain⟨v,Hb,h1,h2⟩:=M.bind_some h
 obtain⟨p,H2,h3,h4⟩:=M.bind_some h2
 obtain⟨u,h7,h8⟩:=M.map_some (m:=z9a k p v) h4
 obtain⟨c,i,e1,h9⟩:=z9b h7
 obtain⟨hab,h10⟩:=z0q h9
 split at h10
 ·obtain⟨hlen,h11⟩:=z0q h10
  exact kk v Hb c i H2 _ h1 (e1▸h3) hab (by assumption) hlen h8.symm (FP (AF h11)).2.symm
 ·contradiction
theorem j1a{o' e':Expr}{x:Str}{k:Nat}{o e:ME}{pos pos':Pos}{fl:Fl}(T:z0r I)(hE:z4q I prog w lv S.ev)(hA:AOk A lv)(R:SR I w.params g Z H s.heap)(O:z0j I own env Y g Z s.heap)
 (hset:z3d e'=false)(hk:I.nm[k]?=some x)(ha:I.atts.contains k=true)(hco:z0o I.t n env.scope.names o' o=true)(hce:z0o I.t n env.scope.names e' e=true)(h:z4h I.P C S Y (.setAttr o k e) L H=some (fl,H')) :
  Go I prog w A own L g Z H (exec (.Assign [.Attribute o' x pos'] e' pos) env) H' (z4k I own env fl) s:=by
 refine j5b h fun v Hb c i H2 l h1 h3 hab hl hlen ef es=>?_
 clear h
 subst ef es
 intro Q E qq
 refine z6i O.kind hset rfl rfl rfl (hE hA R O hce h1 _ _ fun vv gb Z1 sB Gb Rb pB=>?_)
 rw [q5m]
 have Ob:=O.step Gb
 refine AB (BQ (hE hA Rb Ob hco h3 _ _ fun ov gC Z2 sC Gc Rc pC=>?_))
 obtain⟨xx,d,es,n',rfl,b1,c1,c2,c4⟩:=pC.instAt Rc hl
 have t:=T.plainC c
 have ht:takerIn I.K (I.cA c) x=some none:=by unfold takerIn;rw [T.attsC c k x ha hk];rfl
 have hput:=c2.put T.nd (sC.toks+1) hk ha (pB.mono Gc.gle Gc.ble)
 refine AB (BT (AB (BQ (x1i (T.there Rc) c4 c1 t.2.2.2.2 t.2.2.2.1 ht t.2.1 (q5h T.nd c2 hk).1 (AA (CM hput.len) (AA hlen (by decide))) fun h' n'' hd hs=>wpAny_release ?_))))
 have hkk:∀ b o,b≠d->sC.heap.get? b=some o->h'.get? b=some o:=fun b o hne e=>(hs.2 b hne).trans e
 have R4:SR I w.params gC Z2 (H2.set i (.att (z2e k v l))) h':=Rc.cellPut b1 hkk ⟨_,n'',hd,hput,AA (CM hput.len) hlen⟩
 have G4:z1e [] L gC Z2 H2 sC gC Z2 (H2.set i (.att (z2e k v l))) { sC with heap:=h',toks:=sC.toks+1+1 }:=z1e.cellPut (B2:=.att l) Rc b1 hl trivial ⟨fun _ h=>(by contradiction),fun _ _=>hab⟩ hkk ⟨_,hd⟩
 exact qq _ gC Z2 _ ((Gb.trans R (Gc.trans Rb G4)).own_le fun _ h=>absurd h BB) R4 ⟨rfl,(Ob.step Gc).step G4⟩
theorem k5e{x:Str}{k:Nat}{e':Expr}{o:BOp}{e:ME}{pos pos':Pos}{fl:Fl}(T:z0r I)(hE:z4q I prog w lv S.ev)(hA:AOk A lv)(R:SR I w.params g Z H s.heap)(O:z0j I own env Y g Z s.heap)
 (hsto:∀ x,z1m env.scope.names x=true->Mine.storeable env own x)(hk:I.nm[k]?=some x)(hv:q7q env.scope.names x=true)(hst:z1m env.scope.names x=true)(hce:z0o I.t n env.scope.names e' e=true)(h:z4h I.P C S Y (.aug o k e) L H=some (fl,H')) :
  Go I prog w A own L g Z H (exec (.AugAssign (.Name x pos') o.op e' pos) env) H' (z4k I own env fl) s:=by
 obtain⟨p,hp,h2⟩:=M.opt_some (o:=Y k) (f:=fun p=>(S.ev Y e).bind fun q=>z5f.bind fun H=>(M.ofOpt (x5k o p q)).bind fun r=>M.pure (Fl.next (upd Y k r))) h
 obtain⟨q,H2,h3,h4⟩:=M.bind_some h2
 obtain⟨r,h7,h8⟩:=M.map_some (m:=M.ofOpt (x5k o p q)) (f:=fun r=>Fl.next (upd Y k r)) h4
 obtain⟨er,h9⟩:=M.ofOpt_some h7
 clear h h2 h4 h7
 subst h8 h9
 have v:=y7o hv
 intro Q E qq
 rw [exec_AugAssign_Name]
 refine AB (BT (AB (y2z (own:=[]) (L:=L) R O hk hp v.1 v.2.2 _ _ fun u gb Z1 sB Gb Rb pB=>?_)))
 have Ob:=O.step Gb
 refine AB (BQ (hE hA Rb Ob hce h3 _ _ fun v gC Z2 sC Gc Rc pC=>AB (BT ?_)))
 have Oc:=Ob.step Gc
 refine AB (wpAny_operating (k4a (own:=[]) (L:=L) Rc (pB.mono Gc.gle Gc.ble) pC er _ _ fun rv gD Z3 sd Gd Rd pd=>AB (BT (AB ?_))))
 have O3:=Oc.step Gd
 refine y0t (w:=w) (A:=A) (prog:=prog) (L:=L) T.nd Rd O3 hk (hsto x hst) pd _ _ fun _ gE Z4 se Ge RE p4=>?_
 obtain⟨Oe,rfl,rfl⟩:=p4
 exact AG (qq _ _ _ se (((Gb.trans R (Gc.trans Rb Gd)).own_le fun _ h=>absurd h BB).trans R Ge) RE ⟨rfl,Oe⟩)
end
section
variable {I:z2w} {own own':List Addr} {L L':Lim} {w:World} {g g0 gb gC g':Fz} {Z Z0 Z1 Z2 Z':Bt} {H H0 Hb H2 H':z0b} {s sA sB sC s':Shared} {env:Env} {Y Y0 Y':z0n} {A:Around} {prog:Program} {lv n:Nat} {S:z6z} {C:z0h} {p q r:PV}
theorem j5c{t e':Expr}{pt:Pat}{e:ME}{pos:Pos}{fl:Fl}(T:z0r I)(hE:z4q I prog w lv S.ev)(hA:AOk A lv)(R:SR I w.params g Z H s.heap)(O:z0j I own env Y g Z s.heap)
 (hsto:∀ x,z1m env.scope.names x=true->Mine.storeable env own x)(hset:z3d e'=false)(hsw:z3q env.scope.names e' t=false)(hsp:y5l env.scope.names t e'=some none)
 (hp:z5x I.t (z1m env.scope.names) t pt=true)(hce:z0o I.t n env.scope.names e' e=true)(h:z4h I.P C S Y (.assign pt e) L H=some (fl,H')) :
  Go I prog w A own L g Z H (exec (.Assign [t] e' pos) env) H' (z4k I own env fl) s:=by
 obtain⟨v,Hb,h1,h2⟩:=M.bind_some h
 obtain⟨Yb,H2,h3,h4⟩:=M.bind_some h2
 obtain⟨hb,rfl⟩:=M.ofOpt_some h3
 obtain⟨rfl,rfl⟩:=M.pure_some (L:=L) h4
 have hst:swappedStores [t] e' env=pure none/\(assignEach [t] env).map (·.2)=[assign t env]:=by
  cases pt with
  | one k=>obtain⟨x,p,rfl,_⟩:=z3c (show z7e I.t (z1m env.scope.names) t k=true from hp);exact⟨rfl,rfl⟩
  | tup ks=>obtain⟨es,m,p,rfl,_⟩:=y9c (show x7u t (fun es=>z4j I.t (z1m env.scope.names) es ks)=true from hp);exact⟨y5p O.kind hsp,rfl⟩
 intro Q E qq
 refine z6i O.kind hset hsw hst.1 hst.2 (hE hA R O hce h1 _ _ fun vv gb Z1 sB Gb Rb pB=>?_)
 exact y0v (L:=L) T.nd hsto hA hp Rb (O.step Gb) pB hb _ _ fun _ gC Z2 sC Gc Rc pC=>qq _ gC Z2 sC ((Gb.own_le (by simp)).trans R Gc) Rc ⟨rfl,pC.1⟩
theorem q5n(t1 t2:Expr)(ts:List Expr)(e':Expr)(env:Env):swappedStores (t1::t2::ts) e' env=pure none:=by
 unfold swappedStores
 cases t1<;>first | rfl | (induction e' using Option.casesOn<;>rfl)
theorem j1b{t1 t2 e':Expr}{ts:List Expr}{ks:List Nat}{e:ME}{pos:Pos}{fl:Fl}(T:z0r I)(hE:z4q I prog w lv S.ev)(hA:AOk A lv)(R:SR I w.params g Z H s.heap)(O:z0j I own env Y g Z s.heap)
 (hsto:∀ x,z1m env.scope.names x=true->Mine.storeable env own x)(hp:y4g I.t (z1m env.scope.names) (t1::t2::ts) ks=true)(hce:z0o I.t n env.scope.names e' e=true)(h:z4h I.P C S Y (.assigns ks e) L H=some (fl,H')) :
  Go I prog w A own L g Z H (exec (.Assign (t1::t2::ts) e' pos) env) H' (z4k I own env fl) s:=by
 obtain⟨v,Hb,h1,h2⟩:=M.bind_some h
 obtain⟨rfl,rfl⟩:=M.pure_some (L:=L) h2
 intro Q E qq
 have ee:exec (.Assign (t1::t2::ts) e' pos) env=(do
   PySem.standAt pos
   if<-swapsWithSole (t1::t2::ts) e' pos.line env then do
    evalThenUse e' env fun v=>assignAll v ((assignEach (t1::t2::ts) env).map (·.2))
    pure .next
   else do
    let v<-eval e' env
    assignStores env v (<- swappedStores (t1::t2::ts) e' env) ((assignEach (t1::t2::ts) env).map (·.2))):=rfl
 rw [ee]
 refine AB (BT (AB (AG ?_)))
 rw [AS (by simp)]
 refine AB (hE hA R O hce h1 _ _ fun vv gb Z1 sB Gb Rb pB=>?_)
 rw [q5n]
 refine AB (AG ?_)
 show wpAny (model prog w) A (assignAll vv ((assignEach (t1::t2::ts) env).map (·.2))>>=fun _=>pure .next) Q E sB
 refine AB (y3h (w:=w) (A:=A) (prog:=prog) (L:=L) T.nd hsto hp Rb (O.step Gb) pB _ _ fun _ gC Z2 sC Gc Rc pC=>AG (qq _ gC Z2 sC ((Gb.own_le (by simp)).trans R Gc) Rc ⟨rfl,pC⟩))
theorem k5f{t:Expr}{c:ME}{a' b':List Stmt}{a b:List MS}{pos:Pos}{fl:Fl}(hT:q0w I prog w lv S.ts)(hX:j9w I prog w lv S.ex)(hA:AOk A lv)(R:SR I w.params g Z H s.heap)(O:z0j I own env Y g Z s.heap)
 (hsto:∀ x,z1m env.scope.names x=true->Mine.storeable env own x)(hc:z6l I.t n env.scope.names t c=true)(ha:z2k (y1a I.t n env.scope.names) a' a=true)(hb:z2k (y1a I.t n env.scope.names) b' b=true)(h:z4h I.P C S Y (.ifs c a b) L H=some (fl,H')) :
  Go I prog w A own L g Z H (exec (.If t a' b' pos) env) H' (z4k I own env fl) s:=by
 obtain⟨r,Hb,h1,h2⟩:=M.bind_some h
 intro Q E qq
 refine wpAny_If (hT hA R O hc h1 _ _ fun v gb Z1 sB Gb Rb pB=>?_)
 subst pB
 induction v using Bool.casesOn with
 | true=>exact z7g hX hA hsto Rb (O.step Gb) ha h2 Q E fun x gC Z2 sC Gc Rc pC=>qq x gC Z2 sC ((Gb.own_le (by simp)).trans R Gc) Rc pC
 | false=>exact z7g hX hA hsto Rb (O.step Gb) hb h2 Q E fun x gC Z2 sC Gc Rc pC=>qq x gC Z2 sC ((Gb.own_le (by simp)).trans R Gc) Rc pC
theorem y0a{iter:Expr}{k:z6g}{args:List ME}{cE:Expr->ME->Bool}{sc:Sc}(h:y2e I.t cE sc iter k args=true):∀ x,foldedSetIterable iter env x=pure x:=by
 intro x
 have h1:y5j iter=false:=q0v (z0v h).1
 unfold foldedSetIterable
 cases iter<;>first | rfl | contradiction
theorem k5g{pt:Pat}{k:z6g}{src:List ME}{t it:Expr}{b' o':List Stmt}{body orelse:List MS}{pos:Pos}{fl:Fl}(T:z0r I)(hE:z4q I prog w lv S.ev)(hX:j9w I prog w lv S.ex)(hA:AOk A lv)(R:SR I w.params g Z H s.heap)(O:z0j I own env Y g Z s.heap)
 (hsto:∀ x,z1m env.scope.names x=true->Mine.storeable env own x)(hp:z5x I.t (z1m env.scope.names) t pt=true)(hs:y2e I.t (z0o I.t n env.scope.names) env.scope.names it k src=true)
 (hb:z2k (y1a I.t n env.scope.names) b' body=true)(ho:z2k (y1a I.t n env.scope.names) o' orelse=true)(hz:j0l k=false)(h:z4h I.P C S Y (.for_ pt k src body orelse) L H=some (fl,H')) :
  Go I prog w A own L g Z H (exec (.For t it b' o' pos) env) H' (z4k I own env fl) s:=by
 obtain⟨⟨items,up⟩,Hb,h1,h2⟩:=M.bind_some h
 unfold M.raised at h2
 intro Q E qq
 refine wpAny_For (j4r T hE hA R O hs h1 fun itv gb Z1 sB sC Gb Rb eC hk F=>?_) (y0a hs)
 refine j0u (L:=L.up up Hb) (Rr:=fun r s'=>match r with | .ok f=>Q f s' | .error e=>cameBackBy (model prog w) A env E e s') T hX hA hsto hp hb ho Rb (O.step Gb) eC hk (hz▸F) h2 fun f g' Z' s' G R' p'=>?_
 exact qq f g' Z' s' ((Gb.own_le (by simp)).trans R (z1e.unraise Rb G)) R' p'
theorem q2i{t:Expr}{c:ME}{b':List Stmt}{body:List MS}{fl:Fl}{Rr:Result->Shared->Prop}(hT:q0w I prog w lv S.ts)(hX:j9w I prog w lv S.ex)(hA:AOk A lv)(R:SR I w.params g0 Z0 H0 sA.heap)(O:z0j I own env Y0 g0 Z0 sA.heap)
 (hsto:∀ x,z1m env.scope.names x=true->Mine.storeable env own x)(hc:z6l I.t n env.scope.names t c=true)(hb:z2k (y1a I.t n env.scope.names) b' body=true)
 {m:Nat}(h:y7g S c body m Y0 L H0=some (fl,H'))
 (q:∀ f g' Z' s',z1e own L g0 Z0 H0 sA g' Z' H' s'->SR I w.params g' Z' H' s'.heap->z4k I own env fl g' Z' s' f->Rr (.ok f) s') :
  codeAny (model prog w) A (.whileLoop t b' [] env) Rr sA:=by
 refine codeAny_whileLoop (fun m s'=>∃ Y g Z H,SR I w.params g Z H s'.heap/\z0j I own env Y g Z s'.heap/\z1e own L g0 Z0 H0 sA g Z H s'/\y7g S c body m Y L H=some (fl,H')) ?_ m ⟨Y0,g0,Z0,H0,R,O,.refl,h⟩
 rintro m s' ⟨Y,g,Z,H,R',O',G,hl⟩
 induction m using Nat.casesOn with
 | zero=>contradiction
 | succ m=>
  unfold y7g at hl
  obtain⟨r,Hb,h1,h2⟩:=M.bind_some hl
  refine hT hA R' O' hc h1 _ _ fun v gb Z1 sB Gb Rb pB=>?_
  subst pB
  have Ob:=O'.step Gb
  have G01:=G.trans R (Gb.own_le (own2:=own) (by simp))
  induction v using Bool.casesOn with
  | true=>
   simp only [if_true] at h2 ⊢
   obtain⟨f,H2,h3,h4⟩:=M.bind_some h2
   refine z7g hX hA hsto Rb Ob hb h3 _ _ fun x gC Z2 sC Gc Rc pC=>?_
   have G02:=G01.trans R Gc
   cases f with
   | next Yc=>
    obtain⟨rfl,Oc⟩:=pC
    exact⟨m,DV _,Yc,gC,Z2,H2,Rc,Oc,G02,h4⟩
   | brk Yc=>
    obtain⟨rfl,Oc⟩:=pC
    obtain⟨rfl,rfl⟩:=M.pure_some (L:=L) h4
    exact q _ gC Z2 sC G02 Rc ⟨rfl,Oc⟩
   | ret v=>
    obtain⟨y,rfl,hy⟩:=pC
    obtain⟨rfl,rfl⟩:=M.pure_some (L:=L) h4
    exact q _ gC Z2 sC G02 Rc ⟨y,rfl,hy⟩
  | false=>
   simp only [DT,if_false] at h2 ⊢
   obtain⟨rfl,rfl⟩:=M.pure_some (L:=L) h2
   exact wpAny_execs_nil (q _ gb Z1 sB G01 Rb ⟨rfl,Ob⟩)
theorem x1j{t:Expr}{c:ME}{b':List Stmt}{body:List MS}{pos:Pos}{fl:Fl}(hT:q0w I prog w lv S.ts)(hX:j9w I prog w lv S.ex)(hA:AOk A lv)(R:SR I w.params g Z H s.heap)(O:z0j I own env Y g Z s.heap)
 (hsto:∀ x,z1m env.scope.names x=true->Mine.storeable env own x)(hc:z6l I.t n env.scope.names t c=true)(hb:z2k (y1a I.t n env.scope.names) b' body=true)(h:z4h I.P C S Y (.while_ c body) L H=some (fl,H')) :
  Go I prog w A own L g Z H (exec (.While t b' [] pos) env) H' (z4k I own env fl) s:=by
 intro Q E qq
 exact wpAny_While (q2i (Rr:=fun r s'=>match r with | .ok f=>Q f s' | .error e=>cameBackBy (model prog w) A env E e s') hT hX hA R O hsto hc hb h fun f g' Z' s' G R' p'=>qq f g' Z' s' G R' p')
end
section
variable {I:z2w} {own own':List Addr} {L L':Lim} {w:World} {g g0 gb gC g':Fz} {Z Z0 Z1 Z2 Z':Bt} {H H0 Hb H2 H':z0b} {s sA sB sC s':Shared} {env:Env} {Y Y0 Y':z0n} {A:Around} {prog:Program} {lv n:Nat} {S:z6z} {C:z0h} {p q r:PV}
noncomputable def nm2(I:z2w)(ok:Str->Bool)(x:Str)(k:Nat):Bool:=I.nm[k]?==some x&&ok x
theorem y7s{ok:Str->Bool}{F:Expr->Option Str}(hF:∀ x pos,F (.Name x pos)=some x\/F (.Name x pos)=none):∀ {ts:List Expr} {ks:List Nat},z4j I.t ok ts ks=true->(ts.filterMap F).length=ts.length->z2k (nm2 I ok) (ts.filterMap F) ks=true
 | [],[],_,_=>rfl
 | [],_::_,h,_=>by contradiction
 | e::es,[],h,_=>by contradiction
 | e::es,k::ks,h,hl=>by
  obtain⟨c1,c2⟩:=z0v h
  obtain⟨x,px,rfl,hx,hxo⟩:=z3c c1
  have hle:=List.length_filterMap_le F es
  rcases hF x px with e1 | e1
  ·rw [List.filterMap_cons_some e1] at hl ⊢
   simp only [BD] at hl
   refine AH.mpr ⟨?_,y7s hF c2 (by lia)⟩
   unfold nm2
   rw [hx,hxo];simp
  ·rw [List.filterMap_cons_none e1] at hl
   simp only [BD] at hl
   lia
theorem q7y{ok:Str->Bool}(hnd:I.nm.Nodup)(hok:∀ x,ok x=true->Mine.storeable env own x):∀ {xs:List Str} {ks:List Nat} {vs:List Value} {ps:List PV} {Y Y':z0n} {g:Fz} {Z:Bt} {s:Shared},
  z2k (nm2 I ok) xs ks=true->SR I w.params g Z H s.heap->z0j I own env Y g Z s.heap->z0e I g Z vs ps->z4g Y ks ps=some Y' ->
  Go I prog w A own L g Z H (assignInOrder (xs.map fun n=>bindName env n) vs) H (fun g' Z' s' _=>z0j I own env Y' g' Z' s'.heap) s
 | [],ks,vs,ps,Y,Y',g,Z,s,hc,R,O,hr,hu=>by
  induction ks using List.casesOn with
  | cons _ _=>contradiction
  | nil=>
   induction ps using List.casesOn with
   | cons _ _=>contradiction
   | nil=>
    cases hr
    obtain rfl:Y=Y':=AF hu
    exact Go.pure R O
 | x::xs,ks,vs,ps,Y,Y',g,Z,s,hc,R,O,hr,hu=>by
  induction ks using List.casesOn with
  | nil=>contradiction
  | cons k ks=>
   obtain⟨h1,h2⟩:=z0v hc
   obtain⟨h3,h4⟩:=z0v h1
   induction ps using List.casesOn with
   | nil=>contradiction
   | cons p ps=>
    cases hr with
    | cons hv hr=>
     rename_i v vs
     show Go I prog w A own L g Z H (PySem.holding vs (bindName env x v)>>=fun _=>assignInOrder (xs.map fun n=>bindName env n) vs) H _ s
     refine Go.bind R (Go.holding (y0t hnd R O (BE.mp h3) (hok x h4) hv)) fun _ gb Z1 sB G Rb q=>?_
     obtain⟨Ob,rfl,rfl⟩:=q
     exact q7y hnd hok h2 Rb Ob hr hu
theorem z5n{a b:Nat}{x y:PV}(h:a≠b):upd (upd Y a x) b y=upd (upd Y b y) a x:=by
 funext j
 unfold upd
 by_cases h1:j=a
 ·by_cases h2:j=b
  ·exact absurd (h1.symm.trans h2) h
  ·simp [h1,h]
 ·by_cases h2:j=b
  ·subst h2;simp [h1]
  ·simp [h1,h2]
theorem j1c{ks:List Nat}{ps:List PV}(hn:y4h (.tup ks)=true)(h:z4g Y ks ps=some Y'):z4g Y ks.reverse ps.reverse=some Y':=by
 rcases BX.mp hn with hn | hn
 ·obtain⟨a,b,rfl,hn⟩:=x5w hn
  obtain⟨x,_,rfl,h1⟩:=y0u h
  obtain⟨y,_,rfl,h2⟩:=y0u h1
  obtain⟨rfl,rfl⟩:=q7o h2
  exact AT some (z5n (EY.mp hn)).symm
 ·obtain⟨a,b,c,rfl,hn⟩:=x5x hn
  obtain⟨x,_,rfl,h1⟩:=y0u h
  obtain⟨y,_,rfl,h2⟩:=y0u h1
  obtain⟨z,_,rfl,h3⟩:=y0u h2
  obtain⟨rfl,rfl⟩:=q7o h3
  obtain⟨h1,h2⟩:=z0v hn
  exact AT some (by rw [z5n (Y:=Y) (EY.mp h1),z5n (Y:=upd Y b y) (EY.mp (z0v h2).1),z5n (Y:=Y) (EY.mp (z0v h2).2)])
theorem z0e.reverse:∀ {vs:List Value} {ps:List PV},z0e I g Z vs ps->z0e I g Z vs.reverse ps.reverse
 | _,_,.nil=>.nil
 | _,_,.cons a r=>by
  rw [List.reverse_cons,List.reverse_cons]
  exact(z0e.reverse r).append (.one a)
theorem q2j{V A8:Type}{f:V->A8->Bool}{a:V}{b:A8}:∀ {as:List V} {bs:List A8},z2k f as bs=true->f a b=true->z2k f (as++[a]) (bs++[b])=true
 | [],[],_,h=>AH.mpr ⟨h,rfl⟩
 | [],_::_,h,_=>by contradiction
 | _::_,[],h,_=>by contradiction
 | x::as,y::bs,h,h2=>by
  obtain⟨c1,c2⟩:=z0v h
  exact AH.mpr ⟨c1,q2j c2 h2⟩
theorem q7z{V A8:Type}{f:V->A8->Bool}:∀ {as:List V} {bs:List A8},z2k f as bs=true->z2k f as.reverse bs.reverse=true
 | [],[],_=>rfl
 | [],_::_,h=>by contradiction
 | _::_,[],h=>by contradiction
 | x::as,y::bs,h=>by
  obtain⟨c1,c2⟩:=z0v h
  rw [List.reverse_cons,List.reverse_cons]
  exact q2j (q7z c2) c1
theorem x1k(sc:Sc)(line:Nat)(x:Str)(pos:Pos):(match Expr.Name x pos with | .Name id pos=>if sc.lookup id==some NameKind.local&&pos.line==line then some id else none | _=>none)=some x\/(match Expr.Name x pos with | .Name id pos=>if sc.lookup id==some NameKind.local&&pos.line==line then some id else none | _=>none)=none:=by
 dsimp only
 split
 ·exact .inl rfl
 ·exact .inr rfl
theorem q2k{ts vs:List Expr}{names:List Str}{sc:Sc}(h:j3v sc ts vs=some (some names)):names=y7m sc ts/\(y7m sc ts).length=ts.length:=by
 have nope:∀ {c:Prop} [Decidable c] {o:Option (Option (List Str))},(if c then some none else o)=some (some names)->¬ c/\o=some (some names):=fun {c} _ {o} h=>by
  by_cases q:c
  ·rw [AQ q] at h;cases h
  ·rw [AS q] at h;exact⟨q,h⟩
 have h3:=nope (nope (nope h).2).2
 have h4:=(nope h3.2).2
 have hne:=(Bool.or_eq_false_iff.mp (ET.mpr h3.1)).1
 by_cases q:vs.all (constantsAlone 8)=true
 ·rw [AQ q] at h4;contradiction
 ·rw [AS q] at h4
  exact⟨(AF (AF h4)).symm,by simpa using hne⟩
theorem q2l{t e:Expr}{names:List Str}{sc:Sc}(h:y5l sc t e=some (some names)):∃ ts k pos,t=.Tuple ts k pos/\(∃ vs k' pos',e=.Tuple vs k' pos')/\∃ F:Expr->Option Str,(∀ x pos,F (.Name x pos)=some x\/F (.Name x pos)=none)/\names=ts.filterMap F/\(ts.filterMap F).length=ts.length:=by
 by_cases ht:(t.ctorIdx==25)=true
 ·by_cases he:(e.ctorIdx==25)=true
  ·refine Expr.Tuple.elim (motive_1:=fun t=>y5l sc t e=some (some names)->∃ ts k pos,t=.Tuple ts k pos/\(∃ vs k' pos',e=.Tuple vs k' pos')/\∃ F:Expr->Option Str,(∀ x pos,F (.Name x pos)=some x\/F (.Name x pos)=none)/\names=ts.filterMap F/\(ts.filterMap F).length=ts.length) t (BI ht) (fun ts k pos h=>⟨ts,k,pos,rfl,?_⟩) h
   have h':=q2k ((AQ he).symm.trans h)
   exact⟨Expr.Tuple.elim (motive_1:=fun e=>∃ vs k' pos',e=.Tuple vs k' pos') e (BI he) fun vs k' p'=>⟨vs,k',p',rfl⟩,_,fun x pos=>x1k sc _ x pos,h'.1,h'.2⟩
  ·have h2:=(AS he).symm.trans ((AQ ht).symm.trans h)
   cases h2
 ·have h2:=(AS ht).symm.trans h
  cases h2
theorem x8x{t e':Expr}{pt:Pat}{e:ME}{pos:Pos}{fl:Fl}{names:List Str}(T:z0r I)(hE:z4q I prog w lv S.ev)(hA:AOk A lv)(R:SR I w.params g Z H s.heap)(O:z0j I own env Y g Z s.heap)
 (hsto:∀ x,z1m env.scope.names x=true->Mine.storeable env own x)(hset:z3d e'=false)(hsw:z3q env.scope.names e' t=false)(hsp:y5l env.scope.names t e'=some (some names))(hnd:y4h pt=true)
 (hp:z5x I.t (z1m env.scope.names) t pt=true)(hce:z0o I.t n env.scope.names e' e=true)(h:z4h I.P C S Y (.assign pt e) L H=some (fl,H')) :
  Go I prog w A own L g Z H (exec (.Assign [t] e' pos) env) H' (z4k I own env fl) s:=by
 obtain⟨v,Hb,h1,h2⟩:=M.bind_some h
 obtain⟨Yb,h3,h4⟩:=M.map_some (m:=M.ofOpt (z1v Y pt v)) h2
 obtain⟨hb,hH⟩:=M.ofOpt_some h3
 clear h h2 h3
 subst h4 hH
 obtain⟨ts,k,ps,rfl,⟨vs,k',ps',rfl⟩,F,hF,rfl,hlen⟩:=q2l hsp
 intro Q E qq
 have ee:exec (.Assign [.Tuple ts k ps] (.Tuple vs k' ps') pos) env=(do
   PySem.standAt pos
   let v<-eval (.Tuple vs k' ps') env
   assignStores env v (<- swappedStores [.Tuple ts k ps] (.Tuple vs k' ps') env) ((assignEach [.Tuple ts k ps] env).map (·.2))):=rfl
 rw [ee]
 refine AB (BT (AB (hE hA R O hce h1 _ _ fun vv gb Z1 sB Gb Rb pB=>?_)))
 rw [y5p O.kind hsp]
 refine AB (AG ?_)
 cases pt with
 | one k=>contradiction
 | tup ks=>
  have hp':z4j I.t (z1m env.scope.names) ts ks=true:=hp
  obtain⟨l,rfl,hb'⟩:=y5h hb
  clear hb
  obtain⟨a,o,ws,rfl,g1,g4,g2,g3⟩:=pB.tup_inv
  have hn2:=y7s hF hp' hlen
  have el:(ts.filterMap F).length=ws.toArray.size:=by
   rw [z9d hn2,y2c hb',<- g3.length];simp
  show wpAny (model prog w) A (PySem.rule "assign.swapped-stores">>=fun _=>unpackItems (.ref a) (ts.filterMap F).length none>>=fun items=>assignInOrder ((ts.filterMap F).reverse.map fun n=>bindName env n) items.reverse>>=fun _=>pure .next) Q E sB
  rw [el]
  refine AB (wpAny_rule (AB (wpAny_unpackItems_tuple hA.handled (z3z (Rb.sub _ _ g1) g4) fun h' he=>?_)))
  have hk:∀ b o,sB.heap.get? b=some o->h'.get? b=some o:=fun b o e=>he b o (DL (CO e)) e
  have R2:SR I w.params gb Z1 Hb h':=Rb.keepAll hk
  have G2:z1e own L gb Z1 Hb sB gb Z1 Hb { sB with heap:=h' }:=z1e.keepAll (tk:=sB.toks) hk
  have O2:z0j I own env Y gb Z1 h':=((O.step Gb).step (z1e.keepAll (L:=L) (H:=Hb) (tk:=sB.toks) hk):z0j I own env Y gb Z1 _)
  refine AB (q7y (s:={ sB with heap:=h' }) (w:=w) (A:=A) (prog:=prog) (L:=L) T.nd hsto (q7z hn2) R2 O2 (by simpa using g3.reverse) (j1c hnd hb') _ _ fun _ gD Z3 sd Gd Rd pd=>AG ?_)
  exact qq _ gD Z3 sd ((Gb.own_le (by simp)).trans R (G2.trans Rb Gd)) Rd ⟨rfl,pd⟩
end
section
variable {I:z2w} {own own':List Addr} {L L':Lim} {w:World} {g g0 gb gC g':Fz} {Z Z0 Z1 Z2 Z':Bt} {H H0 Hb H2 H':z0b} {s sA sB sC s':Shared} {env:Env} {Y Y0 Y':z0n} {A:Around} {prog:Program} {lv n:Nat} {S:z6z} {C:z0h} {p q r:PV} {P:Params}
noncomputable def z3j(n:Nat)(names:List (Str×NameKind)):List Addr:=n::(cellsFrom (n+1) names []).map (·.2)
theorem z1w:∀ (names:List (Str×NameKind)) (k:Nat) (acc:List (Str×Addr)),cellsFrom k names acc=cellsFrom k names []++acc
 | [],k,acc=>rfl
 | (x,kd)::r,k,acc=>by
  unfold cellsFrom
  split
  ·rw [z1w r (k+1) ((x,k)::acc),z1w r (k+1) [(x,k)]];simp
  ·exact z1w r k acc
theorem z3k:∀ (names:List (Str×NameKind)) (k:Nat) (x:Str) (c:Addr),(x,c)∈cellsFrom k names []->k<=c/\(x,NameKind.cell)∈names
 | [],k,x,c,h=>by contradiction
 | (y,kd)::r,k,x,c,h=>by
  unfold cellsFrom at h
  split at h
  ·rename_i hk
   have hk':kd=.cell:=by simpa using hk
   rw [z1w] at h
   rcases BJ.mp h with h | h
   ·obtain⟨a,b⟩:=z3k r (k+1) x c h
    exact⟨by lia,AD _ b⟩
   ·have:=AL.mp h
    cases this
    exact⟨AM _,by rw [hk'];exact AC⟩
  ·obtain⟨a,b⟩:=z3k r k x c h
   exact⟨a,AD _ b⟩
theorem z7h:∀ (names:List (Str×NameKind)) (h:Heap) (x:Str) (c:Addr),(x,c)∈cellsFrom h.objs.size names []->(pushCells h names).get? c=some (k2z none)
 | [],h,x,c,hm=>by contradiction
 | (y,kd)::r,h,x,c,hm=>by
  unfold cellsFrom at hm
  unfold pushCells
  split at hm
  ·rename_i hk
   rw [AQ hk]
   rw [z1w] at hm
   rcases BJ.mp hm with hm | hm
   ·rw [<- FQ h { cls:=.type "cell",data:=.cell none }] at hm
    exact z7h r _ x c hm
   ·have:=AL.mp hm
    cases this
    exact FJ r _ _ _ (AZ _ rfl)
  ·rename_i hk
   rw [AS hk]
   exact z7h r h x c hm
theorem z3r:∀ (names:List (Str×NameKind)) (k:Nat) (x:Str),(x,NameKind.cell)∈names->∃ c,(x,c)∈cellsFrom k names []
 | [],k,x,h=>by contradiction
 | (y,kd)::r,k,x,h=>by
  unfold cellsFrom
  rcases AR.mp h with h | h
  ·cases h
   rw [AQ (by rfl),z1w]
   exact⟨k,BR _ AC⟩
  ·split
   ·obtain⟨c,hc⟩:=z3r r (k+1) x h
    rw [z1w]
    exact⟨c,CN _ hc⟩
   ·exact z3r r k x h
theorem z6q{V:Type}:∀ {l l':List (Str×V)} {x:Str},(l++l').lookup x=(l.lookup x).or (l'.lookup x)
 | [],l',x=>by simp
 | (y,a)::l,l',x=>by
  rw [List.cons_append,DU,DU]
  induction x==y using Bool.casesOn with
  | true=>rfl
  | false=>exact z6q
theorem z2g{V:Type}:∀ {l:List (Str×V)} {x:Str} {a:V},(x,a)∈l->∃ b,l.lookup x=some b
 | (y,c)::l,x,a,h=>by
  rw [DU]
  induction e:x==y using Bool.casesOn with
  | true=>exact⟨c,rfl⟩
  | false=>
   rcases AR.mp h with h | h
   ·injection h with h;subst h;simp at e
   ·exact z2g h
theorem y5q{env':Env}{h:Heap}{names:List (Str×NameKind)}{cl:List (Str×Addr)}{fr:Obj}(hfr:(h.push fr).Ns h.objs.size (fun _=>none))(R:SR I P g Z H h)
 (hloc:env'.locals=h.objs.size)(hcells:env'.cells=cellsFrom (h.objs.size+1) names cl)(hkind:env'.scope.kind=.function)(hglob:env'.globals=mainGlobals)(hbi:env'.builtins=builtinsNs)(hcode:kdsCode I.K env'.code=true)
 (hcl:∀ x c,(x,c)∈cl->∃ ov,h.get? c=some (k2z ov)/\g c=none/\(∀ i,Z i≠some c)/\∀ (k:Nat) (p:PV),I.nm[k]?=some x->Y k=some p->∃ v,ov=some v/\Rel I g Z v p)
 (hclp:∀ x y c,(x,c)∈cl->(y,c)∈cl->x=y)
 (hks:∀ x,(env'.kindOf x=some .cell\/env'.kindOf x=some .free)->(x,NameKind.cell)∈names\/∃ c,(x,c)∈cl)
 (hnone:∀ (k:Nat) (x:Str),I.nm[k]?=some x->(env'.kindOf x=some .local\/(x,NameKind.cell)∈names)->Y k=none) :
  z0j I (z3j h.objs.size names) env' Y g Z (pushCells (h.push fr) names):=by
 have hn:=get?_size h
 have hsz:(h.push fr).objs.size=h.objs.size+1:=FQ ..
 have old:∀ b o,h.get? b=some o->(pushCells (h.push fr) names).get? b=some o:=fun b o e=>FJ _ _ _ _ (AO _ e)
 have fresh:∀ a,h.objs.size<=a->h.get? a=none:=fun a ha=>by
  induction e:h.get? a using Option.casesOn with
  | none=>rfl
  | some o=>exact absurd (CO e) (CH.mpr ha)
 have gnone:∀ a,h.objs.size<=a->g a=none:=fun a ha=>by
  induction e:g a using Option.casesOn with
  | none=>rfl
  | some o=>have:=R.sub a o e;rw [fresh a ha] at this;contradiction
 have bnone:∀ a,h.objs.size<=a->∀ i,Z i≠some a:=fun a ha i e=>by
  have lt:=R.lt i a e
  obtain⟨o,ho⟩:=(R.cell i a _ e (AP lt)).there
  rw [fresh a ha] at ho;contradiction
 have hcells':env'.cells=cellsFrom (h.objs.size+1) names []++cl:=by rw [hcells,z1w]
 have newc:∀ x c,(x,c)∈cellsFrom (h.objs.size+1) names []->(pushCells (h.push fr) names).get? c=some (k2z none)/\h.objs.size+1<=c:=fun x c hm=>by
  refine⟨?_,(z3k _ _ _ _ hm).1⟩
  rw [<- hsz] at hm
  exact z7h _ _ _ _ hm
 exact {
  kind:=hkind,glob:=hglob,bi:=hbi,code:=hcode
  ns:=⟨fun _=>none,by rw [hloc];exact hfr.keeps (FJ _ _),fun k x p h1 h2 h3=>by rw [hnone k x h1 (.inl h2)] at h3;cases h3⟩
  lg:=by rw [hloc];exact gnone _ (AM _)
  lb:=by rw [hloc];exact bnone _ (AM _)
  lown:=by rw [hloc];exact AC
  cells:=fun x hx=>by
   have hlk:=(AT (List.lookup x) hcells').trans (z6q ..)
   induction e:(cellsFrom (h.objs.size+1) names []).lookup x using Option.casesOn with
   | some c=>
    rw [e] at hlk
    obtain⟨a1,a2⟩:=newc x c (mem_of_lookup e)
    refine⟨c,none,hlk,a1,by rw [hloc];exact EH a2,gnone _ (DA a2),bnone _ (DA a2),fun k p h1 h2=>?_⟩
    rw [hnone k x h1 (.inr (z3k _ _ _ _ (mem_of_lookup e)).2)] at h2;contradiction
   | none=>
    rcases hks x hx with hm | ⟨c,hc⟩
    ·obtain⟨c,hc⟩:=z3r names (h.objs.size+1) x hm
     obtain⟨b,hb⟩:=z2g hc
     rw [e] at hb;contradiction
    ·obtain⟨c',hc'⟩:=z2g hc
     obtain⟨ov,b1,b2,b3,b4⟩:=hcl x c' (mem_of_lookup hc')
     rw [e] at hlk
     exact⟨c',ov,hlk.trans hc',old _ _ b1,by rw [hloc];exact DL (CO b1),b2,b3,b4⟩
  apart:=fun x y c h1 h2=>by
   rw [hcells',z6q] at h1 h2
   have ok:=(cellsFrom_ok names (h.push fr) (h.objs.size+1) [] ⟨fun _ _ hm=>(nomatch hm),List.Pairwise.nil⟩ (by rw [hsz];exact AM _))
   rw [hsz] at ok
   induction e1:(cellsFrom (h.objs.size+1) names []).lookup x using Option.casesOn with
   | some c1=>
    rw [e1] at h1;cases h1
    induction e2:(cellsFrom (h.objs.size+1) names []).lookup y using Option.casesOn with
    | some c2=>rw [e2] at h2;cases h2;exact name_of_addr ok.apart (mem_of_lookup e1) (mem_of_lookup e2)
    | none=>
     rw [e2] at h2
     obtain⟨ov,b1,_⟩:=hcl y c (mem_of_lookup (by simpa using h2))
     exact absurd (CO b1) (CH.mpr (DA (newc x c (mem_of_lookup e1)).2))
   | none=>
    rw [e1] at h1
    have m1:=mem_of_lookup (show cl.lookup x=some c by simpa using h1)
    induction e2:(cellsFrom (h.objs.size+1) names []).lookup y using Option.casesOn with
    | some c2=>
     rw [e2] at h2;cases h2
     obtain⟨ov,b1,_⟩:=hcl x c m1
     exact absurd (CO b1) (CH.mpr (DA (newc y c (mem_of_lookup e2)).2))
    | none=>
     rw [e2] at h2
     exact hclp x y c m1 (mem_of_lookup (by simpa using h2))
  ownz:=fun a ha=>by
   rcases AR.mp ha with rfl | ha
   ·obtain⟨o,_,_,ho,_⟩:=hfr
    exact⟨gnone _ (AM _),bnone _ (AM _),o,FJ _ _ _ _ ho⟩
   ·obtain⟨⟨x,c⟩,hm,rfl⟩:=AX.mp ha
    obtain⟨a1,a2⟩:=newc x c hm
    exact⟨gnone _ (DA a2),bnone _ (DA a2),_,a1⟩ }
end
section
variable {prog:Program} {w:World} {A:Around} {E:Value->Shared->Prop} {s:Shared} {env:Env}
noncomputable def j5d(ifs:List Expr)(env:Env):Sem Bool:=forIn ifs true fun c r=>if r=true then do let ok<-isTrue c env (eval c env);pure (ForInStep.yield ok) else pure (ForInStep.yield r)
noncomputable def z5z(e elt:Expr)(gens:List Comprehension)(d:Nat)(acc:Value)(env:Env):Sem Unit:=match gens[d+1]? with
 | some g'=>do
  let x<-eval g'.iter env
  PySem.standAt g'.iter.pos
  let x<-foldedSetIterable g'.iter env x
  let _<-runOwn (.compStart e (d+1) (<- PySem.holding [x] (pyIter x)) acc env) env
 | none=>do let _<-call (.builtin "list.append") [acc,<- eval elt env]
theorem q2m{elt:Expr}{gens:List Comprehension}{scope:Scope}{pos:Pos}{d:Nat}{gc:Comprehension}{it acc:Value}(hg:gens[d]?=some gc)(ha:gc.is_async=0)(hn:∀ g',gens[d+1]?=some g'->g'.is_async=0) :
  compTurn (.ListComp elt gens scope pos) d it acc env=(do
   PySem.standAt gc.iter.pos
   match<-pyNext it with
   | none=>pure (.done .next)
   | some v=>
    letOwnedTupleGo gc.target it v
    assign gc.target env v
    let ok<-j5d gc.ifs env
    if ok then do
     z5z (.ListComp elt gens scope pos) elt gens d acc env
     again (.compLoop (.ListComp elt gens scope pos) d it acc env)
    else again (.compLoop (.ListComp elt gens scope pos) d it acc env)):=by
 unfold compTurn z5z j5d
 dsimp only
 rw [hg]
 obtain⟨tt,ii,ff,aa⟩:=gc
 dsimp only at ha
 subst ha
 induction h:gens[d+1]? using Option.casesOn with
 | none=>rfl
 | some g'=>
  have hn:=hn g' h
  obtain⟨t2,i2,f2,a2⟩:=g'
  dsimp only at hn
  subst hn
  dsimp only
  have e0:((0:Int) != 0)=false:=rfl
  simp only [e0,DT,if_false,bind_assoc,pure_bind]
  rfl
theorem z9m{elt:Expr}{gens:List Comprehension}{scope:Scope}{pos:Pos}{d:Nat}{gc:Comprehension}{it acc:Value}{Rr:Result->Shared->Prop}(hg:gens[d]?=some gc)(ha:gc.is_async=0)(hn:∀ g',gens[d+1]?=some g'->g'.is_async=0)(Iv:Nat->Shared->Prop)
 (turn:∀ n s,Iv n s->wpAny (model prog w) A (pyNext it) (fun r sB=>match r with
   | none=>Rr (.ok .next) sB
   | some v=>wpAny (model prog w) A (letOwnedTupleGo gc.target it v) (fun _ s1'=>wpAny (model prog w) A (assign gc.target env v) (fun _ sC=>wpAny (model prog w) A (j5d gc.ifs env) (fun ok sd=>
      if ok=true then wpAny (model prog w) A (z5z (.ListComp elt gens scope pos) elt gens d acc env) (fun _ se=>∃ m,m<n/\Iv m se) (notedBy (model prog w) A env fun e s'=>Rr (.error e) s') sd
      else ∃ m,m<n/\Iv m sd) (notedBy (model prog w) A env fun e s'=>Rr (.error e) s') sC) (notedBy (model prog w) A env fun e s'=>Rr (.error e) s') s1')
     (notedBy (model prog w) A env fun e s'=>Rr (.error e) s') sB) (notedBy (model prog w) A env fun e s'=>Rr (.error e) s') s)
 (n:Nat)(h:Iv n s):codeAny (model prog w) A (.compLoop (.ListComp elt gens scope pos) d it acc env) Rr s:=by
 refine codeAny_loop rfl Iv (fun n s hI=>?_) n h
 show wpAny _ A ((compTurn (.ListComp elt gens scope pos) d it acc env).onRaise (fun x=>do noteFrame x env;theTreesLotGoes x)) _ _ s
 refine wpAny_noted ?_
 rw [q2m hg ha hn]
 refine AB (BT (AB (CZ (turn n s hI) (fun r sB B4=>?_) fun _ _ h'=>h')))
 induction r using Option.casesOn with
 | none=>exact AG B4
 | some v=>
  refine AB (CZ B4 (fun _ s1' h1'=>?_) fun _ _ h'=>h')
  refine AB (CZ h1' (fun _ sC B5=>AB (CZ B5 (fun ok sd B6=>?_) fun _ _ h'=>h')) fun _ _ h'=>h')
  induction ok using Bool.casesOn with
  | false=>exact AG ⟨rfl,B6⟩
  | true=>exact AB (CZ B6 (fun _ se B8=>AG ⟨rfl,B8⟩) fun _ _ h'=>h')
theorem z5b{elt:Expr}{gens:List Comprehension}{scope:Scope}{pos:Pos}{d:Nat}{gc:Comprehension}{it acc:Value}{Rr:Result->Shared->Prop}(hg:gens[d]?=some gc)(ha:gc.is_async=0)
 (h0:codeAny (model prog w) A (.compLoop (.ListComp elt gens scope pos) d it acc env) Rr s)
 (h:wpAny (model prog w) A (pyIter it) (fun it' s'=>codeAny (model prog w) A (.compLoop (.ListComp elt gens scope pos) d it' acc env) Rr s')
   (notedBy (model prog w) A env fun x s'=>Rr (.error x) s') s) :
  codeAny (model prog w) A (.compStart (.ListComp elt gens scope pos) d it acc env) Rr s:=by
 refine codeAny_of_tree ?_
 show wpAny _ A ((compStart (.ListComp elt gens scope pos) d it acc env).onRaise (fun x=>do noteFrame x env;standAt theWindowsPlace)) _ _ s
 refine wpAny_notedAt ?_
 have e:compStart (.ListComp elt gens scope pos) d it acc env=(do
   if(<- ask).params.followText "comprehension-iter-twice" then return<-again (.compLoop (.ListComp elt gens scope pos) d it acc env)
   PySem.rule "comprehension.iter-twice"
   PySem.standAt gc.iter.pos
   again (.compLoop (.ListComp elt gens scope pos) d (<- pyIter it) acc env)):=by
  obtain⟨tt,ii,ff,aa⟩:=gc
  dsimp only at ha
  subst ha
  unfold compStart
  have hc:(clausesOf (.ListComp elt gens scope pos))[d]?=some ⟨tt,ii,ff,0⟩:=hg
  rw [hc]
  rfl
 rw [e]
 refine AB (wpAny_askSetting (wpAny_ite ?_))
 split
 ·first
   | exact AB (AG (AG (And.intro rfl h0)))
   | exact AG (And.intro rfl h0)
 ·exact AB (wpAny_rule (AB (BT (AB (CZ h (fun it' s' h'=>AG (And.intro rfl h')) fun _ _ x=>x)))))
end
section
variable {I:z2w} {own own':List Addr} {L L':Lim} {w:World} {g g0 gb gC g':Fz} {Z Z0 Z1 Z2 Z':Bt} {H H0 Hb H2 H':z0b} {s sA sB sC s':Shared} {env:Env} {Y Y0 Y':z0n} {A:Around} {prog:Program} {lv n:Nat} {S:z6z} {C:z0h} {p q r:PV} {D:Addr}
theorem y3i:∀ {ks:List Nat} {ps:List PV} {Y Y':z0n},z4g Y ks ps=some Y'->∀ k,k∉ks->Y' k=Y k
 | [],[],_,_,h,k,_=>by injection h with h;subst h;rfl
 | [],_::_,_,_,h,_,_=>by contradiction
 | _::_,[],_,_,h,_,_=>by contradiction
 | j::ks,p::ps,Y,Y',h,k,hk=>by
  have:=y3i (ks:=ks) (ps:=ps) h k (fun m=>hk (AD _ m))
  rw [this]
  unfold upd
  rw [AS (fun e:k=j=>hk (by rw [e];exact AC))]
theorem y1f{pat:Pat}{v:PV}(h:z1v Y pat v=some Y'):∀ k,k∉z2u pat->Y' k=Y k:=by
 intro k hk
 cases pat with
 | one j=>
  simp only [z1v,Option.some.injEq] at h
  subst h
  unfold upd
  rw [AS (fun e:k=j=>hk (by rw [e];exact AC))]
 | tup ks=>induction v using PV.casesOn<;>simp only [z1v,reduceCtorEq] at h;exact y3i h k hk
theorem z0j.weaken{h:Heap}(hle:∀ k p,Y k=some p->Y' k=some p)(O:z0j I own env Y' g Z h):z0j I own env Y g Z h:=
 { O with
  ns:=let ⟨m,hm,f⟩:=O.ns;⟨m,hm,fun k x p a b c=>f k x p a b (hle k p c)⟩
  cells:=fun x hx=>let ⟨c,ov,a1,a2,a3,a4,a5,a6⟩:=O.cells x hx;⟨c,ov,a1,a2,a3,a4,a5,fun k p a b=>a6 k p a (hle k p b)⟩ }
theorem z0j.addOwn{h:Heap}(O:z0j I own env Y g Z h)(hg:g D=none)(hb:∀ i,Z i≠some D)(ho:∃ o,h.get? D=some o):z0j I (D::own) env Y g Z h:=
 { O with
  lown:=AD _ O.lown
  ownz:=fun a ha=>by
   rcases AR.mp ha with rfl | ha
   ·exact⟨hg,hb,ho⟩
   ·exact O.ownz a ha }
theorem z0j.subOwn{h:Heap}(O:z0j I own env Y g Z h)(hs:∀ a,a∈own'->a∈own)(hl:env.locals∈own'):z0j I own' env Y g Z h:=
 { O with
  lown:=hl
  ownz:=fun a ha=>O.ownz a (hs a ha) }
inductive z8a(I:z2w)(D:Addr)(ps:List PV)(g:Fz)(Z:Bt)(h:Heap):Prop
 | mk (o:Obj) (vs:List Value) (h1:h.get? D=some o) (h2:IsL o vs) (h3:z0e I g Z vs ps) (h4:g D=none) (h5:∀ i,Z i≠some D):z8a I D ps g Z h
theorem z8a.grow{ps:List PV}(hD:D∉own)(a:z8a I D ps g Z s.heap)(G:z1e own L g Z H s gb Z1 Hb sB):z8a I D ps gb Z1 sB.heap:=by
 obtain⟨o,vs,h1,h2,h3,h4,h5⟩:=a
 refine⟨o,vs,G.kept _ _ h1 hD (z1o h5),h2,h3.mono G.gle G.ble,by rw [G.gold _ _ h1];exact h4,fun i e=>?_⟩
 induction q:Z i using Option.casesOn with
 | none=>have:=G.bnew i _ q e;rw [h1] at this;contradiction
 | some b=>rw [G.ble i b q] at e;injection e with e;subst e;exact h5 i q
theorem q8a(hT:q0w I prog w lv S.ts)(hA:AOk A lv):∀ {es:List Expr} {ms:List ME} {g:Fz} {Z:Bt} {H H':z0b} {s:Shared} {r:Bool},SR I w.params g Z H s.heap->z0j I own env Y g Z s.heap->z2k (z6l I.t n env.scope.names) es ms=true ->
  y4w (S.ts Y) ms L H=some (r,H')->Go I prog w A [] L g Z H (j5d es env) H' (fun _ _ _ b=>b=r) s
 | [],ms,g,Z,H,H',s,r,R,O,hc,hm=>by
  induction ms using List.casesOn with
  | cons _ _=>contradiction
  | nil=>injection hm with hm;injection hm with eB eC;subst eB;subst eC;exact Go.pure R rfl
 | e::es,ms,g,Z,H,H',s,r,R,O,hc,hm=>by
  induction ms using List.casesOn with
  | nil=>contradiction
  | cons m ms=>
   obtain⟨c1,c2⟩:=z0v hc
   obtain⟨b,Hb,h1,h2⟩:=M.bind_some hm
   intro Q E q
   unfold j5d
   rw [FK]
   simp only [if_true,bind_assoc,pure_bind]
   refine AB (hT hA R O c1 h1 _ _ fun v gb Z1 sB Gb Rb pB=>?_)
   subst pB
   induction v using Bool.casesOn with
   | false=>
    obtain⟨rfl,rfl⟩:=M.pure_some (L:=L) h2
    have skip:∀ l:List Expr,(forIn l false fun c r=>if r=true then do let ok<-isTrue c env (eval c env);pure (ForInStep.yield ok) else pure (ForInStep.yield r):Sem Bool)=pure false:=by
     intro l
     induction l with
     | nil=>rfl
     | cons c l ih=>rw [FK];simp only [DT,if_false,pure_bind];exact ih
    rw [skip]
    exact AG (q _ gb Z1 sB Gb Rb rfl)
   | true=>exact q8a hT hA Rb (O.step Gb) c2 h2 Q E fun a gC Z2 sC Gc Rc pC=>q a gC Z2 sC (Gb.trans R Gc) Rc pC
noncomputable def y3j(gs:List (Pat×z6g×List ME×List ME)):List Nat:=gs.flatMap fun gn=>z2u gn.1
noncomputable def j5e(I:z2w)(prog:Program)(w:World)(A:Around)(ownE:List Addr)(env:Env)(D:Addr)(L:Lim)(F:z0n->M (List PV))(t:Sem Unit)(vs:List Nat):Prop:=
 ∀ (Y':z0n) (g:Fz) (Z:Bt) (H Hb:z0b) (s:Shared) (pre o:List PV),(∀ k,k∈vs->Y' k=none)->SR I w.params g Z H s.heap->z0j I ownE env Y' g Z s.heap->z8a I D pre g Z s.heap->F Y' L H=some (o,Hb)->(pre++o).length<=z2n ->
  ∀ (Q:Unit->Shared->Prop) (E:Value->Shared->Prop),(∀ g' Z' s',z1e (D::ownE) L g Z H s g' Z' Hb s'->SR I w.params g' Z' Hb s'.heap->z0j I ownE env Y' g' Z' s'.heap->z8a I D (pre++o) g' Z' s'.heap->Q () s')->wpAny (model prog w) A t Q E s
noncomputable def q2n(S:z6z)(Y:z0n)(pat:Pat)(ifs:List ME)(F:z0n->M (List PV))(v:PV):M (List PV):=match z1v Y pat v with
 | none=>M.fail
 | some Y'=>(y4w (S.ts Y') ifs).bind fun ok=>if ok then F Y' else M.pure []
theorem k5h{ifs:List ME}{pat:Pat}{F:z0n->M (List PV)}{p:PV}{ps out:List PV}{G:Prop}(h:z5e (q2n S Y pat ifs F) (p::ps) L H=some (out,H'))
 (k:∀ Yb tb Hd oa Hb ob,z1v Y pat p=some Yb->y4w (S.ts Yb) ifs L H=some (tb,Hd)->(if tb=true then F Yb else M.pure []) L Hd=some (oa,Hb)->z5e (q2n S Y pat ifs F) ps L Hb=some (ob,H')->out=oa++ob->G):G:=by
 obtain⟨oa,Hb,h1,h2⟩:=M.bind_some (m:=q2n S Y pat ifs F p) h
 obtain⟨ob,h3,h4⟩:=M.map_some (m:=z5e (q2n S Y pat ifs F) ps) (f:=fun as=>oa++as) h2
 unfold q2n at h1
 induction hbp:z1v Y pat p using Option.casesOn with
 | none=>rw [hbp] at h1;contradiction
 | some Yb=>
  rw [hbp] at h1
  obtain⟨tb,Hd,h5,h6⟩:=M.bind_some (m:=y4w (S.ts Yb) ifs) h1
  exact k Yb tb Hd oa Hb ob hbp h5 h6 h3 h4.symm
theorem z8a.free{g:Fz}{Z:Bt}{h:Heap}{ps:List PV}(a:z8a I D ps g Z h):g D=none/\(∀ i,Z i≠some D)/\∃ o,h.get? D=some o:=let ⟨o,_,a1,_,_,a4,a5⟩:=a;⟨a4,a5,o,a1⟩
theorem z8a.keep{g g':Fz}{Z:Bt}{h h':Heap}{ps:List PV}(a:z8a I D ps g Z h)(hk:∀ o,h.get? D=some o->h'.get? D=some o)(hg:∀ a o,g a=some o->g' a=some o)(hgo:∀ o,h.get? D=some o->g' D=g D):z8a I D ps g' Z h':=
 let ⟨o,vs,a1,a2,a3,a4,a5⟩:=a;⟨o,vs,hk o a1,a2,a3.mono hg (fun _ _ e=>e),(hgo o a1).trans a4,a5⟩
structure w2l(I:z2w)(prog:Program)(w:World)(ownE:List Addr)(env:Env)(Y:z0n)(D:Addr)(L:Lim)(g0:Fz)(Z0:Bt)(H0:z0b)(sA:Shared)(items pre out:List PV)(fp wr:List Addr)(Pi:Nat->Value->Prop)(Pt:Nat->List Value->Prop)(St:Nat->Heap->Prop)(run:List PV->z0b->List PV->Prop)
 (m:Nat)(s:Shared)(i:Nat)(g:Fz)(Z:Bt)(H:z0b)(o1 o2:List PV):Prop where
 m:m=items.length - i
 le:i<=items.length
 F:y1e I (D::ownE) L g Z H items sA.heap fp wr Pi Pt St i s.heap
 R:SR I w.params g Z H s.heap
 O:z0j I ownE env Y g Z s.heap
 acc:z8a I D (pre++o1) g Z s.heap
 G:z1e (D::ownE) L g0 Z0 H0 sA g Z H s
 h:run (items.drop i) H o2
 out:out=o1++o2
theorem y5r{ifs:List ME}{pat:Pat}{F:z0n->M (List PV)}{rv:List Nat}{elt':Expr}{gens:List Comprehension}{scope:Scope}{cpos:Pos}{ok:Str->Bool}{ownE:List Addr}{d:Nat}{gc:Comprehension}{pre items out:List PV}
 (T:z0r I)(hT:q0w I prog w lv S.ts)(hA:AOk A lv)(hok:∀ x,ok x=true->Mine.storeable env ownE x)(hall:∀ (i:Nat) (c:Comprehension),gens[i]?=some c->c.is_async=0)(hDo:D∉ownE)
 (hg:gens[d]?=some gc)(hp:z5x I.t ok gc.target pat=true)(hi:z2k (z6l I.t n env.scope.names) gc.ifs ifs=true)
 (hin:j5e I prog w A ownE env D L F (z5z (.ListComp elt' gens scope cpos) elt' gens d (.ref D) env) rv)
 (hfr:∀ k,k∈z2u pat++rv->Y k=none)(hnd:(z2u pat++rv).Nodup)
 (R:SR I w.params g0 Z0 H0 sA.heap)(G0:z1e (D::ownE) L g0 Z0 H0 sA g0 Z0 H0 s)(R0:SR I w.params g0 Z0 H0 s.heap)(O0:z0j I ownE env Y g0 Z0 s.heap)(acc0:z8a I D pre g0 Z0 s.heap)
 {A7:Addr}{fp wr:List Addr}{zp:Bool}(hzp:zp=true->gc.target.ctorIdx=25){Pi:Nat->Value->Prop}{Pt:Nat->List Value->Prop}{St:Nat->Heap->Prop}(W:y0w prog w A zp A7 fp wr items.length Pi Pt St)(F0:y1e I (D::ownE) L g0 Z0 H0 items sA.heap fp wr Pi Pt St 0 s.heap)
 (hsep:∀ b,b∈wr->j4m (D::ownE) env b)
 (h:z5e (q2n S Y pat ifs F) items L H0=some (out,H'))(hlen:(pre++out).length<=z2n)
 {Rr:Result->Shared->Prop}(q:∀ g' Z' s',z1e (D::ownE) L g0 Z0 H0 sA g' Z' H' s'->SR I w.params g' Z' H' s'.heap->z0j I ownE env Y g' Z' s'.heap->z8a I D (pre++out) g' Z' s'.heap->Rr (.ok .next) s') :
  codeAny (model prog w) A (.compLoop (.ListComp elt' gens scope cpos) d (.ref A7) (.ref D) env) Rr s:=by
 have hDw:D∉wr:=fun m=>(hsep D m).2.2 AC
 have hsub:∀ a,a∈ownE->a∈D::ownE:=fun a h=>AD _ h
 refine z9m hg (hall _ _ hg) (fun g' hg'=>hall _ _ hg') (fun m s'=>∃ i g Z H o1 o2,w2l I prog w ownE env Y D L g0 Z0 H0 sA items pre out fp wr Pi Pt St (fun l H o=>z5e (q2n S Y pat ifs F) l L H=some (o,H')) m s' i g Z H o1 o2) ?_ items.length
  ⟨0,g0,Z0,H0,[],out,rfl,BM _,F0,R0,O0,(CA pre).symm▸acc0,G0,h,rfl⟩
 clear h G0 R0 O0 acc0 F0
 rintro m s' ⟨i,g,Z,H,o1,o2,A5⟩
 refine CZ (q2c (tgt:=gc.target) hzp W hsep A5.F A5.R (A5.O.addOwn A5.acc.free.1 A5.acc.free.2.1 A5.acc.free.2.2) A5.G (fun e sB Rb Ob Gb hkp=>?_) (fun p hpi v g' sB hv Rb Ob Gb F1 hkp hgl hgo=>?_) A5.le) (fun r sB h=>by induction r using Option.casesOn<;>exact h) fun _ _ h=>h
 ·have hl:=A5.h
  rw [e,List.drop_length] at hl
  obtain⟨e1,e2⟩:=M.pure_some (L:=L) hl
  have ho:=A5.out
  rw [<- e1,CA] at ho
  exact q g Z sB (e2▸Gb) (e2▸Rb) (Ob.subOwn hsub A5.O.lown) (ho▸A5.acc.keep (fun o a=>hkp _ _ hDw a) (fun _ _ e=>e) fun _ _=>rfl)
 ·have hl:=A5.h
  have hlt:=(AU.mp hpi).1
  rw [q2d hpi] at hl
  have hac1:z8a I D (pre++o1) g' Z sB.heap:=A5.acc.keep (fun o a=>hkp _ _ hDw a) hgl fun o a=>hgo _ _ a
  refine k5h hl fun Yb tb Hd oa Hb ob hbp h5 h6 h3 ho2=>?_
  clear hl
  refine y0v (L:=L) T.nd hok hA hp Rb (Ob.subOwn hsub A5.O.lown) hv hbp _ _ fun _ gC Z2 sC Gc Rc pC=>?_
  have hac2:=hac1.grow hDo Gc
  have F2:=F1.grow W Rb (Gc.own_le hsub)
  refine q8a hT hA Rc pC.1 hi h5 _ _ fun b gD Z3 sd Gd Rd pd=>?_
  have O3:=pC.1.step Gd
  have hac3:=hac2.grow (own:=[]) BB Gd
  have F3:=F2.grow W Rc (Gd.own_le (own2:=D::ownE) fun _ h=>absurd h BB)
  have hle1:∀ k p,Y k=some p->Yb k=some p:=fun k p e=>by
   by_cases hkm:k∈z2u pat
   ·rw [hfr k (CN _ hkm)] at e;contradiction
   ·rw [y1f hbp k hkm];exact e
  have G13:z1e (D::ownE) L g0 Z0 H0 sA gD Z3 Hd sd:=Gb.trans R ((Gc.own_le hsub).trans Rb (Gd.own_le fun _ h=>absurd h BB))
  have hout:=A5.out
  rw [ho2] at hout
  rw [pd]
  induction tb using Bool.casesOn with
  | false=>
   obtain⟨e1,e2⟩:=M.pure_some (L:=L) (show M.pure [] L Hd=some (oa,Hb) from h6)
   exact⟨items.length - (i+1),A5.m▸q5j hlt,i+1,gD,Z3,Hd,o1,ob,rfl,hlt,F3,Rd,O3.weaken hle1,hac3,G13,e2▸h3,by rw [hout,<- e1];rfl⟩
  | true=>
   have hfr1:∀ k,k∈rv->Yb k=none:=fun k hk=>by
    rw [y1f hbp k (fun m=>(DF.mp hnd).2.2 k m k hk rfl)]
    exact hfr k (BR _ hk)
   have hout':pre++out=(pre++o1++oa)++ob:=by rw [hout,AY,AY]
   have hlen1:(pre++o1++oa).length<=z2n:=by
    rw [hout',AE] at hlen
    exact AA (BG _ _) hlen
   refine hin Yb gD Z3 Hd Hb sd (pre++o1) oa hfr1 Rd O3 hac3 h6 hlen1 _ _ fun gE Z4 se Ge RE Oe hac4=>?_
   exact⟨items.length - (i+1),A5.m▸q5j hlt,i+1,gE,Z4,Hb,o1++oa,ob,rfl,hlt,F3.grow W Rd Ge,RE,Oe.weaken hle1,AY pre o1 oa▸hac4,G13.trans R Ge,h3,by rw [hout,AY]⟩
noncomputable def q8b(S:z6z)(elt:ME)(rest:List (Pat×z6g×List ME×List ME))(Y':z0n):M (List PV):=match rest with
 | []=>(S.ev Y' elt).bind fun r=>M.pure [r]
 | (pat',k,args,ifs')::rest'=>(z8z S Y' k args).bind fun r=>(z3h S elt Y' pat' ifs' rest' r.1).raised r.2
theorem y5s{elt:ME}{pat:Pat}{ifs:List ME}{rest:List (Pat×z6g×List ME×List ME)}{items:List PV}:z3h S elt Y pat ifs rest items=z5e (q2n S Y pat ifs (q8b S elt rest)) items:=by
 induction rest using List.casesOn<;>kernel_rfl
theorem j5f{k:z6g}{t:Expr}(h:(!j0l k || t.ctorIdx==25)=true)(hz:j0l k=true):t.ctorIdx=25:=by
 rw [hz] at h
 exact BI h
theorem x1l{elt:ME}{elt':Expr}{gens:List Comprehension}{scope:Scope}{cpos:Pos}{ok:Str->Bool}{ownE:List Addr}(T:z0r I)(hE:z4q I prog w lv S.ev)(hT:q0w I prog w lv S.ts)(hA:AOk A lv)
 (hok:∀ x,ok x=true->Mine.storeable env ownE x)(hce:z0o I.t n env.scope.names elt' elt=true)(hall:∀ (i:Nat) (c:Comprehension),gens[i]?=some c->c.is_async=0)(hDo:D∉ownE) :
  ∀ (rest:List (Pat×z6g×List ME×List ME)) (cs:List Comprehension) (d:Nat) (L:Lim),gens.drop (d+1)=cs ->
   y4f I.t (z0o I.t n env.scope.names) (z6l I.t n env.scope.names) env.scope.names ok cs rest=true->(y3j rest).Nodup ->
   j5e I prog w A ownE env D L (q8b S elt rest) (z5z (.ListComp elt' gens scope cpos) elt' gens d (.ref D) env) (y3j rest):=by
 intro rest
 induction rest with
 | nil=>
  intro cs d L hdr hc hnd Y' g Z H Hb s pre o hfr R O hac hF hlen Q E q
  induction cs using List.casesOn with
  | cons _ _=>contradiction
  | nil=>
   have hg:gens[d+1]?=none:=by
    have:=List.drop_eq_nil_iff.mp hdr
    exact CY this
   unfold z5z
   rw [hg]
   dsimp only
   obtain⟨x,H2,h1,h2⟩:=M.bind_some hF
   obtain⟨rfl,rfl⟩:=M.pure_some (L:=L) h2
   refine AB (hE hA R O hce h1 _ _ fun v gb Z1 sB Gb Rb pB=>?_)
   obtain⟨oD,vs,a1,a2,a3,a4,a5⟩:=hac.grow (own:=[]) (by simp) Gb
   have hl:vs.length+1<=z2n:=by rw [a3.length];simpa using hlen
   refine AB (q7x a1 a2 (by lia) fun h' hh hs=>AG ?_)
   obtain⟨o2,ho2,hq2⟩:=hh
   have hk:∀ a o,¬ (a=D)->sB.heap.get? a=some o->h'.get? a=some o:=fun a o hne e=>(hs.2 a hne).trans e
   have R2:SR I w.params gb Z1 H2 h':=Rb.off_ (fun a=>a=D) (fun a e=>e▸a4) (fun a i e=>e▸a5 i) hk
   have G2:z1e (D::ownE) L g Z H s gb Z1 H2 { sB with heap:=h' }:=z1e.touch (tk:=sB.toks) (Gb.own_le (by simp)) (fun a=>a=D) (fun a o e _=>e▸AC) hk (fun a o e _=>⟨o2,e▸ho2⟩)
   have O1:=O.step Gb
   have O2:z0j I ownE env Y' gb Z1 h':=by
    obtain⟨m,hm,hf⟩:=O1.ns
    exact {
     kind:=O1.kind,glob:=O1.glob,bi:=O1.bi,lg:=O1.lg,lb:=O1.lb,lown:=O1.lown,apart:=O1.apart,code:=O1.code
     ns:=⟨m,hm.at' fun o e=>hk _ _ (fun e'=>hDo (e'▸O1.lown)) e,hf⟩
     cells:=fun x hx=>by
      obtain⟨c,ov,b1,b2,b3,b4,b5,b6⟩:=O1.cells x hx
      refine⟨c,ov,b1,hk _ _ (fun e'=>?_) b2,b3,b4,b5,b6⟩
      subst e'
      rw [a1] at b2;injection b2 with b2;subst b2
      have:=a2.1;simp [k2z] at this
     ownz:=fun a ha=>by
      obtain⟨b1,b2,o,b3⟩:=O1.ownz a ha
      exact⟨b1,b2,o,hk _ _ (fun e'=>hDo (e'▸ha)) b3⟩ }
   exact q gb Z1 _ G2 R2 O2 ⟨o2,vs++[v],ho2,hq2,a3.append (.one pB),a4,a5⟩
 | cons gn rest ih=>
  intro cs d L hdr hc hnd Y' g Z H Hb s pre o hfr R O hac hF hlen Q E q
  induction cs using List.casesOn with
  | nil=>contradiction
  | cons c cs=>
   obtain⟨pat,k,args,ifs⟩:=gn
   obtain⟨h12,hcs⟩:=z0v hc
   obtain⟨hgen,hsrc⟩:=z0v h12
   obtain⟨hpat,has,hifs,hzt⟩:=z5t hgen
   have hlt:d+1<gens.length:=by
    rcases Nat.lt_or_ge (d+1) gens.length with h | h
    ·exact h
    ·rw [List.drop_eq_nil_of_le h] at hdr;contradiction
   have hg:gens[d+1]?=some c:=by
    rw [FU hlt] at hdr
    injection hdr with e1 e2
    rw [AP hlt,e1]
   have hdr2:gens.drop (d+1+1)=cs:=by
    rw [FU hlt] at hdr
    injection hdr with e1 e2
   unfold z5z
   rw [hg]
   dsimp only
   obtain⟨⟨items,up⟩,H2,h1,h2⟩:=M.bind_some hF
   unfold M.raised at h2
   dsimp only at h2
   have hDD:∀ {g:Fz} {Z:Bt} {h:Heap} {ps:List PV},z8a I D ps g Z h->g D=none/\(∀ i,Z i≠some D)/\∃ o,h.get? D=some o:=fun⟨o,vs,a1,a2,a3,a4,a5⟩=>⟨a4,a5,o,a1⟩
   have O':=O.addOwn (hDD hac).1 (hDD hac).2.1 (hDD hac).2.2
   have main:=j4r (Q:=fun it sC=>codeAny (model prog w) A (.compStart (.ListComp elt' gens scope cpos) (d+1) it (.ref D) env) (fun r s'=>match r with | .ok f=>Q () s' | .error e=>cameBackBy (model prog w) A env E e s') sC) (E:=E) T hE hA R O' hsrc h1 ?_
   ·refine AB (CZ main (fun x sB hx=>?_) fun _ _ e=>e)
    refine AB (BT ?_)
    refine AB (wpAny_of_eq (y0a hsrc x) ?_)
    refine AB (BQ (CZ hx (fun it sC B5=>?_) fun _ _ e=>e))
    refine AB (wpAny_runOwn (codeAny_mono B5 fun r s' hr=>?_))
    cases r with
    | ok f=>exact AG hr
    | error e=>exact hr
   ·intro it gb Z1 sB sC Gb Rb eC hk Fd
    have O1:=O.step Gb
    have hac1:=hac.grow (own:=[]) (by simp) Gb
    have hnd':(z2u pat++y3j rest).Nodup:=hnd
    have hfr':∀ k,k∈z2u pat++y3j rest->Y' k=none:=hfr
    have hin:=ih cs (d+1) (L.up up H2) hdr2 hcs (DF.mp hnd').2.1
    rw [y5s] at h2
    obtain⟨A7,fp,wr,Pi,Pt,St,rfl,W,st0,hval,hvalT,hfp,hwr⟩:=Fd
    have O1':=O1.addOwn (hDD hac1).1 (hDD hac1).2.1 (hDD hac1).2.2
    have R0:SR I w.params gb Z1 H2 sC.heap:=Rb.keepAll hk
    have G0:z1e (D::ownE) (L.up up H2) gb Z1 H2 sB gb Z1 H2 sC:=by rw [eC];exact z1e.keepAll hk
    have O0:z0j I ownE env Y' gb Z1 sC.heap:=O1.grow (s:=sB) (sB:=sC) (fun _ _ e=>e) (fun _ _ _=>rfl) (fun _ _ e=>e) (fun i a e e'=>by rw [e] at e';contradiction) (fun a o e _ _=>hk a o e)
    have acc0:z8a I D pre gb Z1 sC.heap:=hac1.keep (fun o a=>hk _ _ a) (fun _ _ e=>e) fun _ _=>rfl
    have loop:codeAny (model prog w) A (.compLoop (.ListComp elt' gens scope cpos) (d+1) (.ref A7) (.ref D) env) (fun r s'=>match r with | .ok f=>Q () s' | .error e=>cameBackBy (model prog w) A env E e s') sC:=
     y5r (L:=L.up up H2) T hT hA hok hall hDo hg hpat hifs hin hfr' hnd' Rb G0 R0 O0 acc0 (j5f hzt) W ⟨st0,hval,hvalT,hfp,hwr⟩ (fun b hb=>O1'.apart_of (hwr b hb).2.2) h2 hlen fun g' Z' s' G R' O2 hac2=>q g' Z' s' ((Gb.own_le (by simp)).trans R (z1e.unraise Rb G)) R' O2 hac2
    refine z5b hg (hall _ _ hg) loop ?_
    exact W.self 0 _ _ _ st0 loop
end
section
variable {I:z2w} {own own':List Addr} {L L':Lim} {w:World} {g g0 gb gC g':Fz} {Z Z0 Z1 Z2 Z':Bt} {H H0 Hb H2 H':z0b} {s sA sB sC s':Shared} {env:Env} {Y Y0 Y':z0n} {A:Around} {prog:Program} {lv n:Nat} {S:z6z} {C:z0h} {p q r:PV} {D:Addr} {P:Params}
noncomputable def y0b(env:Env):List (Str×NameKind)->List (Str×Addr)->List (Str×Addr)
 | [],acc=>acc
 | (x,k)::r,acc=>if k==.free then y0b env r ((x,(env.cells.lookup x).getD 0)::acc) else y0b env r acc
theorem j5g:∀ (names:List (Str×NameKind)) (acc:List (Str×Addr)) (f:Str×NameKind->List (Str×Addr)->Sem (ForInStep (List (Str×Addr)))),
  (∀ x k cs,f (x,k) cs=if k==.free then(do let c<-cellOf env x;pure (.yield ((x,c)::cs))) else pure (.yield cs)) ->
  (∀ x,x∈names->x.2=.free->∃ c,env.cells.lookup x.1=some c)->forIn names acc f=pure (y0b env names acc)
 | [],acc,f,hf,h=>rfl
 | (x,k)::r,acc,f,hf,h=>by
  rw [FK,hf]
  unfold y0b
  by_cases hk:(k==NameKind.free)=true
  ·rw [AQ hk,AQ hk]
   obtain⟨c,hc⟩:=h (x,k) AC (by simpa using hk)
   unfold cellOf
   dsimp only at hc
   rw [hc]
   simp only [pure_bind,Option.getD_some]
   exact j5g r _ f hf fun y hy=>h y (AD _ hy)
  ·rw [AS hk,AS hk]
   simp only [pure_bind]
   exact j5g r _ f hf fun y hy=>h y (AD _ hy)
theorem j1d{scope:Scope}(h:∀ x,x∈scope.names->x.2=.free->∃ c,env.cells.lookup x.1=some c):closureFor scope env=pure (y0b env scope.names []):=by
 unfold closureFor
 show(forIn scope.names ([]:List (Str×Addr)) _>>=fun x=>pure x)=_
 rw [j5g scope.names [] _ (fun x k cs=>by
  cases hk:k==NameKind.free<;>simp [hk]) h]
 rfl
theorem q5o:∀ {names:List (Str×NameKind)} {acc:List (Str×Addr)} {x:Str} {c:Addr},(x,c)∈y0b env names acc->(x,c)∈acc\/((x,NameKind.free)∈names/\c=(env.cells.lookup x).getD 0)
 | [],acc,x,c,h=>.inl h
 | (y,k)::r,acc,x,c,h=>by
  unfold y0b at h
  split at h
  ·rename_i hk
   have hk':k=.free:=by simpa using hk
   rcases q5o h with h | ⟨h,e⟩
   ·rcases AR.mp h with h | h
    ·cases h;exact .inr ⟨by rw [hk'];exact AC,rfl⟩
    ·exact .inl h
   ·exact .inr ⟨AD _ h,e⟩
  ·rcases q5o h with h | ⟨h,e⟩
   ·exact .inl h
   ·exact .inr ⟨AD _ h,e⟩
theorem y9s:∀ {names:List (Str×NameKind)} {acc:List (Str×Addr)} {x:Str×Addr},x∈acc->x∈y0b env names acc
 | [],acc,x,h=>h
 | (y,k)::r,acc,x,h=>by
  unfold y0b
  split
  ·exact y9s (AD _ h)
  ·exact y9s h
theorem y9t:∀ {names:List (Str×NameKind)} {acc:List (Str×Addr)} {x:Str},(x,NameKind.free)∈names->∃ c,(x,c)∈y0b env names acc
 | [],acc,x,h=>by contradiction
 | (y,k)::r,acc,x,h=>by
  unfold y0b
  rcases AR.mp h with h | h
  ·cases h
   rw [AQ (by rfl)]
   exact⟨_,y9s AC⟩
  ·split
   ·exact y9t h
   ·exact y9t h
theorem j1e{scope:Scope}{globals:Addr}{cl:List (Str×Addr)}{qual:Str}{outer:Env}{Q:Env->Shared->Prop}{E:Value->Shared->Prop}
 (h:Q { scope:=scope,locals:=s.heap.objs.size,globals:=globals,cells:=cellsFrom (s.heap.objs.size+1) scope.names cl,qual:=qual,func:=none,code:=outer.code,frame:=outer.frame,builtins:=outer.builtins } { s with heap:=pushCells (s.heap.push { cls:=.type "dict",data:=.dict #[] }) scope.names }) :
  wpAny (model prog w) A (newFunctionEnv scope globals cl [] qual none .none (some outer)) Q E s:=by
 simp only [newFunctionEnv,Option.isSome_some,if_true]
 refine AB (wpAny_alloc ?_)
 refine AB (wpAny_layCells _ (fun name kind cells=>by cases hkc:kind==NameKind.cell<;>simp [hkc]) _ _ _ _ ?_)
 rw [show({ s with heap:=s.heap.push { cls:=.type "dict",data:=.dict #[] } }:Shared).heap.objs.size=s.heap.objs.size+1 from FQ ..]
 rw [List.forIn_nil]
 exact AB (AG (AG h))
theorem y7t{f:Str×NameKind->Str×NameKind}(hf:∀ x,(f x).1=x.1):∀ {names:List (Str×NameKind)} {x:Str},(names.map f).lookup x=(names.lookup x).map fun k=>(f (x,k)).2
 | [],x=>rfl
 | (y,k)::r,x=>by
  have e0:f (y,k)=(y,(f (y,k)).2):=Prod.ext (hf (y,k)) rfl
  rw [BL,e0,DU,DU]
  induction e:x==y using Bool.casesOn with
  | true=>have:x=y:=BE.mp e;subst this;rfl
  | false=>exact y7t hf
theorem z9s{cE cT:Expr->ME->Bool}{sc:Sc}{ok:Str->Bool}:∀ {cs:List Comprehension} {gs:List (Pat×z6g×List ME×List ME)},y4f I.t cE cT sc ok cs gs=true->∀ (i:Nat) (c:Comprehension),cs[i]?=some c->c.is_async=0
 | [],gs,h,i,c,hc=>by simp at hc
 | c0::cs,[],h,i,c,hc=>by contradiction
 | c0::cs,gn::gs,h,i,c,hc=>by
  obtain⟨h1,h2⟩:=z0v h
  have h5:=(z5t (z0v h1).1).2.1
  induction i using Nat.casesOn with
  | zero=>simp at hc;subst hc;simpa using h5
  | succ i=>simp at hc;exact z9s h2 i c hc
theorem z7i{scope:Scope}(hk:env.scope.kind=.function):(relabel scope env).names=z4s env.scope.names scope.names:=by
 unfold relabel z4s
 dsimp only
 apply CG
 rintro⟨x,k⟩ _
 have e:(env.scope.kind==ScopeKind.function)=true:=by rw [hk];rfl
 dsimp only [Env.kindOf]
 rw [e,Bool.and_true]
 rfl
theorem z5o{sc inner:Sc}{x:Str}:(z4s sc inner).lookup x=(inner.lookup x).map fun k=>if k==.free&&sc.lookup x==some .cell then .cell else k:=by
 unfold z4s
 rw [y7t (fun y=>by split<;>rfl)]
 congr 1
 funext k
 dsimp only
 split<;>rfl
theorem j5h{h:Heap}(e:sC={ sB with heap:=sC.heap,toks:=sC.toks }):({ sC with heap:=h }:Shared)={ sB with heap:=h,toks:=sC.toks }:=by rw [e]
theorem z6a{k:Nat}{names:List (Str×NameKind)}{a:Addr}(h:a∈z3j k names):k<=a:=by
 rcases AR.mp h with h | h
 ·rw [h];exact AM _
 ·obtain⟨⟨x,c⟩,hm,rfl⟩:=AX.mp h
  exact DA (z3k _ _ _ _ hm).1
theorem q8c{vs:List Nat}{k:Nat}(h:k∈vs):clear Y vs k=none:=by
 unfold clear
 rw [AQ (by simpa using h)]
theorem x1m{vs:List Nat}{k:Nat}{p:PV}(h:clear Y vs k=some p):Y k=some p:=by
 unfold clear at h
 split at h
 ·contradiction
 ·exact h
theorem x8y{elt:ME}{pat:Pat}{kk:z6g}{args ifs:List ME}{rest:List (Pat×z6g×List ME×List ME)}{out:List PV}{G:Prop}(h:y0m S elt Y ((pat,kk,args,ifs)::rest) L H=some (out,H'))
 (k:∀ items up Hb,z8z S Y kk args L H=some ((items,up),Hb)->(z3h S elt (clear Y (z2u pat++y3j rest)) pat ifs rest items) (L.up up Hb) Hb=some (out,H')->out.length<=z2n->G):G:=by
 obtain⟨r,Hb,h1,h2⟩:=M.bind_some h
 obtain⟨l,H2,h4,h5⟩:=M.bind_some h2
 obtain⟨hl,h6⟩:=M.if_some h5
 have e:=M.pure_some (L:=L) h6
 exact k r.1 r.2 Hb h1 (e.1▸e.2▸h4) (e.1▸AK hl)
theorem y5t{elt:ME}{elt':Expr}{c:Comprehension}{cs:List Comprehension}{inner:Scope}{cpos pos2:Pos}{gs:List (Pat×z6g×List ME×List ME)}{out:List PV}{use:Option (Value->Sem Unit)}{Q:Value->Shared->Prop}{E:Value->Shared->Prop}
 (T:z0r I)(hE:z4q I prog w lv S.ev)(hT:q0w I prog w lv S.ts)(hA:AOk A lv)(R:SR I w.params g Z H s.heap)(O:z0j I own env Y g Z s.heap)
 (hblk:y0z I.t env.scope.names inner gs=true)(hcomp:q1t I.t (z0o I.t n) (z6l I.t n) env.scope.names (z4s env.scope.names inner.names) (fun x=>inner.names.lookup x==some .local || inner.names.lookup x==some .cell) (c::cs) gs=true)
 (hce:z0o I.t n (z4s env.scope.names inner.names) elt' elt=true)(h:y0m S elt Y gs L H=some (out,H'))
 (k:∀ D C g' Z' s' m,s.heap.get? C=none->z1e [] L g Z H s g' Z' H' s'->SR I w.params g' Z' H' s'.heap->Rel I g' Z' (.ref D) (.lst out)->s'.heap.Ns C m->g' C=none->(∀ i,Z' i≠some C)->compPost (model prog w) A E use Q (.ref D) C (.ok .next) s') :
  wpAny (model prog w) A (comprehension (.ListComp elt' (c::cs) inner cpos) inner env pos2 (newList []) false (eval c.iter env) use) Q E s:=by
 induction gs using List.casesOn with
 | nil=>contradiction
 | cons gn rest=>
 obtain⟨pat,kk,args,ifs⟩:=gn
 have hcs:=(z0v hcomp).2
 have hsrc:=(z0v (z0v hcomp).1).2
 have hgen:=z5t (z0v (z0v hcomp).1).1
 have hpat:=hgen.1
 have has:=hgen.2.1
 have hifs:=hgen.2.2.1
 have hzt:=hgen.2.2.2
 have hkinds:=(z0v hblk).2
 have hnd':(z2u pat++y3j rest).Nodup:=AK (z0v (z0v hblk).1).2
 have hkind:inner.kind=.function:=by simpa using (z0v (z0v (z0v hblk).1).1).1
 have hlook:∀ x,x∈inner.names->inner.names.lookup x.1=some x.2:=fun x hx=>by simpa using BA.mp (z0v (z0v (z0v hblk).1).1).2 x hx
 have hkd:∀ x,x∈inner.names->_:=fun x hx=>BA.mp hkinds x hx
 refine x8y h fun items up Hb h1 h4 hlen=>?_
 clear h hgen
 have hfree:∀ x,x∈inner.names->x.2=.free->∃ c,env.cells.lookup x.1=some c:=fun x hx hf=>by
  have:=hkd x hx
  rw [hf] at this
  have hh:env.kindOf x.1=some .cell\/env.kindOf x.1=some .free:=by
   rcases BX.mp this with h | h
   ·exact .inl (BE.mp h)
   ·exact .inr (BE.mp h)
  obtain⟨c,ov,h1,_⟩:=O.cells x.1 hh
  exact⟨c,h1⟩
 refine wpAny_comprehension_free rfl (y0a hsrc) (j1d hfree) hkind (fun x hx hl=>by rw [hlook x hx,hl]) ?_
 refine j4r (own:=own) T hE hA R O hsrc h1 fun it gb Z1 sB sC Gb Rb eC hk Fd=>?_
 have hn2:=get?_size sC.heap
 have Ob:=O.step Gb
 have Rc:SR I w.params gb Z1 Hb sC.heap:=Rb.keepAll hk
 have Oc:z0j I own env Y gb Z1 sC.heap:=Ob.grow (s:=sB) (sB:=sC) (fun _ _ e=>e) (fun _ _ _=>rfl) (fun _ _ e=>e) (fun i a e e'=>by rw [e] at e';contradiction) (fun a o e _ _=>hk a o e)
 refine DK ?_ (by size_fits)
 have hk3:∀ b o,sC.heap.get? b=some o->(sC.heap.push (z6f [] 0)).get? b=some o:=fun b o e=>AO _ e
 have Rd:SR I w.params gb Z1 Hb (sC.heap.push (z6f [] 0)):=Rc.keepAll hk3
 have O3:z0j I own env Y gb Z1 (sC.heap.push (z6f [] 0)):=(Oc.step (y1d (own:=[]) (L:=L) Rc (z6f [] 0)):z0j I own env Y gb Z1 _)
 have hsz3:(sC.heap.push (z6f [] 0)).objs.size=sC.heap.objs.size+1:=FQ ..
 refine j1e (s:={ sC with heap:=sC.heap.push (z6f [] 0) }) ?_
 dsimp only
 have hk4:∀ b o,(sC.heap.push (z6f [] 0)).get? b=some o->(pushCells ((sC.heap.push (z6f [] 0)).push { cls:=.type "dict",data:=.dict #[] }) inner.names).get? b=some o:=fun b o e=>FJ _ _ _ _ (AO _ e)
 have hks:∀ x,((z4s env.scope.names inner.names).lookup x=some .cell\/(z4s env.scope.names inner.names).lookup x=some .free)->(x,NameKind.cell)∈inner.names\/(x,NameKind.free)∈inner.names:=by
  intro x hx
  rw [z5o] at hx
  induction hl:inner.names.lookup x using Option.casesOn with
  | none=>rw [hl] at hx;rcases hx with h | h<;>contradiction
  | some kd=>
   rw [hl] at hx
   have hm:=mem_of_lookup hl
   simp only [GA,Option.some.injEq] at hx
   cases kd with
   | cell=>exact .inl hm
   | free=>exact .inr hm
   | «local»=>rcases hx with h | h<;>simp at h
   | globalImplicit=>rcases hx with h | h<;>simp at h
   | globalExplicit=>rcases hx with h | h<;>simp at h
 have hgens:∀ (x:Str) (kk':Nat),q7r I.t ((pat,kk,args,ifs)::rest) x=true->I.nm[kk']?=some x->kk'∈z2u pat++y3j rest:=by
  intro x j hgx hj
  unfold q7r at hgx
  obtain⟨gn,hgn,h2⟩:=DD.mp hgx
  obtain⟨j',hj',h3⟩:=DD.mp h2
  have:j=j':=q1o T.nd hj (by simpa using h3)
  subst this
  rcases AR.mp hgn with h | h
  ·subst h;exact CN _ hj'
  ·exact BR _ (CU.mpr ⟨gn,h,hj'⟩)
 have hclmem:∀ x c,(x,c)∈y0b env inner.names []->(x,NameKind.free)∈inner.names/\env.cells.lookup x=some c:=by
  intro x c hm
  rcases q5o hm with h | ⟨h,e⟩
  ·contradiction
  ·obtain⟨c',hc'⟩:=hfree _ h rfl
   dsimp only at hc'
   rw [hc'] at e
   exact⟨h,by rw [e];exact hc'⟩
 have hfk:∀ x,(x,NameKind.free)∈inner.names->env.kindOf x=some .cell\/env.kindOf x=some .free:=fun x hx=>by
  have:=hkd _ hx
  rcases BX.mp this with h | h
  ·exact .inl (BE.mp h)
  ·exact .inr (BE.mp h)
 have O4:z0j I (z3j (sC.heap.push (z6f [] 0)).objs.size inner.names) { scope:=relabel inner env,locals:=(sC.heap.push (z6f [] 0)).objs.size,globals:=env.globals,cells:=cellsFrom ((sC.heap.push (z6f [] 0)).objs.size+1) inner.names (y0b env inner.names []),qual:=env.qual,func:=none,code:=env.code,frame:=env.frame,builtins:=env.builtins } (clear Y (z2u pat++y3j rest)) gb Z1
   (pushCells ((sC.heap.push (z6f [] 0)).push { cls:=.type "dict",data:=.dict #[] }) inner.names):=by
  refine y5q (Heap.Ns.new _ _) Rd rfl rfl hkind O.glob O.bi O.code (fun x c hm=>?_) (fun x y c h1 h2=>?_) (fun x hx=>?_) (fun j x hj hx=>?_)
  ·obtain⟨h1,h2⟩:=hclmem x c hm
   obtain⟨c',ov,b1,b2,b3,b4,b5,b6⟩:=O3.cells x (hfk x h1)
   rw [h2] at b1;injection b1 with b1;subst b1
   exact⟨ov,b2,b4,b5,fun j p hj hp=>b6 j p hj (x1m hp)⟩
  ·exact O.apart x y c (hclmem x c h1).2 (hclmem y c h2).2
  ·have hx':(z4s env.scope.names inner.names).lookup x=some .cell\/(z4s env.scope.names inner.names).lookup x=some .free:=by
    rw [<- z7i O.kind];exact hx
   rcases hks x hx' with h | h
   ·exact .inl h
   ·exact .inr (y9t h)
  ·apply q8c
   have hloc:(x,NameKind.local)∈inner.names\/(x,NameKind.cell)∈inner.names:=by
    rcases hx with h | h
    ·have h':(z4s env.scope.names inner.names).lookup x=some .local:=by rw [<- z7i O.kind];exact h
     rw [z5o] at h'
     induction hl:inner.names.lookup x using Option.casesOn with
     | none=>rw [hl] at h';contradiction
     | some kd=>
      rw [hl] at h'
      simp only [GA,Option.some.injEq] at h'
      have hm:=mem_of_lookup hl
      split at h'
      ·contradiction
      ·subst h';exact .inl hm
    ·exact .inr h
   rcases hloc with h | h
   ·have:=hkd _ h
    rcases BX.mp this with h0 | h0
    ·obtain⟨h1,h2⟩:=z0v h0
     exfalso
     have hx0:x=(".0":Str):=BE.mp h1
     have:I.nm.contains (".0":Str)=true:=by
      rw [<- hx0];simpa using CB hj
     rw [this] at h2;contradiction
    ·exact hgens x j h0 hj
   ·exact hgens x j (hkd _ h) hj
 generalize hcenv:({ scope:=relabel inner env,locals:=(sC.heap.push (z6f [] 0)).objs.size,globals:=env.globals,cells:=cellsFrom ((sC.heap.push (z6f [] 0)).objs.size+1) inner.names (y0b env inner.names []),qual:=env.qual,func:=none,code:=env.code,frame:=env.frame,builtins:=env.builtins }:Env)=cenv at O4 ⊢
 have hN:cenv.scope.names=z4s env.scope.names inner.names:=by rw [<- hcenv];exact z7i O.kind
 have hCloc:cenv.locals=(sC.heap.push (z6f [] 0)).objs.size:=by rw [<- hcenv]
 have hcells:cenv.cells=cellsFrom ((sC.heap.push (z6f [] 0)).objs.size+1) inner.names []++y0b env inner.names []:=by rw [<- hcenv,<- z1w]
 rw [<- hN] at hce hcs hifs
 have hok:∀ x,(inner.names.lookup x==some .local || inner.names.lookup x==some .cell)=true->Mine.storeable cenv (z3j (sC.heap.push (z6f [] 0)).objs.size inner.names) x:=by
  intro x hx
  rcases BX.mp hx with h | h
  ·refine .inl ?_
   show cenv.scope.names.lookup x=_
   rw [hN,z5o,BE.mp h]
   rfl
  ·obtain⟨c',hc'⟩:=z3r inner.names ((sC.heap.push (z6f [] 0)).objs.size+1) x (mem_of_lookup (BE.mp h))
   obtain⟨c'',hc''⟩:=z2g hc'
   refine .inr ⟨c'',?_,?_,?_⟩
   ·show cenv.scope.names.lookup x=_
    rw [hN,z5o,BE.mp h]
    rfl
   ·rw [hcells,z6q,hc''];rfl
   ·exact AD _ (AX.mpr ⟨(x,c''),mem_of_lookup hc'',rfl⟩)
 have hall:∀ (i:Nat) (c':Comprehension),(c::cs)[i]?=some c'->c'.is_async=0:=by
  intro i c' hi
  induction i using Nat.casesOn with
  | zero=>simp at hi;subst hi;simpa using has
  | succ i=>simp at hi;exact z9s hcs i c' hi
 have hDlt:sC.heap.objs.size<(sC.heap.push (z6f [] 0)).objs.size:=by rw [hsz3];exact DV _
 have hDo:sC.heap.objs.size∉z3j (sC.heap.push (z6f [] 0)).objs.size inner.names:=fun m=>EX _ (BW hDlt (z6a m))
 have hin:=x1l (D:=sC.heap.objs.size) (scope:=inner) (cpos:=cpos) T hE hT hA hok hce hall hDo rest cs 0 (L.up up Hb) rfl hcs (DF.mp hnd').2.1
 have hnb:∀ i,Z1 i≠some sC.heap.objs.size:=fun i e=>by obtain⟨o,ho⟩:=Rc.here e;rw [hn2] at ho;contradiction
 have acc0:z8a I sC.heap.objs.size [] gb Z1 (pushCells ((sC.heap.push (z6f [] 0)).push { cls:=.type "dict",data:=.dict #[] }) inner.names):=
  ⟨z6f [] 0,[],hk4 _ _ (AZ _ rfl),y9e [] 0,.nil,Rc.gfree hn2,hnb⟩
 have hk14:∀ b o,sB.heap.get? b=some o->(pushCells ((sC.heap.push (z6f [] 0)).push { cls:=.type "dict",data:=.dict #[] }) inner.names).get? b=some o:=fun b o e=>hk4 _ _ (hk3 _ _ (hk _ _ e))
 obtain⟨A7,fp,wr,Pi,Pt,St,rfl,W,st0,hval,hvalT,hfp,hwr⟩:=Fd
 have st4:St 0 (pushCells ((sC.heap.push (z6f [] 0)).push { cls:=.type "dict",data:=.dict #[] }) inner.names):=W.frame _ _ _ st0 fun b _ o e=>hk4 _ _ (hk3 _ _ e)
 have hlt2:∀ b,b∈fp->b<sC.heap.objs.size:=fun b hb=>by obtain⟨⟨o,ho⟩,_⟩:=hfp b hb;exact CO ho
 have hno:∀ b,b∈fp->b∉sC.heap.objs.size::z3j (sC.heap.push (z6f [] 0)).objs.size inner.names:=fun b hb m=>by
  rcases AR.mp m with m | m
  ·exact absurd m (DL (hlt2 b hb))
  ·exact EX _ (BP (BW (BP (hlt2 b hb) hDlt) (z6a m)) (DV _) |> fun _=>BW (BP (hlt2 b hb) hDlt) (z6a m))
 have hsep:∀ b,b∈wr->j4m (sC.heap.objs.size::z3j (sC.heap.push (z6f [] 0)).objs.size inner.names) cenv b:=fun b hb=>by
  have hbf:=W.sub b hb
  refine⟨by rw [hCloc];exact DL (BP (hlt2 b hbf) hDlt),fun x cc hx hc e=>?_,hno b hbf⟩
  rw [hcells,z6q] at hc
  induction hl:(cellsFrom ((sC.heap.push (z6f [] 0)).objs.size+1) inner.names []).lookup x using Option.casesOn with
  | some c1=>
   rw [hl] at hc;injection hc with hc;subst hc
   have:=(z3k _ _ _ _ (mem_of_lookup hl)).1
   rw [<- e] at this
   exact EX _ (BW (BP (hlt2 b hbf) hDlt) (DA this))
  | none=>
   rw [hl] at hc
   obtain⟨h1,h2⟩:=hclmem x cc (mem_of_lookup (by simpa using hc))
   obtain⟨c',ov,b1,b2,_⟩:=Ob.cells x (hfk x h1)
   rw [h2] at b1;injection b1 with b1;subst b1
   rw [<- e,(hwr b hb).2.2] at b2;contradiction
 have F0:y1e I (sC.heap.objs.size::z3j (sC.heap.push (z6f [] 0)).objs.size inner.names) (L.up up Hb) gb Z1 Hb items sB.heap fp wr Pi Pt St 0 (pushCells ((sC.heap.push (z6f [] 0)).push { cls:=.type "dict",data:=.dict #[] }) inner.names):=
  ⟨st4,hval,hvalT,fun b hb=>by obtain⟨⟨o,ho⟩,_,h2⟩:=hfp b hb;exact⟨⟨o,hk4 _ _ (hk3 _ _ ho)⟩,hno b hb,h2⟩,hwr⟩
 have freshS:∀ a,sC.heap.objs.size<=a->s.heap.get? a=none:=fun a ha=>by
  induction e:s.heap.get? a using Option.casesOn with
  | none=>rfl
  | some o=>
   obtain⟨o',h'⟩:=Gb.alive a o e
   exact absurd (CO (hk _ _ h')) (CH.mpr ha)
 rw [y5s] at h4
 rw [j5h eC]
 have loop:=y5r (L:=L.up up Hb) (s:={ sB with heap:=pushCells ((sC.heap.push (z6f [] 0)).push { cls:=.type "dict",data:=.dict #[] }) inner.names,toks:=sC.toks }) (sA:=sB) (pre:=[]) (Rr:=compPost (model prog w) A E use Q (.ref sC.heap.objs.size) cenv.locals) T hT hA hok hall hDo (d:=0) rfl hpat hifs hin (fun j hj=>q8c hj) hnd'
  Rb (z1e.keepAll hk14) (Rb.keepAll hk14) O4 acc0 (j5f hzt) W F0 hsep h4 (by simpa using hlen) fun g' Z' s' G R' O' hac=>by
   obtain⟨oD,vs,a1,a2,a3,a4,a5⟩:=hac
   obtain⟨m,hm,_⟩:=O'.ns
   have Gt:z1e [] L g Z H s g' Z' _ s':=((Gb.own_le (own2:=sC.heap.objs.size::z3j (sC.heap.push (z6f [] 0)).objs.size inner.names) (by simp)).trans R (z1e.unraise Rb G)).leave fun a ha=>.inl (by
    rcases AR.mp ha with h | h
    ·rw [h];exact freshS _ (AM _)
    ·exact freshS _ (BO (BW hDlt (z6a h))))
   have hCD:cenv.locals≠sC.heap.objs.size:=by rw [hCloc];exact EH hDlt
   refine k sC.heap.objs.size cenv.locals _ Z' s' m (by rw [hCloc];exact freshS _ (BO hDlt)) (Gt.freeze (o:=oD) (freshS _ (AM _)) a4) (R'.freeze a1 a4 a5) (.lst (z2f ..) a2 ?_ (by simpa using a3.mono (z2v a4) fun _ _ e=>e)) hm ?_ O'.lb
   ·rw [a3.length];simpa using hlen
   ·unfold y3y;rw [AS hCD];exact O'.lg
 rw [hCloc] at loop
 exact z5b (d:=0) rfl (hall 0 c rfl) loop (W.self 0 _ _ _ st4 loop)
end
section
variable {I:z2w} {own own':List Addr} {L L':Lim} {w:World} {g g0 gb gC g':Fz} {Z Z0 Z1 Z2 Z':Bt} {H H0 Hb H2 H':z0b} {s sA sB sC s':Shared} {env:Env} {Y Y0 Y':z0n} {A:Around} {prog:Program} {lv n:Nat} {S:z6z} {C:z0h} {p q r:PV} {D:Addr}
theorem y7u{c:Comprehension}{cs:List Comprehension}(h:c.is_async=0):firstAsync (c::cs)=false/\firstIter (c::cs) env=eval c.iter env:=by
 obtain⟨t,i,f,a⟩:=c
 dsimp only at h
 subst h
 exact⟨rfl,rfl⟩
theorem z9t{sc sc':Sc}{ok:Str->Bool}{c:Comprehension}{cs:List Comprehension}{gs:List (Pat×z6g×List ME×List ME)}(h:q1t I.t (z0o I.t n) (z6l I.t n) sc sc' ok (c::cs) gs=true):c.is_async=0:=by
 induction gs using List.casesOn with
 | nil=>contradiction
 | cons gn gs=>
  obtain⟨h12,_⟩:=z0v h
  exact BI (z5t (z0v h12).1).2.1
theorem x6b{C:Addr}{h':Heap}(G:z1e own L g Z H s gb Z1 Hb sB)(R:SR I w.params gb Z1 Hb sB.heap)(hC:s.heap.get? C=none)(hg:gb C=none)(hb:∀ i,Z1 i≠some C)(hs:Heap.SameBut C sB.heap h') :
  z1e own L g Z H s gb Z1 Hb { sB with heap:=h' }/\SR I w.params gb Z1 Hb h':=by
 have hk:∀ a o,¬ a=C->sB.heap.get? a=some o->h'.get? a=some o:=fun a o hne e=>(hs.2 a hne).trans e
 refine⟨{ G with
  kept:=fun a o h n f=>hk a o (fun e=>by rw [e,hC] at h;contradiction) (G.kept a o h n f)
  alive:=fun a o h=>by
   obtain⟨o',h1⟩:=G.alive a o h
   exact⟨o',hk a o' (fun e=>by rw [e,hC] at h;contradiction) h1⟩
  rest:=by rw [G.rest] },R.off_ (fun a=>a=C) (fun a e=>e▸hg) (fun a i e=>e▸hb i) hk⟩
theorem x8z{elt:ME}{elt':Expr}{cs:List Comprehension}{inner:Scope}{cpos:Pos}{gs:List (Pat×z6g×List ME×List ME)}
 (T:z0r I)(hE:z4q I prog w lv S.ev)(hT:q0w I prog w lv S.ts)(hA:AOk A lv)(R:SR I w.params g Z H s.heap)(O:z0j I own env Y g Z s.heap)
 (hblk:y0z I.t env.scope.names inner gs=true)(hcomp:q1t I.t (z0o I.t n) (z6l I.t n) env.scope.names (z4s env.scope.names inner.names) (fun x=>inner.names.lookup x==some .local || inner.names.lookup x==some .cell) cs gs=true)
 (hce:z0o I.t n (z4s env.scope.names inner.names) elt' elt=true)(h:z1g I.P C S Y (.comp elt gs) L H=some (p,H')) :
  Go I prog w A [] L g Z H (eval (.ListComp elt' cs inner cpos) env) H' (P.val I p) s:=by
 obtain⟨out,Hb,h1,h2⟩:=M.bind_some h
 obtain⟨rfl,rfl⟩:=M.pure_some (L:=L) h2
 induction cs using List.casesOn with
 | nil=>contradiction
 | cons c cs=>
  obtain⟨a1,a2⟩:=y7u (env:=env) (cs:=cs) (z9t hcomp)
  intro Q E q
  rw [eval_ListComp,a1,a2]
  refine y5t T hE hT hA R O hblk hcomp hce h1 fun D C g' Z' s' m hC G R' hr hm hg hb=>?_
  refine⟨m,hm,fun h' hs=>?_⟩
  obtain⟨G2,R2⟩:=x6b G R' hC hg hb hs
  exact q _ g' Z' _ G2 R2 hr
theorem y9u{elt:ME}{elt' t:Expr}{pt:Pat}{cs:List Comprehension}{inner:Scope}{cpos pos:Pos}{gs:List (Pat×z6g×List ME×List ME)}{fl:Fl}
 (T:z0r I)(hS:∀ {L H q H2},S.ev Y (.comp elt gs) L H=some (q,H2)->∃ out,q=.lst out/\∃ S':z6z,z4q I prog w lv S'.ev/\q0w I prog w lv S'.ts/\y0m S' elt Y gs L H=some (out,H2))(hA:AOk A lv)(R:SR I w.params g Z H s.heap)(O:z0j I own env Y g Z s.heap)
 (hsto:∀ x,z1m env.scope.names x=true->Mine.storeable env own x)(hsw:z3q env.scope.names (.ListComp elt' cs inner cpos) t=true)
 (hp:z5x I.t (z1m env.scope.names) t pt=true)
 (hblk:y0z I.t env.scope.names inner gs=true)(hcomp:q1t I.t (z0o I.t n) (z6l I.t n) env.scope.names (z4s env.scope.names inner.names) (fun x=>inner.names.lookup x==some .local || inner.names.lookup x==some .cell) cs gs=true)
 (hce:z0o I.t n (z4s env.scope.names inner.names) elt' elt=true)(h:z4h I.P C S Y (.assign pt (.comp elt gs)) L H=some (fl,H')) :
  Go I prog w A own L g Z H (exec (.Assign [t] (.ListComp elt' cs inner cpos) pos) env) H' (z4k I own env fl) s:=by
 obtain⟨v,Hb,h1,h2⟩:=M.bind_some h
 obtain⟨Yb,H2,h3,h4⟩:=M.bind_some h2
 obtain⟨hb,rfl⟩:=M.ofOpt_some h3
 obtain⟨rfl,rfl⟩:=M.pure_some (L:=L) h4
 obtain⟨out,rfl,S',hE,hT,hcm⟩:=hS h1
 induction cs using List.casesOn with
 | nil=>contradiction
 | cons c cs=>
  obtain⟨a1,a2⟩:=y7u (env:=env) (cs:=cs) (z9t hcomp)
  have hst:z8l t=false:=q1u hp
  intro Q E q
  have e2:(assignEach [t] env).map (·.2)=[assign t env]:=by cases t<;>first | rfl | contradiction
  have ee:exec (.Assign [t] (.ListComp elt' (c::cs) inner cpos) pos) env=(do
    PySem.standAt pos
    if<-swapsWithSole [t] (.ListComp elt' (c::cs) inner cpos) pos.line env then do
     evalThenUse (.ListComp elt' (c::cs) inner cpos) env fun v=>assignAll v ((assignEach [t] env).map (·.2))
     pure .next
    else do
     let v<-eval (.ListComp elt' (c::cs) inner cpos) env
     assignStores env v (<- swappedStores [t] (.ListComp elt' (c::cs) inner cpos) env) ((assignEach [t] env).map (·.2))):=rfl
  rw [ee,e2]
  refine AB (BT (AB (m:=swapsWith (.ListComp elt' (c::cs) inner cpos) (some t) pos.line env) ?_))
  rw [y3g O.kind rfl,hsw]
  refine AG ?_
  rw [AQ rfl,arm_evalThenUse_ListComp,a1,a2]
  refine AB (AB ?_)
  refine y5t (Q:=fun _ s'=>wpAny (model prog w) A (pure ()) (fun _ s''=>wpAny (model prog w) A (pure Flow.next) Q E s'') E s') T hE hT hA R O hblk hcomp hce hcm fun D C g' Z' s' m hC G R' hr hm hg hbb=>?_
  show wpAny (model prog w) A (assign t env (.ref D)) _ E s'
  have O':=O.step G
  refine y0v (L:=L) T.nd hsto hA hp R' O' hr hb _ _ fun _ gC Z2 sC Gc Rc pC=>?_
  obtain⟨mm,es,ep,hC1,hC2⟩:=id hm
  have hCown:C∉own:=fun mm'=>by
   obtain⟨_,_,o,ho⟩:=O.ownz C mm'
   rw [hC] at ho;contradiction
  have keepC:sC.heap.get? C=some mm:=Gc.kept C mm hC1 hCown (z1o hbb)
  have hg2:gC C=none:=by rw [Gc.gold C mm hC1];exact hg
  have hb2:∀ i,Z2 i≠some C:=fun i e=>by
   induction q':Z' i using Option.casesOn with
   | none=>have:=Gc.bnew i _ q' e;rw [hC1] at this;contradiction
   | some b=>rw [Gc.ble i b q'] at e;injection e with e;subst e;exact hbb i q'
  refine⟨m,⟨mm,es,ep,keepC,hC2⟩,fun h' hs=>AG (AG ?_)⟩
  obtain⟨G3,R3⟩:=x6b ((G.own_le (own2:=own) (by simp)).trans R Gc) Rc hC hg2 hb2 hs
  refine q .next gC Z2 _ G3 R3 ⟨rfl,?_⟩
  exact pC.1.touch (fun a=>a=C) (fun a e=>by
   subst e
   exact(O.apart_of hC)) fun a o hne e=>(hs.2 a hne).trans e
end
section
variable {I:z2w} {w:World} {prog:Program} {lv:Nat} {S:z6z} {C:z0h}
theorem j1f{r:Option (Option (List Str))}{p:Pat}(h:x5y r p=true):r=some none\/∃ l,r=some (some l)/\y4h p=true:=by
 match r,h with
 | some none,_=>exact .inl rfl
 | some (some l),h=>exact .inr ⟨l,rfl,h⟩
theorem q5p{x:ME}(h:j3s x=true):∃ elt gs,x=.comp elt gs:=ME.comp.elim (motive_1:=fun x=>∃ elt gs,x=.comp elt gs) x (BI h) fun elt gs=>⟨elt,gs,rfl⟩
theorem k5i{G:Stmt->Prop}{e:Stmt}(h:(e.ctorIdx==26)=true)(f:∀ p,G (.Break p)):G e:=Stmt.Break.elim (motive_2:=G) e (BI h) f
theorem z9e{G:Expr->Prop}{e:Expr}{k:Expr->List Expr->Pos->Bool}(h:z9r e k=true)(f:∀ g es p,k g es p=true->G (.Call g es [] p)):G e:=by
 obtain⟨g,es,p,rfl,hk⟩:=y2f h
 exact f g es p hk
theorem y1g{G:Expr->Prop}{e:Expr}{k:Expr->Str->List Expr->List Keyword->Bool}(h:y3c e k=true)(f:∀ o x ap es ks cp,(ap.endLine==cp.line)=true->z1h o=false->k o x es ks=true->G (.Call (.Attribute o x ap) es ks cp)):G e:=by
 obtain⟨o,x,ap,es,ks,cp,rfl,a,b,c⟩:=y7q h
 exact f o x ap es ks cp a b c
theorem q2o{G:List ME->Prop}{l:List ME}{k:ME->List ME->Bool}(h:q5e l k=true)(f:∀ o r,k o r=true->G (o::r)):G l:=by
 induction l using List.casesOn with
 | nil=>contradiction
 | cons o r=>exact f o r h
theorem y2h{V A8:Type}{A:Around}{own:List Addr}{L L':Lim}{g:Fz}{Z:Bt}{H H':z0b}{s:Shared}{t:Sem A8}{v r:V}{Post:V->Fz->Bt->Shared->A8->Prop}(h:M.pure v L' H=some (r,H'))(k:Go I prog w A own L g Z H t H (Post v) s):Go I prog w A own L g Z H t H' (Post r) s:=by
 obtain⟨rfl,rfl⟩:=M.pure_some h
 exact k
theorem upG{V:Type}{F:V->Prop}{a:V}(h:∀ G:V->Prop,(∀ x,F x->G x)->G a):F a:=h F fun _ h=>h
theorem j1g{pr:q7h}{args:List ME}{e:Expr}{own:List Addr}{env:Env}{Y:z0n}{A:Around}{L:Lim}{g:Fz}{Z:Bt}{H H':z0b}{s:Shared}{p:PV}{n:Nat}(T:z0r I)(W:q1z I prog w)(hE:z4q I prog w lv S.ev)(hA:AOk A lv)(R:SR I w.params g Z H s.heap)(O:z0j I own env Y g Z s.heap)
 (hc:y9j I.t (z0o I.t n env.scope.names) env.scope.names e pr args=true)(h:z1g I.P C S Y (.prim pr args) L H=some (p,H')):Go I prog w A [] L g Z H (eval e env) H' (P.val I p) s:=by
 refine upG (F:=fun e=>Go I prog w A [] L g Z H (eval e env) H' (P.val I p) s) fun G up=>?_
 unfold y9j at hc
 induction hfn:q1s pr using Option.casesOn with
 | some v=>
  rw [hfn] at hc
  exact z9e hc fun f es cp hk=>up _ (j4g T hE hA R O hfn (z4d hk).1 (z4d hk).2.2 h)
 | none=>
  rw [hfn] at hc
  induction hm:y4e pr using Option.casesOn with
  | some nmx=>
   rw [hm] at hc
   refine q2o (G:=fun l=>z1g I.P C S Y (.prim pr l) L H=some (p,H')->G e) hc (fun o r hk1 h=>?_) h
   exact y1g hk1 fun o' x ap es ks cp hl hs hk2=>k2w (G:=fun ks=>G (.Call (.Attribute o' x ap) es ks cp)) (z5i hk2).1 (up _ (q5i T hE hA R O hm (BI (z5i hk2).2.1) hs hl (AK (z5i hk2).2.2.1) (z5i hk2).2.2.2.1 (z5i hk2).2.2.2.2 h))
  | none=>
   rw [hm] at hc
   cases pr with
   | flagGet=>
    exact j3a hc fun f es ks cp hk1=>y5c (G:=fun f=>G (.Call f es ks cp)) hk1 fun d x ap hk2=>k2w (G:=fun ks=>G (.Call (.Attribute d x ap) es ks cp)) (z5i (z0v hk2).1).2.1
     (up _ (j0s T W hE hA R O (BI (z5i (z0v hk2).1).2.2.1) (z5i (z0v hk2).1).2.2.2.1 (z5i (z0v hk2).1).1 (BI (z5i (z0v hk2).1).2.2.2.2) (z0v hk2).2 h))
   | search=>
    refine q2o (G:=fun l=>z1g I.P C S Y (.prim .search l) L H=some (p,H')->G e) hc (fun o r hk1 h=>?_) h
    exact y1g hk1 fun o' x ap es ks cp hl hs hk2=>k2w (G:=fun ks=>G (.Call (.Attribute o' x ap) es ks cp)) (z5i hk2).1 (up _ (j4h T W hE hA R O (BI (z5i hk2).2.1) hs hl (BI (z5i hk2).2.2.1▸by decide) (z5i hk2).2.2.2.1 (z5i hk2).2.2.2.2 h))
   | lenSet=>
    exact z9e hc fun f es cp hk1=>q4u (G:=fun es=>G (.Call f es [] cp)) hk1 fun a hk2=>k3m (G:=fun a=>G (.Call f [a] [] cp)) hk2 fun es n' ps hk3=>y1w (G:=fun n'=>G (.Call f [.Set es n' ps] [] cp)) (z5i hk3).1
     (up _ (j4l T hE hA R O (z5i hk3).2.1 (BI (z5i hk3).2.2.1) (z5i hk3).2.2.2.1 (z5i hk3).2.2.2.2 h))
   | _=>contradiction
theorem j5i(T:z0r I)(W:q1z I prog w)(hC:j0o I prog w lv C)(hE:z4q I prog w lv S.ev)(hT:q0w I prog w lv S.ts):z4q I prog w lv (z1g I.P C S):=by
 intro n own env Y A L g Z H s e m p H' hA R O hc h
 induction n using Nat.casesOn with
 | zero=>contradiction
 | succ n=>
 have hd:q7s I.t (z0o I.t n) (z6l I.t n) env.scope.names e m=true:=(z0v (show(!z8l e&&q7s I.t (z0o I.t n) (z6l I.t n) env.scope.names e m)=true from hc)).2
 clear hc
 refine upG (F:=fun e=>Go I prog w A [] L g Z H (eval e env) H' (P.val I p) s) fun G up=>?_
 cases m with
 | none=>exact q1c hd fun c k pos hk=>y1w (G:=fun c=>G (.Constant c k pos)) hk (up _ (y2h (Post:=P.val I) (v:=PV.none) (L':=L) h (Go.same R fun Q E q=>wpAny_Constant_none (q _ .none))))
 | bool b=>exact q1c hd fun c k pos hk=>y1w (G:=fun c=>G (.Constant c k pos)) hk (up _ (y2h (Post:=P.val I) (v:=PV.bool b) (L':=L) h (Go.same R fun Q E q=>wpAny_Constant_bool (q _ (.bool _)))))
 | int i=>exact q1c hd fun c k pos hk=>y1w (G:=fun c=>G (.Constant c k pos)) hk (up _ (y2h (Post:=P.val I) (v:=PV.int i) (L':=L) h (Go.tok R fun Q E q=>wpAny_Constant_int (q _ _ (.int _ _)))))
 | str x=>exact q1c hd fun c k pos hk=>y1w (G:=fun c=>G (.Constant c k pos)) hk (up _ (y2h (Post:=P.val I) (v:=PV.str x) (L':=L) h (Go.tok R fun Q E q=>wpAny_Constant_str (q _ _ (.str _ _)))))
 | dbg=>exact y1y hd fun x pos hk=>up _ (y2h (Post:=P.val I) (v:=PV.bool true) (L':=L) h (k4q R hk))
 | var k=>
  refine y1y hd fun x pos hk=>up _ ?_
  obtain⟨hv,rfl⟩:=M.ofOpt_some (L:=L) h
  have v:=y7o (z0v hk).2
  exact k3u R O (BI (z0v hk).1) hv v.1 v.2.1 v.2.2
 | neg a=>exact k3l hd fun o a' pos hk=>y1w (G:=fun o=>G (.UnaryOp o a' pos)) (z0v hk).1 (up _ (k4r hE hA R O (z0v hk).2 h))
 | bin o a b=>exact x5q hd fun a' o' b' pos hk=>y1w (G:=fun o'=>G (.BinOp a' o' b' pos)) (z4d hk).1 (up _ (k4s hE hA R O (z4d hk).2.1 (z4d hk).2.2 h))
 | cmp o a b=>exact j2z hd fun a' os bs pos hk1=>q4u (G:=fun os=>G (.Compare a' os bs pos)) hk1 fun o' hk2=>q4u (G:=fun bs=>G (.Compare a' [o'] bs pos)) hk2 fun b' hk=>y1w (G:=fun o'=>G (.Compare a' [o'] [b'] pos)) (z5t hk).1 (up _ (k4x T hC hE hA R O (q0v (z5t hk).2.1) (z5t hk).2.2.1 (z5t hk).2.2.2 h))
 | isNone ng a=>exact j2z hd fun a' os bs pos hk1=>q4u (G:=fun os=>G (.Compare a' os bs pos)) hk1 fun o' hk2=>q4u (G:=fun bs=>G (.Compare a' [o'] bs pos)) hk2 fun b' hk=>y1w (G:=fun o'=>G (.Compare a' [o'] [b'] pos)) (z4d hk).1 (q1c (G:=fun b'=>G (.Compare a' [_] [b'] pos)) (z4d hk).2.1 fun c k pos' hk4=>y1w (G:=fun c=>G (.Compare a' [_] [.Constant c k pos'] pos)) hk4 (up _ (j3x hE hA R O (z4d hk).2.2 h)))
 | isTy ng t a=>exact j2z hd fun l os bs pos hk1=>q4u (G:=fun os=>G (.Compare l os bs pos)) hk1 fun o' hk2=>q4u (G:=fun bs=>G (.Compare l [o'] bs pos)) hk2 fun ty hk3=>z9e (G:=fun l=>G (.Compare l [o'] [ty] pos)) hk3 fun f es cp hk4=>q4u (G:=fun es=>G (.Compare (.Call f es [] cp) [o'] [ty] pos)) hk4 fun a' hk=>y1w (G:=fun o'=>G (.Compare (.Call f [a'] [] cp) [o'] [ty] pos)) (z5t hk).1 (up _ (x8l T hE hA R O (z5t hk).2.1 (z5t hk).2.2.1 (z5t hk).2.2.2 h))
 | ite c a b=>exact w2e hd fun c' a' b' pos hk=>up _ (k4t hE hT hA R O (z4d hk).1 (z4d hk).2.1 (z4d hk).2.2 h)
 | idx a i=>exact y7h hd fun a' i' pos hk=>up _ (k4z T hC hE hA R O (q0v (z4d hk).1) (z4d hk).2.1 (z4d hk).2.2 h)
 | slice a lo hi=>exact y7h hd fun a' i' pos hk1=>y9d (G:=fun i'=>G (.Subscript a' i' pos)) hk1 fun lo' hi' st pos' hk=>z7c (G:=fun st=>G (.Subscript a' (.Slice lo' hi' st pos') pos)) (z5t hk).1 (up _ (x0y hE hA R O (z5t hk).2.1 (z5t hk).2.2.1 (z5t hk).2.2.2 h))
 | tup l=>exact x5r hd fun es k pos hk=>up _ (k4u hE hA R O (z0v hk).2 (AK (z0v hk).1) h)
 | lst l=>exact j3c hd fun es pos hk=>up _ (k4v hE hA R O (z0v hk).2 (AK (z0v hk).1) h)
 | mlst l=>exact j3c hd fun es pos hk=>up _ (x8i hE hA R O (z0v hk).2 (AK (z0v hk).1) h)
 | mcat a b=>exact x5q hd fun a' o' b' pos hk=>y1w (G:=fun o'=>G (.BinOp a' o' b' pos)) (z4d hk).1 (up _ (x8h hE hA R O (z4d hk).2.1 (z4d hk).2.2 h))
 | mslice a=>exact y7h hd fun a' i' pos hk1=>y9d (G:=fun i'=>G (.Subscript a' i' pos)) hk1 fun lo' hi' st pos' hk=>z7c (G:=fun lo'=>G (.Subscript a' (.Slice lo' hi' st pos') pos)) (z5t hk).1 (z7c (G:=fun hi'=>G (.Subscript a' (.Slice _ hi' st pos') pos)) (z5t hk).2.1 (z7c (G:=fun st=>G (.Subscript a' (.Slice _ _ st pos') pos)) (z5t hk).2.2.1 (up _ (j4f hE hA R O (z5t hk).2.2.2 h))))
 | «pure» a=>exact up _ (x8o R h fun q Hb hq=>hE hA R O (show z0o I.t n env.scope.names e a=true from hd) hq)
 | gc a=>exact up _ (w2i R h fun q Hb hq=>hE hA R O (show z0o I.t n env.scope.names e a=true from hd) hq)
 | comp elt gs=>exact j2x hd fun elt' cs inner pos hk=>up _ (x8z T hE hT hA R O (z4d hk).1 (z4d hk).2.1 (z4d hk).2.2 h)
 | call f args=>exact z9e hd fun fe es cp hk=>up _ (x8m T hC hE hA R O (z5t hk).1 (z5t hk).2.1 (z5t hk).2.2.2 h)
 | new c args=>exact z9e hd fun fe es cp hk=>up _ (k5c T hC hE hA R O (z4d hk).1 (z4d hk).2.2 h)
 | newg c args=>exact z9e hd fun fe es cp hk=>up _ (x8t T hC hE hA R O (z4d hk).1 (z4d hk).2.2 h)
 | meth k o args=>exact y1g hd fun o' x ap es ks cp hl hs hk=>k2w (G:=fun ks=>G (.Call (.Attribute o' x ap) es ks cp)) (z5i hk).1 (up _ (x8n T hC hE hA R O (BI (z5i hk).2.1) hs hl (AK (z5i hk).2.2.1) (z5i hk).2.2.2.1 (z5i hk).2.2.2.2 h))
 | methk k o args kk ke=>
  refine y1g hd fun o' x ap es ks cp hl hs hk1=>q4u (G:=fun ks=>G (.Call (.Attribute o' x ap) es ks cp)) hk1 fun kw hk2=>?_
  obtain⟨ka,kv,kp⟩:=kw
  exact w6c (G:=fun ka=>G (.Call (.Attribute o' x ap) es [⟨ka,kv,kp⟩] cp)) hk2 fun kn hk=>up _ (x1a T hC hE hA R O (BI (z5t (z4d hk).1).1) hs hl (AK (z5t (z4d hk).1).2.1) (z5t (z4d hk).1).2.2.1 (z5t (z4d hk).1).2.2.2 (BI (z4d hk).2.1) (z4d hk).2.2 h)
 | attr k o=>exact y5c hd fun o' x ap hk=>up _ (j3y T hE hA R O (BI (z5t hk).1) (z5t hk).2.1 (q0v (z5t hk).2.2.1) (z5t hk).2.2.2 h)
 | gattr k=>exact y5c hd fun o' x ap hk1=>y1y (G:=fun o'=>G (.Attribute o' x ap)) hk1 fun c pos hk=>up _ (x0w T R O (z0v hk).1 (BI (z0v hk).2) h)
 | pat b=>exact y1y hd fun x pos hk=>up _ (k5a T R O hk h)
 | prim pr args=>exact up _ (j1g T W hE hA R O hd h)
 | notE=>contradiction
 | andE=>contradiction
 | orE=>contradiction
 | stuck=>contradiction
noncomputable def w6n(I:z2w)(prog:Program)(w:World)(lv:Nat)(S:z6z):Prop:=
 ∀ {Y:z0n} {elt:ME} {gs:List (Pat×z6g×List ME×List ME)} {L:Lim} {H:z0b} {q:PV} {H2:z0b},S.ev Y (.comp elt gs) L H=some (q,H2)->∃ out,q=.lst out/\∃ S':z6z,z4q I prog w lv S'.ev/\q0w I prog w lv S'.ts/\y0m S' elt Y gs L H=some (out,H2)
theorem j5j(T:z0r I)(hC:j0o I prog w lv C)(hE:z4q I prog w lv S.ev)(hT:q0w I prog w lv S.ts)(hX:j9w I prog w lv S.ex)(hS:w6n I prog w lv S):j9w I prog w lv (z4h I.P C S):=by
 intro n own env Y A L g Z H s e m fl H' hA R O hsto hc h
 induction n using Nat.casesOn with
 | zero=>contradiction
 | succ n=>
 refine upG (F:=fun e=>Go I prog w A own L g Z H (exec e env) H' (z4k I own env fl) s) fun G up=>?_
 cases m with
 | ret x=>
  refine k3o hc fun v pos hk1=>w6c (G:=fun v=>G (.Return v pos)) hk1 fun e' hk=>up _ ?_
  obtain⟨v,Hb,h1,h2⟩:=M.bind_some h
  clear h
  obtain⟨rfl,rfl⟩:=M.pure_some (L:=L) h2
  intro Q E q
  exact wpAny_Return_some (hE hA R O hk h1 _ _ fun u gb Z1 sB Gb Rb pB=>q _ gb Z1 sB (Gb.own_le (by simp)) Rb ⟨u,rfl,pB⟩)
 | expr x=>
  refine j3d hc fun e' pos hk=>up _ ?_
  obtain⟨v,Hb,h1,h2⟩:=M.bind_some h
  clear h
  obtain⟨rfl,rfl⟩:=M.pure_some (L:=L) h2
  intro Q E q
  exact wpAny_Expr_any (hE hA R O (z0v hk).2 h1 _ _ fun u gb Z1 sB Gb Rb pB=>q _ gb Z1 sB (Gb.own_le (by simp)) Rb ⟨rfl,O.step Gb⟩) (q2h O.kind) (q5l (q0v (z0v hk).1))
 | assign pt x=>
  refine q1e hc fun l e' pos hk1=>q4u (G:=fun l=>G (.Assign l e' pos)) hk1 fun t hk=>up _ ?_
  clear up hc hk1
  have c:=z5i hk
  clear hk
  induction hsw:z3q env.scope.names e' t using Bool.casesOn with
  | false=>
   rcases j1f c.2.2.2.2 with hsp | ⟨l,hsp,hnd⟩
   ·exact j5c T hE hA R O hsto (q0v c.2.2.1) hsw hsp c.1 c.2.1 h
   ·exact x8x T hE hA R O hsto (q0v c.2.2.1) hsw hsp hnd c.1 c.2.1 h
  | true=>
   have c4:=c.2.2.2.1
   rw [hsw] at c4
   obtain⟨elt,gs,rfl⟩:=q5p c4
   induction n using Nat.casesOn with
   | zero=>cases c.2.1
   | succ n=>
   obtain⟨elt',cs,inner,pos,rfl,hkc⟩:=j2y (z0v (show(!z8l e'&&q7s I.t (z0o I.t n) (z6l I.t n) env.scope.names e' (.comp elt gs))=true from c.2.1)).2
   exact y9u T (fun hq=>hS hq) hA R O hsto hsw c.1 (z4d hkc).1 (z4d hkc).2.1 (z4d hkc).2.2 h
 | assigns ks x=>
  refine q1e hc fun l e' pos hk=>up _ ?_
  match l,AK (z4d hk).1,(z4d hk).2.1 with
  | t1::t2::ts,_,c2=>exact j1b T hE hA R O hsto c2 (z4d hk).2.2 h
 | aug o k x=>exact k3q hc fun t o' e' pos hk1=>y1y (G:=fun t=>G (.AugAssign t o' e' pos)) hk1 fun y pos' hk=>y1w (G:=fun o'=>G (.AugAssign (.Name y pos') o' e' pos)) (z5i hk).1 (up _ (k5e T hE hA R O hsto (BI (z5i hk).2.1) (z5i hk).2.2.1 (z5i hk).2.2.2.1 (z5i hk).2.2.2.2 h))
 | setAttr o k x=>exact q1e hc fun l e' pos hk1=>q4u (G:=fun l=>G (.Assign l e' pos)) hk1 fun t hk2=>y5c (G:=fun t=>G (.Assign [t] e' pos)) hk2 fun o' y pos' hk=>up _ (j1a T hE hA R O (q0v (z5i hk).1) (BI (z5i hk).2.1) (z5i hk).2.2.1 (z5i hk).2.2.2.1 (z5i hk).2.2.2.2 h)
 | setIdx o i x=>exact q1e hc fun l e' pos hk1=>q4u (G:=fun l=>G (.Assign l e' pos)) hk1 fun t hk2=>y7h (G:=fun t=>G (.Assign [t] e' pos)) hk2 fun o' i' pos' hk=>up _ (j4w T hC hE hA R O (q0v (z5i hk).2.1) (q0v (z5i hk).1) (z5i hk).2.2.1 (z5i hk).2.2.2.1 (z5i hk).2.2.2.2 h)
 | setAll o x=>exact q1e hc fun l e' pos hk1=>q4u (G:=fun l=>G (.Assign l e' pos)) hk1 fun t hk2=>y7h (G:=fun t=>G (.Assign [t] e' pos)) hk2 fun o' i' pos' hk3=>y9d (G:=fun i'=>G (.Assign [.Subscript o' i' pos'] e' pos)) hk3 fun a b c pos2 hk=> z7c (G:=fun a=>G (.Assign [.Subscript o' (.Slice a b c pos2) pos'] e' pos)) (z4d (z5t hk).1).1 (z7c (G:=fun b=>G (.Assign [.Subscript o' (.Slice _ b c pos2) pos'] e' pos)) (z4d (z5t hk).1).2.1 (z7c (G:=fun c=>G (.Assign [.Subscript o' (.Slice _ _ c pos2) pos'] e' pos)) (z4d (z5t hk).1).2.2 (up _ (j4z T hE hA R O (q0v (z5t hk).2.1) (z5t hk).2.2.1 (z5t hk).2.2.2 h))))
 | delIdx o i=>exact k3p hc fun l pos hk1=>q4u (G:=fun l=>G (.Delete l pos)) hk1 fun t hk2=>y7h (G:=fun t=>G (.Delete [t] pos)) hk2 fun o' i' pos' hk=>up _ (j4x T hC hE hA R O (z4d hk).2.1 (z4d hk).2.2 h)
 | append o x=>exact j3d hc fun v pos hk1=>y1g (G:=fun v=>G (.Expr v pos)) hk1 fun o' y ap es ks cp hl hs hk2=>k2w (G:=fun ks=>G (.Expr (.Call (.Attribute o' y ap) es ks cp) pos)) (z0v hk2).1 (q4u (G:=fun es=>G (.Expr (.Call (.Attribute o' y ap) es [] cp) pos)) (z0v hk2).2 fun e' hk=>up _ (j5a T hE hA R O (BI (z4d hk).1) hs hl (z4d hk).2.1 (z4d hk).2.2 h))
 | ifs c a b=>exact w2f hc fun t a' b' pos hk=>up _ (k5f hT hX hA R O hsto (z4d hk).1 (z4d hk).2.1 (z4d hk).2.2 h)
 | for_ p k src body orelse=>exact k3r hc fun t it b' o' pos hk=>up _ (k5g T hE hX hA R O hsto (z5i hk).1 (z5i hk).2.1 (z5i hk).2.2.1 (z5i hk).2.2.2.1 (q0v (z5i hk).2.2.2.2) h)
 | while_ c body=>exact x0e hc fun t b' o' pos hk=>k2w (G:=fun o'=>G (.While t b' o' pos)) (z4d hk).1 (up _ (x1j hT hX hA R O hsto (z4d hk).2.1 (z4d hk).2.2 h))
 | brk=>exact k5i hc fun pos=>up _ (y2h (Post:=z4k I own env) (v:=Fl.brk Y) (L':=L) h fun Q E q=>wpAny_Break (q _ g Z s .refl R ⟨rfl,O⟩))
 | stuck=>contradiction
theorem x6c(T:z0r I)(W:q1z I prog w)(hC:j0o I prog w lv C):∀ n,z4q I prog w lv (sem I.P C n).ev/\q0w I prog w lv (sem I.P C n).ts/\j9w I prog w lv (sem I.P C n).ex/\w6n I prog w lv (sem I.P C n)
 | 0=>⟨fun _ _ _ _ h=>(by contradiction),fun _ _ _ _ h=>(by contradiction),fun _ _ _ _ _ h=>(by contradiction),fun h=>(by contradiction)⟩
 | n+1=>by
  obtain⟨h1,h2,h3,h4⟩:=x6c T W hC n
  refine⟨j5i T W hC h1 h2,j4v h1 h2,j5j T hC h1 h2 h3 h4,fun h=>?_⟩
  obtain⟨out,Hb,h5,h6⟩:=M.bind_some h
  obtain⟨rfl,rfl⟩:=M.pure_some h6
  exact⟨out,rfl,_,h1,h2,h5⟩
end
noncomputable def z9u(Y:z0n):List (Nat×PV)->z0n
 | []=>Y
 | (k,p)::r=>z9u (upd Y k p) r
noncomputable def y7v(I:z2w)(prog:Program)(w:World)(F:z4x)(fd:FuncData):Prop:=
 ∀ {A L g Z H s pos kw vs kvs Y},SR I w.params g Z H s.heap->z0e I g Z vs pos->y6y I g Z kvs kw->q4t F pos kw=some Y ->
  Go I prog w A [] L g Z H (bindArgs fd ⟨vs,kvs⟩) H (fun g' Z' _ binds=>∃ l,y6y I g' Z' binds l/\Y=z9u (fun _=>none) l/\∀ x,x∈binds->z1m fd.scope.names x.1=true) s
noncomputable def j5k(names:List (Str×NameKind)):Bool:=names.all fun nk=>names.lookup nk.1==some nk.2&&!(nk.2==.free)
structure w6o(K:Frag)(fd:FuncData):Prop where
 co:fd.scope.isCoroutine=false
 gen:fd.scope.isGenerator=false
 kind:fd.scope.kind=.function
 glob:fd.globals=mainGlobals
 bi:fd.builtins=builtinsNs
 clo:fd.closure=[]
 code:kdsCode K fd.code=true
 sc:j5k fd.scope.names=true
inductive FnS(I:z2w)(prog:Program)(w:World)(a:Addr)(F:z4x):Prop
 | mk (o:Obj) (fd:FuncData) (body:List Stmt) (n:Nat) (ho:I.B.get? a=some o) (hd:o.data=.func fd) (hb:fd.body=.stmts body) (hc:I.B.CodeRec fd.code fd.qualname) (ok:w6o I.K fd) (cs:z2k (y1a I.t n fd.scope.names) body F.body=true) (bd:y7v I prog w F fd)
structure x9a(I:z2w)(prog:Program)(w:World):Prop where
 nolim:I.B.NoLimit
 fns:∀ f F,I.P.fn f=some F->FnS I prog w (I.fA f) F
section
variable {I:z2w} {own own':List Addr} {L L':Lim} {w:World} {g g0 gb gC g':Fz} {Z Z0 Z1 Z2 Z':Bt} {H H0 Hb H2 H':z0b} {s sA sB sC s':Shared} {env:Env} {Y Y0 Y':z0n} {A:Around} {prog:Program} {lv n:Nat} {S:z6z} {C:z0h} {p q r:PV}
theorem q2p(hnd:I.nm.Nodup)(hok:∀ x,z1m env.scope.names x=true->Mine.storeable env own x)(f:Str×Value->PUnit->Sem (ForInStep PUnit))(hf:∀ n v u,f (n,v) u=(do storeName env n v;pure (.yield ⟨⟩))) :
  ∀ {binds:List (Str×Value)} {l:List (Nat×PV)} {Y:z0n} {g:Fz} {Z:Bt} {s:Shared},y6y I g Z binds l->(∀ x,x∈binds->z1m env.scope.names x.1=true)->SR I w.params g Z H s.heap->z0j I own env Y g Z s.heap ->
   Go I prog w A own L g Z H (forIn binds PUnit.unit f) H (fun g' Z' s' _=>z0j I own env (z9u Y l) g' Z' s'.heap) s
 | [],l,Y,g,Z,s,hk,hs,R,O=>by
  cases hk
  exact Go.pure R O
 | (x,v)::binds,l,Y,g,Z,s,hk,hs,R,O=>by
  cases hk with
  | cons hx hv hr=>
   rename_i k p l
   rw [FK,hf]
   intro Q E q
   refine AB (AB (y3b (L:=L) hnd R O hx (hok x (hs (x,v) AC)) hv _ _ fun _ gb Z1 sB Gb Rb pB=>AG ?_))
   obtain⟨Ob,rfl,rfl⟩:=pB
   exact q2p hnd hok f hf hr (fun y hy=>hs y (AD _ hy)) Rb Ob Q E fun a gC Z2 sC Gc Rc pC=>q a gC Z2 sC (Gb.trans R Gc) Rc pC
theorem j5l{names:List (Str×NameKind)}{k:Nat}(hsc:env.scope.names=names)(hcells:env.cells=cellsFrom (k+1) names []):∀ x,z1m env.scope.names x=true->Mine.storeable env (z3j k names) x:=by
 intro x hx
 rw [hsc] at hx
 rcases BX.mp hx with h | h
 ·exact .inl (by show env.scope.names.lookup x=_;rw [hsc];exact BE.mp h)
 ·obtain⟨c',hc'⟩:=z3r names (k+1) x (mem_of_lookup (BE.mp h))
  obtain⟨c'',hc''⟩:=z2g hc'
  exact .inr ⟨c'',by show env.scope.names.lookup x=_;rw [hsc];exact BE.mp h,by rw [hcells];exact hc'',AD _ (AX.mpr ⟨(x,c''),mem_of_lookup hc'',rfl⟩)⟩
theorem x1n(T:z0r I)(W:q1z I prog w)(TF:x9a I prog w)(lv:Nat):j0o I prog w lv (z0f I.P lv):=by
 induction lv with
 | zero=>intro A L g Z H s f pos kw vs kvs p H' _ _ _ _ h;contradiction
 | succ lv hC=>
  intro A L g Z H s f pos kw vs kvs p H' hA R hr hkr h
  obtain⟨F,hF,h⟩:=M.opt_some h
  obtain⟨Y,hb,h⟩:=M.opt_some h
  obtain⟨fl,Hb,h1,h2⟩:=M.bind_some h
  obtain⟨o,fd,body,n,ho,hdata,hbody,hcd,ok,hcs,hbind⟩:=TF.fns f F hF
  intro Rr q
  have hroom:A.depth<recursionLimit:=by have:=hA.depth;simp only [recursionLimit];lia
  refine codeAny_call_function hroom (R.up _ _ ho) hdata ok.co ok.gen hbody (hcd.keeps R.up) (hbind (L:=L) R hr hkr hb _ _ fun binds gb Z1 sB Gb Rb pB=>?_)
  obtain⟨l,hl,rfl,hst⟩:=pB
  rw [ok.clo]
  simp only [newFunctionEnv,Option.isSome_none,DT,if_false]
  refine AB (wpAny_alloc ?_)
  refine AB (wpAny_layCells _ (fun name kind cells=>by cases hkc:kind==NameKind.cell<;>simp [hkc]) _ _ _ _ ?_)
  rw [show({ sB with heap:=sB.heap.push { cls:=.type "frame",data:=.dict #[] } }:Shared).heap.objs.size=sB.heap.objs.size+1 from FQ ..]
  dsimp only
  have hk2:∀ b o,sB.heap.get? b=some o->(pushCells (sB.heap.push { cls:=.type "frame",data:=.dict #[] }) fd.scope.names).get? b=some o:=fun b o e=>FJ _ _ _ _ (AO _ e)
  generalize hcenv:({ scope:=fd.scope,locals:=sB.heap.objs.size,globals:=fd.globals,cells:=cellsFrom (sB.heap.objs.size+1) fd.scope.names [],qual:=fd.qualname++".<locals>.",func:=some (I.fA f),code:=fd.code,frame:=some sB.heap.objs.size,builtins:=fd.builtins }:Env)=cenv
  have hlk:∀ nk,nk∈fd.scope.names->fd.scope.names.lookup nk.1=some nk.2/\nk.2≠.free:=fun nk hm=>by
   have:=BA.mp ok.sc nk hm
   obtain⟨a,b⟩:=z0v this
   exact⟨BE.mp a,by simpa using b⟩
  have O2:z0j I (z3j sB.heap.objs.size fd.scope.names) cenv (fun _=>none) gb Z1 (pushCells (sB.heap.push { cls:=.type "frame",data:=.dict #[] }) fd.scope.names):=by
   subst hcenv
   refine y5q (Heap.Ns.new _ _) Rb rfl rfl ok.kind ok.glob ok.bi ok.code (fun x c hm=>(nomatch hm)) (fun x y c hm=>(nomatch hm)) (fun x hx=>?_) (fun j x hj hx=>rfl)
   ·rcases hx with hx | hx
    ·exact .inl (mem_of_lookup hx)
    ·exact absurd rfl (hlk _ (mem_of_lookup hx)).2
  have R2:SR I w.params gb Z1 H (pushCells (sB.heap.push { cls:=.type "frame",data:=.dict #[] }) fd.scope.names):=Rb.keepAll hk2
  have G2:z1e (z3j sB.heap.objs.size fd.scope.names) L gb Z1 H sB gb Z1 H { sB with heap:=pushCells (sB.heap.push { cls:=.type "frame",data:=.dict #[] }) fd.scope.names }:=z1e.keepAll (tk:=sB.toks) hk2
  have hsn:cenv.scope=fd.scope:=by rw [<- hcenv]
  have hsto:=j5l (env:=cenv) (names:=fd.scope.names) (k:=sB.heap.objs.size) (by rw [hsn]) (by rw [<- hcenv])
  refine AB (q2p (env:=cenv) (own:=z3j sB.heap.objs.size fd.scope.names) (L:=L) T.nd hsto _ (fun n v u=>rfl) hl (fun x hx=>by rw [hsn];exact hst x hx) R2 O2 _ _ fun _ gD Z3 sd Gd Rd O3=>AG ?_)
  have hAA:AOk (A.deeper cenv) lv:=⟨hA.handled,by
   show A.depth+1+12*lv<=800
   have:=hA.depth;lia,by
   show A.units+3+200*lv<=9000
   have:=hA.units;lia⟩
  refine⟨TF.nolim.keeps Rd.up,codeAny_func ?_⟩
  have hXX:j9w I prog w lv (sem I.P (z0f I.P lv) w2c).ex:=(x6c T W hC w2c).2.2.1
  refine z7g (env:=cenv) hXX hAA hsto Rd O3 (by rw [hsn];exact hcs) h1 _ _ fun fl' gE Z4 se Ge RE p4=>?_
  have freshS:∀ a,sB.heap.objs.size<=a->s.heap.get? a=none:=fun a ha=>by
   induction e:s.heap.get? a using Option.casesOn with
   | none=>rfl
   | some o=>
    obtain⟨o',h'⟩:=Gb.alive a o e
    exact absurd (CO h') (CH.mpr ha)
  have Gt:z1e [] L g Z H s gE Z4 Hb se:=((Gb.own_le (by simp)).trans R (G2.trans Rb (Gd.trans R2 Ge))).leave fun a ha=>.inl (freshS _ (z6a ha))
  cases fl with
  | ret v=>
   obtain⟨y,rfl,hy⟩:=p4
   obtain⟨rfl,rfl⟩:=M.pure_some (L:=L) h2
   exact q y gE Z4 se Gt RE hy
  | next Y'=>
   obtain⟨rfl,_⟩:=p4
   obtain⟨rfl,rfl⟩:=M.pure_some (L:=L) h2
   exact q .none gE Z4 se Gt RE .none
  | brk Y'=>contradiction
end
theorem j5m:entryFor table "re.Pattern.search"=some Builtin.«re.Pattern.search»:=entryFor_of_tree (by kernel_rfl)
theorem x1o(a b:Value):argsOk "re.Pattern.search" ⟨[a,b],[]⟩:=by unfold argsOk;kernel_rfl
theorem x1p:typeOf (.builtin "re.Pattern.search")=pure (.type "method_descriptor"):=by show builtinType _=_;rw [builtinType_eq_fast];kernel_rfl
theorem j5n:PlainAttrs "re.Pattern":=
 ⟨⟨"object.__getattribute__",by rw [typeLookup_type,builtinLookup_eq_fast];kernel_rfl,by decide +kernel⟩,by rw [typeLookup_type,builtinLookup_eq_fast];kernel_rfl⟩
theorem q8d:Slot "re.Pattern" "search" "re.Pattern.search":=
 .of (owner:="re.Pattern") (n:="search") (by rw [typeLookup_type,builtinLookup_eq_fast];kernel_rfl) (by decide +kernel) (by decide +kernel) (by decide +kernel)
  (by first | exact .inl (by decide +kernel) | exact .inr (by decide +kernel)) (by rw [isSubtype_type];kernel_rfl)
noncomputable def j5o:Array Nat:=#[14,10,4,1,1,22,0,31,16,127,0,13,7,22,0,31,16,127,0,1]
section
variable {prog:Program} {w:World} {A:Around} {E:Value->Shared->Prop} {s:Shared}
open Builtin Builtin.Re in
theorem q2q{pa cl:Addr}{o oc:Obj}{vs:Array Value}{items:Array Value}{m:Nat}{x:Str}{t:Tok}{Q:Value->Shared->Prop}(ho:s.heap.get? pa=some o)(hc:o.cls=.type "re.Pattern")(hd:o.data=.fields vs)
 (h5:vs.getD 5 .none=.ref cl)(h6:reRawNat (vs.getD 6 .none)=0)(hoc:s.heap.get? cl=some oc)(hdc:oc.data=.seq items m)
 (h:wpAny (model prog w) A.in1 (reAnswer { pattern:=.ref pa,string:=.str x t,code:=(items.map reRawOf).map (·.toNat),text:=x.cps,kind:=0,groups:=reRawNat (vs.getD 2 .none),pos:=0,lim:=x.cps.size } (Sre.forSearch ((items.map reRawOf).map (·.toNat)) x.cps (reRawNat (vs.getD 2 .none)) 0 x.cps.size false)) (fun fin s'=>∃ v,fin=.done (.ret v)/\Q v s') E s)
 (hsz:x.cps.size<2^63):wpAny (model prog w) A (call (.builtin "re.Pattern.search") [.ref pa,.str x t]) Q E s:=by
 refine EJ q8d (⟨o,ho,hc⟩:s.TypeIs (.ref pa) "re.Pattern") j5m ?_ (x1o _ _)
 unfold Builtin.«re.Pattern.search»
 have key:∀ {Q':ReTarget->Shared->Prop},Q' { pattern:=.ref pa,string:=.str x t,code:=(items.map reRawOf).map (·.toNat),text:=x.cps,kind:=0,groups:=reRawNat (vs.getD 2 .none),pos:=0,lim:=x.cps.size } s ->
   wpAny (model prog w) A.in1 (reTarget "re.Pattern.search" "search" ⟨[.ref pa,.str x t],[]⟩) Q' E s:=by
  intro Q' hq
  have e1:reNamed "re.Pattern.search" "search" ["string","pos","endpos"] 1 [.str x t] []=pure [some (.str x t),none,none]:=by rfl
  have e2:reTextOf (.str x t)=pure (x.cps,0):=by rfl
  unfold reTarget
  dsimp only
  rw [e1]
  refine AB (AG ?_)
  refine AB (AG (AB (AG ?_)))
  refine AB (wpAny_fieldsOf ho hd ?_)
  rw [e2]
  refine AB (AG ?_)
  dsimp only
  rw [h6]
  rw [AS (by decide),AS (by decide)]
  have e3:reNoCollectionInside (.str x t) 0=pure ():=by rfl
  rw [e3]
  refine AB (AG ?_)
  unfold reRawItems
  rw [h5]
  refine AB (AB (wpAny_seqItems hoc hdc (AG (AG ?_))))
  have m1:Min.min (Int.toNat 0) x.cps.size=0:=by simp
  have m2:Min.min (2^63 - 1:Int).toNat x.cps.size=x.cps.size:=by lia
  rw [m1,m2]
  exact hq
 exact AB (key h)
open PySem.Sre in
theorem y1h(m:Sre.M)(h:∀ k seen,k<m.lim->∃ seen',Sre.inSet m.code (m.text.getD k 0) m.code.size 5 true seen=.ok (false,seen')):∀ (fuel s:Nat) (seen:Sre.Seen),∃ seen',M.admitted m fuel s seen=.ok (Option.none,seen')
 | 0,s,seen=>⟨seen,rfl⟩
 | fuel+1,s,seen=>by
  unfold M.admitted
  split
  ·exact⟨seen,rfl⟩
  ·rename_i hs
   obtain⟨seen',e⟩:=h s seen (by lia)
   rw [e]
   exact y1h m h fuel (s+1) seen'
noncomputable def j5p(m:Sre.M):Prop:=m.answer=some false/\m.frames=[]/\m.outcome.isSome=false
open PySem.Sre in
theorem y6z(m:Sre.M)(s:Nat)(first:Bool)(hf:m.hasFirstSet=true)(h:∀ k seen,k<m.lim->∃ seen',Sre.inSet m.code (m.text.getD k 0) m.code.size 5 true seen=.ok (false,seen'))(h1:m.frames=[])(h2:m.outcome.isSome=false):j5p (m.attemptFrom s first):=by
 unfold M.attemptFrom
 obtain⟨seen',e⟩:=y1h m h (m.lim+1 - s) s m.seen
 rw [hf,e]
 exact⟨rfl,h1,h2⟩
open PySem.Sre in
theorem q2r{code text:Array Nat}{groups:Nat}(hf:((match ops[code.getD 0 0]? with | some .INFO=>true | _=>false)&&code.getD 2 0==4)=true)
 (h:∀ k seen,k<text.size->∃ seen',Sre.inSet code (text.getD k 0) code.size 5 true seen=.ok (false,seen')):j5p (Sre.forSearch code text groups 0 text.size false):=by
 unfold Sre.forSearch
 dsimp only
 split
 ·exact⟨rfl,rfl,rfl⟩
 ·exact y6z _ _ _ hf h rfl rfl
section
variable {prog:Program} {w:World} {A:Around} {E:Value->Shared->Prop} {s:Shared}
open Builtin Builtin.Re in
theorem j5q{tt:ReTarget}{m:Sre.M}{Q:Fin->Shared->Prop}(hm:j5p m)(h:Q (.done (.ret .none)) s):wpAny (model prog w) A (reAnswer tt m) Q E s:=by
 obtain⟨a,f,o⟩:=hm
 have hstep:m.step={ m with outcome:=some .failed }:=by
  unfold Sre.M.step
  rw [AS (by rw [o];decide),a,f]
  rfl
 have hrun:m.runFor 4={ m with outcome:=some .failed }:=by
  unfold Sre.M.runFor
  rw [AS (by rw [o];decide),hstep]
  rfl
 have hdr:∀ n,reDrive (n+1) m=pure { m with outcome:=some .failed }:=by
  intro n
  unfold reDrive
  show(if(m.runFor 4).outcome.isSome then pure (m.runFor 4) else _)=_
  rw [hrun]
  exact AQ rfl
 unfold reAnswer reRunToEnd
 have e64:(2^64:Nat)=18446744073709551615+1:=by decide
 rw [e64,hdr]
 refine AB (AB (AG ?_))
 have loop:∀ (l:List Nat) (Q:PUnit->Shared->Prop) (f:Nat->PUnit->Sem (ForInStep PUnit)),(∀ i u,f i u=(if m.seen.has i=true then(PySem.rule (Sre.names.getD i "")>>=fun _=>pure (ForInStep.yield PUnit.unit)) else pure (ForInStep.yield PUnit.unit)))->Q ⟨⟩ s->wpAny (model prog w) A (forIn l PUnit.unit f) Q E s:=by
  intro l
  induction l with
  | nil=>intro Q f hf hq;exact AG hq
  | cons i l ih=>
   intro Q f hf hq
   rw [FK,hf]
   refine AB ?_
   split
   ·exact AB (wpAny_rule (AG (ih Q f hf hq)))
   ·exact AG (ih Q f hf hq)
 refine AB (loop _ _ _ (fun i u=>rfl) ?_)
 exact AG (AG h)
end
end
noncomputable def q5q:Array Nat:=#[14,14,4,1,1,9,4294966783,0,0,2147483648,0,0,0,0,0,13,11,9,4294966783,0,0,2147483648,0,0,0,0,0,1]
theorem x9b{c:Nat}(h1:32<=c)(h2:c≠127)(seen:Sre.Seen):∃ seen',Sre.inSet j5o c j5o.size 5 true seen=.ok (false,seen'):=by
 have e:∃ a b d,Sre.inSet j5o c j5o.size 5 true seen=if(decide (0<=c)&&decide (c<=31))=true then .ok (true,a) else if(c==127)=true then .ok (true,b) else .ok (false,d):=⟨_,_,_,rfl⟩
 obtain⟨a,b,d,e⟩:=e
 exact⟨d,e.trans ((AS fun h=>Nat.not_succ_le_self 31 (AA h1 (AK (z0v h).2))).trans (AS fun h=>h2 (BE.mp h)))⟩
theorem k5j:∀ c,c<256->(32<=c\/c=9)->c≠127->(q5q.getD (5+(1+c / 32)) 0).testBit (c % 32)=false:=by decide +kernel
theorem x9c{c:Nat}(h1:32<=c\/c=9)(h2:c≠127)(seen:Sre.Seen):∃ seen',Sre.inSet q5q c q5q.size 5 true seen=.ok (false,seen'):=by
 have e:∃ a d,Sre.inSet q5q c q5q.size 5 true seen=if(decide (c<256)&&(q5q.getD (5+(1+c / 32)) 0).testBit (c % 32))=true then .ok (true,a) else .ok (false,d):=⟨_,_,rfl⟩
 obtain⟨a,d,e⟩:=e
 exact⟨d,e.trans (AS fun h=>absurd (k5j c (AK (z0v h).1) h1 h2) (by rw [(z0v h).2];exact Bool.noConfusion))⟩
noncomputable def okPat(b:Bool)(x:Str):Bool:=decide (x.cps.size<=1000000)&&x.cps.toList.all fun c=>if b then decide (32<=c/\c≠127) else decide ((32<=c\/c=9)/\c≠127)
noncomputable def j5r(b:Bool):Array Nat:=if b then j5o else q5q
theorem x9d{b:Bool}{x:Str}(h:okPat b x=true):∀ k seen,k<x.cps.size->∃ seen',Sre.inSet (j5r b) (x.cps.getD k 0) (j5r b).size 5 true seen=.ok (false,seen'):=by
 intro k seen hk
 have h2:=BA.mp (z0v h).2 (x.cps.getD k 0) (by
  rw [EG,FT hk]
  exact EZ hk)
 induction b using Bool.casesOn with
 | true=>have h3:=AK h2;exact x9b h3.1 h3.2 seen
 | false=>have h3:=AK h2;exact x9c h3.1 h3.2 seen
open Builtin Builtin.Re in
theorem j5s{prog:Program}{w:World}{A:Around}{E:Value->Shared->Prop}{s:Shared}{pa cl:Addr}{o oc:Obj}{vs:Array Value}{items:Array Value}{m:Nat}{b:Bool}{x:Str}{t:Tok}{Q:Value->Shared->Prop}(hok:okPat b x=true)
 (ho:s.heap.get? pa=some o)(hc:o.cls=.type "re.Pattern")(hd:o.data=.fields vs)
 (h5:vs.getD 5 .none=.ref cl)(h6:reRawNat (vs.getD 6 .none)=0)(hoc:s.heap.get? cl=some oc)(hdc:oc.data=.seq items m)(hcode:(items.map reRawOf).map (·.toNat)=j5r b)
 (q:Q .none s):wpAny (model prog w) A (call (.builtin "re.Pattern.search") [.ref pa,.str x t]) Q E s:=by
 refine q2q ho hc hd h5 h6 hoc hdc ?_ (by have:=AK (z0v hok).1;omega)
 rw [hcode]
 refine j5q (q2r ?_ (x9d hok)) ⟨_,rfl,q⟩
 induction b using Bool.casesOn<;>decide
theorem y5u{xs:List Str}{vs:List Value}(hl:vs.length=xs.length):∀ x,x∈xs->((xs.zip vs).lookup x).isSome=true:=by
 induction xs generalizing vs with
 | nil=>intro x h;contradiction
 | cons y ys ih=>
  induction vs using List.casesOn with
  | nil=>contradiction
  | cons v vs=>
   intro x h
   simp only [GB,List.lookup]
   split
   ·rfl
   ·rename_i hne
    rcases AR.mp h with e | e
    ·subst e;simp at hne
    ·exact ih (by simpa using hl) x e
theorem y9v{xs:List Str}{vs:List Value}(hl:vs.length=xs.length)(hn:xs.Nodup):xs.filterMap (fun n=>((xs.zip vs).lookup n).map (n,·))=xs.zip vs:=by
 induction xs generalizing vs with
 | nil=>rfl
 | cons y ys ih=>
  induction vs using List.casesOn with
  | nil=>contradiction
  | cons v vs=>
   obtain⟨h1,h2⟩:=DH.mp hn
   have e:(List.filterMap (fun n=>(((y,v)::ys.zip vs).lookup n).map (n,·)) ys)=ys.filterMap (fun n=>((ys.zip vs).lookup n).map (n,·)):=by
    clear h2 hn hl ih
    generalize ys.zip vs=zs
    induction ys with
    | nil=>rfl
    | cons x ys ih=>
     have:(x==y)=false:=by
      induction h:x==y using Bool.casesOn with
      | false=>rfl
      | true=>exact(h1 (by rw [BE.mp h];exact AC)).elim
     have h':=ih (fun h=>h1 (AD _ h))
     simp only [List.lookup] at h'
     simp only [List.filterMap_cons,List.lookup,this,h']
   simp only [GB,List.filterMap_cons]
   rw [show((y,v)::ys.zip vs).lookup y=some v by simp [List.lookup]]
   simp only [GA]
   rw [e,ih (by simpa using hl) h2]
theorem w2m{c:Prop}[Decidable c]{V:Type}{a b r:V}(hc:¬ c)(h:b=r):(if c then a else b)=r:=(AS hc).trans h
theorem y4m{V Z:Type}{m:Sem V}{f:V->Sem Z}{a:V}{r:Sem Z}(h:m=pure a)(h2:f a=r):m>>=f=r:=by
 rw [h,pure_bind];exact h2
theorem j1h{V Z:Type}{k n:Nat}{l:List V}{ds:List Value}{b:Z}{f:V×Value->Z->Sem (ForInStep Z)}(h:ds=[]):forIn ((l.drop k).zip (ds.drop n)) b f=(pure b:Sem Z):=by
 subst h
 rw [FL,List.zip_nil_right]
 rfl
section
variable {I:z2w} {prog:Program} {w:World} {F:z4x} {fd:FuncData}
theorem j1i{vs:List Value}(h1:fd.params.posonlyargs=[])(h3:fd.params.vararg=none)(h4:fd.params.kwonlyargs=[])(h5:fd.params.kwarg=none)(hd:fd.defaults=.none)
 (hn:(fd.params.args.map (·.arg)).Nodup)(hl:vs.length=(fd.params.args.map (·.arg)).length):bindArgs fd ⟨vs,[]⟩=pure ((fd.params.args.map (·.arg)).zip vs):=by
 obtain⟨a1,a2,⟨b1,b2,b3,b4,b5,b6,b7⟩,a4,a5,a6,a7,a8,a9,a10,a11,a12,a13,a14⟩:=fd
 dsimp only at h1 h3 h4 h5 hd hn hl
 subst h1 h3 h4 h5 hd
 generalize hx:b2.map (·.arg)=xs at hn hl
 have hm:(xs.take (xs.length - 0)).filter (fun n=>((xs.zip vs).lookup n).isNone)=[]:=by
  rw [Nat.sub_zero,List.take_length]
  refine List.filter_eq_nil_iff.mpr fun x hx=>?_
  have:=y5u hl x hx
  rw [<- Option.not_isSome,this]
  exact CJ
 subst hx
 unfold bindArgs
 refine y4m (a:=_) rfl ?_
 refine y4m (a:=none) rfl ?_
 refine w2m (by show ¬ (decide (vs.length > (b2.map (·.arg)).length)&&true)=true;rw [hl];simp) ?_
 refine w2m (by
  show ¬ (!((((b2.map (·.arg)).take ((b2.map (·.arg)).length - (List.drop (0 - (b2.map (·.arg)).length) ([]:List Value)).length)).filter fun n=>(((b2.map (·.arg)).zip vs).lookup n).isNone)).isEmpty)=true
  rw [FL]
  exact hm▸CJ) ?_
 refine y4m (a:=(b2.map (·.arg)).zip vs) (j1h rfl) ?_
 refine y4m (a:=((b2.map (·.arg)).zip vs,[])) rfl ?_
 refine w2m CJ ?_
 refine AT pure ?_
 exact(AT (List.filterMap _) (CA _)).trans (y9v hl hn)
theorem z4l:∀ {ks:List Nat} {ps:List PV} {Y Y':z0n},z4g Y ks ps=some Y'->ks.length=ps.length/\Y'=z9u Y (ks.zip ps)
 | [],[],Y,Y',h=>by injection h with h;subst h;exact⟨rfl,rfl⟩
 | [],_::_,_,_,h=>by contradiction
 | _::_,[],_,_,h=>by contradiction
 | k::ks,p::ps,Y,Y',h=>by
  obtain⟨a,b⟩:=z4l (ks:=ks) (ps:=ps) h
  exact⟨by simp [a],b⟩
theorem z6r{g:Fz}{Z:Bt}:∀ {vs:List Value} {ps:List PV},z0e I g Z vs ps->vs.length=ps.length
 | _,_,.nil=>rfl
 | _,_,.cons _ h=>by simp [z6r h]
theorem q2s{g:Fz}{Z:Bt}:∀ {xs:List Str} {ks:List Nat} {vs:List Value} {ps:List PV},z2k (fun x k=>I.nm[k]?==some x) xs ks=true->z0e I g Z vs ps->y6y I g Z (xs.zip vs) (ks.zip ps)
 | [],[],_,_,_,_=>by simp;exact .nil
 | [],_::_,_,_,h,_=>by contradiction
 | _::_,[],_,_,h,_=>by contradiction
 | x::xs,k::ks,_,_,h,.nil=>.nil
 | x::xs,k::ks,_,_,h,.cons h1 h2=>by
  obtain⟨a,b⟩:=z0v h
  exact .cons (BE.mp a) h1 (q2s b h2)
noncomputable def j1j(v:Value):Bool:=match v with | .none=>true | _=>false
noncomputable def q8e(I:z3w)(F:z4x)(fd:FuncData):Bool:=
 F.dfl.isEmpty&&F.kwo.isEmpty&&F.kwargs.isNone&&fd.params.posonlyargs.isEmpty&&fd.params.vararg.isNone&&fd.params.kwonlyargs.isEmpty&&fd.params.kwarg.isNone&&j1j fd.defaults &&
 decide ((fd.params.args.map (·.arg)).Nodup)&&z2k (fun x k=>I.nm[k]?==some x) (fd.params.args.map (·.arg)) F.pos&&(fd.params.args.map (·.arg)).all (z1m fd.scope.names)
theorem z1c{V:Type}{l:List V}(h:l.isEmpty=true):l=[]:=FE.mp h
theorem z1i{V:Type}{l:Option V}(h:l.isNone=true):l=none:=Option.isNone_iff_eq_none.mp h
theorem y1i{v:Value}(h:j1j v=true):v=.none:=by induction v using Value.casesOn<;>first | rfl | contradiction
theorem y1j{pos:List PV}{kw:List (Nat×PV)}{Y:z0n}(h:q4t F pos kw=some Y):kw.map (·.1)=F.kwo/\pos.length<=F.pos.length/\∃ Y0,z4g (j0d F) F.kwo (kw.map (·.2))=some Y0 /\
  z4g Y0 F.pos (pos++F.dfl.drop (F.dfl.length - (F.pos.length - pos.length)))=some Y:=by
 obtain⟨h1,h2⟩:=z0q h
 obtain⟨Y0,h3,h4⟩:=z1f h2
 obtain⟨h5,h6⟩:=z0q h4
 exact⟨h1,h5,Y0,h3,h6⟩
theorem y7w{xs:List Str}{ks:List Nat}{vs:List Value}{ps:List PV}{g:Fz}{Z:Bt}{names:List (Str×NameKind)}(h1:z2k (fun x k=>I.nm[k]?==some x) xs ks=true)(h2:xs.all (z1m names)=true)(hr:z0e I g Z vs ps) :
  ∃ l,y6y I g Z (xs.zip vs) l/\z9u (fun _=>none) (ks.zip ps)=z9u (fun _=>none) l/\∀ x,x∈xs.zip vs->z1m names x.1=true:=
 ⟨_,q2s h1 hr,rfl,fun x hx=>BA.mp h2 x.1 (List.of_mem_zip hx).1⟩
theorem q2t(h:q8e I.t F fd=true):y7v I prog w F fd:=by
 intro A L g Z H s pos kw vs kvs Y R hr hk hb
 have c:=z0v h
 have c1:=z0v c.1
 have c2:=z0v c1.1
 have c3:=z5i c2.1
 have c4:=z5t c3.1
 obtain⟨e1,e2,Y0,e3,e4⟩:=y1j hb
 rw [z1c c4.2.1] at e1 e3
 have hkw:=FZ.mp e1
 subst hkw
 cases hk
 unfold j0d at e3
 rw [z1i c4.2.2.1] at e3
 injection e3 with e3;subst e3
 rw [z1c c4.1,FL,CA] at e4
 obtain⟨hlen,e5⟩:=z4l e4
 rw [j1i (z1c c4.2.2.2) (z1i c3.2.1) (z1c c3.2.2.1) (z1i c3.2.2.2.1) (y1i c3.2.2.2.2) (AK c2.2) (by rw [z6r hr,z9d c1.2,hlen])]
 exact Go.pure R (e5▸y7w c1.2 c.2 hr)
end
theorem w6p{l:List Arg}{x:Str}(h:l.map (·.arg)=[x]):∃ p P,l=[⟨x,p,P⟩]:=by
 match l,h with
 | [⟨a,p,P⟩],h=>injection h with h;subst h;exact⟨p,P,rfl⟩
theorem w6q{l:List Arg}{x y:Str}(h:l.map (·.arg)=[x,y]):∃ p P q Q,l=[⟨x,p,P⟩,⟨y,q,Q⟩]:=by
 match l,h with
 | [⟨a,p,P⟩,⟨b,q,Q⟩],h=>cases h;exact⟨p,P,q,Q,rfl⟩
theorem w6r{l:List Arg}{x y z:Str}(h:l.map (·.arg)=[x,y,z]):∃ p P q Q r R,l=[⟨x,p,P⟩,⟨y,q,Q⟩,⟨z,r,R⟩]:=by
 match l,h with
 | [⟨a,p,P⟩,⟨b,q,Q⟩,⟨c,r,R⟩],h=>cases h;exact⟨p,P,q,Q,r,R,rfl⟩
theorem w8g{V:Type}{l:List V}(h:l.length=1):∃ a,l=[a]:=by
 match l,h with
 | [a],_=>exact⟨a,rfl⟩
theorem w1i{V:Type}{l:List V}(h:l.length=2):∃ a b,l=[a,b]:=by
 match l,h with
 | [a,b],_=>exact⟨a,b,rfl⟩
theorem w2n{V:Type}{l:List V}(h:l.length=3):∃ a b c,l=[a,b,c]:=by
 match l,h with
 | [a,b,c],_=>exact⟨a,b,c,rfl⟩
section
variable {I:z2w} {prog:Program} {w:World} {F:z4x} {fd:FuncData} {A:Around} {s:Shared} {d:Addr} {o:Obj} {n:Nat} {vs:List Value} {Q:List (Str×Value)->Shared->Prop} {E:Value->Shared->Prop}
theorem z7j{d:Addr}{o:Obj}{vs:Array Value}{n:Nat}{Q:Option (Array Value)->Shared->Prop}{E:Value->Shared->Prop}(ho:s.heap.get? d=some o)(hd:o.data=.seq vs n)(h:Q (some vs) s):wpAny (model prog w) A (seqItems? (.ref d)) Q E s:=by
 unfold seqItems?
 refine AB (wpAny_load ho ?_)
 rw [hd]
 exact AG h
noncomputable def xsK:List Str:=["self","value","name"]
noncomputable def xs2:List Str:=["self","headers"]
noncomputable def xs3:List Str:=["self","name","default"]
noncomputable def xsS:List Str:=["self","_name","_value","_params"]
theorem x1q{v3:Value}(h1:fd.params.posonlyargs=[])(h2:fd.params.args.map (·.arg)=xsK.take 2)(h3:fd.params.vararg=none)(h4:fd.params.kwonlyargs.map (·.arg)=xsK.drop 2)(h5:fd.params.kwarg=none)(hd:fd.defaults=.none)(hl:vs.length=2) :
  bindArgs fd ⟨vs,[("name",v3)]⟩=pure (xsK.zip (vs++[v3])):=by
 obtain⟨v1,v2,rfl⟩:=w1i hl
 obtain⟨p,P,q,Q,e2⟩:=w6q h2
 obtain⟨r,R,e4⟩:=w6p h4
 clear h2 h4
 obtain⟨a1,a2,⟨b1,b2,b3,b4,b5,b6,b7⟩,a4,a5,a6,a7,a8,a9,a10,a11,a12,a13,a14⟩:=fd
 dsimp only at h1 e2 h3 e4 h5 hd
 subst h1 e2 h3 e4 h5 hd
 rfl
theorem j5t(h1:fd.params.posonlyargs=[])(h2:fd.params.args.map (·.arg)=xs2)(h3:fd.params.vararg=none)(h4:fd.params.kwonlyargs=[])(h5:fd.params.kwarg=none)(hd:fd.defaults=.ref d)(ho:s.heap.get? d=some o)(hod:o.data=.seq #[.none] n)
 {vs':List Value}(hv:vs.length=1/\vs'=vs++[.none]\/vs.length=2/\vs'=vs)(h:Q (xs2.zip vs') s):wpAny (model prog w) A (bindArgs fd ⟨vs,[]⟩) Q E s:=by
 obtain⟨p,P,q,Q',e2⟩:=w6q h2
 clear h2
 obtain⟨a1,a2,⟨b1,b2,b3,b4,b5,b6,b7⟩,a4,a5,a6,a7,a8,a9,a10,a11,a12,a13,a14⟩:=fd
 dsimp only at h1 e2 h3 h4 h5 hd
 subst h1 e2 h3 h4 h5 hd
 rcases hv with⟨hl,e⟩ | ⟨hl,e⟩
 ·obtain⟨v1,rfl⟩:=w8g hl
  subst e
  unfold bindArgs
  refine AB (m:=pure (xs2.zip [v1],([]:List (Str×Value)))) (AG ?_)
  refine AB (z7j ho hod ?_)
  exact AG (a:=xs2.zip [v1,.none]) h
 ·obtain⟨v1,v2,rfl⟩:=w1i hl
  subst e
  unfold bindArgs
  refine AB (m:=pure (xs2.zip [v1,v2],([]:List (Str×Value)))) (AG ?_)
  refine AB (z7j ho hod ?_)
  exact AG (a:=xs2.zip [v1,v2]) h
theorem j5u(h1:fd.params.posonlyargs=[])(h2:fd.params.args.map (·.arg)=xs3)(h3:fd.params.vararg=none)(h4:fd.params.kwonlyargs=[])(h5:fd.params.kwarg=none)(hd:fd.defaults=.ref d)(ho:s.heap.get? d=some o)(hod:o.data=.seq #[.none] n)
 {vs':List Value}(hv:vs.length=2/\vs'=vs++[.none]\/vs.length=3/\vs'=vs)(h:Q (xs3.zip vs') s):wpAny (model prog w) A (bindArgs fd ⟨vs,[]⟩) Q E s:=by
 obtain⟨p,P,q,Q',r,R,e2⟩:=w6r h2
 clear h2
 obtain⟨a1,a2,⟨b1,b2,b3,b4,b5,b6,b7⟩,a4,a5,a6,a7,a8,a9,a10,a11,a12,a13,a14⟩:=fd
 dsimp only at h1 e2 h3 h4 h5 hd
 subst h1 e2 h3 h4 h5 hd
 rcases hv with⟨hl,e⟩ | ⟨hl,e⟩
 ·obtain⟨v1,v2,rfl⟩:=w1i hl
  subst e
  unfold bindArgs
  refine AB (m:=pure (xs3.zip [v1,v2],([]:List (Str×Value)))) (AG ?_)
  refine AB (z7j ho hod ?_)
  exact AG (a:=xs3.zip [v1,v2,.none]) h
 ·obtain⟨v1,v2,v3,rfl⟩:=w2n hl
  subst e
  unfold bindArgs
  refine AB (m:=pure (xs3.zip [v1,v2,v3],([]:List (Str×Value)))) (AG ?_)
  refine AB (z7j ho hod ?_)
  exact AG (a:=xs3.zip [v1,v2,v3]) h
theorem q5r{zA:Arg}(h1:fd.params.posonlyargs=[])(h2:fd.params.args.map (·.arg)=xsS.take 3)(h3:fd.params.vararg=none)(h4:fd.params.kwonlyargs=[])(h5:fd.params.kwarg=some zA)(hz:[zA].map (·.arg)=xsS.drop 3)(hd:fd.defaults=.none)(hl:vs.length=3)
 (h:Q (xsS.zip (vs++[.ref s.heap.objs.size])) { s with heap:=s.heap.push (dictOf [] 0) }):wpAny (model prog w) A (bindArgs fd ⟨vs,[]⟩) Q E s:=by
 obtain⟨v1,v2,v3,rfl⟩:=w2n hl
 obtain⟨p,P,q,Q',r,R,e2⟩:=w6r h2
 obtain⟨z,A5,ez⟩:=w6p hz
 injection ez with ez;subst ez
 clear h2 hz
 obtain⟨a1,a2,⟨b1,b2,b3,b4,b5,b6,b7⟩,a4,a5,a6,a7,a8,a9,a10,a11,a12,a13,a14⟩:=fd
 dsimp only at h1 e2 h3 h4 h5 hd
 subst h1 e2 h3 h4 h5 hd
 refine AB (m:=alloc { cls:=.type "dict",data:=.dict #[] }) (f:=fun d=>pure (xsS.zip [v1,v2,v3,.ref d])) (wpAny_alloc ?_)
 exact AG h
end
section
variable {I:z2w} {prog:Program} {w:World} {F:z4x} {fd:FuncData} {A:Around} {s:Shared}
noncomputable def q8f:PV->Bool
 | .none=>true
 | _=>false
theorem q2u{p:PV}(h:q8f p=true):p=.none:=by induction p using PV.casesOn<;>first | rfl | contradiction
noncomputable def q5s(l:List Value):Bool:=match l with
 | [v]=>j1j v
 | _=>false
theorem q5t{l:List Value}(h:q5s l=true):l=[.none]:=by
 match l,h with
 | [v],h=>rw [y1i (show j1j v=true from h)]
noncomputable def k5k(K:Frag)(v:Value):Bool:=match v with
 | .ref d=>dO (K.lookup d) fun o=>match o.data with
  | .seq vs _=>q5s vs.toList
  | _=>false
 | _=>false
theorem j5v{K:Frag}{v:Value}(h:k5k K v=true):∃ d o n,v=.ref d/\K.lookup d=some o/\o.data=.seq #[.none] n:=by
 cases v with
 | ref d=>
  obtain⟨o,ho,h1⟩:=z5a (show dO (K.lookup d) _=true from h)
  cases e:o.data with
  | seq vs n=>
   rw [e] at h1
   obtain⟨l⟩:=vs
   rw [q5t (show q5s l=true from h1)] at e
   exact⟨d,o,n,rfl,ho,e⟩
  | _=>rw [e] at h1;contradiction
 | _=>contradiction
noncomputable def y4n(I:z3w)(fd:FuncData)(xs:List Str)(ks:List Nat):Bool:=z2k (fun x k=>I.nm[k]?==some x) xs ks&&xs.all (z1m fd.scope.names)
noncomputable def x6d(I:z3w)(K:Frag)(F:z4x)(fd:FuncData):Bool:=
 d1 F.dfl q8f&&F.kwo.isEmpty&&F.kwargs.isNone&&(fd.params.posonlyargs.isEmpty&&fd.params.vararg.isNone&&fd.params.kwonlyargs.isEmpty&&fd.params.kwarg.isNone)&&(k5k K fd.defaults&&(fd.params.args.map (·.arg)==xs2 || fd.params.args.map (·.arg)==xs3)&&y4n I fd (fd.params.args.map (·.arg)) F.pos)
theorem x1r{g:Fz}{Z:Bt}{vs:List Value}{ps:List PV}{N:Nat}(hr:z0e I g Z vs ps)(hle:ps.length<=N)(h:N=(ps++[PV.none].drop (1 - (N - ps.length))).length) :
  ∃ vs',z0e I g Z vs' (ps++[PV.none].drop (1 - (N - ps.length)))/\(vs.length+1=N/\vs'=vs++[.none]\/vs.length=N/\vs'=vs):=by
 have hl:=z6r hr
 by_cases e:ps.length=N
 ·rw [e,Nat.sub_self,Nat.sub_zero,show[PV.none].drop 1=[] from rfl,CA]
  exact⟨vs,hr,.inr ⟨hl.trans e,rfl⟩⟩
 ·have h1:1 - (N - ps.length)=0:=Nat.sub_eq_zero_of_le (Nat.sub_pos_of_lt (Nat.lt_of_le_of_ne hle e))
  rw [h1] at h ⊢
  rw [AE] at h
  exact⟨vs++[.none],hr.append (.cons .none .nil),.inl ⟨by rw [hl];exact h.symm,rfl⟩⟩
theorem z7k{xs:List Str}{ks:List Nat}{vs:List Value}{ps:List PV}{g:Fz}{Z:Bt}(h:y4n I.t fd xs ks=true)(hr:z0e I g Z vs ps) :
  ∃ l,y6y I g Z (xs.zip vs) l/\z9u (fun _=>none) (ks.zip ps)=z9u (fun _=>none) l/\∀ x,x∈xs.zip vs->z1m fd.scope.names x.1=true:=y7w (z0v h).1 (z0v h).2 hr
theorem j1k(T:z0r I)(h:x6d I.t I.K F fd=true):y7v I prog w F fd:=by
 have c:=z5i h
 have r:=z4d c.2.2.2.2
 obtain⟨p,e0,hp⟩:=q1a c.1
 rw [q2u hp] at e0
 obtain⟨d,o,n,hdv,hdo,hdd⟩:=j5v r.1
 intro A L g Z H s pos kw vs kvs Y R hr hk hb
 obtain⟨e1,e2,Y0,e3,e4⟩:=y1j hb
 rw [z1c c.2.1] at e1 e3
 have hkw:=FZ.mp e1
 subst hkw
 cases hk
 unfold j0d at e3
 rw [z1i c.2.2.1] at e3
 injection e3 with e3;subst e3
 rw [e0] at e4
 obtain⟨hlen,e5⟩:=z4l (show z4g (fun _=>none) F.pos (pos++[PV.none].drop (1 - (F.pos.length - pos.length)))=some Y from e4)
 obtain⟨vs',hr',hv⟩:=x1r hr e2 hlen
 rw [<- z9d (z0v r.2.2).1] at hv
 have fin:=z7k r.2.2 hr'
 have q:=z5t c.2.2.2.1
 rw [<- e5] at fin
 intro Q E k
 rcases BX.mp r.2.1 with hx | hx
 ·have hx':=BI hx
  rw [hx'] at fin hv
  exact j5t (z1c q.1) hx' (z1i q.2.1) (z1c q.2.2.1) (z1i q.2.2.2) hdv (T.there R _ _ hdo) hdd (hv.imp_left fun e=>⟨Nat.succ.inj e.1,e.2⟩) (k _ g Z s .refl R fin)
 ·have hx':=BI hx
  rw [hx'] at fin hv
  exact j5u (z1c q.1) hx' (z1i q.2.1) (z1c q.2.2.1) (z1i q.2.2.2) hdv (T.there R _ _ hdo) hdd (hv.imp_left fun e=>⟨Nat.succ.inj e.1,e.2⟩) (k _ g Z s .refl R fin)
noncomputable def x6e(I:z3w)(F:z4x)(fd:FuncData):Bool:=
 F.dfl.isEmpty&&F.kwargs.isNone&&(fd.params.posonlyargs.isEmpty&&fd.params.vararg.isNone&&fd.params.kwarg.isNone&&j1j fd.defaults)&&(fd.params.args.map (·.arg)==xsK.take 2&&fd.params.kwonlyargs.map (·.arg)==xsK.drop 2) &&
 d2 F.pos fun k1 k2=>d1 F.kwo fun k3=>k3 != k1&&k3 != k2&&y4n I fd xsK [k1,k2,k3]
theorem x1s{kw:List (Nat×PV)}{k:Nat}(h:kw.map (·.1)=[k]):∃ p,kw=[(k,p)]:=by
 match kw,h with
 | [(a,p)],h=>injection h with h;subst h;exact⟨p,rfl⟩
theorem j1l(h:x6e I.t F fd=true):y7v I prog w F fd:=by
 have c:=z5i h
 have q:=z5t c.2.2.1
 have x:=z0v c.2.2.2.1
 obtain⟨k1,k2,p0,h2⟩:=x5w c.2.2.2.2
 obtain⟨k3,p1,h3⟩:=q1a h2
 have y:=z4d h3
 intro A L g Z H s pos kw vs kvs Y R hr hk hb
 obtain⟨e1,e2,Y0,e3,e4⟩:=y1j hb
 rw [p1] at e1 e3
 obtain⟨p3,rfl⟩:=x1s e1
 unfold j0d at e3
 rw [z1i c.2.1] at e3
 injection e3 with e3;subst e3
 rw [p0,z1c c.1,FL,CA] at e4
 obtain⟨hlen,e5⟩:=z4l e4
 obtain⟨u1,u2,rfl⟩:=w1i hlen.symm
 obtain⟨x3,v3,hn,hv3,rfl⟩:∃ x3 v3,I.nm[k3]?=some x3/\Rel I g Z v3 p3/\kvs=[(x3,v3)]:=by
  cases hk with
  | cons a b r=>cases r;exact⟨_,_,a,b,rfl⟩
 have z:=z0v (z0v (z0v (z0v y.2.2).1).2).2
 have hx3:x3="name":=AF (hn.symm.trans (BI z.1))
 subst hx3
 rw [x1q (z1c q.1) (BI x.1) (z1i q.2.1) (BI x.2) (z1i q.2.2.1) (y1i q.2.2.2) (z6r hr)]
 have fin:=z7k y.2.2 (hr.append (.cons hv3 .nil))
 have e6:Y=z9u (fun _=>none) ([k1,k2,k3].zip ([u1,u2]++[p3])):=by
  rw [e5]
  show upd (upd (upd _ k3 p3) k1 u1) k2 u2=upd (upd (upd _ k1 u1) k2 u2) k3 p3
  rw [z5n (EY.mp y.1),z5n (EY.mp y.2.1)]
 rw [<- e6] at fin
 exact Go.pure R fin
noncomputable def q2v(I:z3w)(K:Frag)(F:z4x)(fd:FuncData):Bool:=
 F.dfl.isEmpty&&F.kwo.isEmpty&&(fd.params.posonlyargs.isEmpty&&fd.params.vararg.isNone&&fd.params.kwonlyargs.isEmpty&&j1j fd.defaults)&&(decide (2<=I.dA)&&(K.lookup I.dA).isSome&&fd.params.args.map (·.arg)==xsS.take 3) &&
 d3 F.pos fun k1 k2 k3=>dO fd.params.kwarg fun zA=>dO F.kwargs fun k4=>k4 != k1&&k4 != k2&&k4 != k3&&([zA].map (·.arg)==xsS.drop 3&&y4n I fd xsS [k1,k2,k3,k4])
theorem y9w(T:z0r I)(h:q2v I.t I.K F fd=true):y7v I prog w F fd:=by
 have c:=z5i h
 have q:=z5t c.2.2.1
 have x:=z4d c.2.2.2.1
 obtain⟨k1,k2,k3,p0,h2⟩:=x5x c.2.2.2.2
 obtain⟨zA,p1,h3⟩:=z5a h2
 obtain⟨k4,p2,h4⟩:=z5a h3
 have y:=z5t h4
 have yz:=z0v y.2.2.2
 intro A L g Z H s pos kw vs kvs Y R hr hk hb
 obtain⟨e1,e2,Y0,e3,e4⟩:=y1j hb
 rw [z1c c.2.1] at e1 e3
 have hkw:=FZ.mp e1
 subst hkw
 cases hk
 unfold j0d at e3
 rw [p2] at e3
 injection e3 with e3;subst e3
 rw [p0,z1c c.1,FL,CA] at e4
 obtain⟨hlen,e5⟩:=z4l e4
 obtain⟨u1,u2,u3,rfl⟩:=w2n hlen.symm
 intro Q E k
 refine q5r (z1c q.1) (BI x.2.2) (z1i q.2.1) (z1c q.2.2.1) p1 (BI yz.1) (y1i q.2.2.2) (z6r hr) ?_
 have hnn:=get?_size s.heap
 have hkp:∀ b o,s.heap.get? b=some o->(s.heap.push (dictOf [] 0)).get? b=some o:=fun b o e=>AO _ e
 have ho:(s.heap.push (dictOf [] 0)).get? s.heap.objs.size=some (dictOf [] 0):=AZ _ rfl
 have hsz:(s.heap.objs.size==sysModules)=false:=by
  obtain⟨o,e⟩:=Option.isSome_iff_exists.mp x.2.1
  have h3:I.dA<s.heap.objs.size:=CO (T.there R _ _ e)
  have h2:2<=I.dA:=AK x.1
  exact ES (EH (BW (DV 1) (BO (BU h2 h3))))
 have hr':z0e I (y3y g s.heap.objs.size (dictOf [] 0)) Z (vs++[.ref s.heap.objs.size]) ([u1,u2,u3]++[.edict]):=(hr.mono (z2v (R.gfree hnn)) fun _ _ e=>e).append (.cons (.edict (z2f ..) hsz) .nil)
 have fin:=z7k yz.2 hr'
 have e6:Y=z9u (fun _=>none) ([k1,k2,k3,k4].zip ([u1,u2,u3]++[.edict])):=by
  rw [e5]
  show upd (upd (upd (upd _ k4 .edict) k1 u1) k2 u2) k3 u3=upd (upd (upd (upd _ k1 u1) k2 u2) k3 u3) k4 .edict
  rw [z5n (EY.mp y.1),z5n (EY.mp y.2.1),z5n (EY.mp y.2.2.1)]
 rw [<- e6] at fin
 exact k _ _ Z _ (z1e.add (tk:=s.toks) R hkp hnn) (R.add hkp hnn ho) fin
noncomputable def q5u(I:z3w)(K:Frag)(F:z4x)(fd:FuncData):Bool:=q8e I F fd || x6d I K F fd || x6e I F fd || q2v I K F fd
theorem j5w(T:z0r I)(h:q5u I.t I.K F fd=true):y7v I prog w F fd:=by
 rcases BX.mp h with h | h
 ·rcases BX.mp h with h | h
  ·rcases BX.mp h with h | h
   ·exact q2t h
   ·exact j1k T h
  ·exact j1l h
 ·exact y9w T h
end
structure y4o where
 fns:List z4x
 meths:List ((Nat×Nat)×Nat)
 gattrs:List (Nat×Str)
 flags:List (Int×Str)
 nm:List Str
 gv:List (Str×Value)
 fA:List Addr
 c0:Addr
 c1:Addr
 pT:Addr
 pF:Addr
 dA:Addr
 atts:List Nat
noncomputable def y4o.mp(D:y4o):MP:={ fn:=fun i=>D.fns[i]?,meth:=fun c m=>D.meths.lookup (c,m),gattr:=fun k=>D.gattrs.lookup k,flags:=D.flags,okPat:=okPat }
noncomputable def y4o.t(D:y4o):z3w:={ P:=D.mp,nm:=D.nm,gv:=D.gv,fA:=fun i=>D.fA.getD i 0,cA:=fun c=>match c with | 0=>D.c0 | _=>D.c1,pA:=fun b=>if b then D.pT else D.pF,dA:=D.dA,atts:=D.atts }
noncomputable def y4o.info(D:y4o)(K:Frag)(B:Heap):z2w:={ t:=D.t,K:=K,B:=B }
noncomputable def k5l(D:y4o)(K:Frag):Bool:=D.gv.all fun xv=>nsIn K mainGlobals xv.1==some (some xv.2) || (nsIn K mainGlobals xv.1==some none&&bootBuiltins xv.1==some xv.2&&!(xv.1==("__name__":Str)))
noncomputable def x9e(D:y4o):Bool:=decide D.nm.Nodup&&D.nm[0]?==some ("__init__":Str)&&D.nm[1]?==some ("__contains__":Str)&&D.nm[2]?==some ("__getitem__":Str)&&D.nm[3]?==some ("__setitem__":Str)&&D.nm[4]?==some ("__delitem__":Str)
noncomputable def y5v(D:y4o)(K:Frag)(C:Addr):Bool:=
 keepIn K (.ref C)&&plainGet K C Str.empty&&hasDictIn K C&&noSeq K C&&plainOver K C&&findIn K (.ref C) "__setattr__"==some (some (.builtin "object.__setattr__"))&&makesIn K C &&
 D.atts.all (fun k=>match D.nm[k]? with | some x=>findIn K (.ref C) x==some none | none=>true)
noncomputable def cAt(D:y4o)(c:Nat):Addr:=match c with | 0=>D.c0 | _=>D.c1
noncomputable def q5v(D:y4o)(K:Frag)(r:(Nat×Nat)×Nat):Bool:=match D.nm[r.1.2]? with
 | some x=>findIn K (.ref (cAt D r.1.1)) x==some (some (.ref (D.fA.getD r.2 0)))&&isFn K (.ref (D.fA.getD r.2 0))&&fnIn K (D.fA.getD r.2 0)&&!(D.atts.contains r.1.2)&&keepIn K (.ref (D.fA.getD r.2 0))
 | none=>true
noncomputable def x6f:Data->Option FuncData
 | .func f=>some f
 | _=>none
noncomputable def k5m:FuncBody->Option (List Stmt)
 | .stmts b=>some b
 | _=>none
noncomputable def w6s:Data->Option (Array Value)
 | .seq v _=>some v
 | _=>none
noncomputable def k5n:Data->Option (Array Value)
 | .fields v=>some v
 | _=>none
noncomputable def k5o:Data->Option (Array DictEntry)
 | .dict v _=>some v
 | _=>none
noncomputable def k5p:Value->Option Addr
 | .ref a=>some a
 | _=>none
noncomputable def k5q:Value->Option Int
 | .int k _=>some k
 | _=>none
noncomputable def x9f:Value->Option Str
 | .str k _=>some k
 | _=>none
noncomputable def k5r:CFound->Option Value
 | .val v=>some v
 | _=>none
theorem j1m{d:Data}{x:FuncData}(h:x6f d=some x):d=.func x:=by induction d using Data.casesOn<;>first | exact sn h | exact AT _ (AF h)
theorem j5x{d:FuncBody}{x:List Stmt}(h:k5m d=some x):d=.stmts x:=by induction d using FuncBody.casesOn<;>first | exact sn h | exact AT _ (AF h)
theorem x1t{d:Data}{x:Array Value}(h:w6s d=some x):∃ n,d=.seq x n:=by induction d using Data.casesOn<;>first | exact sn h | exact⟨_,AT (Data.seq · _) (AF h)⟩
theorem j5y{d:Data}{x:Array Value}(h:k5n d=some x):d=.fields x:=by induction d using Data.casesOn<;>first | exact sn h | exact AT _ (AF h)
theorem j5z{d:Data}{x:Array DictEntry}(h:k5o d=some x):∃ n,d=.dict x n:=by induction d using Data.casesOn<;>first | exact sn h | exact⟨_,AT (Data.dict · _) (AF h)⟩
theorem j6a{d:Value}{x:Addr}(h:k5p d=some x):d=.ref x:=by induction d using Value.casesOn<;>first | exact sn h | exact AT _ (AF h)
theorem j6b{d:Value}{x:Int}(h:k5q d=some x):∃ t,d=.int x t:=by induction d using Value.casesOn<;>first | exact sn h | exact⟨_,AT (Value.int · _) (AF h)⟩
theorem q2w{d:Value}{x:Str}(h:x9f d=some x):∃ t,d=.str x t:=by induction d using Value.casesOn<;>first | exact sn h | exact⟨_,AT (Value.str · _) (AF h)⟩
theorem j6c{d:CFound}{x:Value}(h:k5r d=some x):d=.val x:=by induction d using CFound.casesOn<;>first | exact sn h | exact AT _ (AF h)
noncomputable def x6g(D:y4o)(K:Frag):Bool:=D.gattrs.all fun r=>match D.nm[r.1]? with
 | some y=>dO (typeIn K (.ref D.c0)) fun mc=>readsIn K D.c0 mc&&dO (findCls K (.ref D.c0) mc y) fun l=>dO (k5r l) fun v=>x9f v==some r.2
 | none=>true
noncomputable def x9g(K:Frag)(fd:FuncData):Bool:=!fd.scope.isCoroutine&&(!fd.scope.isGenerator&&(fd.scope.kind==.function&&(fd.globals==mainGlobals&&(fd.builtins==builtinsNs&&(fd.closure.isEmpty&&(kdsCode K fd.code&&j5k fd.scope.names))))))
theorem x9h{K:Frag}{fd:FuncData}(h:x9g K fd=true):w6o K fd:=by
 have h1:=z0v h
 have h2:=z0v h1.2
 have h3:=z0v h2.2
 have h4:=z0v h3.2
 have h5:=z0v h4.2
 have h6:=z0v h5.2
 have h7:=z0v h6.2
 exact⟨q0v h1.1,q0v h2.1,BI h3.1,BI h4.1,BI h5.1,z1c h6.1,h7.1,h7.2⟩
noncomputable def x9i(D:y4o)(K:Frag)(F:z4x)(a:Addr):Bool:=dO (K.lookup a) fun o=>dO (x6f o.data) fun fd=>dO (k5m fd.body) fun body=>codeIn K fd.code fd.qualname&&x9g K fd&&z2k (y1a D.t 60 fd.scope.names) body F.body&&q5u D.t K F fd
noncomputable def j6d(e:DictEntry)(r:Int×Str):Bool:=k5q e.key==some r.1&&x9f e.val==some r.2&&e.hash==hashInt r.1
noncomputable def j6e(D:y4o)(K:Frag):Bool:=!(D.dA==sysModules)&&decide ((D.flags.map (·.1)).Nodup)&&dO (K.lookup D.dA) fun o=>(o.cls==.type "dict"&&o.dict.isNone&&decide (o.slots.toList.length=0))&&dO (k5o o.data) fun es=>z2k j6d es.toList D.flags
noncomputable def y5w(K:Frag)(b:Bool)(a:Addr):Bool:=dO (K.lookup a) fun o=>(o.cls==.type "re.Pattern"&&o.dict.isNone)&&dO (k5n o.data) fun vs=>dO (k5p (vs.getD 5 .none)) fun cl=>dO (K.lookup cl) fun oc=>dO (w6s oc.data) fun items=>
 decide (Builtin.Re.reRawNat (vs.getD 6 .none)=0)&&decide (((items.map Builtin.Re.reRawOf).map (·.toNat)).toList=(j5r b).toList)
inductive FnC(D:y4o)(K:Frag)(F:z4x)(a:Addr):Prop
 | mk (o:Obj) (fd:FuncData) (body:List Stmt) (ho:K.lookup a=some o) (hd:o.data=.func fd) (hb:fd.body=.stmts body) (h:(codeIn K fd.code fd.qualname&&x9g K fd&&z2k (y1a D.t 60 fd.scope.names) body F.body&&q5u D.t K F fd)=true)
inductive w8h(K:Frag)(b:Bool)(a:Addr):Prop
 | mk (o:Obj) (vs:Array Value) (cl:Addr) (oc:Obj) (items:Array Value) (m:Nat) (ho:K.lookup a=some o) (hc:o.cls=.type "re.Pattern") (hd:o.dict=none) (hv:o.data=.fields vs) (h5:vs.getD 5 .none=.ref cl) (h6:Builtin.Re.reRawNat (vs.getD 6 .none)=0)
  (hoc:K.lookup cl=some oc) (hi:oc.data=.seq items m) (he:(items.map Builtin.Re.reRawOf).map (·.toNat)=j5r b)
theorem j1n{V:Type}{a:Array V}(h:a.toList.length=0):a=#[]:=by
 cases a with
 | mk l=>simp at h;rw [h]
section
variable {D:y4o} {K:Frag} {B:Heap} {prog:Program} {w:World}
theorem y9x{V A8:Type}{f:V->A8->Bool}:∀ {as:List V} {bs:List A8} {i:Nat} {a:V},z2k f as bs=true->as[i]?=some a->∃ b,bs[i]?=some b/\f a b=true
 | [],_,i,a,_,h=>by simp at h
 | _::_,[],i,a,h,_=>by contradiction
 | x::as,y::bs,0,a,h,e=>by
  simp at e;subst e
  exact⟨y,rfl,(z0v h).1⟩
 | x::as,y::bs,i+1,a,h,e=>by
  obtain⟨b,e1,e2⟩:=y9x (i:=i) (z0v h).2 (by simpa using e)
  exact⟨b,by simpa using e1,e2⟩
theorem y0c{V A8:Type}[BEq V][LawfulBEq V]{l:List (V×A8)}{k:V}{v:A8}(h:l.lookup k=some v):(k,v)∈l:=by
 induction l with
 | nil=>contradiction
 | cons p l ih=>
  obtain⟨j,u⟩:=p
  simp only [List.lookup] at h
  split at h
  ·rename_i e;injection h with h;subst h;rw [BE.mp e];exact AC
  ·exact AD _ (ih h)
theorem q8g:∀ {es:List DictEntry} {fl:List (Int×Str)},z2k j6d es fl=true->∃ kvs,Pairs (intKind prog w) es kvs/\kvs.map (·.1)=fl.map (·.1)/\(∀ k,match fl.lookup k with | some x=>∃ t,valueAt kvs k=some (.str x t) | none=>valueAt kvs k=none) /\
  (∀ e,e∈es->∃ k,(intKind prog w).is k e.key=true/\e.hash=(intKind prog w).hash k)
 | [],[],_=>⟨[],.nil,rfl,fun k=>rfl,fun e h=>(nomatch h)⟩
 | [],_::_,h=>by contradiction
 | _::_,[],h=>by contradiction
 | e::es,r::fl,h=>by
  obtain⟨h1,h2⟩:=z0v h
  obtain⟨kvs,p,q,v,hh⟩:=q8g h2
  obtain⟨hk,hv,hhash⟩:=z4d h1
  obtain⟨t,ek⟩:=j6b (BI hk)
  obtain⟨t',ev⟩:=q2w (BI hv)
  have hhash:=BI hhash
  obtain⟨rk,rx⟩:=r
  have is1:(intKind prog w).is rk e.key=true:=by rw [ek];exact intKind_is prog w rk t
  refine⟨(rk,.str rx t')::kvs,.cons is1 ev p,by simp [q],fun j=>?_,fun e' he'=>?_⟩
  ·have:=v j
   by_cases hj:j=rk
   ·subst hj
    simp [List.lookup,valueAt]
   ·have e1:(j==rk)=false:=by simpa using hj
    have e2:(rk=j)=False:=by simpa using fun h=>hj h.symm
    simp only [List.lookup,e1]
    unfold valueAt at this ⊢
    simp only [List.find?,e2,decide_false]
    exact this
  ·rcases AR.mp he' with rfl | he'
   ·exact⟨rk,is1,hhash⟩
   ·exact hh e' he'
structure q2x(D:y4o)(K:Frag):Prop where
 nm:x9e D=true
 gv:k5l D K=true
 c0:y5v D K D.c0=true
 c1:y5v D K D.c1=true
 meths:D.meths.all (q5v D K)=true
 gat:x6g D K=true
 fns:z2k (x9i D K) D.fns D.fA=true
 flag:j6e D K=true
 pT:y5w K true D.pT=true
 pF:y5w K false D.pF=true
theorem z9f{C:Addr}(h:y5v D K C=true):keepIn K (.ref C)=true/\(plainGet K C Str.empty=true/\hasDictIn K C=true/\noSeq K C=true/\plainOver K C=true/\findIn K (.ref C) "__setattr__"=some (some (.builtin "object.__setattr__")))/\makesIn K C=true /\
  ∀ k x,D.atts.contains k=true->D.nm[k]?=some x->findIn K (.ref C) x=some none:=by
 unfold y5v at h
 simp only [EL,BE] at h
 obtain⟨⟨⟨⟨⟨⟨⟨a,b⟩,c⟩,d⟩,e⟩,f⟩,g⟩,i⟩:=h
 refine⟨a,⟨b,c,d,e,f⟩,g,fun k x hk hx=>?_⟩
 have:=BA.mp i k (by simpa using hk)
 rw [hx] at this
 exact BE.mp this
theorem q2y{F:z4x}{a:Addr}(h:x9i D K F a=true):FnC D K F a:=by
 obtain⟨o,ho,h⟩:=z5a h
 obtain⟨fd,hd,h⟩:=z5a h
 obtain⟨body,hb,h⟩:=z5a h
 exact⟨o,fd,body,ho,j1m hd,j5x hb,h⟩
theorem j6f{p:Program}{loose:List Str}{mean:ExcName->Option Value}{mg mb:Str->Option Value}(c:q2x D K)(X:K.In B)(T:Top p loose mean mg mb B):z0r (D.info K B):=by
 have hn:=c.nm
 unfold x9e at hn
 simp only [EL,BE] at hn
 obtain⟨⟨⟨⟨⟨n0,n1⟩,n2⟩,n3⟩,n4⟩,n5⟩:=hn
 have C:∀ i,y5v D K ((D.info K B).cA i)=true:=fun i=>match i with
  | 0=>c.c0
  | _+1=>c.c1
 refine { nd:=AK n0,kin:=X,glob:=⟨mg,mb,T.g,T.b,fun x v hx=>?_⟩,keepF:=fun f hf=>?_,keepC:=fun i=>(z9f (C i)).1,n0:=n1,n1:=n2,n2:=n3,n3:=n4,n4:=n5,meths:=fun i m f x hm hx=>?_,plainC:=fun i=>(z9f (C i)).2.1,makesC:=fun i f _=>(z9f (C i)).2.2.1,attsC:=fun i k x hk hx=>(z9f (C i)).2.2.2 k x hk hx,gat:=fun k x y hk hy=>?_ }
 ·have:=BA.mp c.gv _ (y0c hx)
  simp only [Bool.or_eq_true,EL,BE,DG] at this
  rcases this with h | ⟨⟨h1,h2⟩,h3⟩
  ·exact .inl (mg_of X T.g h)
  ·exact .inr ⟨mg_none_of X T.g h1,(T.builtins x (by simpa using h3)).trans h2⟩
 ·obtain⟨F,hF⟩:=Option.isSome_iff_exists.mp hf
  obtain⟨a,ha,hc⟩:=y9x c.fns hF
  obtain⟨o,fd,body,ho,hd,_,_⟩:=q2y hc
  have ea:(D.info K B).fA f=a:=by show D.fA.getD f 0=a;rw [AI,ha];rfl
  rw [ea]
  obtain⟨oc,od,odt,os⟩:=o
  dsimp only at hd
  subst hd
  show(match K.lookup a with | some ⟨_,_,.func _,_⟩=>true | some ⟨_,_,.cls _,_⟩=>_ | _=>false)=true
  rw [ho]
 ·have:=BA.mp c.meths _ (y0c hm)
  unfold q5v at this
  rw [show D.nm[m]?=some x from hx] at this
  simp only [EL,BE,DG] at this
  obtain⟨⟨⟨⟨a,b⟩,cc⟩,d⟩,e⟩:=this
  have ec:(D.info K B).cA i=cAt D i:=by induction i using Nat.casesOn<;>rfl
  rw [ec]
  exact⟨a,b,cc,d,e⟩
 ·have:=BA.mp c.gat _ (y0c hk)
  rw [show D.nm[k]?=some y from hy] at this
  obtain⟨mc,hmc,h⟩:=z5a this
  obtain⟨a,h⟩:=z0v h
  obtain⟨l,hl,h⟩:=z5a h
  obtain⟨v,hv,h⟩:=z5a h
  obtain⟨t,rfl⟩:=q2w (BI h)
  exact⟨mc,t,hmc,a,hl.trans (AT some (j6c hv))⟩
theorem x1u(c:q2x D K)(X:K.In B)(T:z0r (D.info K B))(hlim:B.NoLimit):x9a (D.info K B) prog w where
 nolim:=hlim
 fns:=fun f F hF=>by
  obtain⟨a,ha,hc⟩:=y9x c.fns hF
  obtain⟨o,fd,body,ho,hd,hb,h⟩:=q2y hc
  have ea:(D.info K B).fA f=a:=by show D.fA.getD f 0=a;rw [AI,ha];rfl
  rw [ea]
  have q:=z5t h
  exact⟨o,fd,body,60,X _ _ ho,hd,hb,codeRec_of X q.1,x9h q.2.1,q.2.2.1,j5w T q.2.2.2⟩
theorem y7x{b:Bool}{a:Addr}(h:y5w K b a=true):w8h K b a:=by
 obtain⟨o,ho,h⟩:=z5a h
 obtain⟨h1,h⟩:=z0v h
 obtain⟨vs,hv,h⟩:=z5a h
 obtain⟨cl,h5,h⟩:=z5a h
 obtain⟨oc,hoc,h⟩:=z5a h
 obtain⟨items,hi,h⟩:=z5a h
 obtain⟨m,hi⟩:=x1t hi
 exact⟨o,vs,cl,oc,items,m,ho,BI (z0v h1).1,z1i (z0v h1).2,j5y hv,j6a h5,AK (z0v h).1,hoc,hi,Array.toList_inj.mp (AK (z0v h).2)⟩
theorem x1v(c:q2x D K)(X:K.In B):q1z (D.info K B) prog w where
 flags:=by
  have h:=c.flag
  obtain⟨h0,h1,h2⟩:=z4d h
  obtain⟨o,ho,h2⟩:=z5a h2
  obtain⟨h3,h2⟩:=z0v h2
  obtain⟨c1,c2,c3⟩:=z4d h3
  obtain⟨es,he,h4⟩:=z5a h2
  obtain⟨n,he⟩:=j5z he
  obtain⟨kvs,p,q,v,hh⟩:=q8g (prog:=prog) (w:=w) h4
  exact⟨kvs,⟨o,es,n,X _ _ ho,⟨BI c1,z1i c2,j1n (AK c3)⟩,he,fun e he=>hh e (EU.mpr he),p,by rw [q];exact AK h1⟩,q0v h0,v⟩
 pats:=fun b=>by
  have hb:y5w K b ((D.info K B).pA b)=true:=by cases b;exact c.pF;exact c.pT
  obtain⟨o,vs,cl,oc,items,m,ho,h1,h2,_,_,_,_,_,_⟩:=y7x hb
  exact⟨o,X _ _ ho,h1,h2⟩
 patA:=j5n
 patS:=q8d
 patT:=x1p
 search:=fun b x t A s Q E hok hup q=>by
  have hb:y5w K b ((D.info K B).pA b)=true:=by cases b;exact c.pF;exact c.pT
  obtain⟨o,vs,cl,oc,items,m,ho,h1,h2,h3,h4,h5,h6,h7,h8⟩:=y7x hb
  exact j5s hok (hup _ _ (X _ _ ho)) h1 h3 h4 h5 (hup _ _ (X _ _ h6)) h7 h8 (q s.toks)
end
noncomputable def z8o(h:Heap)(n:Nat):Frag:=(List.range n).filterMap fun a=>(h.get? a).map fun o=>(a,o)
theorem y5x{h:Heap}:∀ {l:List Nat} {a:Addr} {o:Obj},(l.filterMap fun a=>(h.get? a).map fun o=>(a,o)).lookup a=some o->h.get? a=some o
 | [],_,_,e=>by contradiction
 | b::l,a,o,e=>by
  rw [List.filterMap_cons] at e
  induction hb:h.get? b using Option.casesOn with
  | none=>rw [hb] at e;exact y5x (l:=l) e
  | some x=>
   rw [hb] at e
   have e:List.lookup a ((b,x)::_)=some o:=e
   rw [DU] at e
   induction q:a==b using Bool.casesOn with
   | true=>rw [q] at e;injection e with e;subst e;rw [BI q];exact hb
   | false=>rw [q] at e;exact y5x (l:=l) e
theorem j6g(h:Heap)(n:Nat):(z8o h n).In h:=fun a o e=>y5x e
noncomputable def q5w(D:y4o)(lid n:Nat)(s:Shared):Bool:=x9e D&&k5l D (z8o s.heap n)&&y5v D (z8o s.heap n) D.c0&&y5v D (z8o s.heap n) D.c1&&D.meths.all (q5v D (z8o s.heap n))&&x6g D (z8o s.heap n)&&j6e D (z8o s.heap n)&&y5w (z8o s.heap n) true D.pT&&y5w (z8o s.heap n) false D.pF &&
 nsIn (z8o s.heap n) mainGlobals ("law":Str)==some (some (.ref (D.fA.getD lid 0)))
noncomputable def j1o(D:y4o)(n:Nat)(s:Shared):Bool:=z2k (x9i D (z8o s.heap n)) D.fns D.fA
noncomputable def Seen(D:y4o)(lid:Nat)(h:Heap):Prop:=∃ K:Frag,K.In h/\q2x D K/\nsIn K mainGlobals ("law":Str)=some (some (.ref (D.fA.getD lid 0)))
theorem x9j{D:y4o}{lid n:Nat}{s:Shared}(h1:q5w D lid n s=true)(h2:j1o D n s=true):Seen D lid s.heap:=by
 unfold q5w at h1
 simp only [EL] at h1
 obtain⟨⟨⟨⟨⟨⟨⟨⟨⟨h1,h3⟩,h4⟩,h5⟩,h6⟩,h7⟩,h8⟩,h9⟩,h10⟩,h11⟩:=h1
 exact⟨_,j6g s.heap n,⟨h1,h3,h4,h5,h6,h7,h2,h8,h9,h10⟩,BI h11⟩
theorem q8h{V Z A8:Type}{o:Option V}{f:V->Z}{g:V->A8}{a:Z}{b:A8}(h1:o.map f=some a)(h2:o.map g=some b):o.map (fun x=>(f x,g x))=some (a,b):=by
 induction o using Option.casesOn with
 | none=>contradiction
 | some x=>rw [GA] at h1 h2 ⊢;rw [AF h1,AF h2]
theorem Seen.keeps{D:y4o}{lid:Nat}{h h':Heap}(S:Seen D lid h)(k:∀ b o,h.get? b=some o->h'.get? b=some o):Seen D lid h':=
 let ⟨K,a,b⟩:=S;⟨K,fun x o e=>k x o (a x o e),b⟩
theorem j6h{P:Params}{h:Heap}{a:Addr}{d:WData}{xs:List PyData}(hw:Well P h (.ref a) d)(hd:d=ofPy (.list xs)):∀ o,h.get? a=some o->o.cls=.type "list"->o.dict=none:=by
 intro o ho hc
 cases hw with
 | list h1 _=>rw [h1] at ho;injection ho with ho;subst ho;rfl
 | bytearray h1=>rw [h1] at ho;injection ho with ho;subst ho;rfl
 | tuple h1 _=>rw [h1] at ho;injection ho with ho;subst ho;rfl
 | dict h1 _=>rw [h1] at ho;injection ho with ho;subst ho;rfl
 | set h1 _ _ _=>rw [h1] at ho;injection ho with ho;subst ho;rfl
 | frozenset h1 _ _ _=>rw [h1] at ho;injection ho with ho;subst ho;rfl
 | _=>simp [ofPy] at hd
theorem x1w{I:z2w}{g:Fz}{Z:Bt}{vs:List Value}{ns:List Int}(h:IntsAre vs ns):z0e I g Z vs (ns.map .int):=by
 induction h with
 | nil=>exact .nil
 | cons n t _ ih=>exact .cons (.int n t) ih
theorem x1x{vs:List Value}{ns:List Int}(h:IntsAre vs ns):vs.length=ns.length:=by
 induction h with
 | nil=>rfl
 | cons n t _ ih=>simp [ih]
theorem law_walks{D:y4o}{K:Frag}{prog:Program}{w:World}{s:Shared}{p:Program}{loose:List Str}{mean:ExcName->Option Value}{mg mb:Str->Option Value}{l fa:Addr}{vals:List Value}{ns:List Int}{lid:Nat}{xs:List PyData}{d:WData}{A:Around}
 {Q:Value->Shared->Prop}{E:Value->Shared->Prop}(c:q2x D K)(X:K.In s.heap)(T:Top p loose mean mg mb s.heap)(hL:s.heap.IsList l vals.toArray)(hw:Well w.params s.heap (.ref l) d)(hd:d=ofPy (.list xs))(hI:IntsAre vals ns)(hlen:ns.length<=63)
 (hA:k3a A 20)(hfa:fa=D.fA.getD lid 0)(hrun:∃ H',z0f D.mp 20 lid [.lst (ns.map .int)] [] ⟨0,0⟩ []=some (.bool true,H'))
 (q:∀ s',(∀ b o,s.heap.get? b=some o->s'.heap.get? b=some o)->s'.os=s.os->s'.gens=s.gens->Q (.bool true) s'):wpAny (model prog w) A (call (.ref fa) [.ref l]) Q E s:=by
 have TT:=j6f c X T
 have TF:x9a (D.info K s.heap) prog w:=x1u c X TT T.nolimit
 have TW:q1z (D.info K s.heap) prog w:=x1v c X
 obtain⟨H',hrun⟩:=hrun
 obtain⟨o,ho,hc,n,hod⟩:=hL
 have R:SR (D.info K s.heap) w.params (fun a=>s.heap.get? a) (fun _=>none) [] s.heap:=
  { base:=fun a o h=>h,sub:=fun a o h=>h,dom:=fun i hi=>absurd hi (ER _),lt:=fun i a h=>(nomatch h),inj:=fun i j a h=>(nomatch h),off:=fun i a h=>(nomatch h),cell:=fun i a c h=>(nomatch h) }
 have RA:z0e (D.info K s.heap) (fun a=>s.heap.get? a) (fun _=>none) [.ref l] [.lst (ns.map .int)]:=
  .cons (.lst ho ⟨hc,n,hod,j6h hw hd o ho hc⟩ (by rw [x1x hI];exact AA hlen (by decide)) (x1w hI)) .nil
 have G:=x1n TT TW TF 20 (A:=A) (L:=⟨0,0⟩) hA R RA .nil hrun
 rw [show fa=(D.info K s.heap).fA lid from hfa]
 refine wpAny_call (G _ fun v g' Z' s' Gr R' rv=>?_)
 cases rv
 refine q s' (fun b o h=>Gr.kept b o h (by simp) fun i e=>(nomatch e)) ?_ ?_
 ·rw [Gr.rest]
 ·rw [Gr.rest]
end Mine
end
section
open PySem
namespace Mine
@[simp] theorem w2o{V:Type}(a:V)(L:Lim)(H:z0b):M.pure a L H=some (a,H):=rfl
@[simp] theorem w2p{V:Type}(L:Lim)(H:z0b):(M.fail:M V) L H=none:=rfl
@[simp] theorem z4m{V:Type}(a:V)(L:Lim)(H:z0b):M.ofOpt (some a) L H=some (a,H):=rfl
@[simp] theorem q8i(L:Lim)(H:z0b):z5f L H=some (H,H):=rfl
@[simp] theorem z2x{V Z:Type}(m:M V)(f:V->M Z)(L:Lim)(H:z0b):M.bind m f L H=match m L H with | some (a,H')=>f a L H' | none=>none:=rfl
theorem z0m{V Z:Type}{m:M V}{f:V->M Z}{L:Lim}{H H':z0b}{a:V}(h:m L H=some (a,H')):M.bind m f L H=f a L H':=by rw [z2x,h]
@[simp] theorem y3k(Y:z0n)(k:Nat)(v:PV)(j:Nat):upd Y k v j=if j=k then some v else Y j:=rfl
@[simp] theorem k5s(i:Int)(L:Lim)(H:z0b):y6v (.int i) L H=some (i,H):=rfl
noncomputable def Lup(up:Bool)(L:Lim)(H:z0b):Lim:=if up then⟨H.length,H.length⟩ else L
@[simp] theorem j6i{V:Type}(up:Bool)(m:M V)(L:Lim)(H:z0b):M.raised up m L H=m (Lup up L H) H:=rfl
section
variable (P:MP) (C:z0h) (n:Nat) (Y:z0n) (L:Lim) (H:z0b)
@[simp] theorem w6t:(sem P C (n+1)).ev Y .none L H=some (.none,H):=rfl
@[simp] theorem w6u(b):(sem P C (n+1)).ev Y (.bool b) L H=some (.bool b,H):=rfl
@[simp] theorem w8i(i):(sem P C (n+1)).ev Y (.int i) L H=some (.int i,H):=rfl
@[simp] theorem w8j(x):(sem P C (n+1)).ev Y (.str x) L H=some (.str x,H):=rfl
@[simp] theorem w8k(k):(sem P C (n+1)).ev Y (.var k) L H=M.ofOpt (Y k) L H:=rfl
@[simp] theorem w8l(o a b):(sem P C (n+1)).ev Y (.bin o a b) L H=((((sem P C n).ev Y a).bind fun p=>((sem P C n).ev Y b).bind fun q=>z5f.bind fun H=>M.ofOpt (y6q o H p q)):M PV) L H:=rfl
@[simp] theorem w8m(o a b):(sem P C (n+1)).ev Y (.cmp o a b) L H=(((sem P C n).ev Y a).bind fun p=>((sem P C n).ev Y b).bind fun q=>z9p P C o p q:M PV) L H:=rfl
@[simp] theorem w1j(ng a):(sem P C (n+1)).ev Y (.isNone ng a) L H=(((sem P C n).ev Y a).bind fun p=>M.pure (.bool (z3b p != ng)):M PV) L H:=rfl
@[simp] theorem w6v(ng t a):(sem P C (n+1)).ev Y (.isTy ng t a) L H=(((sem P C n).ev Y a).bind fun p=>z5f.bind fun H=>(M.ofOpt (q4r H t p)).bind fun r=>M.pure (.bool (r != ng)):M PV) L H:=rfl
@[simp] theorem w8n(c a b):(sem P C (n+1)).ev Y (.ite c a b) L H=(((sem P C n).ts Y c).bind fun t=>if t then(sem P C n).ev Y a else(sem P C n).ev Y b:M PV) L H:=rfl
@[simp] theorem x9k(a i):(sem P C (n+1)).ev Y (.idx a i) L H=(((sem P C n).ev Y a).bind fun p=>((sem P C n).ev Y i).bind fun q=>j9v P C p q:M PV) L H:=rfl
@[simp] theorem w2q(a lo hi):(sem P C (n+1)).ev Y (.slice a lo hi) L H=(((sem P C n).ev Y a).bind fun p=>(x0b ((sem P C n).ev Y) lo).bind fun l=>(x0b ((sem P C n).ev Y) hi).bind fun h=>(z9o l).bind fun l=>(z9o h).bind fun h=>
   z5f.bind fun H=>M.ofOpt (z7v H p l h):M PV) L H:=rfl
@[simp] theorem w2r(l):(sem P C (n+1)).ev Y (.tup l) L H=((z3t ((sem P C n).ev Y) l).bind fun vs=>M.pure (.tup vs):M PV) L H:=rfl
@[simp] theorem w8o(l):(sem P C (n+1)).ev Y (.lst l) L H=((z3t ((sem P C n).ev Y) l).bind fun vs=>M.pure (.lst vs):M PV) L H:=rfl
@[simp] theorem k5t(l):(sem P C (n+1)).ev Y (.mlst l) L H=((z3t ((sem P C n).ev Y) l).bind fun vs=>z8g vs:M PV) L H:=rfl
@[simp] theorem k5u(a b):(sem P C (n+1)).ev Y (.mcat a b) L H=(((sem P C n).ev Y a).bind fun p=>((sem P C n).ev Y b).bind fun q=>z5f.bind fun H=>(M.ofOpt (z5l H p)).bind fun x=>(M.ofOpt (z5l H q)).bind fun y=>(M.ofOpt (sz (x++y))).bind fun l=>z8g l:M PV) L H:=rfl
@[simp] theorem w1k(a):(sem P C (n+1)).ev Y (.mslice a) L H=(((sem P C n).ev Y a).bind fun p=>z5f.bind fun H=>(M.ofOpt (z5l H p)).bind fun x=>z8g x:M PV) L H:=rfl
@[simp] theorem w6w(e):(sem P C (n+1)).ev Y (.pure e) L H=j0c ((sem P C n).ev Y e) L H:=rfl
@[simp] theorem w9r(e):(sem P C (n+1)).ev Y (.gc e) L H=gcM ((sem P C n).ev Y e) L H:=rfl
@[simp] theorem k5v(elt gs):(sem P C (n+1)).ev Y (.comp elt gs) L H=((y0m (sem P C n) elt Y gs).bind fun l=>M.pure (.lst l):M PV) L H:=rfl
@[simp] theorem w6x(f args):(sem P C (n+1)).ev Y (.call f args) L H=((z3t ((sem P C n).ev Y) args).bind fun vs=>C f vs []:M PV) L H:=rfl
@[simp] theorem w8p(c args):(sem P C (n+1)).ev Y (.new c args) L H=((M.ofOpt (P.meth c y4y)).bind fun f=>(z3t ((sem P C n).ev Y) args).bind fun vs=>y4x.bind fun i=>(C f (.inst c i::vs) []).bind fun r=>if z3b r then M.pure (.inst c i) else M.fail:M PV) L H:=rfl
@[simp] theorem w6y(c args):(sem P C (n+1)).ev Y (.newg c args) L H=((M.ofOpt (P.meth c y4y)).bind fun f=>(z3t ((sem P C n).ev Y) args).bind fun vs=>y4x.bind fun i=>(y2y i (C f (.inst c i::vs) [])).bind fun _=>M.pure (.inst c i):M PV) L H:=rfl
@[simp] theorem w6z(m o args):(sem P C (n+1)).ev Y (.meth m o args) L H=(((sem P C n).ev Y o).bind fun p=>(q4s p).bind fun _=>(z3t ((sem P C n).ev Y) args).bind fun vs=>y0o P C m p vs []:M PV) L H:=rfl
@[simp] theorem w2s(m o args k e):(sem P C (n+1)).ev Y (.methk m o args k e) L H=(((sem P C n).ev Y o).bind fun p=>(q4s p).bind fun _=>(z3t ((sem P C n).ev Y) args).bind fun vs=>((sem P C n).ev Y e).bind fun v=>y0o P C m p vs [(k,v)]:M PV) L H:=rfl
@[simp] theorem k5w(k o):(sem P C (n+1)).ev Y (.attr k o) L H=(((sem P C n).ev Y o).bind fun p=>x0c k p:M PV) L H:=rfl
@[simp] theorem j6j(k):(sem P C (n+1)).ev Y (.gattr k) L H=((M.ofOpt (P.gattr k)).bind fun x=>M.pure (.str x):M PV) L H:=rfl
@[simp] theorem w8q(b):(sem P C (n+1)).ev Y (.pat b) L H=some (.pat b,H):=rfl
@[simp] theorem w7a(p args):(sem P C (n+1)).ev Y (.prim p args) L H=((z3t ((sem P C n).ev Y) args).bind fun vs=>z5f.bind fun H=>M.ofOpt (z4z P p H vs):M PV) L H:=rfl
@[simp] theorem w8r(a):(sem P C (n+1)).ts Y (.notE a) L H=(((sem P C n).ts Y a).bind fun t=>M.pure (!t):M Bool) L H:=rfl
@[simp] theorem w2t(l):(sem P C (n+1)).ts Y (.andE l) L H=y4w ((sem P C n).ts Y) l L H:=rfl
@[simp] theorem w9s(l):(sem P C (n+1)).ts Y (.orE l) L H=x7p ((sem P C n).ts Y) l L H:=rfl
noncomputable def tsV(n:Nat)(e:ME):M Bool:=((sem P C n).ev Y e).bind fun p=>z5f.bind fun H=>M.ofOpt (z9n H p)
@[simp] theorem w8s(k):(sem P C (n+1)).ts Y (.var k) L H=tsV P C Y n (.var k) L H:=rfl
@[simp] theorem w7b(k):(sem P C (n+1)).ts Y (.bool k) L H=tsV P C Y n (.bool k) L H:=rfl
@[simp] theorem w2u(o a b):(sem P C (n+1)).ts Y (.cmp o a b) L H=tsV P C Y n (.cmp o a b) L H:=rfl
@[simp] theorem w1l(o a):(sem P C (n+1)).ts Y (.isNone o a) L H=tsV P C Y n (.isNone o a) L H:=rfl
@[simp] theorem w7c(o t a):(sem P C (n+1)).ts Y (.isTy o t a) L H=tsV P C Y n (.isTy o t a) L H:=rfl
@[simp] theorem w8t(o a b):(sem P C (n+1)).ts Y (.bin o a b) L H=tsV P C Y n (.bin o a b) L H:=rfl
@[simp] theorem w7d(p a):(sem P C (n+1)).ts Y (.prim p a) L H=tsV P C Y n (.prim p a) L H:=rfl
@[simp] theorem w7e(p a):(sem P C (n+1)).ts Y (.call p a) L H=tsV P C Y n (.call p a) L H:=rfl
@[simp] theorem w7f(p a):(sem P C (n+1)).ts Y (.attr p a) L H=tsV P C Y n (.attr p a) L H:=rfl
@[simp] theorem w7g(m o a):(sem P C (n+1)).ts Y (.meth m o a) L H=tsV P C Y n (.meth m o a) L H:=rfl
@[simp] theorem k5x(n e):tsV P C Y n e L H=(((sem P C n).ev Y e).bind fun p=>z5f.bind fun H=>M.ofOpt (z9n H p):M Bool) L H:=rfl
@[simp] theorem w8u(e):(sem P C (n+1)).ex Y (.ret e) L H=(((sem P C n).ev Y e).bind fun v=>M.pure (.ret v):M Fl) L H:=rfl
@[simp] theorem w7h(e):(sem P C (n+1)).ex Y (.expr e) L H=(((sem P C n).ev Y e).bind fun _=>M.pure (.next Y):M Fl) L H:=rfl
@[simp] theorem x1y(p e):(sem P C (n+1)).ex Y (.assign p e) L H=(((sem P C n).ev Y e).bind fun v=>(M.ofOpt (z1v Y p v)).bind fun Y'=>M.pure (.next Y'):M Fl) L H:=rfl
@[simp] theorem k5y(ks e):(sem P C (n+1)).ex Y (.assigns ks e) L H=(((sem P C n).ev Y e).bind fun v=>M.pure (.next (ks.foldl (fun Y k=>upd Y k v) Y)):M Fl) L H:=rfl
@[simp] theorem w8v(o k e):(sem P C (n+1)).ex Y (.aug o k e) L H=((M.ofOpt (Y k)).bind fun p=>((sem P C n).ev Y e).bind fun q=>z5f.bind fun H=>(M.ofOpt (x5k o p q)).bind fun r=>M.pure (.next (upd Y k r)):M Fl) L H:=rfl
@[simp] theorem q2z(o k e):(sem P C (n+1)).ex Y (.setAttr o k e) L H=(((sem P C n).ev Y e).bind fun v=>((sem P C n).ev Y o).bind fun p=>(z9a k p v).bind fun _=>M.pure (.next Y):M Fl) L H:=rfl
@[simp] theorem x1z(o i e):(sem P C (n+1)).ex Y (.setIdx o i e) L H=(((sem P C n).ev Y e).bind fun v=>((sem P C n).ev Y o).bind fun p=>((sem P C n).ev Y i).bind fun q=>(y5a P C p q v).bind fun _=>M.pure (.next Y):M Fl) L H:=rfl
@[simp] theorem w1m(o e):(sem P C (n+1)).ex Y (.setAll o e) L H=(((sem P C n).ev Y e).bind fun v=>((sem P C n).ev Y o).bind fun p=>(y8z p v).bind fun _=>M.pure (.next Y):M Fl) L H:=rfl
@[simp] theorem w1n(o i):(sem P C (n+1)).ex Y (.delIdx o i) L H=(((sem P C n).ev Y o).bind fun p=>((sem P C n).ev Y i).bind fun q=>(y0o P C y3x p [q] []).bind fun _=>M.pure (.next Y):M Fl) L H:=rfl
@[simp] theorem w1o(o e):(sem P C (n+1)).ex Y (.append o e) L H=(((sem P C n).ev Y o).bind fun p=>(x0d p).bind fun _=>((sem P C n).ev Y e).bind fun v=>(y9a p v).bind fun _=>M.pure (.next Y):M Fl) L H:=rfl
@[simp] theorem w8w(c a b):(sem P C (n+1)).ex Y (.ifs c a b) L H=(((sem P C n).ts Y c).bind fun t=>exs (sem P C n).ex Y (if t then a else b):M Fl) L H:=rfl
theorem j6k(p k src body orelse):(sem P C (n+1)).ex Y (.for_ p k src body orelse) L H=((z8z (sem P C n) Y k src).bind fun r=>(z3i (sem P C n).ex p body orelse Y r.1).raised r.2:M Fl) L H:=rfl
@[simp] theorem w8x:(sem P C (n+1)).ex Y .brk L H=some (.brk Y,H):=rfl
@[simp] theorem w2v(ex:z0n->MS->M Fl):exs ex Y [] L H=some (.next Y,H):=rfl
@[simp] theorem z3l(ex:z0n->MS->M Fl)(st r):exs ex Y (st::r) L H=((ex Y st).bind fun f=>match f with
  | .next Y'=>exs ex Y' r
  | f=>M.pure f:M Fl) L H:=rfl
@[simp] theorem x2a{V:Type}(f:ME->M V):z3t f [] L H=some ([],H):=rfl
@[simp] theorem k3b{V:Type}(f:ME->M V)(e es):z3t f (e::es) L H=((f e).bind fun a=>(z3t f es).bind fun as=>M.pure (a::as):M (List V)) L H:=rfl
@[simp] theorem w1p(f:ME->M Bool):y4w f [] L H=some (true,H):=rfl
@[simp] theorem y5y(f:ME->M Bool)(c cs):y4w f (c::cs) L H=((f c).bind fun ok=>if ok then y4w f cs else M.pure false:M Bool) L H:=rfl
@[simp] theorem w1q(f:ME->M Bool):x7p f [] L H=some (false,H):=rfl
@[simp] theorem k5z(f:ME->M Bool)(c cs):x7p f (c::cs) L H=((f c).bind fun ok=>if ok then M.pure true else x7p f cs:M Bool) L H:=rfl
theorem j1p(ex:z0n->MS->M Fl)(a b):exs ex Y (a++b) L H=((exs ex Y a).bind fun f=>match f with
  | .next Y'=>exs ex Y' b
  | f=>M.pure f:M Fl) L H:=by
 induction a generalizing Y H with
 | nil=>rfl
 | cons st r ih=>
  show exs ex Y (st::(r++b)) L H=_
  rw [z3l]
  simp only [z2x]
  rw [z3l,z2x]
  induction h:ex Y st L H using Option.casesOn with
  | none=>rfl
  | some x=>
   obtain⟨f,H'⟩:=x
   cases f with
   | next Y'=>simp only;rw [ih];rfl
   | brk Y'=>rfl
   | ret v=>rfl
end
section
variable {S:z6z} {Y:z0n} {L:Lim} {H:z0b}
theorem z7l{V:Type}{f:PV->M (List PV)}{enc:V->PV}{g:V->List PV}:∀ {xs:List V},(∀ x,x∈xs->f (enc x) L H=some (g x,H))->z5e f (xs.map enc) L H=some (xs.flatMap g,H)
 | [],_=>rfl
 | x::xs,h=>by
  exact(z0m (h x AC)).trans (z0m (z7l fun y hy=>h y (AD _ hy)))
theorem y0d{V A8:Type}(t:V->Bool)(o:V->A8):∀ xs:List V,(xs.flatMap fun x=>if t x=true then[o x] else[])=(xs.filter t).map o
 | []=>rfl
 | x::xs=>by
  rw [List.flatMap_cons,y0d t o xs]
  cases h:t x<;>simp [h]
theorem z8p{elt:ME}{pat:Pat}{ifs:List ME}{items:List PV}:z3h S elt Y pat ifs [] items=z5e (fun v=>match z1v Y pat v with
  | none=>M.fail
  | some Y'=>(y4w (S.ts Y') ifs).bind fun ok=>if ok then((S.ev Y' elt).bind fun r=>M.pure [r]) else M.pure []) items:=by kernel_rfl
theorem q3a{elt:ME}{pat:Pat}{k:z6g}{args ifs:List ME}:y0m S elt Y [(pat,k,args,ifs)] L H=((z8z S Y k args).bind fun r=>
  ((z3h S elt (clear Y (z2u pat++[])) pat ifs [] r.1).raised r.2).bind fun l=>if decide (l.length<=z2n) then M.pure l else M.fail:M (List PV)) L H:=rfl
theorem z7m{V:Type}{elt:ME}{pat:Pat}{k:z6g}{args ifs:List ME}{up:Bool}{xs:List V}{enc out:V->PV}{test:V->Bool}{env:V->z0n}
 (hsrc:z8z S Y k args L H=some ((xs.map enc,up),H))(hlen:xs.length<=z2n)
 (hb:∀ x,x∈xs->z1v (clear Y (z2u pat)) pat (enc x)=some (env x))
 (ht:∀ x,x∈xs->y4w (S.ts (env x)) ifs (Lup up L H) H=some (test x,H))
 (ho:∀ x,x∈xs->test x=true->S.ev (env x) elt (Lup up L H) H=some (out x,H)) :
  y0m S elt Y [(pat,k,args,ifs)] L H=some ((xs.filter test).map out,H):=by
 rw [q3a,z0m hsrc]
 simp only [CA]
 have key:(z3h S elt (clear Y (z2u pat)) pat ifs [] (xs.map enc)).raised up L H=some ((xs.filter test).map out,H):=by
  rw [j6i,z8p,<- y0d]
  refine z7l fun x hx=>?_
  rw [hb x hx]
  dsimp only
  rw [z0m (ht x hx)]
  induction h:test x using Bool.casesOn with
  | false=>rfl
  | true=>
   rw [AQ rfl,z0m (ho x hx h)]
   simp [M.pure]
 have hk2:=z0m (f:=fun l=>if decide (l.length<=z2n) then M.pure l else M.fail) key
 refine hk2.trans ?_
 have:((xs.filter test).map out).length<=z2n:=by
  rw [AJ]
  exact AA (BZ _ _) hlen
 rw [AQ (AV this)]
 rfl
theorem j1q(k:Nat)(v:PV):upd (clear Y [k]) k v=upd Y k v:=by
 funext j
 simp only [upd,clear]
 by_cases h:j=k
 ·simp [h]
 ·simp [h]
theorem j1r(a b:Nat)(u v:PV):upd (upd (clear Y [a,b]) a u) b v=upd (upd Y a u) b v:=by
 funext j
 simp only [upd,clear]
 by_cases h:j=b
 ·simp [h]
 ·by_cases h2:j=a
  ·simp [h2]
  ·simp [h,h2]
theorem j1s(a b c:Nat)(u v w:PV):upd (upd (upd (clear Y [a,b,c]) a u) b v) c w=upd (upd (upd Y a u) b v) c w:=by
 funext j
 simp only [upd,clear]
 by_cases h:j=c
 ·simp [h]
 ·by_cases h2:j=b
  ·simp [h2]
  ·by_cases h3:j=a
   ·simp [h3]
   ·simp [h,h2,h3]
theorem z1y{V:Type}{elt:ME}{v:Nat}{k:z6g}{args ifs:List ME}{up:Bool}{xs:List V}{enc out:V->PV}{test:V->Bool}
 (hsrc:z8z S Y k args L H=some ((xs.map enc,up),H))(hlen:xs.length<=z2n)
 (ht:∀ x,x∈xs->y4w (S.ts (upd Y v (enc x))) ifs (Lup up L H) H=some (test x,H))
 (ho:∀ x,x∈xs->test x=true->S.ev (upd Y v (enc x)) elt (Lup up L H) H=some (out x,H)) :
  y0m S elt Y [(.one v,k,args,ifs)] L H=some ((xs.filter test).map out,H):=
 z7m (env:=fun x=>upd Y v (enc x)) hsrc hlen (fun x _=>AT some (j1q _ _)) ht ho
theorem j6l{V:Type}{elt:ME}{a b:Nat}{k:z6g}{args ifs:List ME}{up:Bool}{xs:List V}{e1 e2 out:V->PV}{test:V->Bool}
 (hsrc:z8z S Y k args L H=some ((xs.map (fun x=>.tup [e1 x,e2 x]),up),H))(hlen:xs.length<=z2n)
 (ht:∀ x,x∈xs->y4w (S.ts (upd (upd Y a (e1 x)) b (e2 x))) ifs (Lup up L H) H=some (test x,H))
 (ho:∀ x,x∈xs->test x=true->S.ev (upd (upd Y a (e1 x)) b (e2 x)) elt (Lup up L H) H=some (out x,H)) :
  y0m S elt Y [(.tup [a,b],k,args,ifs)] L H=some ((xs.filter test).map out,H):=
 z7m (env:=fun x=>upd (upd Y a (e1 x)) b (e2 x)) hsrc hlen (fun x _=>AT some (j1r _ _ _ _)) ht ho
theorem j6m{V:Type}{elt:ME}{a b c:Nat}{k:z6g}{args ifs:List ME}{up:Bool}{xs:List V}{e1 e2 e3 out:V->PV}{test:V->Bool}
 (hsrc:z8z S Y k args L H=some ((xs.map (fun x=>.tup [e1 x,e2 x,e3 x]),up),H))(hlen:xs.length<=z2n)
 (ht:∀ x,x∈xs->y4w (S.ts (upd (upd (upd Y a (e1 x)) b (e2 x)) c (e3 x))) ifs (Lup up L H) H=some (test x,H))
 (ho:∀ x,x∈xs->test x=true->S.ev (upd (upd (upd Y a (e1 x)) b (e2 x)) c (e3 x)) elt (Lup up L H) H=some (out x,H)) :
  y0m S elt Y [(.tup [a,b,c],k,args,ifs)] L H=some ((xs.filter test).map out,H):=
 z7m (env:=fun x=>upd (upd (upd Y a (e1 x)) b (e2 x)) c (e3 x)) hsrc hlen (fun x _=>AT some (j1s _ _ _ _ _ _)) ht ho
theorem z1z{ex:z0n->MS->M Fl}{pat:Pat}{body orelse:List MS}{Y Y1:z0n}{L:Lim}{H B0:z0b}{v:PV}{vs:List PV}{f:Fl}(h1:z1v Y pat v=some Y1)(h2:exs ex Y1 body L H=some (f,B0)) :
  z3i ex pat body orelse Y (v::vs) L H=(match(generalizing:=false) f with
   | .next Y''=>z3i ex pat body orelse Y'' vs
   | .brk Y''=>M.pure (.next Y'')
   | .ret v=>M.pure (.ret v):M Fl) L B0:=by
 rw [j2s,h1]
 exact z0m h2
theorem q3b{V:Type}{ex:z0n->MS->M Fl}{pat:Pat}{body orelse:List MS}{enc:V->PV}(I:z0n->Prop)(bad:V->Option PV) :
  ∀ (xs:List V) (Y:z0n),(∀ x,x∈xs->∀ Y,I Y->∃ Y1,z1v Y pat (enc x)=some Y1/\match bad x with
   | some v=>exs ex Y1 body L H=some (.ret v,H)
   | none=>∃ Y2,exs ex Y1 body L H=some (.next Y2,H)/\I Y2)->I Y ->
  match xs.findSome? bad with
  | some v=>z3i ex pat body orelse Y (xs.map enc) L H=some (.ret v,H)
  | none=>∃ Y',I Y'/\z3i ex pat body orelse Y (xs.map enc) L H=exs ex Y' orelse L H
 | [],Y,_,h=>⟨Y,h,rfl⟩
 | x::xs,Y,step,h=>by
  obtain⟨Y1,h1,h2⟩:=step x AC Y h
  rw [ED]
  induction hb:bad x using Option.casesOn with
  | some v=>
   rw [hb] at h2
   dsimp only at h2 ⊢
   exact z1z h1 h2
  | none=>
   rw [hb] at h2
   dsimp only at h2 ⊢
   obtain⟨Y2,h3,h4⟩:=h2
   have:=q3b (orelse:=orelse) I bad xs Y2 (fun y hy=>step y (AD _ hy)) h4
   rw [BL,z1z h1 h3]
   exact this
end
@[simp] theorem w1r(v:PV):k3k (.ret v)=M.pure v:=rfl
@[simp] theorem k6a(Y:z0n):k3k (.next Y)=M.pure .none:=rfl
theorem q5x{P:MP}{lv f:Nat}{F:z4x}{pos:List PV}{kw:List (Nat×PV)}{Y:z0n}{L:Lim}{H:z0b}(h1:P.fn f=some F)(h2:q4t F pos kw=some Y) :
  z0f P (lv+1) f pos kw L H=((exs (sem P (z0f P lv) 40).ex Y F.body).bind k3k:M PV) L H:=
 (z0m (show M.ofOpt (P.fn f) L H=some (F,H) by rw [h1];rfl)).trans (z0m (show M.ofOpt (q4t F pos kw) L H=some (Y,H) by rw [h2];rfl))
noncomputable abbrev y3q(a:Nat)(u:PV):z0n:=upd (fun _=>none) a u
noncomputable abbrev y3r(a:Nat)(u:PV)(b:Nat)(v:PV):z0n:=upd (upd (fun _=>none) a u) b v
noncomputable abbrev x9l(a:Nat)(u:PV)(b:Nat)(v:PV)(c:Nat)(w:PV):z0n:=upd (upd (upd (fun _=>none) a u) b v) c w
noncomputable abbrev w7i(a:Nat)(u:PV)(b:Nat)(v:PV)(c:Nat)(w:PV)(d:Nat)(x:PV):z0n:=upd (upd (upd (upd (fun _=>none) a u) b v) c w) d x
noncomputable def st(F:z4x)(i:Nat):MS:=F.body.getD i .stuck
section
variable {P:MP} {C:z0h} {n:Nat} {Y:z0n} {L:Lim} {H:z0b}
theorem z1q{S:z6z}{k:z6g}{args:List ME}{vs:List PV}{r:List PV×Bool}{H':z0b}(h1:z3t (S.ev Y) args L H=some (vs,H'))(h2:k2v k H' vs=some r):z8z S Y k args L H=some (r,H'):=by
 unfold z8z M.bind
 rw [h1]
 dsimp only
 rw [h2]
theorem q8j{V:Type}{p:Pat}{k:z6g}{src:List ME}{body orelse:List MS}{xs:List V}{enc:V->PV}{up:Bool}(I:z0n->Prop)(bad:V->Option PV)
 (hsrc:z8z (sem P C n) Y k src L H=some ((xs.map enc,up),H))
 (step:∀ x,x∈xs->∀ Y,I Y->∃ Y1,z1v Y p (enc x)=some Y1/\match bad x with
   | some v=>exs (sem P C n).ex Y1 body (Lup up L H) H=some (.ret v,H)
   | none=>∃ Y2,exs (sem P C n).ex Y1 body (Lup up L H) H=some (.next Y2,H)/\I Y2)(h:I Y) :
  ∃ Y',I Y'/\(sem P C (n+1)).ex Y (.for_ p k src body orelse) L H=(match xs.findSome? bad with
   | some v=>some (.ret v,H)
   | none=>exs (sem P C n).ex Y' orelse (Lup up L H) H):=by
 have hs:(sem P C (n+1)).ex Y (.for_ p k src body orelse) L H=z3i (sem P C n).ex p body orelse Y (xs.map enc) (Lup up L H) H:=by
  rw [j6k,z0m hsrc]
  rfl
 have key:=q3b (L:=Lup up L H) (H:=H) (orelse:=orelse) I bad xs Y step h
 induction hb:xs.findSome? bad using Option.casesOn with
 | some v=>
  rw [hb] at key
  exact⟨Y,h,hs.trans key⟩
 | none=>
  rw [hb] at key
  obtain⟨Y',h1,h2⟩:=key
  exact⟨Y',h1,hs.trans h2⟩
end
end Mine
end
section
open PySem PySem.W PyProof.Rows
namespace Mine
noncomputable def w2w:z4x:={ pos:=[5,6],dfl:=[],kwo:=[],kwargs:=none,body:=[
  .setAttr (.var 5) 7 (.var 6),
  .assign (.tup [8,9]) (.tup [.gattr 8,.gattr 9]),
  .assign (.one 10) (.mlst []),
  .assigns [11,12,13] (.int 0),
  .for_ (.one 14) .over [.attr 7 (.var 5)] [.ifs (.cmp .eq (.var 14) (.var 8)) [.assign (.one 12) (.bin .add (.var 12) (.int 1)),.assign (.one 11) (.bin .add (.var 11) (.int 1))] [.ifs (.cmp .eq (.var 14) (.var 9)) [.assign (.one 12) (.bin .add (.var 12) (.int 1)),.assign (.one 13) (.bin .add (.var 13) (.int 1)),.ifs (.cmp .ge (.var 11) (.prim .len [.var 10])) [.assign (.one 10) (.mcat (.var 10) (.bin .mul (.lst [.int 0]) (.bin .add (.bin .sub (.var 11) (.prim .len [.var 10])) (.int 1))))] [],.setIdx (.var 10) (.var 11) (.bin .add (.idx (.var 10) (.var 11)) (.int 1)),.assign (.one 11) (.int 0)] [.brk]]] [],
  .setAttr (.var 5) 12 (.var 12),
  .setAttr (.var 5) 13 (.var 13),
  .setAttr (.var 5) 15 (.tup [.prim .tuple [.var 10],.var 11]),
  .setAttr (.var 5) 16 (.cmp .le (.prim .len [.var 10]) (.int 1))] }
noncomputable def w7j:z4x:={ pos:=[5],dfl:=[],kwo:=[],kwargs:=none,body:=[
  .assign (.tup [10,17]) (.attr 15 (.var 5)),
  .ret (.prim .max [.bin .sub (.prim .len [.var 10]) (.int 1),.var 17])] }
noncomputable def w7k:z4x:={ pos:=[5,18],dfl:=[],kwo:=[],kwargs:=none,body:=[
  .assign (.tup [10,17]) (.attr 15 (.var 5)),
  .assign (.one 19) (.int 0),
  .for_ (.one 20) .range [.var 18,.prim .len [.var 10]] [.assign (.one 19) (.bin .add (.var 19) (.bin .mul (.bin .fdiv (.var 20) (.var 18)) (.idx (.var 10) (.var 20))))] [],
  .ret (.bin .add (.var 17) (.bin .mul (.var 18) (.bin .add (.var 19) (.attr 13 (.var 5)))))] }
noncomputable def w7l:z4x:={ pos:=[58,32,45],dfl:=[],kwo:=[],kwargs:=none,body:=[
  .ret (.pure (.call 6 [.bin .shl (.bin .add (.bin .shl (.int 1) (.var 58)) (.bin .shl (.int 1) (.var 32))) (.var 45)]))] }
noncomputable def w2x:z4x:={ pos:=[56,45],dfl:=[],kwo:=[],kwargs:=none,body:=[
  .assign (.one 118) (.new 1 []),
  .for_ (.tup [58,32,48]) .over [.var 56] [.assign (.one 119) (.call 3 [.var 58,.var 32,.var 45]),.assign (.one 34) (.ite (.var 48) (.prim .upper [.var 119]) (.prim .lower [.var 119])),.ifs (.cmp .in_ (.var 34) (.var 118)) [.delIdx (.var 118) (.var 34)] [.setIdx (.var 118) (.var 34) (.bin .add (.idx (.str (Str.ofString "01234")) (.var 58)) (.idx (.str (Str.ofString "01234")) (.var 32)))]] [],
  .ret (.var 118)] }
noncomputable def w7m:z4x:={ pos:=[5,21],dfl:=[],kwo:=[],kwargs:=none,body:=[
  .ifs (.cmp .ge (.attr 12 (.var 5)) (.attr 12 (.var 21))) [.ret (.bool false)] [],
  .ifs (.andE [.attr 16 (.var 5),.attr 16 (.var 21)]) [.ret (.cmp .le (.attr 13 (.var 5)) (.attr 13 (.var 21)))] [],
  .assign (.one 12) (.bin .add (.prim .max [.meth 22 (.var 5) [],.meth 22 (.var 21) []]) (.int 1)),
  .for_ (.one 24) .range [.int 2,.bin .add (.var 12) (.int 1)] [.ifs (.cmp .ge (.meth 25 (.var 5) [.var 24]) (.meth 25 (.var 21) [.var 24])) [.ret (.bool false)] []] [],
  .ret (.bool true)] }
noncomputable def w1s:z4x:={ pos:=[26],dfl:=[],kwo:=[],kwargs:=none,body:=[
  .assign (.one 27) (.mlst []),
  .for_ (.one 20) .range [.int 32] [.assign (.one 28) (.bin .shl (.int 1) (.var 20)),.ifs (.bin .band (.var 26) (.var 28)) [.append (.var 27) (.prim .flagGet [.var 28,.prim .hex [.var 28]]),.aug .bxor 26 (.var 28),.ifs (.notE (.var 26)) [.brk] []] []] [.append (.var 27) (.prim .hex [.var 26])],
  .ret (.prim .join [.str (Str.ofString ", "),.var 27])] }
noncomputable def w7n:z4x:={ pos:=[5,29],dfl:=[.none],kwo:=[],kwargs:=none,body:=[
  .assign (.one 29) (.ite (.isNone true (.var 29)) (.var 29) (.mlst [])),
  .ifs (.isTy true false (.var 29)) [.stuck] [],
  .setAttr (.var 5) 30 (.var 29),
  .ifs (.bool true) [.for_ (.tup [31,32]) .over [.var 29] [.expr (.methk 33 (.var 5) [.var 31] 34 (.bool true)),.expr (.methk 33 (.var 5) [.var 32] 34 (.bool false))] []] []] }
noncomputable def w7o:z4x:={ pos:=[5,35],dfl:=[],kwo:=[34],kwargs:=none,body:=[
  .ifs (.isTy false true (.var 35)) [.assign (.one 36) (.ite (.var 34) (.pat true) (.pat false)),.ifs (.prim .search [.var 36,.var 35]) [.stuck] [],.ret (.var 35)] [],
  .stuck] }
noncomputable def w7p:z4x:={ pos:=[5,34,37],dfl:=[],kwo:=[],kwargs:=none,body:=[
  .delIdx (.var 5) (.var 34),
  .append (.attr 30 (.var 5)) (.tup [.methk 33 (.var 5) [.var 34] 34 (.bool true),.methk 33 (.var 5) [.var 37] 34 (.bool false)])] }
noncomputable def k6b:z4x:={ pos:=[5,34],dfl:=[],kwo:=[],kwargs:=none,body:=[
  .assign (.one 34) (.methk 33 (.var 5) [.prim .lower [.var 34]] 34 (.bool true)),
  .setAll (.attr 30 (.var 5)) (.comp (.var 38) [(.one 38,.over,[.attr 30 (.var 5)],[.cmp .ne (.prim .lower [.idx (.var 38) (.int 0)]) (.var 34)])])] }
noncomputable def k6c:z4x:={ pos:=[5,34],dfl:=[],kwo:=[],kwargs:=none,body:=[
  .ret (.meth 39 (.var 5) [.var 34])] }
noncomputable def k6d:z4x:={ pos:=[5,34],dfl:=[],kwo:=[],kwargs:=none,body:=[
  .ret (.isNone true (.meth 39 (.var 5) [.var 34]))] }
noncomputable def x2b:z4x:={ pos:=[56],dfl:=[],kwo:=[],kwargs:=none,body:=[
  .assign (.one 98) (.lst []),
  .for_ (.one 120) .over [.var 56] [.ifs (.cmp .in_ (.slice (.var 120) none (some (.int 2))) (.comp (.slice (.var 60) none (some (.int 2))) [(.one 60,.over,[.var 98],[])])) [.assign (.one 98) (.comp (.var 60) [(.one 60,.over,[.var 98],[.cmp .ne (.slice (.var 60) none (some (.int 2))) (.slice (.var 120) none (some (.int 2)))])])] [.assign (.one 98) (.bin .add (.var 98) (.lst [.var 120]))]] [],
  .ret (.var 98)] }
noncomputable def k6e:z4x:={ pos:=[5,34,40],dfl:=[.none],kwo:=[],kwargs:=none,body:=[
  .assign (.one 34) (.methk 33 (.var 5) [.prim .lower [.var 34]] 34 (.bool true)),
  .for_ (.tup [31,32]) .over [.attr 30 (.var 5)] [.ifs (.cmp .eq (.prim .lower [.var 31]) (.var 34)) [.ret (.var 32)] []] [],
  .ret (.var 40)] }
noncomputable def k6f:z4x:={ pos:=[5],dfl:=[],kwo:=[],kwargs:=none,body:=[
  .ret (.comp (.var 31) [(.tup [31,32],.over,[.attr 30 (.var 5)],[])])] }
noncomputable def k6g:z4x:={ pos:=[5],dfl:=[],kwo:=[],kwargs:=none,body:=[
  .ret (.comp (.var 32) [(.tup [31,32],.over,[.attr 30 (.var 5)],[])])] }
noncomputable def k6h:z4x:={ pos:=[5],dfl:=[],kwo:=[],kwargs:=none,body:=[
  .ret (.mslice (.attr 30 (.var 5)))] }
noncomputable def k6i:z4x:={ pos:=[57],dfl:=[],kwo:=[],kwargs:=none,body:=[
  .for_ (.one 61) .range [.int 5] [.for_ (.one 62) .over [.idx (.var 57) (.var 61)] [.for_ (.one 64) .over [.idx (.var 57) (.var 62)] [.for_ (.one 65) .over [.idx (.var 57) (.var 64)] [.ifs (.andE [.cmp .ne (.var 64) (.var 61),.cmp .ne (.var 65) (.var 62),.cmp .nin (.var 64) (.idx (.var 57) (.var 61)),.cmp .nin (.var 65) (.idx (.var 57) (.var 62))]) [.ret (.bool false)] []] []] []] []] [],
  .ret (.bool true)] }
noncomputable def w2y:z4x:={ pos:=[45],dfl:=[],kwo:=[],kwargs:=none,body:=[
  .assign (.one 46) (.prim .split [.str (Str.ofString "OPTIMIZED NEWLOCALS VARARGS VARKEYWORDS NESTED GENERATOR NOFREE COROUTINE ITERABLE_COROUTINE ASYNC_GENERATOR"),.str (Str.ofString " ")]),
  .ret (.comp (.ite (.cmp .lt (.var 31) (.int 10)) (.idx (.var 46) (.var 31)) (.bin .add (.bin .add (.str (Str.ofString "0x")) (.idx (.str (Str.ofString "1248")) (.bin .mod (.var 31) (.int 4)))) (.bin .mul (.str (Str.ofString "0")) (.bin .fdiv (.var 31) (.int 4))))) [(.one 31,.range,[.var 45,.bin .add (.var 45) (.int 5)],[])])] }
noncomputable def k6j:z4x:={ pos:=[87,55,57],dfl:=[],kwo:=[],kwargs:=none,body:=[
  .assign (.one 70) (.comp (.comp (.var 47) [(.one 47,.over,[.prim .split [.var 75,.str (Str.ofString ", ")]],[.cmp .in_ (.var 47) (.var 55)])]) [(.one 75,.over,[.var 87],[])]),
  .for_ (.one 58) .range [.int 5] [.for_ (.one 32) .over [.idx (.var 57) (.var 58)] [.assign (.one 71) (.comp (.var 47) [(.one 47,.over,[.idx (.var 70) (.var 58)],[.andE [.cmp .ne (.var 47) (.idx (.var 55) (.var 32)),.cmp .nin (.var 47) (.idx (.var 70) (.var 32))]])]),.assign (.one 72) (.comp (.var 47) [(.one 47,.over,[.idx (.var 70) (.var 32)],[.andE [.cmp .ne (.var 47) (.idx (.var 55) (.var 58)),.cmp .nin (.var 47) (.idx (.var 70) (.var 58))]])]),.ifs (.andE [.cmp .ne (.var 71) (.lst []),.cmp .ne (.var 72) (.lst [])]) [.ret (.bool false)] []] []] [],
  .ret (.bool true)] }
noncomputable def k6k:z4x:={ pos:=[57,58],dfl:=[],kwo:=[],kwargs:=none,body:=[
  .ret (.comp (.var 121) [(.one 32,.over,[.idx (.var 57) (.var 58)],[]),(.one 121,.over,[.idx (.var 57) (.var 32)],[.andE [.cmp .ne (.var 121) (.var 58),.cmp .nin (.var 121) (.idx (.var 57) (.var 58))]])])] }
noncomputable def x2c:z4x:={ pos:=[63],dfl:=[],kwo:=[],kwargs:=none,body:=[
  .assign (.one 66) (.lst []),
  .for_ (.one 67) .range [.int 6] [.assign (.one 68) (.comp (.var 58) [(.one 58,.range,[.int 5],[.cmp .ne (.var 58) (.var 67)])]),.assign (.one 57) (.comp (.comp (.var 32) [(.one 32,.over,[.var 68],[.andE [.cmp .in_ (.var 58) (.var 68),.cmp .in_ (.tup [.var 58,.var 32]) (.var 63)]])]) [(.one 58,.range,[.int 5],[])]),.ifs (.cmp .eq (.comp (.var 58) [(.one 58,.over,[.var 68],[.cmp .eq (.call 21 [.var 57,.var 58]) (.lst [])])]) (.lst [])) [.assign (.one 66) (.bin .add (.var 66) (.var 68))] []] [],
  .ret (.var 66)] }
noncomputable def x2d:z4x:={ pos:=[103],dfl:=[],kwo:=[],kwargs:=none,body:=[
  .assign (.one 57) (.comp (.mlst []) [(.one 58,.range,[.int 5],[])]),
  .for_ (.one 35) .over [.var 103] [.append (.idx (.var 57) (.prim .int [.idx (.var 35) (.int 0)])) (.prim .int [.idx (.var 35) (.int 1)]),.append (.idx (.var 57) (.prim .int [.idx (.var 35) (.int 1)])) (.prim .int [.idx (.var 35) (.int 0)])] [],
  .ret (.var 57)] }
noncomputable def x2e:z4x:={ pos:=[73,45],dfl:=[],kwo:=[],kwargs:=none,body:=[
  .for_ (.one 122) .range [.int 5] [.assign (.one 57) (.pure (.call 23 [.pure (.meth 103 (.var 73) [])])),.assign (.one 123) (.comp (.var 58) [(.one 58,.range,[.int 5],[.andE [.cmp .ne (.idx (.var 57) (.var 58)) (.lst []),.cmp .eq (.call 21 [.var 57,.var 58]) (.lst [])]])]),.for_ (.one 32) .over [.ite (.cmp .ne (.var 123) (.lst [])) (.idx (.var 57) (.idx (.var 123) (.int 0))) (.lst [])] [.delIdx (.var 73) (.call 3 [.idx (.var 123) (.int 0),.var 32,.var 45])] []] []] }
noncomputable def x2f:z4x:={ pos:=[124,57,55,125],dfl:=[],kwo:=[],kwargs:=none,body:=[
  .assign (.one 90) (.new 1 []),
  .for_ (.one 31) .range [.int 5] [.assign (.one 126) (.comp (.var 58) [(.one 58,.over,[.slice (.var 124) none (some (.var 31))],[.cmp .in_ (.var 58) (.idx (.var 57) (.idx (.var 124) (.var 31)))])]),.assign (.tup [47,127,27]) (.tup [.prim .lower [.idx (.var 55) (.idx (.var 124) (.var 31))],.idx (.var 125) (.idx (.var 124) (.var 31)),.pure (.meth 102 (.var 90) [])]),.ifs (.cmp .eq (.var 126) (.lst [])) [.setIdx (.var 90) (.var 47) (.var 127)] [.assign (.one 128) (.idx (.var 55) (.idx (.var 126) (.neg (.int 1)))),.assign (.one 129) (.prim .index [.comp (.prim .lower [.var 34]) [(.one 34,.over,[.var 27],[])],.prim .lower [.var 128]]),.setIdx (.var 90) (.var 47) (.bin .add (.idx (.var 90) (.var 128)) (.var 127)),.for_ (.one 34) .over [.slice (.var 27) (some (.bin .add (.var 129) (.int 1))) none] [.setIdx (.var 90) (.prim .upper [.var 34]) (.idx (.var 90) (.var 34))] []]] [],
  .ret (.var 90)] }
noncomputable def x2g:z4x:={ pos:=[124,57,125],dfl:=[],kwo:=[],kwargs:=none,body:=[
  .assign (.one 59) (.lst []),
  .for_ (.one 31) .range [.int 5] [.assign (.one 32) (.idx (.var 124) (.var 31)),.assign (.one 126) (.comp (.var 58) [(.one 58,.over,[.slice (.var 124) none (some (.var 31))],[.cmp .in_ (.var 58) (.idx (.var 57) (.var 32))])]),.ifs (.cmp .eq (.var 126) (.lst [])) [.assign (.one 59) (.bin .add (.var 59) (.lst [.tup [.var 32,.idx (.var 125) (.var 32),.bool false,.lst []]]))] [.assign (.one 129) (.prim .index [.comp (.idx (.var 60) (.int 0)) [(.one 60,.over,[.var 59],[])],.idx (.var 126) (.neg (.int 1))]),.assign (.one 128) (.idx (.var 59) (.var 129)),.assign (.one 130) (.comp (.tup [.var 58,.var 131,.bool true,.var 132]) [(.tup [58,131,48,132],.over,[.slice (.var 59) (some (.bin .add (.var 129) (.int 1))) none],[])]),.assign (.one 59) (.bin .add (.bin .add (.slice (.var 59) none (some (.bin .add (.var 129) (.int 1)))) (.lst [.tup [.var 32,.bin .add (.idx (.var 128) (.int 1)) (.idx (.var 125) (.var 32)),.bool false,.bin .add (.idx (.var 128) (.int 3)) (.lst [.idx (.var 128) (.int 0)])]])) (.var 130))]] [],
  .ret (.var 59)] }
noncomputable def k6l:z4x:={ pos:=[27,133],dfl:=[],kwo:=[],kwargs:=none,body:=[
  .assign (.one 134) (.comp (.newg 0 [.bin .add (.bin .add (.var 131) (.var 34)) (.str (Str.ofString "\t"))]) [(.tup [34,131],.zip,[.var 27,.var 133],[])]),
  .ret (.comp (.tup [.var 20,.var 135]) [(.one 20,.range,[.int 5],[]),(.one 135,.range,[.bin .add (.var 20) (.int 1),.int 5],[.meth 72 (.idx (.var 134) (.var 20)) [.idx (.var 134) (.var 135)]])])] }
noncomputable def x2h:z4x:={ pos:=[85],dfl:=[],kwo:=[],kwargs:=none,body:=[
  .assign (.one 136) (.mlst []),
  .for_ (.one 20) .range [.int 5] [.assign (.one 135) (.bin .add (.var 20) (.int 1)),.while_ (.cmp .in_ (.tup [.var 20,.var 135]) (.var 85)) [.append (.var 136) (.tup [.var 20,.var 135]),.aug .add 135 (.int 1)]] [],
  .ret (.var 136)] }
noncomputable def x2i:z4x:={ pos:=[131,81],dfl:=[],kwo:=[],kwargs:=none,body:=[
  .assign (.one 137) (.int 0),
  .for_ (.one 138) .over [.var 131] [.assign (.one 137) (.ite (.cmp .eq (.var 138) (.str (Str.ofString " "))) (.bin .add (.var 137) (.int 1)) (.bin .add (.bin .mul (.bin .fdiv (.var 137) (.var 81)) (.var 81)) (.var 81)))] [],
  .ret (.var 137)] }
noncomputable def k6m:z4x:={ pos:=[133],dfl:=[],kwo:=[],kwargs:=none,body:=[
  .assign (.one 139) (.bin .add (.int 1) (.prim .max [.comp (.prim .len [.var 140]) [(.one 131,.over,[.var 133],[]),(.one 140,.over,[.prim .split [.var 131,.str (Str.ofString "\t")]],[])]])),
  .assign (.one 91) (.comp (.comp (.call 29 [.var 131,.var 81]) [(.one 81,.range,[.int 1,.bin .add (.var 139) (.int 1)],[])]) [(.one 131,.over,[.var 133],[])]),
  .assign (.one 99) (.comp (.tup [.var 20,.var 135]) [(.one 20,.range,[.int 5],[]),(.one 135,.range,[.bin .add (.var 20) (.int 1),.int 5],[])]),
  .ret (.comp (.tup [.var 20,.var 135]) [(.tup [20,135],.over,[.var 99],[.cmp .eq (.comp (.var 31) [(.one 31,.range,[.var 139],[.cmp .ge (.idx (.idx (.var 91) (.var 20)) (.var 31)) (.idx (.idx (.var 91) (.var 135)) (.var 31))])]) (.lst [])])])] }
noncomputable def x9m:z4x:={ pos:=[82],dfl:=[],kwo:=[],kwargs:=none,body:=[
  .assign (.one 83) (.prim .sum [.comp (.bin .fdiv (.var 84) (.int 20)) [(.one 84,.over,[.slice (.var 82) none (some (.int 10))],[])]]),
  .assign (.one 45) (.bin .mod (.bin .add (.int 7) (.var 83)) (.int 28)),
  .assign (.one 85) (.comp (.tup [.var 58,.var 32]) [(.one 58,.range,[.int 5],[]),(.one 32,.range,[.bin .add (.var 58) (.int 1),.int 5],[])]),
  .assign (.one 56) (.comp (.bin .add (.idx (.var 85) (.bin .mod (.var 84) (.int 10))) (.tup [.cmp .eq (.bin .mod (.bin .fdiv (.var 84) (.int 10)) (.int 2)) (.int 1)])) [(.one 84,.over,[.bin .add (.lst [.int 10,.int 1,.int 12,.int 7]) (.slice (.var 82) none (some (.int 10)))],[])]),
  .assign (.one 55) (.prim .split [.pure (.call 6 [.bin .shl (.int 31) (.var 45)]),.str (Str.ofString ", ")]),
  .ifs (.cmp .ne (.var 55) (.call 19 [.var 45])) [.ret (.bool false)] [],
  .assign (.one 118) (.call 4 [.var 56,.var 45]),
  .assign (.one 57) (.pure (.call 23 [.pure (.meth 103 (.var 118) [])])),
  .assign (.one 87) (.comp (.pure (.call 6 [.bin .shl (.prim .sum [.comp (.bin .shl (.int 1) (.var 32)) [(.one 32,.over,[.var 68],[])]]) (.var 45)])) [(.one 68,.over,[.var 57],[])]),
  .assign (.one 73) (.new 1 [.meth 88 (.var 118) []]),
  .expr (.gc (.call 24 [.var 73,.var 45])),
  .assign (.one 124) (.comp (.var 58) [(.one 10,.over,[.tup [.int 4,.int 3,.int 2,.int 1,.int 0]],[]),(.one 58,.range,[.int 5],[.cmp .eq (.prim .len [.idx (.var 57) (.var 58)]) (.var 10)])]),
  .assign (.one 125) (.comp (.idx (.tup [.str (Str.ofString "  "),.str (Str.ofString "\t"),.str (Str.ofString " \t")]) (.bin .mod (.bin .add (.var 32) (.bin .fdiv (.bin .fdiv (.var 83) (.int 28)) (.bin .pow (.int 3) (.var 32)))) (.int 3))) [(.one 32,.range,[.int 5],[])]),
  .assign (.one 90) (.call 25 [.var 124,.var 57,.var 55,.var 125]),
  .assign (.one 141) (.pure (.call 27 [.pure (.meth 102 (.var 90) []),.pure (.meth 103 (.var 90) [])])),
  .assign (.one 136) (.pure (.call 28 [.var 141])),
  .assign (.one 142) (.comp (.prim .lower [.var 47]) [(.one 47,.over,[.var 55],[])]),
  .assign (.one 143) (.comp (.prim .index [.var 142,.prim .lower [.var 34]]) [(.one 34,.over,[.pure (.meth 102 (.var 90) [])],[])]),
  .assign (.one 69) (.comp (.tup [.idx (.var 143) (.var 20),.idx (.var 143) (.var 135)]) [(.tup [20,135],.over,[.var 136],[])]),
  .assign (.one 98) (.call 13 [.var 56]),
  .assign (.one 63) (.bin .add (.comp (.tup [.var 58,.var 32]) [(.tup [58,32,48],.over,[.var 98],[])]) (.comp (.tup [.var 32,.var 58]) [(.tup [58,32,48],.over,[.var 98],[])])),
  .assign (.one 144) (.comp (.comp (.var 32) [(.one 32,.range,[.int 5],[.cmp .in_ (.tup [.var 58,.var 32]) (.var 63)])]) [(.one 58,.range,[.int 5],[])]),
  .assign (.one 145) (.cmp .eq (.prim .sorted [.bin .add (.var 69) (.comp (.tup [.var 62,.var 61]) [(.tup [61,62],.over,[.var 69],[])])]) (.prim .sorted [.var 63])),
  .ifs (.cmp .ne (.lst [.call 20 [.var 87,.var 55,.var 57],.cmp .eq (.pure (.meth 88 (.var 73) [])) (.lst []),.var 145]) (.bin .mul (.lst [.call 18 [.var 144]]) (.int 3))) [.ret (.bool false)] [],
  .assign (.one 146) (.comp (.bin .add (.bin .add (.idx (.var 55) (.var 58)) (.str (Str.ofString ", "))) (.idx (.var 55) (.var 32))) [(.tup [58,32,48],.over,[.var 98],[])]),
  .assign (.one 97) (.comp (.tup [.ite (.idx (.idx (.var 98) (.var 31)) (.int 2)) (.prim .upper [.idx (.var 146) (.var 31)]) (.prim .lower [.idx (.var 146) (.var 31)]),.bin .add (.idx (.str (Str.ofString "01234")) (.idx (.idx (.var 98) (.var 31)) (.int 0))) (.idx (.str (Str.ofString "01234")) (.idx (.idx (.var 98) (.var 31)) (.int 1)))]) [(.one 31,.range,[.prim .len [.var 98]],[])]),
  .ifs (.orE [.cmp .ne (.pure (.meth 88 (.var 118) [])) (.var 97),.cmp .ne (.var 87) (.comp (.ite (.cmp .ne (.var 68) (.lst [])) (.prim .join [.str (Str.ofString ", "),.comp (.idx (.var 55) (.var 32)) [(.one 32,.over,[.var 68],[])]]) (.str (Str.ofString "0x0"))) [(.one 68,.over,[.var 144],[])])]) [.ret (.bool false)] [],
  .assign (.one 66) (.call 22 [.var 63]),
  .ifs (.cmp .ne (.pure (.meth 88 (.var 73) [])) (.comp (.idx (.var 97) (.var 31)) [(.one 31,.range,[.prim .len [.var 98]],[.andE [.cmp .in_ (.idx (.idx (.var 98) (.var 31)) (.int 0)) (.var 66),.cmp .in_ (.idx (.idx (.var 98) (.var 31)) (.int 1)) (.var 66)]])])) [.ret (.bool false)] [],
  .assign (.one 59) (.call 26 [.var 124,.var 144,.var 125]),
  .ifs (.cmp .ne (.pure (.meth 88 (.var 90) [])) (.comp (.tup [.ite (.var 48) (.prim .upper [.idx (.var 55) (.var 32)]) (.prim .lower [.idx (.var 55) (.var 32)]),.var 131]) [(.tup [32,131,48,132],.over,[.var 59],[])])) [.ret (.bool false)] [],
  .ifs (.cmp .ne (.var 136) (.comp (.tup [.var 20,.var 135]) [(.one 20,.range,[.int 5],[]),(.one 135,.range,[.bin .add (.var 20) (.int 1),.int 5],[.cmp .in_ (.idx (.idx (.var 59) (.var 20)) (.int 0)) (.idx (.idx (.var 59) (.var 135)) (.int 3))])])) [.ret (.bool false)] [],
  .ret (.cmp .eq (.var 141) (.call 30 [.comp (.idx (.var 60) (.int 1)) [(.one 60,.over,[.var 59],[])]]))] }
noncomputable def w8y:List z4x:=[w2w,w7j,w7k,w7l,w2x,w7m,w1s,w7n,w7o,w7p,k6b,k6c,k6d,x2b,k6e,k6f,k6g,k6h,k6i,w2y,k6j,k6k,x2c,x2d,x2e,x2f,x2g,k6l,x2h,x2i,k6m,x9m]
noncomputable def k6n:List ((Nat×Nat)×Nat):=[((0,0),0),((0,22),1),((0,25),2),((0,72),5),((1,0),7),((1,33),8),((1,3),9),((1,4),10),((1,2),11),((1,1),12),((1,39),14),((1,102),15),((1,103),16),((1,88),17)]
noncomputable def x9n:List (Nat×Str):=[(8,Str.ofString " "),(9,Str.ofString "\t")]
noncomputable def q3c:List (Int×Str):=[(1,Str.ofString "OPTIMIZED"),(2,Str.ofString "NEWLOCALS"),(4,Str.ofString "VARARGS"),(8,Str.ofString "VARKEYWORDS"),(16,Str.ofString "NESTED"),(32,Str.ofString "GENERATOR"),(64,Str.ofString "NOFREE"),(128,Str.ofString "COROUTINE"),(256,Str.ofString "ITERABLE_COROUTINE"),(512,Str.ofString "ASYNC_GENERATOR")]
noncomputable def w8z:List Str:=[(Str.ofString "__init__"),(Str.ofString "__contains__"),(Str.ofString "__getitem__"),(Str.ofString "__setitem__"),(Str.ofString "__delitem__"),(Str.ofString "self"),(Str.ofString "ws"),(Str.ofString "raw"),(Str.ofString "S"),(Str.ofString "T"),(Str.ofString "count"),(Str.ofString "b"),(Str.ofString "n"),(Str.ofString "nt"),(Str.ofString "ch"),(Str.ofString "norm"),(Str.ofString "is_simple"),(Str.ofString "trailing"),(Str.ofString "tabsize"),(Str.ofString "il"),(Str.ofString "i"),(Str.ofString "other"),(Str.ofString "longest_run_of_spaces"),(Str.ofString "a"),(Str.ofString "ts"),(Str.ofString "indent_level"),(Str.ofString "flags"),(Str.ofString "names"),(Str.ofString "flag"),(Str.ofString "headers"),(Str.ofString "_headers"),(Str.ofString "k"),(Str.ofString "v"),(Str.ofString "_convert_string_type"),(Str.ofString "name"),(Str.ofString "value"),(Str.ofString "regex"),(Str.ofString "val"),(Str.ofString "kv"),(Str.ofString "get"),(Str.ofString "default"),(Str.ofString "_name"),(Str.ofString "_value"),(Str.ofString "_params"),(Str.ofString "parts"),(Str.ofString "base"),(Str.ofString "named"),(Str.ofString "word"),(Str.ofString "great"),(Str.ofString "table"),(Str.ofString "one"),(Str.ofString "get_all"),(Str.ofString "add_header"),(Str.ofString "gone"),(Str.ofString "stay"),(Str.ofString "words"),(Str.ofString "turns"),(Str.ofString "near"),(Str.ofString "u"),(Str.ofString "lines"),(Str.ofString "line"),(Str.ofString "p"),(Str.ofString "q"),(Str.ofString "ties"),(Str.ofString "r"),(Str.ofString "s"),(Str.ofString "held"),(Str.ofString "out"),(Str.ofString "some"),(Str.ofString "met"),(Str.ofString "cut"),(Str.ofString "more"),(Str.ofString "less"),(Str.ofString "left"),(Str.ofString "going"),(Str.ofString "row"),(Str.ofString "tied"),(Str.ofString "steps"),(Str.ofString "d"),(Str.ofString "counts"),(Str.ofString "low"),(Str.ofString "size"),(Str.ofString "script"),(Str.ofString "rest"),(Str.ofString "x"),(Str.ofString "pairs"),(Str.ofString "flagged"),(Str.ofString "rows"),(Str.ofString "items"),(Str.ofString "number"),(Str.ofString "page"),(Str.ofString "columns"),(Str.ofString "tall"),(Str.ofString "h"),(Str.ofString "bars"),(Str.ofString "typed"),(Str.ofString "equal"),(Str.ofString "due"),(Str.ofString "own"),(Str.ofString "both"),(Str.ofString "not_equal_witness"),(Str.ofString "pretty_flags"),(Str.ofString "keys"),(Str.ofString "values"),(Str.ofString "_law_words"),(Str.ofString "_law_dressed"),(Str.ofString "_law_turn"),(Str.ofString "_law_net"),(Str.ofString "_law_lines"),(Str.ofString "_law_firm"),(Str.ofString "_law_held"),(Str.ofString "_law_nested"),(Str.ofString "_law_emptied"),(Str.ofString "_law_told"),(Str.ofString "_law_bars"),(Str.ofString "_law_page"),(Str.ofString "_law_column"),(Str.ofString "law"),(Str.ofString "net"),(Str.ofString "title"),(Str.ofString "turn"),(Str.ofString "w"),(Str.ofString "again"),(Str.ofString "heads"),(Str.ofString "order"),(Str.ofString "pieces"),(Str.ofString "above"),(Str.ofString "piece"),(Str.ofString "head"),(Str.ofString "place"),(Str.ofString "behind"),(Str.ofString "lead"),(Str.ofString "over"),(Str.ofString "leads"),(Str.ofString "spaces"),(Str.ofString "j"),(Str.ofString "blocks"),(Str.ofString "column"),(Str.ofString "sign"),(Str.ofString "top"),(Str.ofString "run"),(Str.ofString "lesser"),(Str.ofString "small"),(Str.ofString "found"),(Str.ofString "beside"),(Str.ofString "same"),(Str.ofString "titles"),(Str.ofString "_law_title"),(Str.ofString "_law_own"),(Str.ofString "_law_free"),(Str.ofString "_law_far"),(Str.ofString "_law_near"),(Str.ofString "_law_pairs"),(Str.ofString "_law_blocks"),(Str.ofString "_law_lesser")]
noncomputable def D2:y4o:={ fns:=w8y,meths:=k6n,gattrs:=x9n,flags:=q3c,nm:=w8z,gv:=[((Str.ofString "_law_title"),.ref 261),((Str.ofString "_law_net"),.ref 268),((Str.ofString "pretty_flags"),.ref 112),((Str.ofString "_law_own"),.ref 273),((Str.ofString "_law_free"),.ref 280),((Str.ofString "_law_words"),.ref 254),((Str.ofString "_law_nested"),.ref 285),((Str.ofString "_law_far"),.ref 290),((Str.ofString "_law_held"),.ref 295),((Str.ofString "_law_near"),.ref 300),((Str.ofString "_law_emptied"),.ref 305),((Str.ofString "_law_page"),.ref 310),((Str.ofString "_law_lines"),.ref 315),((Str.ofString "_law_pairs"),.ref 320),((Str.ofString "_law_blocks"),.ref 327),((Str.ofString "_law_column"),.ref 334),((Str.ofString "_law_lesser"),.ref 339),((Str.ofString "law"),.ref 344),((Str.ofString "Whitespace"),.ref 100),((Str.ofString "Headers"),.ref 245),((Str.ofString "_name_disallowed_re"),.ref 117),((Str.ofString "_value_disallowed_re"),.ref 122),((Str.ofString "COMPILER_FLAG_NAMES"),.ref 105),((Str.ofString "len"),.builtin "len"),((Str.ofString "sum"),.builtin "sum"),((Str.ofString "max"),.builtin "max"),((Str.ofString "hex"),.builtin "hex"),((Str.ofString "sorted"),.builtin "sorted"),((Str.ofString "tuple"),.type "tuple"),((Str.ofString "range"),.type "range"),((Str.ofString "type"),.type "type"),((Str.ofString "str"),.type "str"),((Str.ofString "list"),.type "list"),((Str.ofString "int"),.type "int"),((Str.ofString "zip"),.type "zip")],fA:=[55,62,69,261,268,90,112,137,144,158,163,170,177,273,192,197,202,209,280,254,285,290,295,300,305,310,315,320,327,334,339,344],c0:=100,c1:=245,pT:=117,pF:=122,dA:=105,atts:=[7,12,13,15,16,30] }
noncomputable def mp2:MP:=D2.mp
noncomputable def lawId2:Nat:=31
theorem w2z:mp2.fn 0=some w2w:=rfl
theorem w3a:mp2.fn 1=some w7j:=rfl
theorem w3b:mp2.fn 2=some w7k:=rfl
theorem w3c:mp2.fn 3=some w7l:=rfl
theorem w3d:mp2.fn 4=some w2x:=rfl
theorem x9o:mp2.fn 5=some w7m:=rfl
theorem w3e:mp2.fn 6=some w1s:=rfl
theorem k6o:mp2.fn 7=some w7n:=rfl
theorem w3f:mp2.fn 8=some w7o:=rfl
theorem w3g:mp2.fn 9=some w7p:=rfl
theorem k6p:mp2.fn 10=some k6b:=rfl
theorem k6q:mp2.fn 11=some k6c:=rfl
theorem k6r:mp2.fn 12=some k6d:=rfl
theorem k6s:mp2.fn 13=some x2b:=rfl
theorem k6t:mp2.fn 14=some k6e:=rfl
theorem k6u:mp2.fn 15=some k6f:=rfl
theorem k6v:mp2.fn 16=some k6g:=rfl
theorem k6w:mp2.fn 17=some k6h:=rfl
theorem k6x:mp2.fn 18=some k6i:=rfl
theorem k6y:mp2.fn 20=some k6j:=rfl
theorem k6z:mp2.fn 21=some k6k:=rfl
theorem k7a:mp2.fn 22=some x2c:=rfl
theorem k7b:mp2.fn 23=some x2d:=rfl
theorem k7c:mp2.fn 24=some x2e:=rfl
theorem k7d:mp2.fn 25=some x2f:=rfl
theorem k7e:mp2.fn 26=some x2g:=rfl
theorem k7f:mp2.fn 27=some k6l:=rfl
theorem k7g:mp2.fn 28=some x2h:=rfl
theorem k7h:mp2.fn 29=some x2i:=rfl
theorem k7i:mp2.fn 30=some k6m:=rfl
theorem k7j:mp2.fn 31=some x9m:=rfl
@[simp] theorem k7k:mp2.meth 0 0=some 0:=rfl
@[simp] theorem x9p:mp2.meth 0 22=some 1:=rfl
@[simp] theorem x9q:mp2.meth 0 25=some 2:=rfl
@[simp] theorem x9r:mp2.meth 0 72=some 5:=rfl
@[simp] theorem j6n:mp2.meth 1 0=some 7:=rfl
@[simp] theorem w3h:mp2.meth 1 33=some 8:=rfl
@[simp] theorem q8k:mp2.meth 1 3=some 9:=rfl
@[simp] theorem j6o:mp2.meth 1 4=some 10:=rfl
@[simp] theorem k7l:mp2.meth 1 2=some 11:=rfl
@[simp] theorem k7m:mp2.meth 1 1=some 12:=rfl
@[simp] theorem w3i:mp2.meth 1 39=some 14:=rfl
@[simp] theorem x2j:mp2.meth 1 102=some 15:=rfl
@[simp] theorem x2k:mp2.meth 1 103=some 16:=rfl
@[simp] theorem j6p:mp2.meth 1 88=some 17:=rfl
@[simp] theorem w9a:mp2.gattr 8=some (Str.ofString " "):=rfl
@[simp] theorem w9b:mp2.gattr 9=some (Str.ofString "\t"):=rfl
@[simp] theorem k7n:mp2.flags=q3c:=rfl
@[simp] theorem w7q:mp2.okPat=okPat:=rfl
end Mine
end
section
open PySem
namespace Mine
theorem z0c{V Z:Type}{m:M V}{f:V->M Z}{L:Lim}{H Hb:z0b}{a:V}{r:Option (Z×z0b)}(h:m L H=some (a,Hb))(h2:f a L Hb=r):M.bind m f L H=r:=(z0m h).trans h2
theorem q8l{i:Nat}{l:List (Nat×PV)}{L:Lim}{H:z0b}(h:H[i]?=some (.att l)):y6u i L H=some (l,H):=by
 unfold y6u
 rw [h]
theorem y4p{i:Nat}{l:List PV}{L:Lim}{H:z0b}(h:H[i]?=some (.lst l)):y8x i L H=some (l,H):=by
 unfold y8x
 rw [h]
theorem z1t{i:Nat}{l:List PV}{H:z0b}(h:H[i]?=some (.lst l)):z0y H i=some l:=by
 unfold z0y
 rw [h]
theorem j6q{H J:z0b}{l:List PV}(h2:z0y J H.length=some l)(h3:z0w H.length l=true):frz H.length J (.ref H.length)=some (.lst l):=by
 show(if _ then _ else _)=_
 rw [AS (EX _),h2]
 exact AQ h3
theorem z1j{V:Type}{o:Option V}{a:V}{L:Lim}{H:z0b}(h:o=some a):M.ofOpt o L H=some (a,H):=by rw [h];rfl
theorem k7o{l:List PV}(h:l.length<=z2n):sz l=some l:=AQ h
theorem y5z{i:Nat}{l l0:List PV}{L:Lim}{H:z0b}(hb:L.b<=i)(hn:z0w 0 l=true)(h:H[i]?=some (.lst l0)):y0n i l L H=some ((),H.set i (.lst l)):=by
 unfold y0n
 rw [AQ ⟨hb,hn⟩,h]
theorem j6r{i k:Nat}{v:PV}{l:List (Nat×PV)}{L:Lim}{H:z0b}(hb:L.ab<=i)(h:H[i]?=some (.att l))(hl:(z2e k v l).length<=900):j2t i k v L H=some ((),H.set i (.att (z2e k v l))):=by
 unfold j2t
 rw [AQ hb,h]
 exact AQ hl
theorem q3d{l:List PV}{L:Lim}{H:z0b}(hn:z0w 0 l=true):z8g l L H=some (.ref H.length,H++[.lst l]):=AQ hn
theorem q8m{c i:Nat}{l:List (Nat×PV)}{L:Lim}{H:z0b}(h:H[i]?=some (.att l)):q4s (.inst c i) L H=some ((),H):=z0c (q8l h) rfl
theorem x2l{j:Nat}{l:List PV}{L:Lim}{H:z0b}(h:H[j]?=some (.lst l)):x0d (.ref j) L H=some ((),H):=z0c (y4p h) rfl
theorem j1t{j:Nat}{l:List PV}{v:PV}{L:Lim}{H:z0b}(h:H[j]?=some (.lst l))(hl:(l++[v]).length<=z2n)(hb:L.b<=j)(hn:z0w 0 (l++[v])=true):y9a (.ref j) v L H=some ((),H.set j (.lst (l++[v]))):=
 z0c (y4p h) (z0c (z1j (k7o hl)) (y5z hb hn h))
theorem j1u{j:Nat}{l l0:List PV}{L:Lim}{H:z0b}(h:H[j]?=some (.lst l0))(hl:(l0++l).length<=z2n)(hb:L.b<=j)(hn:z0w 0 l=true):y8z (.ref j) (.lst l) L H=some ((),H.set j (.lst l)):=
 z0c (y4p h) (z0c (z1j (k7o hl)) (y5z hb hn h))
theorem z0x{P:MP}{lv f:Nat}{F:z4x}{pos:List PV}{kw:List (Nat×PV)}{Y:z0n}{L:Lim}{H H':z0b}{v:PV}(h1:P.fn f=some F)(h2:q4t F pos kw=some Y)
 (h:exs (sem P (z0f P lv) 40).ex Y F.body L H=some (.ret v,H')):z0f P (lv+1) f pos kw L H=some (v,H'):=(q5x h1 h2).trans (z0c h rfl)
theorem y1k{P:MP}{lv f:Nat}{F:z4x}{pos:List PV}{kw:List (Nat×PV)}{Y Y':z0n}{L:Lim}{H H':z0b}(h1:P.fn f=some F)(h2:q4t F pos kw=some Y)
 (h:exs (sem P (z0f P lv) 40).ex Y F.body L H=some (.next Y',H')):z0f P (lv+1) f pos kw L H=some (.none,H'):=(q5x h1 h2).trans (z0c h rfl)
section
variable {P:MP} {C:z0h} {n:Nat} {Y Y':z0n} {L:Lim} {H Hb H2 Hd:z0b} {a e eC o:ME} {p q v w:PV} {vs:List PV} {args es:List ME} {k m c i f:Nat} {l:List (Nat×PV)} {R:Option (PV×z0b)}
theorem z5p:z3t ((sem P C n).ev Y) [] L H=some ([],H):=rfl
theorem z5j(h:(sem P C n).ev Y e L H=some (v,Hb))(h2:z3t ((sem P C n).ev Y) es L Hb=some (vs,H2)):z3t ((sem P C n).ev Y) (e::es) L H=some (v::vs,H2):=z0c h (z0c h2 rfl)
theorem z1l(h:(sem P C n).ev Y e L H=some (v,Hb)):z3t ((sem P C n).ev Y) [e] L H=some ([v],Hb):=z5j h rfl
theorem z2j(h:(sem P C n).ev Y e L H=some (v,Hb))(h2:(sem P C n).ev Y a L Hb=some (w,H2)):z3t ((sem P C n).ev Y) [e,a] L H=some ([v,w],H2):=z5j h (z1l h2)
theorem z0a(h:Y k=some v):(sem P C (n+1)).ev Y (.var k) L H=some (v,H):=z1j (L:=L) h
theorem z0g{o:BOp}{r:PV}(h1:(sem P C n).ev Y a L H=some (p,Hb))(h2:(sem P C n).ev Y e L Hb=some (q,H2))(h3:y6q o H2 p q=some r) :
  (sem P C (n+1)).ev Y (.bin o a e) L H=some (r,H2):=z0c h1 (z0c h2 (z0c rfl (z1j h3)))
theorem z0l{o:COp}{r:PV}(h1:(sem P C n).ev Y a L H=some (p,Hb))(h2:(sem P C n).ev Y e L Hb=some (q,H2))(h3:z9p P C o p q L H2=some (r,Hd)) :
  (sem P C (n+1)).ev Y (.cmp o a e) L H=some (r,Hd):=z0c h1 (z0c h2 h3)
theorem z7x{o:COp}{b:Bool}(h:(w2b o&&x5n q)=false)(h3:w1g o p q=some b):z9p P C o p q L H=some (.bool b,H):=by
 unfold z9p
 rw [h]
 exact z0c (z1j h3) rfl
theorem z0u{pr:q7h}{r:PV}(h:z3t ((sem P C n).ev Y) args L H=some (vs,Hb))(h2:z4z P pr Hb vs=some r):(sem P C (n+1)).ev Y (.prim pr args) L H=some (r,Hb):=z0c h (z0c rfl (z1j h2))
theorem q3e(h1:(sem P C n).ev Y o L H=some (.inst c i,Hb))(h2:Hb[i]?=some (.att l))(h3:l.lookup k=some v):(sem P C (n+1)).ev Y (.attr k o) L H=some (v,Hb):=
 z0c h1 (z0c (q8l h2) (z1j h3))
theorem z9g{kw:List (Nat×PV)}(hm:P.meth c m=some f)(h:C f (.inst c i::vs) kw L H=R):y0o P C m (.inst c i) vs kw L H=R:=by
 show((M.ofOpt (P.meth c m)).bind fun f=>C f (.inst c i::vs) kw) L H=R
 exact z0c (z1j hm) h
theorem z4n(h1:(sem P C n).ev Y o L H=some (.inst c i,Hb))(h2:Hb[i]?=some (.att l))(h3:z3t ((sem P C n).ev Y) args L Hb=some (vs,H2))(hm:P.meth c m=some f)(h:C f (.inst c i::vs) [] L H2=R) :
  (sem P C (n+1)).ev Y (.meth m o args) L H=R:=z0c h1 (z0c (q8m h2) (z0c h3 (z9g hm h)))
theorem j1v(h1:(sem P C n).ev Y o L H=some (.inst c i,Hb))(h2:Hb[i]?=some (.att l))(h3:z3t ((sem P C n).ev Y) args L Hb=some (vs,H2))(h4:(sem P C n).ev Y e L H2=some (v,Hd))(hm:P.meth c m=some f)(h:C f (.inst c i::vs) [(k,v)] L Hd=R) :
  (sem P C (n+1)).ev Y (.methk m o args k e) L H=R:=z0c h1 (z0c (q8m h2) (z0c h3 (z0c h4 (z9g hm h))))
theorem z1k(h3:z3t ((sem P C n).ev Y) args L H=some (vs,Hb))(h:C f vs [] L Hb=R):(sem P C (n+1)).ev Y (.call f args) L H=R:=z0c h3 h
theorem z6j{t:Bool}{c a e:ME}(h:(sem P C n).ts Y c L H=some (t,Hb))(h2:(sem P C n).ev Y (if t then a else e) L Hb=R):(sem P C (n+1)).ev Y (.ite c a e) L H=R:=by
 refine z0c h ?_
 induction t using Bool.casesOn<;>exact h2
theorem y0e{ng:Bool}(h:(sem P C n).ev Y a L H=some (p,Hb)):(sem P C (n+1)).ev Y (.isNone ng a) L H=some (.bool (z3b p != ng),Hb):=z0c h rfl
theorem y6a{ng t b:Bool}(h:(sem P C n).ev Y a L H=some (p,Hb))(h2:q4r Hb t p=some b):(sem P C (n+1)).ev Y (.isTy ng t a) L H=some (.bool (b != ng),Hb):=z0c h (z0c rfl (z0c (z1j h2) rfl))
theorem z1r(h:z3t ((sem P C n).ev Y) args L H=some (vs,Hb)):(sem P C (n+1)).ev Y (.tup args) L H=some (.tup vs,Hb):=z0c h rfl
theorem z1s(h:z3t ((sem P C n).ev Y) args L H=some (vs,Hb)):(sem P C (n+1)).ev Y (.lst args) L H=some (.lst vs,Hb):=z0c h rfl
theorem y6b(h:z3t ((sem P C n).ev Y) args L H=some (vs,Hb))(hn:z0w 0 vs=true):(sem P C (n+1)).ev Y (.mlst args) L H=some (.ref Hb.length,Hb++[.lst vs]):=z0c h (q3d hn)
theorem q5y(h:(sem P C n).ev Y a L H=some (p,Hb))(hl:z5l Hb p=some vs)(hn:z0w 0 vs=true):(sem P C (n+1)).ev Y (.mslice a) L H=some (.ref Hb.length,Hb++[.lst vs]):=z0c h (z0c rfl (z0c (z1j hl) (q3d hn)))
theorem z0i{elt:ME}{gs:List (Pat×z6g×List ME×List ME)}(h:y0m (sem P C n) elt Y gs L H=some (vs,Hb)):(sem P C (n+1)).ev Y (.comp elt gs) L H=some (.lst vs,Hb):=z0c h rfl
theorem z8q{j:Nat}(h1:(sem P C n).ev Y a L H=some (p,Hb))(h2:(sem P C n).ev Y e L Hb=some (.int j,H2))(hp:j9v P C p (.int j) L H2=some (v,H2)):(sem P C (n+1)).ev Y (.idx a e) L H=some (v,H2):=z0c h1 (z0c h2 hp)
theorem z4f{t:Bool}(h0:(sem P C (n+1)).ts Y e L H=tsV P C Y n e L H)(h:(sem P C n).ev Y e L H=some (p,Hb))(ht:z9n Hb p=some t):(sem P C (n+1)).ts Y e L H=some (t,Hb):=h0.trans (z0c h (z0c rfl (z1j ht)))
theorem x2m{t:Bool}(h:(sem P C n).ts Y e L H=some (t,Hb)):(sem P C (n+1)).ts Y (.notE e) L H=some (!t,Hb):=z0c h rfl
theorem z3e{t:Bool}(h:(sem P C n).ts Y e L H=some (t,Hb)):y4w ((sem P C n).ts Y) [e] L H=some (t,Hb):=by
 refine z0c h ?_
 induction t using Bool.casesOn<;>rfl
theorem z7n{x y:Bool}(h:(sem P C n).ts Y e L H=some (x,H))(h2:y4w ((sem P C n).ts Y) es L H=some (y,H)):y4w ((sem P C n).ts Y) (e::es) L H=some (x&&y,H):=by
 refine z0c h ?_
 cases x
 ·rfl
 ·exact h2
theorem z7o{x:Bool}(h:y4w ((sem P C n).ts Y) es L H=some (x,H)):(sem P C (n+1)).ts Y (.andE es) L H=some (x,H):=h
variable {rest x y:List MS} {Q:Option (Fl×z0b)} {ps:List Nat} {fl:Fl}
theorem z5c{s:MS}(h:(sem P C (n+1)).ex Y s L H=some (.next Y',Hb))(hr:exs (sem P C (n+1)).ex Y' rest L Hb=Q):exs (sem P C (n+1)).ex Y (s::rest) L H=Q:=z0c h hr
theorem q8n{s:MS}(h:(sem P C (n+1)).ex Y s L H=some (.ret v,Hb)):exs (sem P C (n+1)).ex Y (s::rest) L H=some (.ret v,Hb):=z0c h rfl
theorem w3j:exs (sem P C (n+1)).ex Y (.brk::rest) L H=some (.brk Y,H):=rfl
theorem z4r(h:(sem P C n).ev Y e L H=some (v,Hb)):exs (sem P C (n+1)).ex Y (.ret e::rest) L H=some (.ret v,Hb):=q8n (z0c h rfl)
theorem j6s(h:(sem P C n).ev Y e L H=some (v,Hb))(hr:exs (sem P C (n+1)).ex Y rest L Hb=Q):exs (sem P C (n+1)).ex Y (.expr e::rest) L H=Q:=z5c (z0c h rfl) hr
theorem z0d(h:(sem P C n).ev Y e L H=some (v,Hb))(hr:exs (sem P C (n+1)).ex (upd Y k v) rest L Hb=Q):exs (sem P C (n+1)).ex Y (.assign (.one k) e::rest) L H=Q:=z5c (z0c h rfl) hr
theorem y4q(h:(sem P C n).ev Y e L H=some (.tup vs,Hb))(hb:z4g Y ps vs=some Y')(hr:exs (sem P C (n+1)).ex Y' rest L Hb=Q):exs (sem P C (n+1)).ex Y (.assign (.tup ps) e::rest) L H=Q:=z5c (z0c h (z0c (z1j hb) rfl)) hr
theorem x9s{o:BOp}(h1:Y k=some p)(h:(sem P C n).ev Y e L H=some (q,Hb))(h3:x5k o p q=some v)(hr:exs (sem P C (n+1)).ex (upd Y k v) rest L Hb=Q):exs (sem P C (n+1)).ex Y (.aug o k e::rest) L H=Q:=z5c (z0c (z1j h1) (z0c h (z0c rfl (z0c (z1j h3) rfl)))) hr
theorem q3f(h:(sem P C n).ev Y e L H=some (v,Hb))(h1:(sem P C n).ev Y o L Hb=some (.inst c i,H2))(hb:L.ab<=i)(h2:H2[i]?=some (.att l))(hl:(z2e k v l).length<=900)(hr:exs (sem P C (n+1)).ex Y rest L (H2.set i (.att (z2e k v l)))=Q) :
  exs (sem P C (n+1)).ex Y (.setAttr o k e::rest) L H=Q:=z5c (z0c h (z0c h1 (z0c (j6r hb h2 hl) rfl))) hr
theorem x2n{j:Nat}{l0:List PV}(h:(sem P C n).ev Y e L H=some (.lst vs,Hb))(h1:(sem P C n).ev Y o L Hb=some (.ref j,H2))(h2:H2[j]?=some (.lst l0))(hl:(l0++vs).length<=z2n)(hb:L.b<=j)(hn:z0w 0 vs=true)(hr:exs (sem P C (n+1)).ex Y rest L (H2.set j (.lst vs))=Q) :
  exs (sem P C (n+1)).ex Y (.setAll o e::rest) L H=Q:=z5c (z0c h (z0c h1 (z0c (j1u h2 hl hb hn) rfl))) hr
theorem y1l{j:Nat}{l0 l1:List PV}(h1:(sem P C n).ev Y o L H=some (.ref j,Hb))(hc:Hb[j]?=some (.lst l1))(h:(sem P C n).ev Y e L Hb=some (v,H2))(h2:H2[j]?=some (.lst l0))(hl:(l0++[v]).length<=z2n)(hb:L.b<=j)(hn:z0w 0 (l0++[v])=true)(hr:exs (sem P C (n+1)).ex Y rest L (H2.set j (.lst (l0++[v])))=Q) :
  exs (sem P C (n+1)).ex Y (.append o e::rest) L H=Q:=z5c (z0c h1 (z0c (x2l hc) (z0c h (z0c (j1t h2 hl hb hn) rfl)))) hr
theorem y9y(h1:(sem P C n).ev Y o L H=some (.inst c i,Hb))(h:(sem P C n).ev Y e L Hb=some (v,H2))(hm:P.meth c y3x=some f)(hc:C f [.inst c i,v] [] L H2=some (w,Hd))(hr:exs (sem P C (n+1)).ex Y rest L Hd=Q) :
  exs (sem P C (n+1)).ex Y (.delIdx o e::rest) L H=Q:=z5c (z0c h1 (z0c h (z0c (z9g hm hc) rfl))) hr
theorem j9x{t:Bool}{g:ME}(h:(sem P C n).ts Y g L H=some (t,Hb))(ha:exs (sem P C n).ex Y (if t then x else y) L Hb=some (.next Y',H2))(hr:exs (sem P C (n+1)).ex Y' rest L H2=Q):exs (sem P C (n+1)).ex Y (.ifs g x y::rest) L H=Q:=z5c (z0c h ha) hr
theorem j6t{t:Bool}{g:ME}(h:(sem P C n).ts Y g L H=some (t,Hb))(ha:exs (sem P C n).ex Y (if t then x else y) L Hb=some (.ret v,H2)):exs (sem P C (n+1)).ex Y (.ifs g x y::rest) L H=some (.ret v,H2):=q8n (z0c h ha)
theorem q3g{g:ME}(h:(sem P C n).ts Y g L H=some (false,Hb))(hr:exs (sem P C (n+1)).ex Y rest L Hb=Q):exs (sem P C (n+1)).ex Y (.ifs g x []::rest) L H=Q:=z5c (z0c h rfl) hr
theorem x6h{pt:Pat}{sk:z6g}{up:Bool}(h:z8z (sem P C n) Y sk args L H=some (([],up),Hb))(hr:exs (sem P C (n+1)).ex Y rest L Hb=Q):exs (sem P C (n+1)).ex Y (.for_ pt sk args x []::rest) L H=Q:=
 z5c ((j6k P C n Y L H pt sk args x []).trans (z0c h rfl)) hr
theorem k7p{t:Bool}{g:ME}(h:(sem P C n).ts Y g L H=some (t,Hb))(ha:exs (sem P C n).ex Y (if t then x else y) L Hb=some (.brk Y',H2)):exs (sem P C (n+1)).ex Y (.ifs g x y::rest) L H=some (.brk Y',H2):=z0c (z0c h ha) rfl
theorem y2i{pt:Pat}{sk:z6g}{up:Bool}{vs:List PV}{el:List MS}(h:z8z (sem P C n) Y sk args L H=some ((vs,up),Hb))(h2:z3i (sem P C n).ex pt x el Y vs (Lup up L Hb) Hb=some (.next Y',H2))(hr:exs (sem P C (n+1)).ex Y' rest L H2=Q):exs (sem P C (n+1)).ex Y (.for_ pt sk args x el::rest) L H=Q:=
 z5c ((j6k P C n Y L H pt sk args x el).trans (z0c h h2)) hr
theorem x9t{V:Type}{pt:Pat}{sk:z6g}{xs:List V}{enc:V->PV}{up:Bool}(I:z0n->Prop)(bad:V->Bool)(hsrc:z8z (sem P C n) Y sk args L H=some ((xs.map enc,up),H))
 (step:∀ z,z∈xs->∀ Y,I Y->∃ Yb,z1v Y pt (enc z)=some Yb/\((bad z=true/\exs (sem P C n).ex Yb x (Lup up L H) H=some (.ret v,H))\/(bad z=false/\∃ Yc,exs (sem P C n).ex Yb x (Lup up L H) H=some (.next Yc,H)/\I Yc)))(h:I Y) :
  (xs.any bad=true/\(sem P C (n+1)).ex Y (.for_ pt sk args x []) L H=some (.ret v,H))\/(xs.any bad=false/\∃ Y',I Y'/\(sem P C (n+1)).ex Y (.for_ pt sk args x []) L H=some (.next Y',H)):=by
 rw [j6k,z0m hsrc]
 clear hsrc
 show _\/(_/\∃ Y',I Y'/\z3i (sem P C n).ex pt x [] Y (xs.map enc) (Lup up L H) H=some (.next Y',H))
 show(_/\z3i (sem P C n).ex pt x [] Y (xs.map enc) (Lup up L H) H=some (.ret v,H))\/_
 generalize Lup up L H=LL at step ⊢
 induction xs generalizing Y with
 | nil=>exact .inr ⟨rfl,Y,h,rfl⟩
 | cons z zs ih=>
  obtain⟨Yb,h1,h2⟩:=step z AC Y h
  rw [List.any_cons,BL]
  rcases h2 with⟨hb,h3⟩ | ⟨hb,Yc,h3,h4⟩
  ·rw [hb,z1z h1 h3]
   exact .inl ⟨rfl,rfl⟩
  ·rw [hb,z1z h1 h3]
   exact ih h4 fun y hy=>step y (AD _ hy)
end
@[simp] theorem w7r(S:z6z)(Y:z0n)(k:z6g)(args:List ME)(L:Lim)(H:z0b):z8z S Y k args L H=(match z3t (S.ev Y) args L H with
  | some (vs,H')=>(match k2v k H' vs with | some r=>some (r,H') | none=>none)
  | none=>none):=by
 unfold z8z M.bind
 induction z3t (S.ev Y) args L H using Option.casesOn with
 | none=>rfl
 | some x=>rfl
@[simp] theorem w9c{V:Type}(c:Prop)[Decidable c](m1 m2:M V)(L:Lim)(H:z0b):(if c then m1 else m2:M V) L H=if c then m1 L H else m2 L H:=by split<;>rfl
@[simp] theorem j1w(H:z0b)(b:Bool):z9n H (.bool b)=some b:=rfl
@[simp] theorem k7q(H:z0b)(i:Int):z9n H (.int i)=some (i != 0):=rfl
@[simp] theorem k3c(H:z0b):z9n H .none=some false:=rfl
theorem x2o{C:z0h}{n:Nat}{Y:z0n}{L:Lim}{H Hb:z0b}{e:ME}{x:Str}(h:(sem mp2 C n).ev Y e L H=some (.str x,Hb))(hx:x.length<=100000) :
  (sem mp2 C (n+1)).ev Y (.prim .lower [e]) L H=some (.str (Txt.lower x),Hb):=z0u (z1l h) (AQ hx)
theorem j6u(lv:Nat)(o:PV)(x:Str)(t:Bool)(L:Lim)(H:z0b)(h:okPat t x=true) :
  z0f mp2 (lv+1) 8 [o,.str x] [(34,.bool t)] L H=some (.str x,H):=by
 refine z0x (Y:=upd (upd (y3q 34 (.bool t)) 5 o) 35 (.str x)) w3f rfl (j6t (t:=true) (z4f (p:=.bool true) rfl (y6a (b:=true) (z0a rfl) rfl) rfl)
  (z0d (v:=.pat t) (z6j (t:=t) (z4f rfl (z0a rfl) rfl) ?_) (q3g (z4f (p:=.none) rfl (z0u (z2j (z0a rfl) (z0a rfl)) (AQ h)) rfl) (z4r (z0a rfl)))))
 induction t using Bool.casesOn<;>rfl
noncomputable abbrev HL:=List (Str×Str)
noncomputable def z4o(h:Str×Str):PV:=.tup [.str h.1,.str h.2]
structure HAt(H:z0b)(i j:Nat)(hs:HL):Prop where
 a:H[i]?=some (.att [(30,.ref j)])
 l:H[j]?=some (.lst (hs.map z4o))
 n:hs.length<=1000
 ok:∀ h,h∈hs->h.1.length<=100000
@[simp] theorem w1t(c i:Nat)(L:Lim)(H:z0b):q4s (.inst c i) L H=(match H[i]? with | some (.att l)=>some ((),H) | _=>none):=by
 show((y6u i).bind fun _=>M.pure ()) L H=_
 rw [z2x]
 unfold y6u
 induction h:H[i]? using Option.casesOn with
 | none=>rfl
 | some c=>cases c<;>rfl
@[simp] theorem x2p(k c i:Nat)(L:Lim)(H:z0b):x0c k (.inst c i) L H=(match H[i]? with | some (.att l)=>M.ofOpt (l.lookup k) L H | _=>none):=by
 show((y6u i).bind fun l=>M.ofOpt (l.lookup k)) L H=_
 rw [z2x]
 unfold y6u
 induction h:H[i]? using Option.casesOn with
 | none=>rfl
 | some c=>cases c<;>rfl
@[simp] theorem w1u(P:MP)(C:z0h)(m c i:Nat)(args:List PV)(kw:List (Nat×PV))(L:Lim)(H:z0b):y0o P C m (.inst c i) args kw L H=(match P.meth c m with | some f=>C f (.inst c i::args) kw L H | none=>none):=by
 show((M.ofOpt (P.meth c m)).bind fun f=>C f (.inst c i::args) kw) L H=_
 cases P.meth c m<;>rfl
theorem y7y{lv n i:Nat}{Y:z0n}{L:Lim}{H Hb:z0b}{l:List (Nat×PV)}{e:ME}{x:Str}{t:Bool}(h5:Y 5=some (.inst 1 i))(ha:H[i]?=some (.att l))(he:(sem mp2 (z0f mp2 (lv+1)) (n+1)).ev Y e L H=some (.str x,Hb))(ho:okPat t x=true) :
  (sem mp2 (z0f mp2 (lv+1)) (n+2)).ev Y (.methk 33 (.var 5) [e] 34 (.bool t)) L H=some (.str x,Hb):=
 j1v (f:=8) (z0a h5) ha (z1l he) rfl rfl (j6u lv _ x t L Hb ho)
theorem y9z{C:z0h}{n i j:Nat}{hs:HL}{Y:z0n}{L:Lim}{H:z0b}(A0:HAt H i j hs)(h5:Y 5=some (.inst 1 i)):(sem mp2 C (n+2)).ev Y (.attr 30 (.var 5)) L H=some (.ref j,H):=
 q3e (z0a h5) A0.a rfl
theorem y1m{C:z0h}{n i j:Nat}{hs:HL}{Y:z0n}{L:Lim}{H:z0b}(A0:HAt H i j hs)(h5:Y 5=some (.inst 1 i)):z8z (sem mp2 C (n+2)) Y .over [.attr 30 (.var 5)] L H=some ((hs.map z4o,true),H):=
 z1q (z1l (y9z A0 h5)) (show(z0y H j).map _=_ by rw [z1t A0.l];rfl)
theorem x9u{C:z0h}{n k:Nat}{Y:z0n}{L:Lim}{H:z0b}{h:Str×Str}(hk:Y k=some (z4o h)):(sem mp2 C (n+2)).ev Y (.idx (.var k) (.int 0)) L H=some (.str h.1,H):=
 z8q (j:=0) (z0a hk) rfl rfl
noncomputable def q5z(hs:HL)(x:Str):Option Str:=hs.findSome? fun h=>if Txt.lower h.1==Txt.lower x then some h.2 else none
noncomputable def w7s:Option Str->PV
 | some v=>.str v
 | none=>.none
theorem j6v(x:Str):∀ hs:HL,hs.findSome? (fun h=>if Txt.lower h.1==Txt.lower x then some (PV.str h.2) else none)=(q5z hs x).map .str
 | []=>rfl
 | h::hs=>by
  have ih:=j6v x hs
  unfold q5z at ih ⊢
  rw [ED,ED,ih]
  by_cases e:Txt.lower h.1=Txt.lower x<;>simp [e]
theorem k7r(lv:Nat){x:Str}{i j:Nat}{hs:HL}{L:Lim}{H:z0b}(A0:HAt H i j hs)(hx:x.length<=100000)(ho:okPat true (Txt.lower x)=true) :
  z0f mp2 (lv+2) 14 [.inst 1 i,.str x] [] L H=some (w7s (q5z hs x),H):=by
 obtain⟨Y',⟨h1,h2⟩,h3⟩:=q8j (P:=mp2) (C:=z0f mp2 (lv+1)) (n:=39) (p:=.tup [31,32]) (k:=.over) (src:=[.attr 30 (.var 5)]) (body:=[.ifs (.cmp .eq (.prim .lower [.var 31]) (.var 34)) [.ret (.var 32)] []]) (orelse:=[])
  (Y:=upd (x9l 5 (.inst 1 i) 34 (.str x) 40 .none) 34 (.str (Txt.lower x))) (xs:=hs) (enc:=z4o) (up:=true) (fun Y=>Y 34=some (.str (Txt.lower x))/\Y 40=some .none) (fun h=>if Txt.lower h.1==Txt.lower x then some (.str h.2) else none)
  (y1m (L:=L) A0 rfl) (fun h hh Y ⟨a,b⟩=>⟨_,rfl,by
   have hc:(sem mp2 (z0f mp2 (lv+1)) 38).ts (upd (upd Y 31 (.str h.1)) 32 (.str h.2)) (.cmp .eq (.prim .lower [.var 31]) (.var 34)) (Lup true L H) H=some (Txt.lower h.1==Txt.lower x,H):=
    z4f rfl (z0l (x2o (z0a rfl) (A0.ok h hh)) (z0a a) (z7x rfl rfl)) rfl
   induction e:(Txt.lower h.1==Txt.lower x) using Bool.casesOn with
   | true=>exact j6t (e▸hc) (z4r (z0a rfl))
   | false=>exact⟨_,q3g (e▸hc) rfl,a,b⟩⟩) ⟨rfl,rfl⟩
 rw [j6v] at h3
 refine z0x (Y:=x9l 5 (.inst 1 i) 34 (.str x) 40 .none) k6t rfl (z0d (y7y rfl A0.a (x2o (z0a rfl) hx) ho) ?_)
 induction hg:q5z hs x using Option.casesOn with
 | some v=>rw [hg] at h3;exact q8n h3
 | none=>rw [hg] at h3;exact z5c h3 (z4r (z0a h2))
@[simp] theorem k7s(i:Nat)(l:List PV)(L:Lim)(H:z0b):y0n i l L H=if L.b<=i/\z0w 0 l=true then(match H[i]? with | some (.lst _)=>some ((),H.set i (.lst l)) | _=>none) else none:=rfl
@[simp] theorem q3h(l:List PV)(L:Lim)(H:z0b):z8g l L H=if z0w 0 l=true then some (.ref H.length,H++[.lst l]) else none:=rfl
@[simp] theorem k7t(L:Lim)(H:z0b):y4x L H=some (H.length,H++[.att []]):=rfl
@[simp] theorem y6c(k c i:Nat)(v:PV)(L:Lim)(H:z0b):z9a k (.inst c i) v L H=if L.ab<=i then(match H[i]? with
   | some (.att l)=>if(z2e k v l).length<=900 then some ((),H.set i (.att (z2e k v l))) else none
   | _=>none) else none:=rfl
theorem z6b(n:Nat):∀ hs:HL,z0w n (hs.map z4o)=true
 | []=>rfl
 | h::hs=>by
  show(y6t n (z4o h)&&z0w n (hs.map z4o))=true
  rw [z6b n hs];rfl
theorem HAt.set{H:z0b}{i j:Nat}{hs hs':HL}(A0:HAt H i j hs)(hn:hs'.length<=1000)(ho:∀ h,h∈hs'->h.1.length<=100000):HAt (H.set j (.lst (hs'.map z4o))) i j hs' where
 a:=by
  rw [DJ (fun e=>?_)]
  ·exact A0.a
  ·have h1:=A0.a;have h2:=A0.l;rw [e,h1] at h2;cases h2
 l:=EE (AU.mp A0.l).1
 n:=hn
 ok:=ho
theorem j1x(lv:Nat){x:Str}{i j:Nat}{hs:HL}{L:Lim}{H:z0b}(A0:HAt H i j hs)(hx:x.length<=100000)(ho:okPat true (Txt.lower x)=true) :
  z0f mp2 (lv+3) 12 [.inst 1 i,.str x] [] L H=some (.bool (q5z hs x).isSome,H):=by
 refine(z0x (Y:=y3r 5 (.inst 1 i) 34 (.str x)) k6r rfl (z4r (y0e (z4n (f:=14) (z0a rfl) A0.a (z1l (z0a rfl)) rfl (k7r lv A0 hx ho))))).trans ?_
 cases q5z hs x<;>rfl
noncomputable def j2p(hs:HL)(x:Str):HL:=hs.filter fun h=>!(Txt.lower h.1==Txt.lower x)
theorem x2q{hs:HL}{x:Str}(hn:hs.length<=1000):(hs.map z4o++(j2p hs x).map z4o).length<=z2n:=by
 have h:=BZ (fun h:Str×Str=>!(Txt.lower h.1==Txt.lower x)) hs
 rw [AE,AJ,AJ]
 exact AA (BK hn (AA h hn)) (by decide)
theorem x9v(lv:Nat){x:Str}{i j:Nat}{hs:HL}{L:Lim}{H:z0b}(A0:HAt H i j hs)(hx:x.length<=100000)(ho:okPat true (Txt.lower x)=true)(hb:L.b<=j) :
  z0f mp2 (lv+2) 10 [.inst 1 i,.str x] [] L H=some (.none,H.set j (.lst ((j2p hs x).map z4o))):=
 y1k (Y:=y3r 5 (.inst 1 i) 34 (.str x)) k6p rfl (z0d (y7y rfl A0.a (x2o (z0a rfl) hx) ho)
  (x2n (vs:=(j2p hs x).map z4o) (z0i (z1y (xs:=hs) (enc:=z4o) (up:=true) (test:=fun h=>!(Txt.lower h.1==Txt.lower x)) (out:=z4o) (y1m A0 rfl) (AA A0.n (by decide))
   (fun h hh=>z3e (z4f rfl (z0l (x2o (x9u rfl) (A0.ok h hh)) (z0a rfl) (z7x rfl rfl)) rfl)) (fun h hh _=>z0a rfl))) (y9z A0 rfl) A0.l (x2q A0.n) hb (z6b _ _) rfl))
theorem z4p{H:z0b}{i j:Nat}{c:z3a}(h:i≠j):(H.set j c)[i]?=H[i]?:=DJ (Ne.symm h)
theorem z3f{H:z0b}{j:Nat}{c d:z3a}(h:H[j]?=some d):(H.set j c)[j]?=some c:=EE (AU.mp h).1
theorem q6a{H:z0b}{i:Nat}{c:z3a}{l:z0b}(h:H[i]?=some c):(H++l)[i]?=some c:=by rw [DE (AU.mp h).1];exact h
theorem z2r(H:z0b)(c:z3a):(H++[c])[H.length]?=some c:=by simp
theorem x9w{H:z0b}{j:Nat}{c d:z3a}{l:z0b}(h:H[j]?=some d):(H++l).set j c=H.set j c++l:=List.set_append_left _ _ (AU.mp h).1
theorem y0f(H:z0b)(c d:z3a):(H++[c]).set H.length d=H++[d]:=by simp
theorem q3i{H:z0b}{j:Nat}{c:z3a}(h:H[j]?=some c):j<H.length:=(AU.mp h).1
@[simp] theorem x9x(x:Str):z3b (.str x)=false:=rfl
@[simp] theorem x6i:z3b .none=true:=rfl
@[simp] theorem x9y(i:Nat):z3b (.ref i)=false:=rfl
@[simp] theorem x9z(l:List PV):z3b (.lst l)=false:=rfl
@[simp] theorem k7u(ex:z0n->MS->M Fl)(p:Pat)(b o:List MS)(Y:z0n):z3i ex p b o Y []=exs ex Y o:=rfl
theorem q3j{y:Str}{ts:List Str}(h:(ts.map (·.length)).sum+ts.length*y.length<=10000000):JoinOk y ts=true:=by
 unfold JoinOk
 rw [StrLaws.joinTotal,DG]
 unfold Builtin.Str.tooLong
 have:sizeLine=16777216:=rfl
 exact EA (by omega)
theorem q0a(y v:Str):Txt.join y [v]=v:=by
 unfold Txt.join
 rw [EQ]
 rfl
noncomputable def w3k(hs:HL)(nm v:Str):HL:=hs++[(nm,v)]
theorem k7v{m:M PV}{L:Lim}{H J:z0b}{v w:PV}(h:m ⟨L.b,H.length⟩ H=some (v,J))(hf:frz H.length J v=some w):gcM m L H=some (w,J.take H.length):=by
 unfold gcM
 rw [h]
 dsimp only
 rw [hf]
theorem z7p{m:M PV}{L:Lim}{H J:z0b}{v w:PV}(h:m ⟨H.length,H.length⟩ H=some (v,J))(hf:frz H.length J v=some w):j0c m L H=some (w,H):=by
 unfold j0c
 rw [h]
 dsimp only
 rw [hf]
theorem x2r(H l:z0b)(n:Nat)(h:n=H.length):(H++l).take n=H:=by subst h;simp
theorem k7w{m:M PV}{L:Lim}{H J l:z0b}(h:m ⟨L.b,H.length⟩ H=some (.none,J++l))(hl:J.length=H.length):gcM m L H=some (.none,J):=by
 rw [k7v h rfl,x2r _ _ _ hl.symm]
theorem j6w(lv:Nat){i j:Nat}{hs:HL}{L:Lim}{H:z0b}(A0:HAt H i j hs) :
  z0f mp2 (lv+1) 17 [.inst 1 i] [] L H=some (.ref H.length,H++[.lst (hs.map z4o)]):=
 z0x (Y:=y3q 5 (.inst 1 i)) k6w rfl (z4r (q5y (y9z A0 rfl) (z1t A0.l) (z6b _ _)))
theorem j6x(lv:Nat){L:Lim}{H:z0b}(hb:L.ab<=H.length) :
  z0f mp2 (lv+2) 7 [.inst 1 H.length] [] L (H++[.att []])=some (.none,H++[.att [(30,.ref (H.length+1))],.lst []]):=by
 have hlen:(H++[z3a.att []]).length=H.length+1:=AE
 have ha:(H++[z3a.att []]++[z3a.lst []])[H.length]?=some (.att []):=q6a (z2r _ _)
 have hr:(H++[z3a.att []]++[z3a.lst []]).set H.length (.att [(30,.ref (H.length+1))])=H++[.att [(30,.ref (H.length+1))],.lst []]:=by
  rw [x9w (z2r _ _),y0f,AY];rfl
 have hl:(H++[z3a.att [(30,.ref (H.length+1))],.lst []])[H.length+1]?=some (.lst []):=by
  have h:=z2r (H++[z3a.att [(30,.ref (H.length+1))]]) (.lst [])
  rw [AY,AE] at h
  exact h
 have hm:(sem mp2 (z0f mp2 (lv+1)) 39).ev (y3r 5 (.inst 1 H.length) 29 .none) (.ite (.isNone true (.var 29)) (.var 29) (.mlst [])) L (H++[.att []])=some (.ref (H.length+1),H++[.att []]++[.lst []]):=by
  rw [<- hlen]
  exact z6j (t:=false) (z4f rfl (y0e (z0a rfl)) rfl) (y6b z5p rfl)
 refine y1k (Y:=y3r 5 (.inst 1 H.length) 29 .none) (Y':=upd (y3r 5 (.inst 1 H.length) 29 .none) 29 (.ref (H.length+1))) k6o rfl (z0d hm (q3g (z4f (p:=.bool false) rfl (y6a (b:=true) (z0a rfl) ?h1) rfl) (q3f (l:=[]) (z0a rfl) (z0a rfl) hb ha (by decide:1<=900) ?h2)))
 case h1=>
  show(z0y _ _).map _=_
  rw [z1t (by rw [<- hlen];exact z2r _ _)];rfl
 case h2=>
  show exs _ _ _ L ((H++[z3a.att []]++[z3a.lst []]).set H.length (.att [(30,.ref (H.length+1))]))=_
  rw [hr]
  exact j9x (t:=true) (z4f (p:=.bool true) rfl rfl rfl) (x6h (up:=true) (z1q (z1l (z0a rfl)) (show(z0y _ _).map _=_ by rw [z1t hl];rfl)) rfl) rfl
theorem k0a(lv:Nat){L:Lim}{H:z0b}{i r:Nat}{hs:HL}(hr:H[r]?=some (.lst (hs.map z4o)))(hi:H[i]?=some (.att []))(hb:L.ab<=i)(hok:∀ h,h∈hs->okPat true h.1=true/\okPat false h.2=true) :
  z0f mp2 (lv+2) 7 [.inst 1 i,.ref r] [] L H=some (.none,H.set i (.att [(30,.ref r)])):=by
 have hne:r≠i:=fun e=>by rw [e,hi] at hr;cases hr
 have hi':(H.set i (.att [(30,.ref r)]))[i]?=some (.att [(30,.ref r)]):=z3f hi
 obtain⟨Y',h1,h2⟩:=q8j (P:=mp2) (C:=z0f mp2 (lv+1)) (n:=38) (Y:=upd (y3r 5 (.inst 1 i) 29 (.ref r)) 29 (.ref r)) (L:=L) (H:=H.set i (.att [(30,.ref r)])) (p:=.tup [31,32]) (k:=.over) (src:=[.var 29]) (body:=[.expr (.methk 33 (.var 5) [.var 31] 34 (.bool true)),.expr (.methk 33 (.var 5) [.var 32] 34 (.bool false))]) (orelse:=[])
   (xs:=hs) (enc:=z4o) (up:=true) (fun Y=>Y 5=some (.inst 1 i)) (fun _=>none)
   (z1q (z1l (z0a rfl)) (show(z0y _ _).map _=_ by rw [z1t ((z4p hne).trans hr)];rfl)) (fun h hh Y h5=>⟨_,rfl,_,j6s (y7y (x:=h.1) h5 hi' (z0a rfl) (hok h hh).1) (j6s (y7y (x:=h.2) h5 hi' (z0a rfl) (hok h hh).2) rfl),h5⟩) rfl
 have hn:hs.findSome? (fun _=>(none:Option PV))=none:=List.findSome?_eq_none_iff.mpr fun _ _=>rfl
 rw [hn] at h2
 refine y1k (Y:=y3r 5 (.inst 1 i) 29 (.ref r)) k6o rfl (z0d (z6j (t:=true) (z4f rfl (y0e (z0a rfl)) rfl) (z0a rfl)) (q3g (z4f (p:=.bool false) rfl (y6a (b:=true) (z0a rfl) ?h1) rfl)
  (q3f (l:=[]) (z0a rfl) (z0a rfl) hb hi (by decide:1<=900) (j9x (t:=true) (z4f (p:=.bool true) rfl rfl rfl) (z5c h2 rfl) rfl))))
 show(z0y _ _).map _=_
 rw [z1t hr];rfl
noncomputable def wk(i:Nat):Str:=match q3c.lookup ((2^i:Nat):Int) with
 | some x=>x
 | none=>baseText "0x" 16 ((2^i:Nat):Int)
noncomputable def z5g:Nat->Nat->Nat->List Nat
 | 0,_,_=>[]
 | n+1,i,r=>if r.testBit i then i::(if r - 2^i=0 then[] else z5g n (i+1) (r - 2^i)) else z5g n (i+1) r
theorem k0b(r i:Nat):r &&& 2^i=(r.testBit i).toNat*2^i:=by
 refine Nat.eq_of_testBit_eq fun j=>?_
 rw [Nat.testBit_and,Nat.testBit_two_pow]
 induction h:r.testBit i using Bool.casesOn with
 | true=>
  simp only [Bool.toNat_true,Nat.one_mul,Nat.testBit_two_pow]
  by_cases e:i=j
  ·subst e;simp [h]
  ·simp [e]
 | false=>
  simp only [Bool.toNat_false,Nat.zero_mul,Nat.zero_testBit]
  by_cases e:i=j
  ·subst e;simp [h]
  ·simp [e]
theorem q8o(r i:Nat):Builtin.bitAnd (r:Int) ((2^i:Nat):Int)=(((r.testBit i).toNat*2^i:Nat):Int):=by
 unfold Builtin.bitAnd
 have h1:decide (0<=(r:Int))=true:=AV (EO _)
 have h2:decide (0<=((2^i:Nat):Int))=true:=AV (EO _)
 rw [h1,h2]
 dsimp only
 rw [EV,EV,k0b]
theorem x6j{r i:Nat}(h:r.testBit i=true):2^i<=r:=Nat.ge_two_pow_of_testBit h
theorem x2s{r i:Nat}(h:r.testBit i=true):Builtin.bitXor (r:Int) ((2^i:Nat):Int)=((r - 2^i:Nat):Int):=by
 rw [PyProof.Rows.bitXor_and,q8o,h]
 have:=x6j h
 simp only [Bool.toNat_true,Nat.one_mul]
 rw [Int.ofNat_sub this]
 lia
noncomputable def q8p:List MS:=match st w1s 1 with | .for_ _ _ _ b _=>b | _=>[]
noncomputable def j6y:List MS:=match st w1s 1 with | .for_ _ _ _ _ b=>b | _=>[]
theorem x2t(P:MP)(H:z0b){i:Nat}(h:i<32):z4z P .hex H [.int ((2^i:Nat):Int)]=some (.str (baseText "0x" 16 ((2^i:Nat):Int))):=
 AQ (by rw [DI];exact Nat.pow_lt_pow_right (by decide) (BP h (by decide)))
theorem j6z(H:z0b)(i:Nat):z4z mp2 .flagGet H [.int ((2^i:Nat):Int),.str (baseText "0x" 16 ((2^i:Nat):Int))]=some (.str (wk i)):=by
 unfold wk
 show some (match q3c.lookup ((2^i:Nat):Int) with | some x=>PV.str x | none=>.str (baseText "0x" 16 ((2^i:Nat):Int)))=_
 cases q3c.lookup ((2^i:Nat):Int)<;>rfl
theorem y2j{i:Nat}(H:z0b)(h:i<32):y6q .shl H (.int 1) (.int (i:Int))=some (.int ((2^i:Nat):Int)):=by
 refine(AQ ⟨EO i,Int.ofNat_le.mpr (AA (BO h) (by decide)),by decide⟩).trans ?_
 rw [EV,Int.one_mul,Int.natCast_pow]
 rfl
theorem y6d(n:Nat):∀ ts:List Str,z0w n (ts.map PV.str)=true
 | []=>rfl
 | t::ts=>by show(y6t n (.str t)&&z0w n (ts.map PV.str))=true;rw [y6d n ts];rfl
section
variable {C:z0h} {n:Nat} {L:Lim} {H:z0b} {Y:z0n}
theorem j7a{i r:Nat}{acc:List Str}(hb:L.b<=H.length)(hl:acc.length<=1000)(hi:i<32)(h20:Y 20=some (.int (i:Int)))(h26:Y 26=some (.int (r:Int)))(h27:Y 27=some (.ref H.length)) :
  exs (sem mp2 C 39).ex Y q8p L (H++[.lst (acc.map .str)])=(if r.testBit i then
   (if r - 2^i=0 then some (.brk (upd (upd Y 28 (.int ((2^i:Nat):Int))) 26 (.int ((r - 2^i:Nat):Int))),H++[.lst ((acc++[wk i]).map .str)])
    else some (.next (upd (upd Y 28 (.int ((2^i:Nat):Int))) 26 (.int ((r - 2^i:Nat):Int))),H++[.lst ((acc++[wk i]).map .str)]))
   else some (.next (upd Y 28 (.int ((2^i:Nat):Int))),H++[.lst (acc.map .str)])):=by
 have hband:∀ H,y6q .band H (.int (r:Int)) (.int ((2^i:Nat):Int))=some (.int (((r.testBit i).toNat*2^i:Nat):Int)):=fun H=>AT (fun z=>some (PV.int z)) (q8o r i)
 induction hbit:r.testBit i using Bool.casesOn with
 | false=>
  rw [hbit,Bool.toNat_false,Nat.zero_mul] at hband
  exact z0d (z0g rfl (z0a h20) (y2j _ hi)) (q3g (z4f (t:=false) rfl (z0g (z0a h26) (z0a rfl) (hband _)) rfl) rfl)
 | true=>
  rw [hbit,Bool.toNat_true,Nat.one_mul] at hband
  have hne:z9n (H++[.lst (acc.map .str)]) (.int ((2^i:Nat):Int))=some true:=AT some (EY.mpr (Int.ne_of_gt (Int.natCast_pos.mpr (Nat.two_pow_pos i))))
  have hxor:x5k .bxor (.int (r:Int)) (.int ((2^i:Nat):Int))=some (.int ((r - 2^i:Nat):Int)):=AT (fun z=>some (PV.int z)) (x2s hbit)
  have e:acc.map PV.str++[PV.str (wk i)]=(acc++[wk i]).map .str:=(BH (f:=PV.str) (l₁:=acc) (l₂:=[wk i])).symm
  have hn:z0w 0 (acc.map PV.str++[PV.str (wk i)])=true:=by rw [e];exact y6d _ _
  have hle:(acc.map PV.str++[PV.str (wk i)]).length<=z2n:=by
   rw [AE,AJ]
   exact AA (CD hl 1) (by decide)
  have run:∀ {Q} (_:exs (sem mp2 C 38).ex (upd Y 28 (.int ((2^i:Nat):Int))) [.aug .bxor 26 (.var 28),.ifs (.notE (.var 26)) [.brk] []] L (H++[.lst ((acc++[wk i]).map .str)])=Q),
    exs (sem mp2 C 38).ex (upd Y 28 (.int ((2^i:Nat):Int))) [.append (.var 27) (.prim .flagGet [.var 28,.prim .hex [.var 28]]),.aug .bxor 26 (.var 28),.ifs (.notE (.var 26)) [.brk] []] L (H++[.lst (acc.map .str)])=Q:=fun h=>
   y1l (z0a h27) (z2r H _) (z0u (z2j (z0a rfl) (z0u (z1l (z0a rfl)) (x2t _ _ hi))) (j6z _ i)) (z2r H _) hle hb hn (by rw [y0f,e];exact h)
  have hz':∀ (J:z0b) (b:Bool),(((r - 2^i:Nat):Int) != 0)=b->(sem mp2 C 37).ts (upd (upd Y 28 (.int ((2^i:Nat):Int))) 26 (.int ((r - 2^i:Nat):Int))) (.notE (.var 26)) L J=some (!b,J):=fun J b h=>x2m (z4f rfl (z0a rfl) (AT some h))
  rw [AQ rfl]
  by_cases hz:r - 2^i=0
  ·rw [AQ hz]
   exact z0d (z0g rfl (z0a h20) (y2j _ hi)) (k7p (t:=true) (z4f rfl (z0g (z0a h26) (z0a rfl) (hband _)) hne) (run (x9s h26 (z0a rfl) hxor (k7p (t:=true) (hz' _ false (by rw [hz];rfl)) w3j))))
  ·rw [AS hz]
   exact z0d (z0g rfl (z0a h20) (y2j _ hi)) (j9x (t:=true) (z4f rfl (z0g (z0a h26) (z0a rfl) (hband _)) hne) (run (x9s h26 (z0a rfl) hxor (q3g (hz' _ true (EY.mpr fun h=>hz (Int.ofNat.inj h))) rfl))) rfl)
theorem q6b:∀ (k i r:Nat) (acc:List Str) (Y:z0n),L.b<=H.length->acc.length+k<=1000->i+k<=32->r % 2^i=0->r<2^(i+k)->0<r->Y 26=some (.int (r:Int))->Y 27=some (.ref H.length) ->
  ∃ Y',Y' 27=some (.ref H.length)/\z3i (sem mp2 C 39).ex (.one 20) q8p j6y Y ((List.range' i k).map fun(j:Nat)=>PV.int (j:Int)) L (H++[.lst (acc.map .str)])=some (.next Y',H++[.lst ((acc++(z5g k i r).map wk).map .str)])
 | 0,i,r,acc,Y,hb,hl,hk,hm,hr,h0,h26,h27=>by
  rw [Nat.add_zero] at hr
  rw [Nat.mod_eq_of_lt hr] at hm
  lia
 | k+1,i,r,acc,Y,hb,hl,hk,hm,hr,h0,h26,h27=>by
  have ht:=j7a (C:=C) (L:=L) (H:=H) (Y:=upd Y 20 (.int (i:Int))) (i:=i) (r:=r) (acc:=acc) hb (by lia) (by lia) rfl h26 h27
  have hf:z5g (k+1) i r=if r.testBit i then i::(if r - 2^i=0 then[] else z5g k (i+1) (r - 2^i)) else z5g k (i+1) r:=rfl
  rw [hf]
  clear hf
  induction hbit:r.testBit i using Bool.casesOn with
  | false=>
   rw [hbit,AS CJ] at ht
   rw [AS CJ]
   have h5:r % 2^(i+1)=0:=by
    have h1:=Nat.testBit_eq_decide_div_mod_eq (x:=r) (i:=i)
    rw [hbit] at h1
    have h2:¬ (r / 2^i % 2=1):=of_decide_eq_false h1.symm
    have h3:=Nat.div_add_mod r (2^i)
    rw [hm,Nat.add_zero] at h3
    have h4:2*(r / 2^i / 2)=r / 2^i:=by lia
    rw [<- h3,<- h4,Nat.pow_succ,<- Nat.mul_assoc,Nat.mul_comm (2^i) 2,Nat.mul_mod_right]
   obtain⟨Y',q1,q2⟩:=q6b k (i+1) r acc (upd (upd Y 20 (.int (i:Int))) 28 (.int ((2^i:Nat):Int))) hb (by lia) (by lia) h5 (BV i 1 k▸hr) h0 h26 h27
   exact⟨Y',q1,(z1z rfl ht).trans q2⟩
  | true=>
   rw [hbit,AQ rfl] at ht
   rw [AQ rfl]
   have hle:=x6j hbit
   by_cases hz:r - 2^i=0
   ·rw [AQ hz] at ht
    rw [AQ hz]
    refine⟨_,?_,z1z rfl ht⟩
    exact h27
   ·rw [AS hz] at ht
    rw [AS hz]
    obtain⟨Y',h1,h2⟩:=q6b k (i+1) (r - 2^i) (acc++[wk i]) (upd (upd (upd Y 20 (.int (i:Int))) 28 (.int ((2^i:Nat):Int))) 26 (.int ((r - 2^i:Nat):Int))) hb (by simp;lia) (by lia) (by
      have h1:=Nat.testBit_eq_decide_div_mod_eq (x:=r) (i:=i)
      rw [hbit] at h1
      have h2:r / 2^i % 2=1:=AK h1.symm
      have h3:=Nat.div_add_mod r (2^i)
      rw [hm,Nat.add_zero] at h3
      have h4:2*(r / 2^i / 2)+1=r / 2^i:=by lia
      have h5:r - 2^i=2^i*2*(r / 2^i / 2):=by
       rw [Nat.mul_assoc]
       have h6:2^i*(2*(r / 2^i / 2)+1)=r:=by rw [h4];exact h3
       rw [Nat.mul_add,Nat.mul_one] at h6
       exact Nat.sub_eq_of_eq_add h6.symm
      rw [h5,Nat.pow_succ,Nat.mul_mod_right]) (by
      exact BU (Nat.sub_le _ _) (BV i 1 k▸hr)) (by lia) rfl h27
    refine⟨Y',h1,(z1z rfl ht).trans (h2.trans ?_)⟩
    rw [AY]
    rfl
theorem q8q:∀ (k i:Nat) (Y:z0n),L.b<=H.length->i+k<=32->Y 26=some (.int ((0:Nat):Int))->Y 27=some (.ref H.length) ->
  ∃ Y',Y' 27=some (.ref H.length)/\z3i (sem mp2 C 39).ex (.one 20) q8p j6y Y ((List.range' i k).map fun(j:Nat)=>PV.int (j:Int)) L (H++[.lst (([]:List Str).map .str)])=some (.next Y',H++[.lst ([baseText "0x" 16 0].map .str)])
 | 0,i,Y,hb,hk,h26,h27=>by
  refine⟨Y,h27,?_⟩
  exact y1l (z0a h27) (z2r H _) (z0u (z1l (z0a h26)) rfl) (z2r H _) (show(1:Nat)<=z2n by decide) hb rfl (by rw [y0f];rfl)
 | k+1,i,Y,hb,hk,h26,h27=>by
  have ht:=j7a (C:=C) (L:=L) (H:=H) (Y:=upd Y 20 (.int (i:Int))) (i:=i) (r:=0) (acc:=[]) hb (BM _) (by lia) rfl h26 h27
  rw [Nat.zero_testBit,AS (by decide)] at ht
  obtain⟨Y',q1,q2⟩:=q8q k (i+1) (upd (upd Y 20 (.int (i:Int))) 28 (.int ((2^i:Nat):Int))) hb (by lia) h26 h27
  exact⟨Y',q1,(z1z rfl ht).trans q2⟩
end
noncomputable def z3s(r:Nat):Str:=if r=0 then baseText "0x" 16 0 else Txt.join (Str.ofString ", ") ((z5g 32 0 r).map wk)
theorem y2k:∀ ts:List Str,z8e (ts.map .str)=some ts
 | []=>rfl
 | t::ts=>by show(z8e (ts.map .str)).map (t::·)=_;rw [y2k ts];rfl
theorem j7b{P:MP}{H:z0b}{x:Str}{i:Nat}{ts:List Str}(h:H[i]?=some (.lst (ts.map .str)))(hj:JoinOk x ts=true):z4z P .join H [.str x,.ref i]=some (.str (Txt.join x ts)):=by
 show((z0y H i).bind fun l=>(z8e l).bind fun ts=>if JoinOk x ts then some (PV.str (Txt.join x ts)) else none)=_
 rw [z1t h]
 show((z8e (ts.map .str)).bind fun ts=>if JoinOk x ts then some (PV.str (Txt.join x ts)) else none)=_
 rw [y2k]
 exact AQ hj
theorem j1y{P:MP}{H:z0b}{x:Str}{ts:List Str}(hj:JoinOk x ts=true):z4z P .join H [.str x,.lst (ts.map .str)]=some (.str (Txt.join x ts)):=by
 show((z8e (ts.map .str)).bind fun ts=>if JoinOk x ts then some (PV.str (Txt.join x ts)) else none)=_
 rw [y2k]
 exact AQ hj
theorem x2u(lv:Nat){r:Nat}{L:Lim}{H:z0b}(hr:r<2^32)(hb:L.b<=H.length)(hj:JoinOk (Str.ofString ", ") ((z5g 32 0 r).map wk)=true) :
  ∃ l,z0f mp2 (lv+1) 6 [.int (r:Int)] [] L H=some (.str (z3s r),H++[.lst l]):=by
 have key:∃ ts,∃ Y',Y' 27=some (.ref H.length)/\z3i (sem mp2 (z0f mp2 lv) 39).ex (.one 20) q8p j6y (upd (y3q 26 (.int (r:Int))) 27 (.ref H.length)) ((List.range' 0 32).map fun(j:Nat)=>PV.int (j:Int)) L (H++[.lst []])=some (.next Y',H++[.lst (ts.map .str)]) /\
   JoinOk (Str.ofString ", ") ts=true/\Txt.join (Str.ofString ", ") ts=z3s r:=by
  by_cases h0:r=0
  ·subst h0
   obtain⟨Y',h1,h2⟩:=q8q (C:=z0f mp2 lv) (L:=L) (H:=H) 32 0 (upd (y3q 26 (.int ((0:Nat):Int))) 27 (.ref H.length)) hb (by lia) rfl rfl
   exact⟨[baseText "0x" 16 0],Y',h1,h2,by decide +kernel,by rw [q0a];rfl⟩
  ·obtain⟨Y',h1,h2⟩:=q6b (C:=z0f mp2 lv) (L:=L) (H:=H) 32 0 r [] (upd (y3q 26 (.int (r:Int))) 27 (.ref H.length)) hb (by first | rfl | simp) (by lia) (by simp [Nat.mod_one]) (by simpa using hr) (by lia) (by first | rfl | simp) (by first | rfl | simp)
   exact⟨_,Y',h1,h2,hj,by unfold z3s;rw [AS h0];rfl⟩
 obtain⟨ts,Y',h1,h2,h3,h4⟩:=key
 refine⟨ts.map .str,?_⟩
 have hp:=j7b (P:=mp2) (H:=H++[.lst (ts.map .str)]) (x:=Str.ofString ", ") (ts:=ts) (z2r _ _) h3
 rw [h4] at hp
 exact z0x (Y:=y3q 26 (.int (r:Int))) w3e rfl (z0d (y6b z5p rfl) (y2i (up:=false) (z1q (z1l rfl) rfl) h2 (z4r (z0u (z2j rfl (z0a h1)) hp))))
section
open Builtin Builtin.Str StrLaws
noncomputable def stp(s sub:Str)(hi limit:Nat)(st:Array Nat×Nat)(i:Nat):Array Nat×Nat:=
 if((st.fst.size<limit/\st.snd<=i)/\i+sub.length<=hi)/\subAt s sub i=true then(st.fst.push i,i+sub.length) else st
theorem q3k(s sub:Str)(hi limit:Nat):∀ (l:List Nat) (st:Array Nat×Nat),(forIn l st (occBody s sub hi limit)).run=l.foldl (stp s sub hi limit) st
 | [],st=>rfl
 | a::l,st=>by
  rw [FK,CW,<- q3k s sub hi limit l]
  unfold occBody stp
  split<;>rfl
theorem y4r{s sub:Str}{hi limit:Nat}{st:Array Nat×Nat}:∀ (n a:Nat),(∀ i,a<=i->i<a+n->i<st.snd\/subAt s sub i=false)->(List.range' a n).foldl (stp s sub hi limit) st=st
 | 0,a,_=>rfl
 | n+1,a,h=>by
  rw [List.range'_succ,CW]
  have:stp s sub hi limit st a=st:=by
   unfold stp
   rw [AS]
   rintro⟨⟨⟨h1,h2⟩,h3⟩,h4⟩
   rcases h a (AM _) (by lia) with h5 | h5
   ·lia
   ·rw [h5] at h4;contradiction
  rw [this]
  exact y4r n (a+1) fun i h1 h2=>h i (BO ‹_›) (by lia)
noncomputable def z6c:List (List Nat)->List Nat
 | []=>[]
 | [w]=>w
 | w::v::ws=>w++[44,32]++z6c (v::ws)
noncomputable def y6e:Nat->List (List Nat)->List Nat
 | _,[]=>[]
 | _,[_]=>[]
 | i,w::v::ws=>(i+w.length)::y6e (i+w.length+2) (v::ws)
theorem q6c(w:List Nat):z6c [w]=w:=rfl
theorem q6d(i:Nat)(w:List Nat):y6e i [w]=[]:=rfl
theorem j7c(i:Nat)(w v:List Nat)(ws:List (List Nat)):y6e i (w::v::ws)=(i+w.length)::y6e (i+w.length+2) (v::ws):=rfl
theorem y2l(x:Str)(pre w post:List Nat)(h:x.cps.toList=pre++w++post):x.cps.extract pre.length (pre.length+w.length)=w.toArray:=by
 apply Array.toList_inj.mp
 rw [Array.toList_extract,h]
 simp [List.extract]
noncomputable def z5u:Str:=⟨#[44,32]⟩
theorem q8r{x:Str}{pre post:List Nat}{c:Nat}(h:x.cps.toList=pre++c::post)(hc:c≠44):subAt x z5u pre.length=false:=by
 unfold subAt
 induction e:x.cps.extract pre.length (pre.length+z5u.length)==z5u.cps using Bool.casesOn with
 | false=>rfl
 | true=>
  exfalso
  have e2:=AT Array.toList (BE.mp e)
  rw [Array.toList_extract,h] at e2
  have h2:z5u.length=2:=rfl
  rw [h2] at e2
  simp [List.extract,z5u] at e2
  induction post using List.casesOn with
  | nil=>simp at e2
  | cons d post=>simp at e2;exact hc e2.1
theorem j7d{x:Str}{pre:List Nat}(h:x.cps.toList=pre):subAt x z5u pre.length=false:=by
 unfold subAt
 induction e:x.cps.extract pre.length (pre.length+z5u.length)==z5u.cps using Bool.casesOn with
 | false=>rfl
 | true=>
  exfalso
  have e2:=AT Array.toList (BE.mp e)
  rw [Array.toList_extract,h] at e2
  simp [List.extract,z5u] at e2
theorem j7e{x:Str}{pre post:List Nat}(h:x.cps.toList=pre++[44,32]++post):subAt x z5u pre.length=true:=by
 unfold subAt
 have:=y2l x pre [44,32] post h
 have h2:z5u.length=2:=rfl
 rw [h2]
 rw [show pre.length+2=pre.length+[44,32].length from rfl,this]
 rfl
theorem w7t{x:Str}{limit:Nat}(hl:x.length<limit):∀ (ws:List (List Nat)) (w:List Nat) (pre:List Nat) (found:Array Nat) (free:Nat),x.cps.toList=pre++z6c (w::ws)->(∀ v,v∈w::ws->44∉v)->free<=pre.length->found.size<=pre.length ->
  ((List.range' pre.length ((z6c (w::ws)).length+1)).foldl (stp x z5u x.length limit) (found,free)).1.toList=found.toList++y6e pre.length (w::ws)
 | [],w,pre,found,free,hx,hc,hf,hs=>by
  have hw:44∉w:=hc w AC
  rw [y4r]
  ·simp [q6d,j7c]
  ·intro i h1 h2
   refine .inr ?_
   show subAt x z5u i=false
   simp only [q6c] at hx h2
   by_cases hi:i<pre.length+w.length
   ·obtain⟨c,hcw⟩:∃ c,w[i - pre.length]?=some c:=⟨w[i - pre.length]'(by lia),AP _⟩
    have e:w=w.take (i - pre.length)++c::w.drop (i - pre.length+1):=by
     have hlt:i - pre.length<w.length:=by lia
     have:w[i - pre.length]=c:=by rw [AP hlt] at hcw;exact AF hcw
     rw [<- this,List.getElem_cons_drop,List.take_append_drop]
    have hlen:(pre++w.take (i - pre.length)).length=i:=by simp;lia
    rw [<- hlen]
    refine q8r (c:=c) (post:=w.drop (i - pre.length+1)) ?_ (fun h=>hw (h▸CB hcw))
    rw [hx,AY,<- e]
   ·have:i=(pre++w).length:=by simp;lia
    rw [this]
    exact j7d hx
 | v::ws,w,pre,found,free,hx,hc,hf,hs=>by
  have hw:44∉w:=hc w AC
  have hj:z6c (w::v::ws)=w++[44,32]++z6c (v::ws):=rfl
  have hlen:(z6c (w::v::ws)).length+1=w.length+(1+(1+((z6c (v::ws)).length+1))):=by rw [hj];simp;lia
  have hxl:x.length=pre.length+(z6c (w::v::ws)).length:=by
   show x.cps.size=_
   rw [<- CL,hx];simp
  have s0:(List.range' pre.length w.length).foldl (stp x z5u x.length limit) (found,free)=(found,free):=by
   refine y4r w.length pre.length fun i h1 h2=>?_
   refine .inr ?_
   show subAt x z5u i=false
   obtain⟨c,hcw⟩:∃ c,w[i - pre.length]?=some c:=⟨w[i - pre.length]'(by lia),AP _⟩
   have e:w=w.take (i - pre.length)++c::w.drop (i - pre.length+1):=by
    have hlt:i - pre.length<w.length:=by lia
    have:w[i - pre.length]=c:=by rw [AP hlt] at hcw;exact AF hcw
    rw [<- this,List.getElem_cons_drop,List.take_append_drop]
   have hlen:(pre++w.take (i - pre.length)).length=i:=by simp;lia
   rw [<- hlen]
   refine q8r (c:=c) (post:=w.drop (i - pre.length+1)++[44,32]++z6c (v::ws)) ?_ (fun h=>hw (h▸CB hcw))
   rw [hx,hj]
   conv=>lhs;rw [e]
   simp
  rw [hlen,<- EW,DN,s0]
  rw [<- EW,DN]
  have s1:(List.range' (pre.length+w.length) 1).foldl (stp x z5u x.length limit) (found,free)=(found.push (pre.length+w.length),pre.length+w.length+2):=by
   show stp x z5u x.length limit (found,free) (pre.length+w.length)=_
   unfold stp
   have h2:z5u.length=2:=rfl
   rw [AQ,h2]
   refine⟨⟨⟨?_,?_⟩,?_⟩,?_⟩
   ·show found.size<limit;lia
   ·show free<=_;lia
   ·rw [h2,hxl];lia
   ·have:=j7e (x:=x) (pre:=pre++w) (post:=z6c (v::ws)) (by rw [hx,hj];simp)
    rw [AE] at this
    exact this
  rw [s1,<- EW,DN]
  have s2:(List.range' (pre.length+w.length+1) 1).foldl (stp x z5u x.length limit) (found.push (pre.length+w.length),pre.length+w.length+2)=(found.push (pre.length+w.length),pre.length+w.length+2):=
   y4r 1 _ fun i h1 h2=>.inl (by show i<pre.length+w.length+2;lia)
  rw [s2]
  have ih:=w7t hl ws v (pre++w++[44,32]) (found.push (pre.length+w.length)) (pre.length+w.length+2) (by rw [hx,hj];simp) (fun u hu=>hc u (AD _ hu)) (by simp;lia) (by simp;lia)
  have e:(pre++w++[44,32]).length=pre.length+w.length+1+1:=by simp;lia
  rw [e] at ih
  rw [ih]
  simp [q6d,j7c]
theorem q8s{x:Str}:∀ (ws:List (List Nat)) (w pre:List Nat),x.cps.toList=pre++z6c (w::ws) ->
  (((pre.length::(y6e pre.length (w::ws)).map (·+2)).zip (y6e pre.length (w::ws)++[x.length])).map fun(p:Nat×Nat)=>strSub x p.1 p.2)=(w::ws).map fun v=>(⟨v.toArray⟩:Str)
 | [],w,pre,hx=>by
  have hxl:x.length=pre.length+w.length:=by
   show x.cps.size=_
   rw [<- CL,hx];simp [q6c]
  simp only [q6d,List.map_nil,List.nil_append,GB,List.zip_nil_left,BL,List.cons.injEq,and_true]
  unfold strSub
  rw [hxl,y2l x pre w [] (by rw [hx];simp [q6c])]
 | v::ws,w,pre,hx=>by
  have hj:z6c (w::v::ws)=w++[44,32]++z6c (v::ws):=rfl
  have ih:=q8s ws v (pre++w++[44,32]) (by rw [hx,hj];simp)
  have e:(pre++w++[44,32]).length=pre.length+w.length+2:=by simp;lia
  rw [e] at ih
  have h1:strSub x pre.length (pre.length+w.length)=⟨w.toArray⟩:=by
   unfold strSub
   rw [y2l x pre w ([44,32]++z6c (v::ws)) (by rw [hx,hj];simp)]
  show(((pre.length::(pre.length+w.length+2)::(y6e (pre.length+w.length+2) (v::ws)).map (·+2)).zip ((pre.length+w.length)::(y6e (pre.length+w.length+2) (v::ws)++[x.length]))).map _)=_
  rw [GB,BL,ih,h1]
  rfl
theorem z8r:∀ (ts:List Str),(Str.join z5u ts).cps.toList=z6c (ts.map fun t=>t.cps.toList)
 | []=>rfl
 | [t]=>rfl
 | t::u::ts=>by
  have ih:=z8r (u::ts)
  show(t.cps++z5u.cps++(Str.join z5u (u::ts)).cps).toList=t.cps.toList++[44,32]++z6c ((u::ts).map fun t=>t.cps.toList)
  rw [<- ih]
  simp [z5u]
theorem y2m{ts:List Str}(hne:ts≠[])(hc:∀ t,t∈ts->44∉t.cps.toList):Txt.split (Txt.join z5u ts) z5u=ts:=by
 generalize hx:Txt.join z5u ts=x
 have hxl:x.cps.toList=z6c (ts.map fun t=>t.cps.toList):=by
  rw [<- hx]
  unfold Txt.join
  rw [EQ,z8r]
 have hsp:Txt.split x z5u=partsBetween x (occurrences x z5u 0 x.length (x.length+1)) z5u.length:=by
  have:=W.m_split x z5u (by rfl)
  have e2:(W.GW2.means .split (.str x) (.str z5u))=some (.list ((partsBetween x (occurrences x z5u 0 x.length (x.length+1)) z5u.length).map .str)):=rfl
  rw [e2] at this
  have h3:=W.WData.list.inj (AF this)
  exact(List.map_inj_right (fun a b h=>W.WData.str.inj h)).mp h3.symm
 rw [hsp,StrLaws.occ_eq,q3k]
 induction ts using List.casesOn with
 | nil=>exact(hne rfl).elim
 | cons t ts=>
  rw [BL] at hxl
  have hl:x.length=(z6c (t.cps.toList::ts.map fun t=>t.cps.toList)).length:=by
   show x.cps.size=_
   rw [<- CL,hxl]
  have hs:=w7t (x:=x) (limit:=x.length+1) (by lia) (ts.map fun t=>t.cps.toList) t.cps.toList [] #[] 0 (by simpa using hxl) (by
   intro v hv
   rw [<- BL (f:=fun t:Str=>t.cps.toList)] at hv
   obtain⟨u,hu,rfl⟩:=AX.mp hv
   exact hc u hu) (AM _) (AM _)
  rw [List.length_nil,<- hl] at hs
  rw [Nat.sub_zero,hs]
  have hp:=q8s (x:=x) (ts.map fun t=>t.cps.toList) t.cps.toList [] (by simpa using hxl)
  unfold partsBetween
  show(((0::(_:List Nat).map (·+2)).zip _).map _)=_
  rw [List.length_nil] at hp
  have e:(#[]:Array Nat).toList++y6e 0 (t.cps.toList::ts.map fun t=>t.cps.toList)=y6e 0 (t.cps.toList::ts.map fun t=>t.cps.toList):=rfl
  rw [e]
  refine hp.trans ?_
  have hid:((fun v:List Nat=>(⟨v.toArray⟩:Str))∘fun t:Str=>t.cps.toList)=_root_.id:=by
   funext u
   cases u;rfl
  rw [BL,AW,hid,List.map_id]
end
noncomputable def y3s{V:Type}[DecidableEq V](f:V->PV)(A6:V->Prop)(n:Nat):Prop:=
 ∃ d:V->PyData,∀ a,A6 a->z1n (f a)=some (d a)/\(d a).depth<=n/\∀ b,A6 b->PyData.eqv (d a) (d b)=decide (a=b)
theorem x2v{p q:PV}{d e:PyData}(hp:z1n p=some d)(hq:z1n q=some e)(h1:d.depth<=30)(h2:e.depth<=30):eqV p q=some (PyData.eqv d e):=by
 have gen:eqD p q=some (PyData.eqv d e):=by
  unfold eqD
  rw [hp,hq]
  exact AQ ⟨h1,h2⟩
 induction p using PV.casesOn with
 | int a=>
  induction q using PV.casesOn with
  | int b=>cases(show some (PyData.int a)=some d from hp);cases(show some (PyData.int b)=some e from hq);rfl
  | _=>exact gen
 | bool a=>
  cases q with
  | bool b=>cases(show some (PyData.bool a)=some d from hp);cases(show some (PyData.bool b)=some e from hq);rfl
  | _=>exact gen
 | str a=>
  induction q using PV.casesOn with
  | str b=>
   have hp':=(z0q (show(if PyData.strOk a then some (PyData.str a) else none)=some d from hp)).2
   have hq':=(z0q (show(if PyData.strOk b then some (PyData.str b) else none)=some e from hq)).2
   injection hp' with hp';subst hp';injection hq' with hq';subst hq';rfl
  | _=>exact gen
 | _=>exact gen
section
variable {V Z A8:Type} [DecidableEq V] [DecidableEq Z] [DecidableEq A8] {f:V->PV} {g:Z->PV} {k:A8->PV} {A6:V->Prop} {U:Z->Prop} {T:A8->Prop} {n:Nat}
theorem z9v(E:y3s f A6 n)(hn:n<=30){a b:V}(ha:A6 a)(hb:A6 b):eqV (f a) (f b)=some (decide (a=b)):=by
 obtain⟨d,h⟩:=E
 obtain⟨a1,a2,a3⟩:=h a ha
 obtain⟨b1,b2,_⟩:=h b hb
 rw [x2v a1 b1 (by omega) (by omega),a3 b hb]
theorem z7q{d:V->PyData}(h:∀ a,A6 a->z1n (f a)=some (d a)):∀ l:List V,(∀ x,x∈l->A6 x)->z0p (l.map f)=some (l.map d)
 | [],_=>rfl
 | x::l,hl=>by
  show((z1n (f x)).bind fun d=>(z0p (l.map f)).map fun ds=>d::ds)=_
  rw [h x (hl x AC),z7q h l fun y hy=>hl y (AD _ hy)]
  rfl
theorem j7f{d:V->PyData}(h:∀ a,A6 a->∀ b,A6 b->PyData.eqv (d a) (d b)=decide (a=b)){a:V}(ha:A6 a):∀ l:List V,(∀ x,x∈l->A6 x)->(l.map d).any (fun y=>PyData.eqv y (d a))=decide (a∈l)
 | [],_=>rfl
 | x::l,hl=>by
  rw [BL,List.any_cons,j7f h ha l fun y hy=>hl y (AD _ hy),h x (hl x AC) a ha]
  by_cases e:x=a
  ·subst e;simp
  ·have:¬ a=x:=fun q=>e q.symm
   simp [e,this]
theorem q6e(E:y3s f A6 n)(hn:n<=30){a:V}{l:List V}(ha:A6 a)(hl:∀ x,x∈l->A6 x):inV (f a) (.lst (l.map f))=some (decide (a∈l)):=by
 obtain⟨d,h⟩:=E
 show inL (f a) (l.map f)=_
 unfold inL
 rw [z7q (fun a ha=>(h a ha).1) l hl,(h a ha).1]
 exact(AQ (AA (h a ha).2.1 hn)).trans (AT some (j7f (fun a ha=>(h a ha).2.2) ha l hl))
theorem j7g:y3s PV.int (fun _=>True) 0:=⟨.int,fun a _=>⟨rfl,BM _,fun b _=>by
 show(a==b)=_
 rw [BN];simp⟩⟩
theorem y6f:y3s (fun n:Nat=>PV.int (n:Int)) (fun _=>True) 0:=⟨fun n=>.int (n:Int),fun a _=>⟨rfl,BM _,fun b _=>by
 show(((a:Int))==(b:Int))=_
 rw [BN,BE,BY];omega⟩⟩
theorem y6g:y3s PV.str (fun x=>PyData.strOk x=true) 0:=⟨.str,fun a h=>⟨AQ h,BM _,fun b _=>by
 show(a==b)=_
 rw [BN];simp⟩⟩
theorem y7z{d:V->PyData}(h:∀ a,A6 a->∀ b,A6 b->PyData.eqv (d a) (d b)=decide (a=b)):∀ l m:List V,(∀ x,x∈l->A6 x)->(∀ x,x∈m->A6 x)->PyData.eqvAll (l.map d) (m.map d)=decide (l=m)
 | [],[],_,_=>rfl
 | [],_::_,_,_=>rfl
 | _::_,[],_,_=>rfl
 | x::l,y::m,hl,hm=>by
  show(PyData.eqv (d x) (d y)&&PyData.eqvAll (l.map d) (m.map d))=_
  rw [h x (hl x AC) y (hm y AC),y7z h l m (fun z hz=>hl z (AD _ hz)) fun z hz=>hm z (AD _ hz)]
  rw [BN];simp
theorem y6h{d:V->PyData}(h:∀ a,A6 a->(d a).depth<=n):∀ l:List V,(∀ x,x∈l->A6 x)->PyData.depthAll (l.map d)<=n
 | [],_=>BM _
 | x::l,hl=>by
  show max (d x).depth (PyData.depthAll (l.map d))<=n
  have h1:=h x (hl x AC)
  exact Nat.max_le.mpr ⟨h1,y6h h l fun y hy=>hl y (AD _ hy)⟩
theorem z5q(E:y3s f A6 n):y3s (fun l:List V=>PV.lst (l.map f)) (fun l=>∀ x,x∈l->A6 x) (n+1):=by
 obtain⟨d,h⟩:=E
 refine⟨fun l=>.list (l.map d),fun l hl=>⟨?_,?_,fun m hm=>?_⟩⟩
 ·show(z0p (l.map f)).map PyData.list=_
  rw [z7q (fun a ha=>(h a ha).1) l hl]
  rfl
 ·show PyData.depthAll (l.map d)+1<=n+1
  exact CK (y6h (fun a ha=>(h a ha).2.1) l hl)
 ·show PyData.eqvAll (l.map d) (m.map d)=_
  exact y7z (fun a ha=>(h a ha).2.2) l m hl hm
theorem q3l{p:PV}{ps:List PV}{d:PyData}{ds:List PyData}(h1:z1n p=some d)(h2:z0p ps=some ds):z0p (p::ps)=some (d::ds):=by
 show((z1n p).bind fun d=>(z0p ps).map fun ds=>d::ds)=_
 rw [h1,h2];rfl
theorem q0b{m:Nat}(E:y3s f A6 n)(F:y3s g U m):y3s (fun p:V×Z=>PV.tup [f p.1,g p.2]) (fun p=>A6 p.1/\U p.2) (max n m+1):=by
 obtain⟨d,h⟩:=E
 obtain⟨e,k⟩:=F
 refine⟨fun p=>.tuple [d p.1,e p.2],fun p hp=>⟨?_,?_,fun q hq=>?_⟩⟩
 ·show(z0p [f p.1,g p.2]).map PyData.tuple=_
  rw [q3l (h _ hp.1).1 (q3l (k _ hp.2).1 rfl)];rfl
 ·show PyData.depthAll [d p.1,e p.2]+1<=_
  have h1:=(h _ hp.1).2.1
  have h2:=(k _ hp.2).2.1
  exact CK (mmm h1 (Nat.max_le.mpr ⟨h2,BM _⟩))
 ·show(PyData.eqv (d p.1) (d q.1)&&(PyData.eqv (e p.2) (e q.2)&&true))=_
  rw [(h _ hp.1).2.2 _ hq.1,(k _ hp.2).2.2 _ hq.2,BN]
  obtain⟨p1,p2⟩:=p
  obtain⟨q1,q2⟩:=q
  simp
end
noncomputable def k7x(k:Nat):Bool:=
 let w:=wk k
 let lo:=Txt.lower w
 let up:=Txt.upper w
 decide (w.length<=100)&&decide (up.length<=100)&&decide (lo.length<=100)&&okPat true lo&&okPat true up&&okPat false w&&decide (Txt.lower lo=lo)&&decide (Txt.lower up=lo)&&!(w.cps.toList.contains 44)&&!(w.cps.toList.headD 32==32)&&!(w.cps.toList.headD 9==9)&&PyData.strOk w&&PyData.strOk lo&&PyData.strOk up
theorem j7h:(List.range 32).all k7x=true:=by decide +kernel
noncomputable def x2w:List Str:=(List.range 32).map fun k=>Txt.lower (wk k)
theorem j1z:x2w.Nodup:=by decide +kernel
structure k0c(w:Str):Prop where
 len:w.length<=100
 ulen:(Txt.upper w).length<=100
 llen:(Txt.lower w).length<=100
 okl:okPat true (Txt.lower w)=true
 oku:okPat true (Txt.upper w)=true
 okv:okPat false w=true
 ll:Txt.lower (Txt.lower w)=Txt.lower w
 lu:Txt.lower (Txt.upper w)=Txt.lower w
 nc:44∉w.cps.toList
 h1:w.cps.toList.headD 32≠32
 h2:w.cps.toList.headD 9≠9
 sok:PyData.strOk w=true
 sokl:PyData.strOk (Txt.lower w)=true
 soku:PyData.strOk (Txt.upper w)=true
theorem b32{b u:Nat}(hb:b<28)(hu:u<5):b+u<32:=FR hb (DM hu)
theorem z6m{k:Nat}(h:k<32):k0c (wk k):=by
 have:=BA.mp j7h k (by simpa using h)
 unfold k7x at this
 simp only [EL,decide_eq_true_eq,DG,FA] at this
 obtain⟨⟨⟨⟨⟨⟨⟨⟨⟨⟨⟨⟨⟨a1,a2⟩,a3⟩,a4⟩,a5⟩,a6⟩,a7⟩,a8⟩,a9⟩,b1⟩,b2⟩,b3⟩,b4⟩,b5⟩:=this
 have nc:44∉(wk k).cps.toList:=fun hm=>by rw [CS.mpr hm] at a9;cases a9
 exact⟨a1,a2,a3,a4,a5,a6,a7,a8,nc,b1,b2,b3,b4,b5⟩
theorem y2n{j k:Nat}(hj:j<32)(hk:k<32)(h:Txt.lower (wk j)=Txt.lower (wk k)):j=k:=by
 have e1:x2w[j]?=some (Txt.lower (wk j)):=by unfold x2w;simp [hj]
 have e2:x2w[k]?=some (Txt.lower (wk k)):=by unfold x2w;simp [hk]
 have l1:j<x2w.length:=by simp [x2w,hj]
 have l2:k<x2w.length:=by simp [x2w,hk]
 rw [AP l1] at e1
 rw [AP l2] at e2
 have:=AF e1
 have:=AF e2
 have hp:=FS.mp j1z
 rcases Nat.lt_trichotomy j k with h1 | h1 | h1
 ·exact absurd (by simp_all) (hp j k l1 l2 h1)
 ·exact h1
 ·exact absurd (by simp_all) (hp k j l2 l1 h1)
theorem x6k{j k:Nat}(hj:j<32)(hk:k<32)(h:wk j=wk k):j=k:=y2n hj hk (by rw [h])
noncomputable def z2b(m:Nat):List Nat:=(List.range 5).filter fun i=>m.testBit i
theorem q6f:((List.range 28).all fun b=>(List.range 32).all fun m=>decide (z5g 32 0 (m*2^b)=(z2b m).map (b+·)))=true:=by decide +kernel
theorem j2a{b m:Nat}(hb:b<28)(hm:m<32):z5g 32 0 (m*2^b)=(z2b m).map (b+·):=by
 have:=BA.mp (BA.mp q6f b (by simpa using hb)) m (by simpa using hm)
 exact AK this
noncomputable def W(b:Nat):List Str:=(List.range 5).map fun i=>wk (b+i)
noncomputable def dr(g:Bool)(w:Str):Str:=if g then Txt.upper w else Txt.lower w
theorem y8a{g:Bool}{w:Str}(h:k0c w):Txt.lower (dr g w)=Txt.lower w:=by cases g;exact h.ll;exact h.lu
theorem y8b{g:Bool}{w:Str}(h:k0c w):(dr g w).length<=100:=by cases g;exact h.llen;exact h.ulen
theorem w3l{g:Bool}{w:Str}(h:k0c w):okPat true (dr g w)=true:=by cases g;exact h.okl;exact h.oku
structure HOk(hs:HL):Prop where
 n:hs.length<=500
 ok:∀ h,h∈hs->h.1.length<=100/\okPat true h.1=true/\k0c h.2
structure At(H:z0b)(i j:Nat)(hs:HL):Prop where
 a:H[i]?=some (.att [(30,.ref j)])
 l:H[j]?=some (.lst (hs.map z4o))
theorem At.set{H:z0b}{i j:Nat}{hs hs':HL}(A:At H i j hs):At (H.set j (.lst (hs'.map z4o))) i j hs':=by
 have hne:i≠j:=fun e=>by have h1:=A.a;have h2:=A.l;rw [e,h2] at h1;cases h1
 exact⟨(z4p hne).trans A.a,z3f A.l⟩
theorem HOk.add{hs:HL}{nm v:Str}(K:HOk hs)(h1:nm.length<=100)(h2:okPat true nm=true)(h3:k0c v)(hn:hs.length<500):HOk (w3k hs nm v):=by
 refine⟨by unfold w3k;rw [AE];simp;lia,fun h hh=>?_⟩
 unfold w3k at hh
 rcases BJ.mp hh with hh | hh
 ·exact K.ok h hh
 ·simp at hh;subst hh;exact⟨h1,h2,h3⟩
theorem y1n(H:z0b)(j:Nat)(c d:z3a):(H.set j c).set j d=H.set j d:=List.set_set ..
noncomputable def z8b(s:MS):List MS:=match s with | .for_ _ _ _ b _=>b | _=>[]
section
variable {lv:Nat} {L:Lim} {i j:Nat} {H:z0b}
end
theorem At.refl_set{H:z0b}{i j:Nat}{hs:HL}(A:At H i j hs):H.set j (.lst (hs.map z4o))=H:=by
 obtain⟨hlt,e⟩:=AU.mp A.l
 rw [<- e];exact List.set_getElem_self hlt
theorem ne_str(P:MP)(C:z0h)(x y:Str)(L:Lim)(H:z0b):z9p P C .ne (.str x) (.str y) L H=some (.bool (!(x==y)),H):=rfl
theorem eq_str(P:MP)(C:z0h)(x y:Str)(L:Lim)(H:z0b):z9p P C .eq (.str x) (.str y) L H=some (.bool (x==y),H):=rfl
theorem eq_int(P:MP)(C:z0h)(x y:Int)(L:Lim)(H:z0b):z9p P C .eq (.int x) (.int y) L H=some (.bool (x==y),H):=rfl
theorem ne_int(P:MP)(C:z0h)(x y:Int)(L:Lim)(H:z0b):z9p P C .ne (.int x) (.int y) L H=some (.bool (!(x==y)),H):=rfl
section
variable {lv:Nat} {L:Lim} {i j:Nat} {H:z0b}
end
noncomputable abbrev Ln:=Nat×Nat×Bool
noncomputable def w3m(ls:List Ln)(p q:Nat)(g:Bool):List Ln:=ls.filter (fun l=>!(l.1==p))++(ls.filter fun l=>l.1==p&&!(l.2.1==q)).map fun l=>(p,l.2.1,g)
noncomputable def pq(l:Ln):Nat×Nat:=(l.1,l.2.1)
noncomputable def Pts(ls:List Ln):Prop:=∀ l,l∈ls->l.1<5/\l.2.1<5
theorem Pts.step{ls:List Ln}{p q:Nat}{g:Bool}(h:Pts ls)(hp:p<5):Pts (w3m ls p q g):=fun l hl=>by
 rcases BJ.mp hl with hl | hl
 ·exact h l (BF.mp hl).1
 ·obtain⟨m,hm,rfl⟩:=AX.mp hl
  exact⟨hp,(h m (BF.mp hm).1).2⟩
section
variable {b:Nat}
theorem k7y(hb:b<28){p q:Nat}(hp:p<5)(hq:q<5):(wk (b+p)==wk (b+q))=(p==q):=by
 rw [BN,BE,BE]
 exact⟨fun e=>by have:=x6k (by lia) (by lia) e;lia,fun e=>by rw [e]⟩
end
theorem q6g{b u:Nat}(hu:u<5):((W b).map PV.str)[u]?=some (.str (wk (b+u))):=by
 unfold W
 simp [hu]
theorem q3m{n k:Nat}(h:k<n):z7a n (k:Int)=some k:=by
 unfold z7a
 rw [AQ (by lia),AQ (by lia)]
 rfl
theorem j7i{l:List PV}{k:Nat}{v:PV}(h:l[k]?=some v):((z7a l.length (k:Int)).bind fun j=>l[j]?)=some v:=by
 rw [q3m (AU.mp h).1]
 exact h
theorem k0d{H:z0b}{l:List PV}{k:Nat}{v:PV}(h:l[k]?=some v):j2o H (.lst l) (k:Int)=some v:=j7i h
theorem k0e{H:z0b}{l:List PV}{k:Nat}{v:PV}(h:l[k]?=some v):j2o H (.tup l) (k:Int)=some v:=j7i h
@[simp] theorem x2x(P:MP)(C:z0h)(l:List PV)(k:Int)(L:Lim)(H:z0b):j9v P C (.lst l) (.int k) L H=M.ofOpt (j2o H (.lst l) k) L H:=rfl
@[simp] theorem x2y(P:MP)(C:z0h)(l:List PV)(k:Int)(L:Lim)(H:z0b):j9v P C (.tup l) (.int k) L H=M.ofOpt (j2o H (.tup l) k) L H:=rfl
noncomputable def z9h(t:Ln):PV:=.tup [.int (t.1:Int),.int (t.2.1:Int),.bool t.2.2]
section
variable {lv b:Nat} {L:Lim} {H:z0b}
theorem q0c{P:MP}{C:z0h}{n c f:Nat}{Y:z0n}{args:List ME}{vs:List PV}{Hb H2:z0b}(hm:P.meth c y4y=some f)(h3:z3t ((sem P C n).ev Y) args L H=some (vs,Hb))(h:C f (.inst c Hb.length::vs) [] L (Hb++[.att []])=some (.none,H2)) :
  (sem P C (n+1)).ev Y (.new c args) L H=some (.inst c Hb.length,H2):=z0c (z1j hm) (z0c h3 (z0c rfl (z0c h rfl)))
end
noncomputable def z1u(x:Nat×Nat):PV:=.tup [.int (x.1:Int),.int (x.2:Int)]
theorem x2z:y3s z1u (fun _=>True/\True) 1:=q0b (f:=fun n:Nat=>PV.int (n:Int)) (g:=fun n:Nat=>PV.int (n:Int)) (n:=0) (m:=0) y6f y6f
theorem w7u{x:Nat×Nat}{l:List (Nat×Nat)}:inV (z1u x) (.lst (l.map z1u))=some (decide (x∈l)):=by
 have h:=q6e (f:=z1u) x2z (by decide) (a:=x) (l:=l) ⟨trivial,trivial⟩ fun _ _=>⟨trivial,trivial⟩
 rw [h]
 congr 1
 exact FF.mpr Iff.rfl
theorem w3n{p q:Nat}{l:List (Nat×Nat)}:inV (.tup [.int (p:Int),.int (q:Int)]) (.lst (l.map z1u))=some (decide ((p,q)∈l)):=w7u (x:=(p,q))
theorem j7j(p q:Nat):(((p:Int))==(q:Int))=(p==q):=by
 rw [BN,BE,BE];lia
theorem j7k(P:MP)(C:z0h){p q:Nat}{l:List (Nat×Nat)}(L:Lim)(H:z0b):z9p P C .in_ (.tup [.int (p:Int),.int (q:Int)]) (.lst (l.map z1u)) L H=some (.bool (decide ((p,q)∈l)),H):=by
 show((M.ofOpt (inV (.tup [.int (p:Int),.int (q:Int)]) (.lst (l.map z1u)))).bind fun r=>M.pure (.bool r):M PV) L H=_
 rw [w3n];rfl
theorem j2b(H:z0b)(t:Ln):z7v H (z9h t) none (some 2)=some (z1u (pq t)):=rfl
@[simp] theorem k7z(P:MP)(C:z0h)(t:Ln)(k:Int)(L:Lim)(H:z0b):j9v P C (z9h t) (.int k) L H=M.ofOpt (j2o H (z9h t) k) L H:=rfl
theorem w3o(Y:z0n)(a b c:Nat)(t:Ln):z1v Y (.tup [a,b,c]) (z9h t)=some (upd (upd (upd Y a (.int (t.1:Int))) b (.int (t.2.1:Int))) c (.bool t.2.2)):=rfl
theorem z7r(H:z0b)(a b:List PV)(h:(a++b).length<=z2n):y6q .add H (.lst a) (.lst b)=some (.lst (a++b)):=by
 show(sz (a++b)).map PV.lst=_
 unfold sz
 rw [AQ h];rfl
theorem z2c{Y:z0n}{k:Nat}{l:List PV}{L:Lim}{H:z0b}{n:Nat}{P:MP}{C:z0h}(h:Y k=some (.lst l)):z8z (sem P C (n+1)) Y .over [.var k] L H=some ((l,false),H):=z1q (by simp [h];rfl) rfl
theorem y8c{n:Nat}(h:n<=1000):n<=z2n:=AA h (by decide)
section
variable {lv b:Nat} {L:Lim} {H:z0b} {C:z0h}
end
theorem x6l{k:Nat}{l:List Nat}:inV (.int (k:Int)) (.lst (l.map fun(n:Nat)=>PV.int (n:Int)))=some (l.contains k):=by
 have h:=q6e (f:=fun n:Nat=>PV.int (n:Int)) y6f (by decide) (a:=k) (l:=l) trivial fun _ _=>trivial
 rw [h]
 congr 1
 rw [BN];simp
theorem k0f(P:MP)(C:z0h){k:Nat}{l:List Nat}(L:Lim)(H:z0b):z9p P C .nin (.int (k:Int)) (.lst (l.map fun(n:Nat)=>PV.int (n:Int))) L H=some (.bool (!l.contains k),H):=by
 show((M.ofOpt ((inV (.int (k:Int)) (.lst (l.map fun(n:Nat)=>PV.int (n:Int)))).map (!·))).bind fun r=>M.pure (.bool r):M PV) L H=_
 rw [x6l];rfl
theorem y1o(P:MP)(C:z0h){k:Nat}{l:List Nat}(L:Lim)(H:z0b):z9p P C .in_ (.int (k:Int)) (.lst (l.map fun(n:Nat)=>PV.int (n:Int))) L H=some (.bool (l.contains k),H):=by
 show((M.ofOpt (inV (.int (k:Int)) (.lst (l.map fun(n:Nat)=>PV.int (n:Int))))).bind fun r=>M.pure (.bool r):M PV) L H=_
 rw [x6l];rfl
theorem j7l(P:MP)(H:z0b)(l:List PV):z4z P .len H [.lst l]=some (.int (l.length:Int)):=rfl
noncomputable abbrev z1a(l:List Nat):List PV:=l.map fun(n:Nat)=>PV.int (n:Int)
theorem y8d{H:z0b}{k:Nat}(hk:k<=1000):k2v .range H [.int (k:Int)]=some (z1a (List.range k),false):=by
 show Option.map (fun l=>(l,false)) (if(k:Int).natAbs<=1000000 then some (z5h 0 (k:Int)) else none)=_
 rw [AQ (by rw [DI];exact AA hk (by decide))]
 show some (z5h 0 (k:Int),false)=_
 unfold z5h z1a
 congr 2
 rw [Int.sub_zero,EV]
 refine CG fun x _=>?_
 rw [Int.zero_add]
section
variable {lv b:Nat} {L:Lim} {H:z0b} {C:z0h}
end
noncomputable def z6s(out:Nat):List Nat:=(List.range 5).filter fun u=>!(u==out)
theorem z6t(out:Nat):(z6s out).length<=5:=by
 have:=BZ (fun u=>!(u==out)) (List.range 5)
 simpa [z6s] using this
theorem z0k{V:Type}(l:List V):l.filter (fun _=>true)=l:=FC.mpr fun _ _=>rfl
theorem z2y(l:List Nat):(z1a l).length=l.length:=AJ ..
section
variable {lv b:Nat} {L:Lim} {H:z0b} {C:z0h}
theorem k8a(P:MP)(C:z0h)(x y:Nat)(L:Lim)(H:z0b):z9p P C .ne (.int (x:Int)) (.int (y:Int)) L H=some (.bool (!(x==y)),H):=by rw [ne_int,j7j]
theorem x6m{n out:Nat}{Y:z0n}(h67:Y 67=some (.int (out:Int))):(sem mp2 C (n+8)).ev Y (.comp (.var 58) [(.one 58,.range,[.int 5],[.cmp .ne (.var 58) (.var 67)])]) L H=some (.lst (z1a (z6s out)),H):=
 z0i (z1y (xs:=List.range 5) (enc:=fun(u:Nat)=>PV.int (u:Int)) (up:=false) (test:=fun u=>!(u==out)) (out:=fun u=>PV.int (u:Int)) rfl (by decide)
  (fun u hu=>z3e (z4f rfl (z0l (z0a rfl) (z0a h67) (k8a _ _ _ _ _ _)) rfl)) fun u hu _=>z0a rfl)
end
theorem z2l(H:z0b)(a b:Nat):y6q .add H (.int (a:Int)) (.int (b:Int))=some (.int ((a+b:Nat):Int)):=by
 show some (PV.int ((a:Int)+(b:Int)))=_
 rw [Int.natCast_add]
theorem q6h(H:z0b){a b:Nat}(ha:a<=1000000)(hb:b<=1000000):y6q .mul H (.int (a:Int)) (.int (b:Int))=some (.int ((a*b:Nat):Int)):=by
 show(if small (a:Int)&&small (b:Int) then some (PV.int ((a:Int)*(b:Int))) else none)=_
 have h1:small (a:Int)=true:=AV (by rw [DI];exact BU ha (by decide))
 have h2:small (b:Int)=true:=AV (by rw [DI];exact BU hb (by decide))
 rw [h1,h2,Int.natCast_mul];rfl
theorem j7m(H:z0b){a b:Nat}(hb:1<=b)(hb2:b<=100000):y6q .fdiv H (.int (a:Int)) (.int (b:Int))=some (.int ((a / b:Nat):Int)):=by
 show(if(b:Int)≠0/\(b:Int).natAbs<1000000 then some (PV.int ((a:Int).fdiv (b:Int))) else none)=_
 rw [AQ ⟨by lia,by rw [DI];lia⟩,Int.fdiv_eq_ediv_of_nonneg _ (by lia),Int.natCast_ediv]
theorem y0g:∀ l:List Nat,z4y (z1a l)=some (l.map fun(n:Nat)=>(n:Int))
 | []=>rfl
 | x::l=>by
  show(z4y (z1a l)).map ((x:Int)::·)=_
  rw [y0g l];rfl
theorem q8t:∀ l:List Nat,(l.map fun(n:Nat)=>(n:Int)).sum=((l.sum:Nat):Int)
 | []=>rfl
 | x::l=>by rw [BL,FM,FM,q8t l];lia
theorem x3a(P:MP)(H:z0b)(l:List Nat):z4z P .sum H [.lst (z1a l)]=some (.int ((l.sum:Nat):Int)):=by
 show(z4y (z1a l)).map (fun ns=>PV.int ns.sum)=_
 rw [y0g,GA,q8t]
theorem q8u(P:MP)(C:z0h)(a b:Nat)(L:Lim)(H:z0b):z9p P C .ge (.int (a:Int)) (.int (b:Int)) L H=some (.bool (decide (b<=a)),H):=by
 show some (PV.bool (decide ((b:Int)<=(a:Int))),H)=_
 congr 3
 exact FF.mpr (by lia)
theorem q8v{k:Nat}(hk:k<=1000):x5l (k:Int)=some k:=by
 unfold x5l
 rw [AQ ⟨by lia,by lia⟩]
 rfl
theorem z9i(H:z0b)(l:List PV){k:Nat}(hk:k<=1000):z7v H (.lst l) none (some (k:Int))=some (.lst (l.take k)):=by
 unfold z7v loK hiK
 dsimp only
 rw [q8v hk]
 rfl
theorem y8e(H:z0b)(l:List PV){k:Nat}(hk:k<=1000):z7v H (.lst l) (some (k:Int)) none=some (.lst (l.drop k)):=by
 unfold z7v loK hiK
 dsimp only
 rw [q8v hk]
 show some (PV.lst ((l.take l.length).drop k))=_
 rw [List.take_length]
theorem j7n(l:List Nat)(k:Nat):(z1a l).take k=z1a (l.take k):=by simp [z1a,List.map_take]
@[simp] theorem k0g(i:Int)(L:Lim)(H:z0b):z9o (some (.int i)) L H=some (some i,H):=rfl
@[simp] theorem k0h(L:Lim)(H:z0b):z9o none L H=some (none,H):=rfl
@[simp] theorem k8b{V:Type}(f:ME->M V)(L:Lim)(H:z0b):x0b f none L H=some (none,H):=rfl
@[simp] theorem k8c{V:Type}(f:ME->M V)(e:ME)(L:Lim)(H:z0b):x0b f (some e) L H=((f e).bind fun a=>M.pure (some a):M (Option V)) L H:=rfl
section
variable {lv b:Nat} {L:Lim} {H:z0b} {C:z0h}
theorem q8w{V:Type}{f:ME->M V}{e:ME}{L:Lim}{H Hb:z0b}{a:V}(h:f e L H=some (a,Hb)):z3t f [e] L H=some ([a],Hb):=z0c h rfl
theorem x6n{V:Type}{f:ME->M V}{e d:ME}{L:Lim}{H Hb H2:z0b}{a c:V}(h:f e L H=some (a,Hb))(h2:f d L Hb=some (c,H2)):z3t f [e,d] L H=some ([a,c],H2):=z0c h (z0c (q8w h2) rfl)
theorem y8f{P:MP}{C:z0h}{n:Nat}{Y:z0n}{L:Lim}{H:z0b}{a e:ME}{p r:PV}{k:Int}(h1:(sem P C n).ev Y a L H=some (p,H))(h2:(sem P C n).ev Y e L H=some (.int k,H))(h3:z7v H p (some k) none=some r) :
  (sem P C (n+1)).ev Y (.slice a (some e) none) L H=some (r,H):=by
 exact z0c h1 (z0c (z0c h2 rfl) (z0c rfl (z0c rfl (z0c rfl (z0c rfl (z1j h3))))))
theorem z6u{P:MP}{C:z0h}{n:Nat}{Y:z0n}{L:Lim}{H:z0b}{a e:ME}{p r:PV}{k:Int}(h1:(sem P C n).ev Y a L H=some (p,H))(h2:(sem P C n).ev Y e L H=some (.int k,H))(h3:z7v H p none (some k)=some r) :
  (sem P C (n+1)).ev Y (.slice a none (some e)) L H=some (r,H):=by
 exact z0c h1 (z0c rfl (z0c (z0c h2 rfl) (z0c rfl (z0c rfl (z0c rfl (z1j h3))))))
end
theorem z0t{P:MP}{C:z0h}{n:Nat}{Y:z0n}{L:Lim}{H:z0b}{a e:ME}{l:List PV}{k:Nat}{v:PV}(h1:(sem P C n).ev Y a L H=some (.lst l,H))(h2:(sem P C n).ev Y e L H=some (.int (k:Int),H))(h3:l[k]?=some v) :
  (sem P C (n+1)).ev Y (.idx a e) L H=some (v,H):=by
 rw [x9k,z0m h1,z0m h2,x2x,k0d h3];rfl
theorem y1p{P:MP}{C:z0h}{n:Nat}{Y:z0n}{L:Lim}{H:z0b}{o:COp}{a e:ME}{p q:PV}{b:Bool}(h1:(sem P C n).ev Y a L H=some (p,H))(h2:(sem P C n).ev Y e L H=some (q,H))(h3:z9p P C o p q L H=some (.bool b,H)) :
  (sem P C (n+2)).ts Y (.cmp o a e) L H=some (b,H):=by
 rw [w2u,k5x,z0m (z0l h1 h2 h3),z0m (q8i _ _),j1w];rfl
theorem q3n{P:MP}{C:z0h}{n:Nat}{Y:z0n}{L:Lim}{H:z0b}{a e:ME}{p q:PV}(h1:(sem P C n).ev Y a L H=some (p,H))(h2:(sem P C n).ev Y e L H=some (q,H)) :
  (sem P C (n+1)).ev Y (.tup [a,e]) L H=some (.tup [p,q],H):=by
 rw [w2r,z0m (x6n h1 h2)];rfl
theorem k8d{P:MP}{C:z0h}{n:Nat}{Y:z0n}{L:Lim}{H:z0b}{a e:ME}{x y:Bool}(h1:(sem P C n).ts Y a L H=some (x,H))(h2:(sem P C n).ts Y e L H=some (y,H)) :
  (sem P C (n+1)).ts Y (.andE [a,e]) L H=some (x&&y,H):=by
 rw [w2t,y5y,z0m h1]
 induction x using Bool.casesOn with
 | false=>rfl
 | true=>
  rw [AQ rfl,y5y,z0m h2]
  induction y using Bool.casesOn<;>rfl
theorem x6o{v:Str}{l:List Str}(hv:PyData.strOk v=true)(hl:∀ x,x∈l->PyData.strOk x=true):inV (.str v) (.lst (l.map .str))=some (decide (v∈l)):=by
 rw [q6e (f:=PV.str) y6g (by decide) hv hl]
theorem x3b(P:MP)(C:z0h){v:Str}{l:List Str}(hv:PyData.strOk v=true)(hl:∀ x,x∈l->PyData.strOk x=true)(L:Lim)(H:z0b):z9p P C .in_ (.str v) (.lst (l.map .str)) L H=some (.bool (decide (v∈l)),H):=by
 show((M.ofOpt (inV (.str v) (.lst (l.map .str)))).bind fun r=>M.pure (.bool r):M PV) L H=_
 rw [x6o hv hl];rfl
theorem k0i(P:MP)(C:z0h){v:Str}{l:List Str}(hv:PyData.strOk v=true)(hl:∀ x,x∈l->PyData.strOk x=true)(L:Lim)(H:z0b):z9p P C .nin (.str v) (.lst (l.map .str)) L H=some (.bool (!decide (v∈l)),H):=by
 show((M.ofOpt ((inV (.str v) (.lst (l.map .str))).map (!·))).bind fun r=>M.pure (.bool r):M PV) L H=_
 rw [x6o hv hl];rfl
section
variable {lv b:Nat} {L:Lim} {H:z0b} {C:z0h}
end
noncomputable def z3x(b:Nat)(r:List Nat):List Str:=r.map fun q=>wk (b+q)
noncomputable def q6i(nbs:List (List Nat))(u v:Nat):List Nat:=(nbs.getD u []).filter fun q=>!(q==v)&&!((nbs.getD v []).contains q)
noncomputable def q6j(nbs:List (List Nat))(u v:Nat):Bool:=!(q6i nbs u v).isEmpty&&!(q6i nbs v u).isEmpty
theorem j7o(P:MP)(C:z0h){l:List Str}(hl:∀ x,x∈l->PyData.strOk x=true)(L:Lim)(H:z0b):z9p P C .ne (.lst (l.map .str)) (.lst []) L H=some (.bool (!l.isEmpty),H):=by
 show((M.ofOpt ((eqV (.lst (l.map .str)) (.lst [])).map (!·))).bind fun r=>M.pure (.bool r):M PV) L H=_
 have h:=z9v (f:=fun l:List Str=>PV.lst (l.map PV.str)) (z5q y6g) (by decide) (a:=l) (b:=[]) hl (fun x hx=>(nomatch hx))
 have h':eqV (.lst (l.map .str)) (.lst [])=some (decide (l=[])):=h
 rw [h']
 induction l using List.casesOn<;>rfl
theorem y1q{b:Nat}(hb:b<28){r:List Nat}(hr:∀ q,q∈r->q<5):∀ x,x∈z3x b r->PyData.strOk x=true:=fun x hx=>by
 obtain⟨q,hq,rfl⟩:=AX.mp hx
 have:=hr q hq
 exact(z6m (by lia)).sok
theorem j7p{b:Nat}(hb:b<28){r:List Nat}(hr:∀ q,q∈r->q<5){p:Nat}(hp:p<5):decide (wk (b+p)∈z3x b r)=r.contains p:=by
 rw [BN,BY,CS]
 constructor
 ·intro h
  obtain⟨q,hq,e⟩:=AX.mp h
  have h5:=hr q hq
  have:=x6k (by lia) (by lia) e
  have e2:q=p:=by lia
  exact e2▸hq
 ·intro h;exact AX.mpr ⟨p,h,rfl⟩
structure z4e(nbs:List (List Nat)):Prop where
 len:nbs.length=5
 ok:∀ r,r∈nbs->r.length<=100/\∀ q,q∈r->q<5
theorem z4e.get{nbs:List (List Nat)}(R:z4e nbs){u:Nat}(hu:u<5):nbs[u]?=some (nbs.getD u [])/\(nbs.getD u []).length<=100/\∀ q,q∈nbs.getD u []->q<5:=by
 have hl:u<nbs.length:=by rw [R.len];exact hu
 have e:nbs[u]?=some (nbs.getD u []):=by rw [AI,AP hl];rfl
 exact⟨e,R.ok _ (CB e)⟩
noncomputable def y6i(b:Nat)(nbs:List (List Nat)):List PV:=nbs.map fun r=>PV.lst ((z3x b r).map .str)
section
variable {lv b:Nat} {L:Lim} {H:z0b} {C:z0h}
theorem q8x{n:Nat}{nbs:List (List Nat)}{Y:z0n}{ku kv u v:Nat}(hb:b<28)(R:z4e nbs)(hu:u<5)(hv:v<5)(h70:Y 70=some (.lst (y6i b nbs)))(h55:Y 55=some (.lst ((W b).map .str)))
 (hk1:ku≠47)(hk2:kv≠47)(rku:Y ku=some (.int (u:Int)))(rkv:Y kv=some (.int (v:Int))) :
  (sem mp2 C (n+8)).ev Y (.comp (.var 47) [(.one 47,.over,[.idx (.var 70) (.var ku)],[.andE [.cmp .ne (.var 47) (.idx (.var 55) (.var kv)),.cmp .nin (.var 47) (.idx (.var 70) (.var kv))]])]) L H=some (.lst ((z3x b (q6i nbs u v)).map .str),H):=by
 obtain⟨g1,g2,g3⟩:=R.get hu
 obtain⟨k1,k2,k3⟩:=R.get hv
 have c1:(y6i b nbs)[u]?=some (.lst ((z3x b (nbs.getD u [])).map .str)):=by unfold y6i;rw [BC,g1];rfl
 have c2:(y6i b nbs)[v]?=some (.lst ((z3x b (nbs.getD v [])).map .str)):=by unfold y6i;rw [BC,k1];rfl
 have key:y0m (sem mp2 C (n+7)) (.var 47) Y [(.one 47,.over,[.idx (.var 70) (.var ku)],[.andE [.cmp .ne (.var 47) (.idx (.var 55) (.var kv)),.cmp .nin (.var 47) (.idx (.var 70) (.var kv))]])] L H=some (((nbs.getD u []).filter (fun q=>!(q==v)&&!((nbs.getD v []).contains q))).map (fun q=>PV.str (wk (b+q))),H):=by
  refine z1y (xs:=nbs.getD u []) (enc:=fun q=>PV.str (wk (b+q))) (up:=false) ?_ (y8c (by lia)) ?_ ?_
  ·refine z1q (q8w (z0t (n:=n+6) (z0a (n:=n+5) h70) (z0a (n:=n+5) rku) c1)) ?_
   show some ((z3x b (nbs.getD u [])).map PV.str,false)=_
   unfold z3x
   rw [AW];rfl
  ·intro q hq
   have hq5:=g3 q hq
   have q47:upd Y 47 (.str (wk (b+q))) 47=some (.str (wk (b+q))):=by simp
   have q70:upd Y 47 (.str (wk (b+q))) 70=some (.lst (y6i b nbs)):=by simp [h70]
   have q55:upd Y 47 (.str (wk (b+q))) 55=some (.lst ((W b).map .str)):=by simp [h55]
   have qkv:upd Y 47 (.str (wk (b+q))) kv=some (.int (v:Int)):=by rw [y3k,AS hk2];exact rkv
   have t1:(sem mp2 C (n+6)).ts (upd Y 47 (.str (wk (b+q)))) (.cmp .ne (.var 47) (.idx (.var 55) (.var kv))) (Lup false L H) H=some (!(q==v),H):=by
    have:=y1p (n:=n+4) (P:=mp2) (C:=C) (L:=Lup false L H) (H:=H) (o:=.ne) (z0a (n:=n+3) q47) (z0t (n:=n+3) (z0a (n:=n+2) q55) (z0a (n:=n+2) qkv) (q6g hv)) (ne_str _ _ _ _ _ _)
    rw [k7y hb hq5 hv] at this
    exact this
   have t2:(sem mp2 C (n+6)).ts (upd Y 47 (.str (wk (b+q)))) (.cmp .nin (.var 47) (.idx (.var 70) (.var kv))) (Lup false L H) H=some (!((nbs.getD v []).contains q),H):=by
    have:=y1p (n:=n+4) (P:=mp2) (C:=C) (L:=Lup false L H) (H:=H) (o:=.nin) (z0a (n:=n+3) q47) (z0t (n:=n+3) (z0a (n:=n+2) q70) (z0a (n:=n+2) qkv) c2) (k0i _ _ (z6m (by lia)).sok (y1q hb k3) _ _)
    rw [j7p hb k3 hq5] at this
    exact this
   have t3:=k8d (n:=n+6) t1 t2
   rw [y5y,z0m t3]
   cases !(q==v)&&!((nbs.getD v []).contains q)<;>rfl
  ·intro q hq _
   exact z0a (n:=n+6) rfl
 rw [k5v,z0m key]
 show some (PV.lst _,H)=_
 unfold z3x q6i
 rw [AW];rfl
end
structure WsS where
 b:Nat
 n:Nat
 nt:Nat
 c:List Nat
noncomputable def grow(c:List Nat)(b:Nat):List Nat:=if c.length<=b then c++List.replicate (b - c.length+1) 0 else c
noncomputable def y7a(c:List Nat)(b:Nat):List Nat:=(grow c b).set b ((grow c b).getD b 0+1)
noncomputable def wsF:List Nat->WsS->WsS
 | [],s=>s
 | ch::r,s=>if ch=32 then wsF r ⟨s.b+1,s.n+1,s.nt,s.c⟩ else if ch=9 then wsF r ⟨0,s.n+1,s.nt+1,y7a s.c s.b⟩ else s
theorem y8g(a:List PV):∀ n,listMul a n=(List.replicate n a).flatten
 | 0=>rfl
 | n+1=>by
  show a++listMul a n=_
  rw [y8g a n,DP];rfl
theorem q0d(H:z0b){k:Nat}(hk:k<=1000):y6q .mul H (.lst [.int 0]) (.int (k:Int))=some (.lst (z1a (List.replicate k 0))):=by
 show(if(k:Int).natAbs<=1000/\([PV.int 0]:List PV).length<=1000 then some (PV.lst (listMul [.int 0] (k:Int).toNat)) else none)=_
 rw [AQ ⟨by lia,by simp⟩,y8g,EV]
 congr 2
 clear hk
 induction k with
 | zero=>rfl
 | succ k ih=>rw [DP,List.flatten_cons,ih,DP];rfl
theorem z4v(n:Nat):∀ l:List Nat,z0w n (z1a l)=true
 | []=>rfl
 | x::l=>by show(y6t n (.int x)&&z0w n (z1a l))=true;rw [z4v n l];rfl
theorem y1r(c:List Nat)(b:Nat):b<(grow c b).length/\(grow c b).length<=c.length+b+1:=by
 unfold grow
 split
 ·rw [AE,List.length_replicate,x5p ‹_›];exact⟨DV _,CK (CP _ _)⟩
 ·lia
theorem q0e(c:List Nat)(b:Nat):(y7a c b).length=(grow c b).length:=by unfold y7a;simp
theorem j7q(c d:Nat):(((⟨#[c]⟩:Str))==⟨#[d]⟩)=(c==d):=by
 rw [BN,BE,BE]
 constructor
 ·intro h;injection h with h;simpa using h
 ·intro h;rw [h]
theorem q8y:Str.ofString " "=⟨#[32]⟩:=by decide +kernel
theorem j7r:Str.ofString "\t"=⟨#[9]⟩:=by decide +kernel
section
variable {lv b:Nat} {L:Lim} {H:z0b} {C:z0h}
noncomputable def q3o:List MS:=z8b (st w2w 4)
structure WsI(Y:z0n)(J:z0b)(s:WsS)(r:Nat):Prop where
 e8:Y 8=some (.str ⟨#[32]⟩)
 e9:Y 9=some (.str ⟨#[9]⟩)
 e10:Y 10=some (.ref r)
 e11:Y 11=some (.int (s.b:Int))
 e12:Y 12=some (.int (s.n:Int))
 e13:Y 13=some (.int (s.nt:Int))
 cell:J[r]?=some (.lst (z1a s.c))
theorem z5v{P:MP}{C:z0h}{n:Nat}{Y:z0n}{L:Lim}{H:z0b}{a:ME}{p:q7h}{v r:PV}(h1:(sem P C n).ev Y a L H=some (v,H))(h2:z4z P p H [v]=some r):(sem P C (n+1)).ev Y (.prim p [a]) L H=some (r,H):=by
 exact z0u (q8w h1) h2
theorem q6k(P:MP){H:z0b}{r:Nat}{l:List PV}(h:H[r]?=some (.lst l)):z4z P .len H [.ref r]=some (.int (l.length:Int)):=by
 show(z0y H r).map (fun l=>PV.int (l.length:Int))=_
 rw [z1t h];rfl
theorem k0j{P:MP}{C:z0h}{H:z0b}{L:Lim}{r k:Nat}{l:List PV}{v:PV}(h:H[r]?=some (.lst l))(hk:l[k]?=some v):j9v P C (.ref r) (.int (k:Int)) L H=some (v,H):=by
 have e:j2o H (.ref r) (k:Int)=some v:=by
  show((z0y H r).bind fun l=>(z7a l.length (k:Int)).bind fun j=>l[j]?)=_
  rw [z1t h]
  exact j7i hk
 show((y6v (.int (k:Int))).bind fun k=>z5f.bind fun H=>M.ofOpt (j2o H (.ref r) k):M PV) L H=_
 exact z0c (a:=(k:Int)) rfl (z0c (a:=H) rfl (z1j e))
theorem k0k{P:MP}{C:z0h}{H:z0b}{L:Lim}{r k:Nat}{l:List PV}{v:PV}(h:H[r]?=some (.lst l))(hk:k<l.length)(hb:L.b<=r)(hn:z0w 0 (l.set k v)=true):y5a P C (.ref r) (.int (k:Int)) v L H=some ((),H.set r (.lst (l.set k v))):=by
 have h2:(if(0:Int)<=(k:Int) then z7a l.length (k:Int) else none)=some k:=by rw [AQ (EO k),q3m hk]
 show((y6v (.int (k:Int))).bind fun k=>(y8x r).bind fun l=>(M.ofOpt (if 0<=k then z7a l.length k else none)).bind fun n=>y0n r (l.set n v):M Unit) L H=_
 exact z0c (a:=(k:Int)) rfl (z0c (y4p h) (z0c (z1j h2) (y5z hb hn h)))
theorem k0l(H:z0b){a b:Nat}(h:b<=a):y6q .sub H (.int (a:Int)) (.int (b:Int))=some (.int ((a - b:Nat):Int)):=by
 show some (PV.int ((a:Int) - (b:Int)))=_
 rw [Int.ofNat_sub h]
theorem z4w{P:MP}{C:z0h}{n:Nat}{Y:z0n}{L:Lim}{H H':z0b}{k:Nat}{e:ME}{v:PV}(h:(sem P C n).ev Y e L H=some (v,H'))(rest:List MS)(ex:z0n->MS->M Fl)(hex:ex=(sem P C (n+1)).ex) :
  exs ex Y (.assign (.one k) e::rest) L H=exs ex (upd Y k v) rest L H':=by
 subst hex
 exact z0d h rfl
theorem z9j{P:MP}{C:z0h}{n:Nat}{Y:z0n}{L:Lim}{H:z0b}{c:ME}{t:Bool}{x y:List MS}(h:(sem P C n).ts Y c L H=some (t,H)):(sem P C (n+1)).ex Y (.ifs c x y) L H=exs (sem P C n).ex Y (if t then x else y) L H:=by
 exact z0c h rfl
theorem k0m{Y:z0n}{J:z0b}{c:List Nat}{bb r pre:Nat}(hb:bb<=400)(hc:c.length<=400)(hr:pre<=r)(q10:Y 10=some (.ref r))(q11:Y 11=some (.int (bb:Int)))(cell:J[r]?=some (.lst (z1a c))) :
  ∃ Y' J' r',(sem mp2 C 37).ex Y (.ifs (.cmp .ge (.var 11) (.prim .len [.var 10])) [.assign (.one 10) (.mcat (.var 10) (.bin .mul (.lst [.int 0]) (.bin .add (.bin .sub (.var 11) (.prim .len [.var 10])) (.int 1))))] []) L J=some (.next Y',J') /\
   pre<=r'/\J'.take pre=J.take pre/\J'[r']?=some (.lst (z1a (grow c bb)))/\Y' 10=some (.ref r')/\(∀ k,k≠10->Y' k=Y k):=by
 have hc0:(sem mp2 C 36).ts Y (.cmp .ge (.var 11) (.prim .len [.var 10])) L J=some (decide (c.length<=bb),J):=by
  have:=y1p (n:=34) (P:=mp2) (C:=C) (L:=L) (H:=J) (o:=.ge) (z0a (n:=33) q11) (z5v (n:=33) (z0a (n:=32) q10) (q6k mp2 cell)) (by rw [z2y];exact q8u _ _ _ _ _ _)
  exact this
 rw [z9j hc0]
 by_cases h:c.length<=bb
 ·have hz:(sem mp2 C 35).ev Y (.mcat (.var 10) (.bin .mul (.lst [.int 0]) (.bin .add (.bin .sub (.var 11) (.prim .len [.var 10])) (.int 1)))) L J=some (.ref J.length,J++[.lst (z1a (grow c bb))]):=by
   have z1:(sem mp2 C 34).ev Y (.bin .mul (.lst [.int 0]) (.bin .add (.bin .sub (.var 11) (.prim .len [.var 10])) (.int 1))) L J=some (.lst (z1a (List.replicate (bb - c.length+1) 0)),J):=
    z0g (n:=33) (p:=.lst [.int 0]) (q:=.int ((bb - c.length+1:Nat):Int)) rfl (z0g (n:=32) (q:=.int 1) (z0g (n:=31) (z0a (n:=30) q11) (z5v (n:=30) (z0a (n:=29) q10) (by rw [q6k mp2 cell,z2y])) (k0l _ h)) rfl (z2l J (bb - c.length) 1)) (q0d J (by lia))
   have l1:z5l J (.ref r)=some (z1a c):=by
    show z0y J r=_
    unfold z0y;rw [cell]
   have l2:z5l J (.lst (z1a (List.replicate (bb - c.length+1) 0)))=some (z1a (List.replicate (bb - c.length+1) 0)):=rfl
   have l3:z1a c++z1a (List.replicate (bb - c.length+1) 0)=z1a (grow c bb):=by unfold grow;rw [AQ h];simp [z1a]
   have l4:sz (z1a (grow c bb))=some (z1a (grow c bb)):=by
    unfold sz
    rw [AQ]
    rw [z2y]
    have:=(y1r c bb).2
    exact y8c (by lia)
   rw [k5u,z0m (z0a (n:=33) q10),z0m z1,z0m (q8i _ _),l1,z0m (z4m _ _ _),l2,z0m (z4m _ _ _),l3,l4,z0m (z4m _ _ _),q3h,AQ (z4v _ _)]
  refine⟨upd Y 10 (.ref J.length),J++[.lst (z1a (grow c bb))],J.length,?_,AA hr (BO (q3i cell)),?_,z2r _ _,by simp,fun k hk=>by rw [y3k,AS hk]⟩
  ·rw [AQ (AV h),z4w (n:=35) hz _ _ rfl];rfl
  ·have:=q3i cell
   rw [FH (by lia)]
 ·refine⟨Y,J,r,?_,hr,rfl,?_,q10,fun k _=>rfl⟩
  ·rw [AS (by simpa using h)];rfl
  ·unfold grow;rw [AS h];exact cell
theorem k0n{Y:z0n}{J:z0b}{s:WsS}{r ch self:Nat}{pre:Nat}(I:WsI Y J s r)(hb:s.b<=400)(hc:s.c.length<=400)(hL:L.b<=pre)(hr:pre<=r)(h5:Y 5=some (.inst 0 self)) :
  ∃ Y' J' r',Y' 5=some (.inst 0 self)/\pre<=r'/\J'.take pre=J.take pre /\
   (if ch=32 then WsI Y' J' ⟨s.b+1,s.n+1,s.nt,s.c⟩ r'/\exs (sem mp2 C 39).ex (upd Y 14 (.str ⟨#[ch]⟩)) q3o L J=some (.next Y',J')
   else if ch=9 then WsI Y' J' ⟨0,s.n+1,s.nt+1,y7a s.c s.b⟩ r'/\exs (sem mp2 C 39).ex (upd Y 14 (.str ⟨#[ch]⟩)) q3o L J=some (.next Y',J')
   else WsI Y' J' s r'/\exs (sem mp2 C 39).ex (upd Y 14 (.str ⟨#[ch]⟩)) q3o L J=some (.brk Y',J')):=by
 obtain⟨e8,e9,e10,e11,e12,e13,cell⟩:=I
 generalize hY:upd Y 14 (.str ⟨#[ch]⟩)=Y1
 have q8:Y1 8=some (.str ⟨#[32]⟩):=hY▸e8
 have q9:Y1 9=some (.str ⟨#[9]⟩):=hY▸e9
 have q10:Y1 10=some (.ref r):=hY▸e10
 have q11:Y1 11=some (.int (s.b:Int)):=hY▸e11
 have q12:Y1 12=some (.int (s.n:Int)):=hY▸e12
 have q13:Y1 13=some (.int (s.nt:Int)):=hY▸e13
 have q14:Y1 14=some (.str ⟨#[ch]⟩):=hY▸rfl
 have q5:Y1 5=some (.inst 0 self):=hY▸h5
 have hw:∀ ex:z0n->MS->M Fl,exs ex Y1 q3o L J=exs ex Y1 [.ifs (.cmp .eq (.var 14) (.var 8)) [.assign (.one 12) (.bin .add (.var 12) (.int 1)),.assign (.one 11) (.bin .add (.var 11) (.int 1))] [.ifs (.cmp .eq (.var 14) (.var 9)) [.assign (.one 12) (.bin .add (.var 12) (.int 1)),.assign (.one 13) (.bin .add (.var 13) (.int 1)),.ifs (.cmp .ge (.var 11) (.prim .len [.var 10])) [.assign (.one 10) (.mcat (.var 10) (.bin .mul (.lst [.int 0]) (.bin .add (.bin .sub (.var 11) (.prim .len [.var 10])) (.int 1))))] [],.setIdx (.var 10) (.var 11) (.bin .add (.idx (.var 10) (.var 11)) (.int 1)),.assign (.one 11) (.int 0)] [.brk]]] L J:=fun _=>rfl
 have c1:(sem mp2 C 38).ts Y1 (.cmp .eq (.var 14) (.var 8)) L J=some (ch==32,J):=by
  have:=y1p (n:=36) (P:=mp2) (C:=C) (L:=L) (H:=J) (o:=.eq) (z0a (n:=35) q14) (z0a (n:=35) q8) (eq_str _ _ _ _ _ _)
  rw [j7q] at this;exact this
 have c2:(sem mp2 C 37).ts Y1 (.cmp .eq (.var 14) (.var 9)) L J=some (ch==9,J):=by
  have:=y1p (n:=35) (P:=mp2) (C:=C) (L:=L) (H:=J) (o:=.eq) (z0a (n:=34) q14) (z0a (n:=34) q9) (eq_str _ _ _ _ _ _)
  rw [j7q] at this;exact this
 rw [hw]
 by_cases h1:ch=32
 ·simp only [AQ h1]
  have b1:∀ n Y,Y 12=some (.int (s.n:Int))->(sem mp2 C (n+2)).ev Y (.bin .add (.var 12) (.int 1)) L J=some (.int ((s.n+1:Nat):Int),J):=fun n Y h=>z0g (n:=n+1) (q:=.int 1) (z0a (n:=n) h) rfl (z2l J s.n 1)
  have b2:∀ n Y,Y 11=some (.int (s.b:Int))->(sem mp2 C (n+2)).ev Y (.bin .add (.var 11) (.int 1)) L J=some (.int ((s.b+1:Nat):Int),J):=fun n Y h=>z0g (n:=n+1) (q:=.int 1) (z0a (n:=n) h) rfl (z2l J s.b 1)
  refine⟨upd (upd Y1 12 (.int ((s.n+1:Nat):Int))) 11 (.int ((s.b+1:Nat):Int)),J,r,by simp [q5],hr,rfl,⟨by simp [q8],by simp [q9],by simp [q10],by simp,by simp,by simp [q13],cell⟩,?_⟩
  rw [z3l,z2x,z9j (n:=38) c1,AQ (by first | exact h1 | simp [h1]),z4w (n:=37) (b1 35 _ q12) _ _ rfl,z4w (n:=37) (b2 35 _ (by first | exact q11 | simp [q11])) _ _ rfl]
  rfl
 ·simp only [AS h1]
  by_cases h2:ch=9
  ·simp only [AQ h2]
   have b1:∀ n Y,Y 12=some (.int (s.n:Int))->(sem mp2 C (n+2)).ev Y (.bin .add (.var 12) (.int 1)) L J=some (.int ((s.n+1:Nat):Int),J):=fun n Y h=>z0g (n:=n+1) (q:=.int 1) (z0a (n:=n) h) rfl (z2l J s.n 1)
   have b3:∀ n Y,Y 13=some (.int (s.nt:Int))->(sem mp2 C (n+2)).ev Y (.bin .add (.var 13) (.int 1)) L J=some (.int ((s.nt+1:Nat):Int),J):=fun n Y h=>z0g (n:=n+1) (q:=.int 1) (z0a (n:=n) h) rfl (z2l J s.nt 1)
   let Y3:=upd (upd Y1 12 (.int ((s.n+1:Nat):Int))) 13 (.int ((s.nt+1:Nat):Int))
   obtain⟨Y4,J4,r4,g1,g2,g3,g4,g5,g6⟩:=k0m (C:=C) (L:=L) (Y:=Y3) (J:=J) (c:=s.c) (bb:=s.b) (r:=r) (pre:=pre) hb hc hr (by simp [Y3,q10]) (by simp [Y3,q11]) cell
   have gl:=(y1r s.c s.b).1
   have p11:Y4 11=some (.int (s.b:Int)):=by rw [g6 11 (by decide)];simp [Y3,q11]
   have hget:(z1a (grow s.c s.b))[s.b]?=some (.int (((grow s.c s.b).getD s.b 0:Nat):Int)):=by
    unfold z1a
    rw [BC,AI,AP gl];rfl
   have v1:(sem mp2 C 36).ev Y4 (.bin .add (.idx (.var 10) (.var 11)) (.int 1)) L J4=some (.int (((grow s.c s.b).getD s.b 0+1:Nat):Int),J4):=by
    refine z0g (n:=35) (q:=.int 1) (p:=.int (((grow s.c s.b).getD s.b 0:Nat):Int)) ?_ rfl (z2l J4 _ 1)
    rw [x9k,z0m (z0a (n:=33) g5),z0m (z0a (n:=33) p11),k0j g4 hget]
   have hset:(z1a (grow s.c s.b)).set s.b (.int (((grow s.c s.b).getD s.b 0+1:Nat):Int))=z1a (y7a s.c s.b):=by
    unfold z1a y7a
    rw [List.map_set]
   have v2:(sem mp2 C 37).ex Y4 (.setIdx (.var 10) (.var 11) (.bin .add (.idx (.var 10) (.var 11)) (.int 1))) L J4=some (.next Y4,J4.set r4 (.lst (z1a (y7a s.c s.b)))):=by
    have hsr:=k0k (P:=mp2) (C:=C) (L:=L) (v:=.int (((grow s.c s.b).getD s.b 0+1:Nat):Int)) g4 (by rw [z2y];exact gl) (AA hL g2) (by rw [hset];exact z4v _ _)
    rw [hset] at hsr
    rw [x1z,z0m v1,z0m (z0a (n:=35) g5),z0m (z0a (n:=35) p11),z0m hsr]
    rfl
   refine⟨upd Y4 11 (.int ((0:Nat):Int)),J4.set r4 (.lst (z1a (y7a s.c s.b))),r4,by rw [y3k,AS (by decide),g6 5 (by decide)];simp [Y3,q5],g2,?_,⟨?_,?_,?_,by simp,?_,?_,z3f g4⟩,?_⟩
   ·rw [List.take_set_of_le (by lia)];exact g3
   ·rw [y3k,AS (by decide),g6 8 (by decide)];simp [Y3,q8]
   ·rw [y3k,AS (by decide),g6 9 (by decide)];simp [Y3,q9]
   ·rw [y3k,AS (by decide)];exact g5
   ·rw [y3k,AS (by decide),g6 12 (by decide)];simp [Y3]
   ·rw [y3k,AS (by decide),g6 13 (by decide)];simp [Y3]
   ·rw [z3l,z2x,z9j (n:=38) c1,AS (by first | exact h1 | simp [h1]),z3l,z2x,z9j (n:=37) c2,AQ (by first | exact h2 | simp [h2]),z4w (n:=36) (b1 34 _ q12) _ _ rfl,z4w (n:=36) (b3 34 _ (by first | exact q13 | simp [q13])) _ _ rfl,z3l,z0m g1]
    dsimp only
    rw [z3l,z0m v2]
    rfl
  ·simp only [AS h2]
   refine⟨Y1,J,r,q5,hr,rfl,⟨q8,q9,q10,q11,q12,q13,cell⟩,?_⟩
   rw [z3l,z2x,z9j (n:=38) c1,AS (by first | exact h1 | simp [h1]),z3l,z2x,z9j (n:=37) c2,AS (by first | exact h2 | simp [h2])]
   rfl
end
theorem q6l(c:List Nat)(b:Nat):(y7a c b).length<=c.length+b+1:=by rw [q0e];exact(y1r c b).2
section
variable {lv b:Nat} {L:Lim} {H:z0b} {C:z0h}
theorem q6m{pre self:Nat}(hL:L.b<=pre):∀ (cs:List Nat) (s:WsS) (Y:z0n) (J:z0b) (r:Nat),WsI Y J s r->s.b+cs.length<=400->s.c.length+(cs.length+s.b)+cs.length*1<=100000->(∀ s':List Nat,s'.length<=400\/True)->pre<=r->Y 5=some (.inst 0 self) ->
  (∀ k,k<=cs.length->(wsF (cs.take k) s).c.length<=400) ->
  ∃ Y' J' r',Y' 5=some (.inst 0 self)/\pre<=r'/\J'.take pre=J.take pre/\WsI Y' J' (wsF cs s) r'/\z3i (sem mp2 C 39).ex (.one 14) q3o [] Y (cs.map fun c=>PV.str ⟨#[c]⟩) L J=some (.next Y',J')
 | [],s,Y,J,r,I,hb,_,_,hr,h5,_=>⟨Y,J,r,h5,hr,rfl,I,rfl⟩
 | ch::cs,s,Y,J,r,I,hb,hx,hy,hr,h5,hc=>by
  simp only [BD] at hb
  obtain⟨Y1,J1,r1,a1,a2,a3,a4⟩:=k0n (C:=C) (L:=L) (ch:=ch) I (by lia) (hc 0 (BM _)) hL hr h5
  by_cases h1:ch=32
  ·rw [AQ h1] at a4
   have e:∀ k,wsF ((ch::cs).take (k+1)) s=wsF (cs.take k) ⟨s.b+1,s.n+1,s.nt,s.c⟩:=fun k=>by rw [List.take_succ_cons];show(if ch=32 then _ else _)=_;rw [AQ h1]
   have e':wsF (ch::cs) s=wsF cs ⟨s.b+1,s.n+1,s.nt,s.c⟩:=by show(if ch=32 then _ else _)=_;rw [AQ h1]
   obtain⟨Y',J',r',b1,b2,b3,b4,b5⟩:=q6m hL cs _ Y1 J1 r1 a4.1 (by show s.b+1+_<=_;lia) (by show s.c.length+(cs.length+(s.b+1))+cs.length*1<=_;simp only [BD] at hx;lia) hy a2 a1 (fun k hk=>by
    have:=hc (k+1) (by simp;lia)
    rw [e k] at this;exact this)
   exact⟨Y',J',r',b1,b2,b3.trans a3,e'▸b4,(z1z rfl a4.2).trans b5⟩
  ·rw [AS h1] at a4
   by_cases h2:ch=9
   ·rw [AQ h2] at a4
    have e:∀ k,wsF ((ch::cs).take (k+1)) s=wsF (cs.take k) ⟨0,s.n+1,s.nt+1,y7a s.c s.b⟩:=fun k=>by rw [List.take_succ_cons];show(if ch=32 then _ else if ch=9 then _ else _)=_;rw [AS h1,AQ h2]
    have e':wsF (ch::cs) s=wsF cs ⟨0,s.n+1,s.nt+1,y7a s.c s.b⟩:=by show(if ch=32 then _ else if ch=9 then _ else _)=_;rw [AS h1,AQ h2]
    obtain⟨Y',J',r',b1,b2,b3,b4,b5⟩:=q6m hL cs _ Y1 J1 r1 a4.1 (by show 0+_<=_;lia) (by
     show(y7a s.c s.b).length+(cs.length+0)+cs.length*1<=_
     have:=q6l s.c s.b
     have:=hc 0 (BM _)
     have h0:s.c.length<=400:=this
     lia) hy a2 a1 (fun k hk=>by
     have:=hc (k+1) (by simp;lia)
     rw [e k] at this;exact this)
    exact⟨Y',J',r',b1,b2,b3.trans a3,e'▸b4,(z1z rfl a4.2).trans b5⟩
   ·rw [AS h2] at a4
    have e':wsF (ch::cs) s=s:=by show(if ch=32 then _ else if ch=9 then _ else _)=_;rw [AS h1,AS h2]
    exact⟨Y1,J1,r1,a1,a2,a3,by rw [e'];exact a4.1,z1z rfl a4.2⟩
noncomputable def y7b(ws:Str)(s:WsS):List (Nat×PV):=[(7,.str ws),(12,.int (s.n:Int)),(13,.int (s.nt:Int)),(15,.tup [.tup (z1a s.c),.int (s.b:Int)]),(16,.bool (decide (s.c.length<=1)))]
noncomputable def ws0:WsS:=⟨0,0,0,[]⟩
theorem x3c{ws:Str}(hL:L.b<=H.length)(hLa:L.ab<=H.length)(hn:ws.cps.toList.length<=400)(hc:∀ k,k<=ws.cps.toList.length->(wsF (ws.cps.toList.take k) ws0).c.length<=400) :
  ∃ J,z0f mp2 (lv+1) 0 [.inst 0 H.length,.str ws] [] L (H++[.att []])=some (.none,J)/\J[H.length]?=some (.att (y7b ws (wsF ws.cps.toList ws0)))/\J.take (H.length+1)=H++[.att (y7b ws (wsF ws.cps.toList ws0))]:=by
 rw [q5x (Y:=y3r 5 (.inst 0 H.length) 6 (.str ws)) w2z rfl]
 generalize hY:y3r 5 (.inst 0 H.length) 6 (.str ws)=Y
 have r5:Y 5=some (.inst 0 H.length):=hY▸rfl
 have r6:Y 6=some (.str ws):=hY▸rfl
 show ∃ J,((exs _ Y [.setAttr (.var 5) 7 (.var 6),.assign (.tup [8,9]) (.tup [.gattr 8,.gattr 9]),.assign (.one 10) (.mlst []),.assigns [11,12,13] (.int 0),.for_ (.one 14) .over [.attr 7 (.var 5)] q3o [],.setAttr (.var 5) 12 (.var 12),.setAttr (.var 5) 13 (.var 13),.setAttr (.var 5) 15 (.tup [.prim .tuple [.var 10],.var 11]),.setAttr (.var 5) 16 (.cmp .le (.prim .len [.var 10]) (.int 1))]).bind k3k) L _=_/\_
 let i:=H.length
 let A9:z0b:=H++[.att [(7,.str ws)]]
 let B0:z0b:=A9++[.lst []]
 have hi1:A9[i]?=some (.att [(7,.str ws)]):=z2r _ _
 have hi2:B0[i]?=some (.att [(7,.str ws)]):=q6a hi1
 have s0:∀ rest,exs (sem mp2 (z0f mp2 lv) 40).ex Y (.setAttr (.var 5) 7 (.var 6)::rest) L (H++[.att []])=exs (sem mp2 (z0f mp2 lv) 40).ex Y rest L A9:=fun rest=>by
  rw [z3l,z2x,q2z,z0m (z0a (n:=38) r6),z0m (z0a (n:=38) r5)]
  have:z9a 7 (.inst 0 H.length) (.str ws) L (H++[.att []])=some ((),A9):=by
   rw [y6c,AQ hLa,z2r]
   dsimp only
   rw [AQ (by first | exact z2e | simp [z2e]),y0f];rfl
  rw [z0m this];rfl
 let Y1:=upd (upd Y 8 (.str ⟨#[32]⟩)) 9 (.str ⟨#[9]⟩)
 have s1:∀ rest,exs (sem mp2 (z0f mp2 lv) 40).ex Y (.assign (.tup [8,9]) (.tup [.gattr 8,.gattr 9])::rest) L A9=exs (sem mp2 (z0f mp2 lv) 40).ex Y1 rest L A9:=fun rest=>by
  have h8:(sem mp2 (z0f mp2 lv) 38).ev Y (.gattr 8) L A9=some (.str ⟨#[32]⟩,A9):=by rw [j6j,w9a,z0m (z4m _ _ _),q8y];rfl
  have h9:(sem mp2 (z0f mp2 lv) 38).ev Y (.gattr 9) L A9=some (.str ⟨#[9]⟩,A9):=by rw [j6j,w9b,z0m (z4m _ _ _),j7r];rfl
  rw [z3l,z2x,x1y,z0m (q3n (n:=38) h8 h9)];rfl
 let Y2:=upd Y1 10 (.ref A9.length)
 have s2:∀ rest,exs (sem mp2 (z0f mp2 lv) 40).ex Y1 (.assign (.one 10) (.mlst [])::rest) L A9=exs (sem mp2 (z0f mp2 lv) 40).ex Y2 rest L B0:=fun rest=>z4w (n:=39) (v:=.ref A9.length) (by rw [k5t,z0m (x2a _ _ _),q3h];rfl) _ _ rfl
 let Y3:=upd (upd (upd Y2 11 (.int 0)) 12 (.int 0)) 13 (.int 0)
 have s3:∀ rest,exs (sem mp2 (z0f mp2 lv) 40).ex Y2 (.assigns [11,12,13] (.int 0)::rest) L B0=exs (sem mp2 (z0f mp2 lv) 40).ex Y3 rest L B0:=fun rest=>rfl
 have hl1:A9.length=H.length+1:=by simp [A9]
 have I0:WsI Y3 B0 ws0 A9.length:=⟨by simp [Y3,Y2,Y1],by simp [Y3,Y2,Y1],by simp [Y3,Y2],by simp [Y3,ws0],by simp [Y3,ws0],by simp [Y3,ws0],z2r _ _⟩
 obtain⟨Y4,J,r,b1,b2,b3,b4,b5⟩:=q6m (C:=z0f mp2 lv) (L:=L) (pre:=H.length+1) (self:=H.length) (by lia) ws.cps.toList ws0 Y3 B0 A9.length I0 (by show 0+_<=_;lia) (by show 0+(_+0)+_<=_;lia) (fun _=>.inr trivial) (by lia) (by simp [Y3,Y2,Y1,r5]) hc
 generalize hs:wsF ws.cps.toList ws0=s at b4 ⊢
 obtain⟨e8,e9,e10,e11,e12,e13,cell⟩:=b4
 have s4:∀ rest,exs (sem mp2 (z0f mp2 lv) 40).ex Y3 (.for_ (.one 14) .over [.attr 7 (.var 5)] q3o []::rest) L B0=exs (sem mp2 (z0f mp2 lv) 40).ex Y4 rest L J:=fun rest=>by
  have hsrc:z8z (sem mp2 (z0f mp2 lv) 39) Y3 .over [.attr 7 (.var 5)] L B0=some ((ws.cps.toList.map fun c=>PV.str ⟨#[c]⟩,false),B0):=by
   refine z1q (vs:=[.str ws]) (q8w ?_) rfl
   rw [k5w,z0m (z0a (n:=37) (v:=.inst 0 i) (by simp [Y3,Y2,Y1,r5];rfl)),x2p,hi2];rfl
  have hf:(sem mp2 (z0f mp2 lv) 40).ex Y3 (.for_ (.one 14) .over [.attr 7 (.var 5)] q3o []) L B0=some (.next Y4,J):=by
   rw [j6k,z0m hsrc];exact b5
  rw [z3l,z0m hf]
 have hpre:J.take (H.length+1)=A9:=by rw [b3,show B0=A9++[.lst []] from rfl,FH (by lia),EF (by lia)]
 have hJi:J[i]?=some (.att [(7,.str ws)]):=by
  have:(J.take (H.length+1))[i]?=some (.att [(7,.str ws)]):=by rw [hpre];exact hi1
  rwa [List.getElem?_take_of_lt (by show H.length<_;lia)] at this
 have hir:r≠i:=by show r≠H.length;lia
 have att:∀ (k:Nat) (e:ME) (v:PV) (l:List (Nat×PV)) (J':z0b) rest,J'[i]?=some (.att l)->(sem mp2 (z0f mp2 lv) 39).ev Y4 e L J'=some (v,J')->(z2e k v l).length<=900 ->
   exs (sem mp2 (z0f mp2 lv) 40).ex Y4 (.setAttr (.var 5) k e::rest) L J'=exs (sem mp2 (z0f mp2 lv) 40).ex Y4 rest L (J'.set i (.att (z2e k v l))):=fun k e v l J' rest hl he hp=>by
  rw [z3l,z2x,q2z,z0m he,z0m (z0a (n:=38) b1)]
  have:z9a k (.inst 0 H.length) v L J'=some ((),J'.set i (.att (z2e k v l))):=by
   rw [y6c,AQ hLa]
   rw [show J'[H.length]?=some (.att l) from hl]
   dsimp only
   rw [AQ hp]
  rw [z0m this];rfl
 let Ja:=J.set i (.att [(7,.str ws),(12,.int (s.n:Int))])
 let Jb:=Ja.set i (.att [(7,.str ws),(12,.int (s.n:Int)),(13,.int (s.nt:Int))])
 let Jc:=Jb.set i (.att [(7,.str ws),(12,.int (s.n:Int)),(13,.int (s.nt:Int)),(15,.tup [.tup (z1a s.c),.int (s.b:Int)])])
 let Jd:=Jc.set i (.att (y7b ws s))
 have ha:Ja[i]?=some (.att [(7,.str ws),(12,.int (s.n:Int))]):=z3f hJi
 have hb:Jb[i]?=some (.att [(7,.str ws),(12,.int (s.n:Int)),(13,.int (s.nt:Int))]):=z3f ha
 have hcc:Jc[i]?=some (.att [(7,.str ws),(12,.int (s.n:Int)),(13,.int (s.nt:Int)),(15,.tup [.tup (z1a s.c),.int (s.b:Int)])]):=z3f hb
 have hrb:Jb[r]?=some (.lst (z1a s.c)):=by show((J.set i _).set i _)[r]?=_;rw [z4p hir,z4p hir];exact cell
 have hrc:Jc[r]?=some (.lst (z1a s.c)):=by show(Jb.set i _)[r]?=_;rw [z4p hir];exact hrb
 refine⟨Jd,?_,z3f hcc,?_⟩
 ·rw [z2x,s0,s1,s2,s3,s4]
  rw [att 12 (.var 12) _ _ J _ hJi (z0a (n:=38) e12) (by first | exact z2e | simp [z2e])]
  rw [show J.set i (.att (z2e 12 (.int (s.n:Int)) [(7,.str ws)]))=Ja from rfl]
  rw [att 13 (.var 13) _ _ Ja _ ha (z0a (n:=38) e13) (by first | exact z2e | simp [z2e])]
  rw [show Ja.set i (.att (z2e 13 (.int (s.nt:Int)) [(7,.str ws),(12,.int (s.n:Int))]))=Jb from rfl]
  have ht:(sem mp2 (z0f mp2 lv) 39).ev Y4 (.tup [.prim .tuple [.var 10],.var 11]) L Jb=some (.tup [.tup (z1a s.c),.int (s.b:Int)],Jb):=by
   refine q3n (n:=38) (z5v (n:=37) (z0a (n:=36) e10) ?_) (z0a (n:=37) e11)
   show(z5l Jb (.ref r)).map PV.tup=_
   have:z5l Jb (.ref r)=some (z1a s.c):=by show z0y Jb r=_;unfold z0y;rw [hrb]
   rw [this];rfl
  rw [att 15 _ _ _ Jb _ hb ht (by first | exact z2e | simp [z2e])]
  rw [show Jb.set i (.att (z2e 15 (.tup [.tup (z1a s.c),.int (s.b:Int)]) [(7,.str ws),(12,.int (s.n:Int)),(13,.int (s.nt:Int))]))=Jc from rfl]
  have hle:(sem mp2 (z0f mp2 lv) 39).ev Y4 (.cmp .le (.prim .len [.var 10]) (.int 1)) L Jc=some (.bool (decide (s.c.length<=1)),Jc):=by
   refine z0l (n:=38) (p:=.int (s.c.length:Int)) (q:=.int ((1:Nat):Int)) (z5v (n:=37) (z0a (n:=36) e10) (by rw [q6k mp2 hrc,z2y])) rfl ?_
   show some (PV.bool (decide ((s.c.length:Int)<=((1:Nat):Int))),Jc)=_
   congr 3
   exact FF.mpr (by lia)
  rw [att 16 _ _ _ Jc _ hcc hle (by show(List.length [_,_,_,_,_])<=900;simp)]
  rfl
 ·show((((J.set i _).set i _).set i _).set i _).take (H.length+1)=_
  rw [y1n,y1n,y1n,List.take_set,hpre]
  show(H++[z3a.att [(7,.str ws)]]).set H.length _=_
  exact y0f _ _ _
end
theorem q6n:∀ (cs:List Nat) (s:WsS),(wsF cs s).c.length<=max s.c.length (s.b+cs.length)
 | [],s=>DZ _ _
 | ch::cs,s=>by
  show(if ch=32 then _ else if ch=9 then _ else _:WsS).c.length<=_
  simp only [BD]
  split
  ·have:=q6n cs ⟨s.b+1,s.n+1,s.nt,s.c⟩
   exact AA this (mmm (AM _) (CM (BV s.b 1 cs.length)))
  ·split
   ·have:=q6n cs ⟨0,s.n+1,s.nt+1,y7a s.c s.b⟩
    have h2:(y7a s.c s.b).length<=max s.c.length (s.b+1):=by
     rw [q0e]
     unfold grow
     split
     ·rw [AE,List.length_replicate,x5p ‹_›];exact EI _ _
     ·exact DZ _ _
    exact AA this (Nat.max_le.mpr ⟨AA h2 (mmm (AM _) (DQ (CP 1 _) _)),AA (BK (BM _) (GE _)) (EI _ _)⟩)
   ·exact DZ _ _
theorem add_str(H:z0b){x y:Str}(h:x.length+y.length<=1000000):y6q .add H (.str x) (.str y)=some (.str (x++y)):=by
 show(if x.length+y.length<=z2n then some (PV.str (x++y)) else none)=_
 rw [AQ (AA h (by decide))]
theorem z2t(x y:Str):(x++y).cps.toList=x.cps.toList++y.cps.toList:=by
 show(x.cps++y.cps).toList=_
 simp
theorem z6v(x y:Str):(x++y).length=x.length+y.length:=by
 show(x.cps++y.cps).size=_
 simp [Str.length]
theorem z6d(x:Str):x.length=x.cps.toList.length:=by simp [Str.length]
theorem j2c(n:Nat)(ws:Str)(s:WsS):z8h n (y7b ws s)=true:=by
 have h:=z4v n s.c
 show(true&&(true&&(true&&((z0w n (z1a s.c)&&(true&&true))&&(true&&true)))))=true
 rw [h]
 rfl
section
variable {lv b:Nat} {L:Lim} {H:z0b} {C:z0h}
end
noncomputable def k8e(c:List Nat)(ts:Nat):Nat:=((List.range' ts (c.length - ts)).map fun i=>i / ts*c.getD i 0).sum
theorem y4s{n:Nat}{Y:z0n}{L:Lim}{H:z0b}{P:MP}{C:z0h}{a b:Nat}{x y:ME}(hx:(sem P C n).ev Y x L H=some (.int (a:Int),H))(hy:(sem P C n).ev Y y L H=some (.int (b:Int),H))(ha:a<=1000)(hb:b<=1000) :
  z8z (sem P C n) Y .range [x,y] L H=some ((z1a (List.range' a (b - a)),false),H):=by
 refine z1q (x6n hx hy) ?_
 show Option.map (fun l=>(l,false)) (if(a:Int).natAbs<=1000000/\(b:Int).natAbs<=1000000 then some (z5h (a:Int) (b:Int)) else none)=_
 rw [AQ ⟨by rw [DI];lia,by rw [DI];lia⟩]
 show some (z5h (a:Int) (b:Int),false)=_
 unfold z5h z1a
 congr 2
 rw [Int.toNat_sub,List.range'_eq_map_range,AW]
 refine CG fun k _=>?_
 simp
theorem j7s(P:MP)(H:z0b)(l:List PV):z4z P .len H [.tup l]=some (.int (l.length:Int)):=rfl
theorem z8s{P:MP}{C:z0h}{n:Nat}{Y:z0n}{L:Lim}{H:z0b}{a e:ME}{l:List PV}{k:Nat}{v:PV}(h1:(sem P C n).ev Y a L H=some (.tup l,H))(h2:(sem P C n).ev Y e L H=some (.int (k:Int),H))(h3:l[k]?=some v) :
  (sem P C (n+1)).ev Y (.idx a e) L H=some (v,H):=by
 rw [x9k,z0m h1,z0m h2,x2y,k0e h3];rfl
theorem k8f{c:List Nat}{ts:Nat}(hc:∀ k,c.getD k 0<=10)(hl:c.length<=30):∀ l:List Nat,(∀ i,i∈l->i<=30)->l.length<=30->(l.map fun i=>i / ts*c.getD i 0).sum<=300*l.length:=fun l=>by
 induction l with
 | nil=>intro _ _;simp
 | cons i l ih=>
  intro h1 h2
  simp only [BD] at h2
  have a:=ih (fun j hj=>h1 j (AD _ hj)) (by lia)
  have b:=h1 i AC
  have d:=hc i
  have e:i / ts<=30:=AA (Nat.div_le_self _ _) b
  have f:i / ts*c.getD i 0<=30*10:=CI e d
  simp only [BL,FM,BD]
  lia
section
variable {lv b:Nat} {L:Lim} {H:z0b} {C:z0h}
theorem q8z{ts:Nat}{c:List Nat}(h1:1<=ts)(h2:ts<=30)(hc:c.length<=30)(hce:∀ k,c.getD k 0<=10):∀ (ks:List Nat) (acc:Nat) (Y:z0n),(∀ k,k∈ks->k<c.length)->Y 19=some (.int (acc:Int))->Y 18=some (.int (ts:Int))->Y 10=some (.tup (z1a c)) ->
  ∃ Y',z3i (sem mp2 C 39).ex (.one 20) [.assign (.one 19) (.bin .add (.var 19) (.bin .mul (.bin .fdiv (.var 20) (.var 18)) (.idx (.var 10) (.var 20))))] [] Y (z1a ks) L H=some (.next Y',H)/\Y' 19=some (.int ((acc+(ks.map fun k=>k / ts*c.getD k 0).sum:Nat):Int))/\∀ j,j≠19->j≠20->Y' j=Y j
 | [],acc,Y,_,h19,_,_=>⟨Y,rfl,h19,fun _ _ _=>rfl⟩
 | x::ks,acc,Y,hk,h19,h18,h10=>by
  have hx:=hk x AC
  have hv:(z1a c)[x]?=some (.int ((c.getD x 0:Nat):Int)):=by
   unfold z1a
   rw [BC,AI,AP hx];rfl
  have d1:x / ts<=1000000:=AA (Nat.div_le_self _ _) (AA (BO hx) (lk hc rfl))
  obtain⟨Y',q1,q2,q3⟩:=q8z h1 h2 hc hce ks (acc+x / ts*c.getD x 0) (upd (upd Y 20 (.int (x:Int))) 19 (.int ((acc+x / ts*c.getD x 0:Nat):Int))) (fun k h=>hk k (AD _ h)) rfl h18 h10
  have st:exs (sem mp2 C 39).ex (upd Y 20 (.int (x:Int))) [.assign (.one 19) (.bin .add (.var 19) (.bin .mul (.bin .fdiv (.var 20) (.var 18)) (.idx (.var 10) (.var 20))))] L H=some (.next _,H):=
   z0d (z0g (z0a h19) (z0g (z0g (z0a rfl) (z0a h18) (j7m H h1 (lk h2 rfl))) (z8s (z0a h10) (z0a rfl) hv) (q6h H d1 (lk (hce x) rfl))) (z2l H _ _)) rfl
  exact⟨Y',(z1z rfl st).trans q1,q2.trans (by rw [Nat.add_assoc];rfl),fun j a b=>(q3 j a b).trans ((AS a).trans (AS b))⟩
end
theorem k0o(P:MP)(H:z0b)(a b:Nat):z4z P .max H [.int (a:Int),.int (b:Int)]=some (.int ((max a b:Nat):Int)):=by
 show some (PV.int (if(b:Int) > (a:Int) then(b:Int) else(a:Int)))=_
 congr 2
 split<;>lia
section
variable {lv b:Nat} {L:Lim} {H:z0b} {C:z0h}
end
noncomputable abbrev C1:z0h:=z0f mp2 19
noncomputable abbrev Lz:Lim:=⟨0,0⟩
noncomputable def prs:List (Nat×Nat):=[(0,1),(0,2),(0,3),(0,4),(1,2),(1,3),(1,4),(2,3),(2,4),(3,4)]
noncomputable def z6w(ns:List Int):Int:=((ns.take 10).map fun x=>x.fdiv 20).sum
noncomputable def y8h(ns:List Int):Nat:=((7+z6w ns).fmod 28).toNat
noncomputable def x6p(x:Int):Ln:=((prs.getD (x.fmod 10).toNat (0,1)).1,(prs.getD (x.fmod 10).toNat (0,1)).2,(x.fdiv 10).fmod 2==1)
theorem k0p(ns:List Int):y8h ns<28:=by
 unfold y8h
 rw [EP _ (by decide)]
 have h1:=Int.emod_nonneg (7+z6w ns) (by decide:(28:Int)≠0)
 have h2:=Int.emod_lt_of_pos (7+z6w ns) (by decide:(0:Int)<28)
 lia
theorem k8g(x:Int):(x.fmod 10).toNat<10/\x.fmod 10=(((x.fmod 10).toNat:Nat):Int):=by
 rw [EP _ (by decide)]
 have h1:=Int.emod_nonneg x (by decide:(10:Int)≠0)
 have h2:=Int.emod_lt_of_pos x (by decide:(0:Int)<10)
 lia
theorem k8h:∀ k,k<10->(prs.getD k (0,1)).1<5/\(prs.getD k (0,1)).2<5/\(prs.getD k (0,1)).1<(prs.getD k (0,1)).2:=by decide
theorem y8i:∀ l:List Int,z4y (l.map .int)=some l
 | []=>rfl
 | x::l=>by show(z4y (l.map .int)).map (x::·)=_;rw [y8i l];rfl
theorem x3d(P:MP)(H:z0b)(l:List Int):z4z P .sum H [.lst (l.map .int)]=some (.int l.sum):=by
 show(z4y (l.map .int)).map (fun ns=>PV.int ns.sum)=_
 rw [y8i];rfl
theorem y4t(H:z0b)(a:Int){b:Int}(h:b≠0)(h2:b.natAbs<1000000):y6q .fdiv H (.int a) (.int b)=some (.int (a.fdiv b)):=by
 show(if b≠0/\b.natAbs<1000000 then some (PV.int (a.fdiv b)) else none)=_
 rw [AQ ⟨h,h2⟩]
theorem y4u(H:z0b)(a:Int){b:Int}(h:b≠0):y6q .mod H (.int a) (.int b)=some (.int (a.fmod b)):=by
 show(if b≠0 then some (PV.int (a.fmod b)) else none)=_
 rw [AQ h]
theorem add_int(H:z0b)(a b:Int):y6q .add H (.int a) (.int b)=some (.int (a+b)):=rfl
section
variable {H:z0b} {Y:z0n} {ns:List Int}
end
theorem k0q(lv:Nat)(L:Lim)(H:z0b):z0f mp2 (lv+1) 19 [.int 0] [] L H=some (.lst ((W 0).map .str),H):=by kernel_rfl
theorem k0r(lv:Nat)(L:Lim)(H:z0b):z0f mp2 (lv+1) 19 [.int 1] [] L H=some (.lst ((W 1).map .str),H):=by kernel_rfl
theorem k0s(lv:Nat)(L:Lim)(H:z0b):z0f mp2 (lv+1) 19 [.int 2] [] L H=some (.lst ((W 2).map .str),H):=by kernel_rfl
theorem k0t(lv:Nat)(L:Lim)(H:z0b):z0f mp2 (lv+1) 19 [.int 3] [] L H=some (.lst ((W 3).map .str),H):=by kernel_rfl
theorem k0u(lv:Nat)(L:Lim)(H:z0b):z0f mp2 (lv+1) 19 [.int 4] [] L H=some (.lst ((W 4).map .str),H):=by kernel_rfl
theorem k0v(lv:Nat)(L:Lim)(H:z0b):z0f mp2 (lv+1) 19 [.int 5] [] L H=some (.lst ((W 5).map .str),H):=by kernel_rfl
theorem k0w(lv:Nat)(L:Lim)(H:z0b):z0f mp2 (lv+1) 19 [.int 6] [] L H=some (.lst ((W 6).map .str),H):=by kernel_rfl
theorem k0x(lv:Nat)(L:Lim)(H:z0b):z0f mp2 (lv+1) 19 [.int 7] [] L H=some (.lst ((W 7).map .str),H):=by kernel_rfl
theorem k0y(lv:Nat)(L:Lim)(H:z0b):z0f mp2 (lv+1) 19 [.int 8] [] L H=some (.lst ((W 8).map .str),H):=by kernel_rfl
theorem k0z(lv:Nat)(L:Lim)(H:z0b):z0f mp2 (lv+1) 19 [.int 9] [] L H=some (.lst ((W 9).map .str),H):=by kernel_rfl
theorem x3e(lv:Nat)(L:Lim)(H:z0b):z0f mp2 (lv+1) 19 [.int 10] [] L H=some (.lst ((W 10).map .str),H):=by kernel_rfl
theorem x3f(lv:Nat)(L:Lim)(H:z0b):z0f mp2 (lv+1) 19 [.int 11] [] L H=some (.lst ((W 11).map .str),H):=by kernel_rfl
theorem x3g(lv:Nat)(L:Lim)(H:z0b):z0f mp2 (lv+1) 19 [.int 12] [] L H=some (.lst ((W 12).map .str),H):=by kernel_rfl
theorem x3h(lv:Nat)(L:Lim)(H:z0b):z0f mp2 (lv+1) 19 [.int 13] [] L H=some (.lst ((W 13).map .str),H):=by kernel_rfl
theorem x3i(lv:Nat)(L:Lim)(H:z0b):z0f mp2 (lv+1) 19 [.int 14] [] L H=some (.lst ((W 14).map .str),H):=by kernel_rfl
theorem x3j(lv:Nat)(L:Lim)(H:z0b):z0f mp2 (lv+1) 19 [.int 15] [] L H=some (.lst ((W 15).map .str),H):=by kernel_rfl
theorem x3k(lv:Nat)(L:Lim)(H:z0b):z0f mp2 (lv+1) 19 [.int 16] [] L H=some (.lst ((W 16).map .str),H):=by kernel_rfl
theorem x3l(lv:Nat)(L:Lim)(H:z0b):z0f mp2 (lv+1) 19 [.int 17] [] L H=some (.lst ((W 17).map .str),H):=by kernel_rfl
theorem x3m(lv:Nat)(L:Lim)(H:z0b):z0f mp2 (lv+1) 19 [.int 18] [] L H=some (.lst ((W 18).map .str),H):=by kernel_rfl
theorem x3n(lv:Nat)(L:Lim)(H:z0b):z0f mp2 (lv+1) 19 [.int 19] [] L H=some (.lst ((W 19).map .str),H):=by kernel_rfl
theorem x3o(lv:Nat)(L:Lim)(H:z0b):z0f mp2 (lv+1) 19 [.int 20] [] L H=some (.lst ((W 20).map .str),H):=by kernel_rfl
theorem x3p(lv:Nat)(L:Lim)(H:z0b):z0f mp2 (lv+1) 19 [.int 21] [] L H=some (.lst ((W 21).map .str),H):=by kernel_rfl
theorem x3q(lv:Nat)(L:Lim)(H:z0b):z0f mp2 (lv+1) 19 [.int 22] [] L H=some (.lst ((W 22).map .str),H):=by kernel_rfl
theorem x3r(lv:Nat)(L:Lim)(H:z0b):z0f mp2 (lv+1) 19 [.int 23] [] L H=some (.lst ((W 23).map .str),H):=by kernel_rfl
theorem x3s(lv:Nat)(L:Lim)(H:z0b):z0f mp2 (lv+1) 19 [.int 24] [] L H=some (.lst ((W 24).map .str),H):=by kernel_rfl
theorem x3t(lv:Nat)(L:Lim)(H:z0b):z0f mp2 (lv+1) 19 [.int 25] [] L H=some (.lst ((W 25).map .str),H):=by kernel_rfl
theorem x3u(lv:Nat)(L:Lim)(H:z0b):z0f mp2 (lv+1) 19 [.int 26] [] L H=some (.lst ((W 26).map .str),H):=by kernel_rfl
theorem x3v(lv:Nat)(L:Lim)(H:z0b):z0f mp2 (lv+1) 19 [.int 27] [] L H=some (.lst ((W 27).map .str),H):=by kernel_rfl
theorem k1a(lv:Nat){b:Nat}(hb:b<28)(L:Lim)(H:z0b):z0f mp2 (lv+1) 19 [.int (b:Int)] [] L H=some (.lst ((W b).map .str),H):=
 match b,hb with
 | 0,_=>k0q lv L H
 | 1,_=>k0r lv L H
 | 2,_=>k0s lv L H
 | 3,_=>k0t lv L H
 | 4,_=>k0u lv L H
 | 5,_=>k0v lv L H
 | 6,_=>k0w lv L H
 | 7,_=>k0x lv L H
 | 8,_=>k0y lv L H
 | 9,_=>k0z lv L H
 | 10,_=>x3e lv L H
 | 11,_=>x3f lv L H
 | 12,_=>x3g lv L H
 | 13,_=>x3h lv L H
 | 14,_=>x3i lv L H
 | 15,_=>x3j lv L H
 | 16,_=>x3k lv L H
 | 17,_=>x3l lv L H
 | 18,_=>x3m lv L H
 | 19,_=>x3n lv L H
 | 20,_=>x3o lv L H
 | 21,_=>x3p lv L H
 | 22,_=>x3q lv L H
 | 23,_=>x3r lv L H
 | 24,_=>x3s lv L H
 | 25,_=>x3t lv L H
 | 26,_=>x3u lv L H
 | 27,_=>x3v lv L H
 | n+28,h=>absurd h (by omega)
theorem y6j:Str.ofString ", "=z5u:=by decide +kernel
noncomputable def q6o:Str:=baseText "0x" 16 0
theorem x3w:((List.range 32).all fun k=>!(wk k==q6o))=true:=by decide +kernel
theorem k1b:PyData.strOk q6o=true:=by decide +kernel
theorem k1c{k:Nat}(h:k<32):wk k≠q6o:=by
 have:=BA.mp x3w k (by simpa using h)
 simpa using this
noncomputable def z2d(b m:Nat):List Str:=if m=0 then[q6o] else z3x b (z2b m)
theorem z8t(m:Nat):∀ q,q∈z2b m->q<5:=fun q hq=>AN.mp (BF.mp hq).1
theorem z5r(m:Nat):(z2b m).length<=5:=by
 have:=BZ (fun i=>m.testBit i) (List.range 5)
 simpa [z2b] using this
theorem q9a{b m:Nat}(hb:b<28)(hm:m<32):(z5g 32 0 (m*2^b)).map wk=z3x b (z2b m):=by
 rw [j2a hb hm,AW];rfl
theorem j7t:∀ m,m<32->m≠0->z2b m≠[]:=by decide
theorem z8u{b m:Nat}(hb:b<28)(hm:m<32):z3s (m*2^b)=Txt.join z5u (z2d b m):=by
 unfold z3s z2d
 by_cases h:m=0
 ·subst h;rw [AQ (by simp),AQ rfl,q0a];rfl
 ·have:m*2^b≠0:=Nat.mul_ne_zero h (EH (Nat.two_pow_pos b))
  rw [AS this,AS h,q9a hb hm,y6j]
theorem k1d:44∉q6o.cps.toList:=by decide +kernel
theorem x3x{b m:Nat}(hb:b<28):∀ t,t∈z2d b m->44∉t.cps.toList:=fun t ht=>by
 unfold z2d at ht
 split at ht
 ·simp at ht;subst ht;exact k1d
 ·obtain⟨q,hq,rfl⟩:=AX.mp ht
  have:=z8t m q hq
  exact(z6m (lk (FR ‹_› (DM ‹_›)) rfl)).nc
theorem x3y{b m:Nat}(hm:m<32):z2d b m≠[]:=by
 unfold z2d
 split
 ·simp
 ·rename_i h
  have:=j7t m hm h
  unfold z3x
  simpa using this
theorem y3l{b m:Nat}(hb:b<28)(hm:m<32):Txt.split (z3s (m*2^b)) z5u=z2d b m:=by
 rw [z8u hb hm,y2m (x3y hm) (x3x hb)]
theorem y8j{V:Type}(f:V->Nat)(c:Nat):∀ l:List V,(∀ x,x∈l->f x<=c)->(l.map f).sum<=c*l.length
 | [],_=>by simp
 | x::l,h=>by
  have h1:=y8j f c l fun y hy=>h y (AD _ hy)
  have h2:=h x AC
  simp only [BL,FM,BD,Nat.mul_add,Nat.mul_one]
  lia
theorem y2o{b:Nat}(hb:b<28){r:List Nat}(hr:∀ q,q∈r->q<5):((z3x b r).map (·.length)).sum<=100*r.length:=by
 have:=y8j (fun x:Str=>x.length) 100 (z3x b r) fun x hx=>by
  obtain⟨q,hq,rfl⟩:=AX.mp hx
  have:=hr q hq
  exact(z6m (lk (FR ‹_› (DM ‹_›)) rfl)).len
 simpa [z3x] using this
theorem q3p:∀ ws:List (List Nat),(z6c ws).length<=(ws.map (·.length)).sum+2*ws.length
 | []=>AM _
 | [w]=>by show w.length<=w.length+0+2;lia
 | w::v::ws=>by
  have:=q3p (v::ws)
  show(w++[44,32]++z6c (v::ws)).length<=_
  simp only [AE,BD,List.length_nil,BL,FM] at this ⊢
  lia
theorem y8k{b m:Nat}(hb:b<28)(hm:m<32):(z3s (m*2^b)).length<=600:=by
 rw [z8u hb hm,z6d]
 unfold Txt.join
 rw [EQ,z8r]
 have h:=q3p ((z2d b m).map fun t=>t.cps.toList)
 have h1:(((z2d b m).map fun t=>t.cps.toList).map (·.length)).sum<=500:=by
  rw [AW]
  unfold z2d
  split
  ·decide +kernel
  ·have:=y2o hb (z8t m)
   have h5:=z5r m
   have e:(z3x b (z2b m)).map ((fun x:List Nat=>x.length)∘fun t:Str=>t.cps.toList)=(z3x b (z2b m)).map (·.length):=CG fun x _=>by simp [Str.length]
   rw [e];lia
 have h2:((z2d b m).map fun t=>t.cps.toList).length<=5:=by
  rw [AJ]
  unfold z2d
  split
  ·simp
  ·unfold z3x;rw [AJ];exact z5r m
 lia
section
variable {H:z0b} {Y:z0n} {L:Lim} {b:Nat}
theorem q6p(H:z0b){m b:Nat}(hm:m<2^40)(hb:b<=1000):y6q .shl H (.int (m:Int)) (.int (b:Int))=some (.int ((m*2^b:Nat):Int)):=by
 refine(AQ ⟨EO b,Int.ofNat_le.mpr (AA hb (by decide)),by rw [DI];exact BW hm (by decide)⟩).trans ?_
 rw [EV,Int.natCast_mul,Int.natCast_pow]
 rfl
theorem j2d{P:MP}(H:z0b){x:Str}(h:x.length<=100000):z4z P .split H [.str x,.str (Str.ofString ", ")]=some (.lst ((Txt.split x z5u).map .str)):=by
 rw [y6j]
 show(if x.length<=100000/\z5u.length≠0 then some (PV.lst ((Txt.split x z5u).map .str)) else none)=_
 rw [AQ ⟨h,by decide⟩]
theorem k8i(b:Nat):W b=z3x b (List.range 5):=rfl
theorem k1e(b:Nat):z2d b 31=W b:=rfl
theorem k1f(hb:b<28):∀ x,x∈W b->PyData.strOk x=true:=by
 rw [k8i];exact y1q hb fun q hq=>AN.mp hq
theorem j7u(P:MP)(C:z0h){l m:List Str}(hl:∀ x,x∈l->PyData.strOk x=true)(hm:∀ x,x∈m->PyData.strOk x=true)(L:Lim)(H:z0b):z9p P C .ne (.lst (l.map .str)) (.lst (m.map .str)) L H=some (.bool (!decide (l=m)),H):=by
 have h:=z9v (f:=fun l:List Str=>PV.lst (l.map PV.str)) (z5q y6g) (by decide) (a:=l) (b:=m) hl hm
 show((M.ofOpt ((eqV (.lst (l.map .str)) (.lst (m.map .str))).map (!·))).bind fun r=>M.pure (.bool r):M PV) L H=_
 have h':eqV (.lst (l.map .str)) (.lst (m.map .str))=some (decide (l=m)):=h
 rw [h'];rfl
end
noncomputable def w9d(ls:List Ln)(p:Nat):List Nat:=(ls.filter fun l=>l.1==p).map fun l=>l.2.1
noncomputable def adj(ls:List Ln)(p q:Nat):Bool:=!(p==q)&&(w9d ls p).contains q
noncomputable def nbL(ls:List Ln)(p:Nat):List Nat:=(List.range 5).filter fun q=>adj ls p q
theorem k8j:∀ a b c d e:Bool,z2b (((List.range 5).filter fun i=>[a,b,c,d,e].getD i false).map fun q=>2^q).sum=((List.range 5).filter fun i=>[a,b,c,d,e].getD i false)/\(((List.range 5).filter fun i=>[a,b,c,d,e].getD i false).map fun q=>2^q).sum<32:=by decide +kernel
theorem k1g(f:Nat->Bool):(List.range 5).filter f=(List.range 5).filter fun i=>[f 0,f 1,f 2,f 3,f 4].getD i false:=by
 refine CQ fun i hi=>?_
 have:=AN.mp hi
 match i,this with
 | 0,_=>rfl
 | 1,_=>rfl
 | 2,_=>rfl
 | 3,_=>rfl
 | 4,_=>rfl
 | n+5,h=>lia
theorem k8k(f:Nat->Bool):z2b (((List.range 5).filter f).map fun q=>2^q).sum=(List.range 5).filter f/\(((List.range 5).filter f).map fun q=>2^q).sum<32:=by
 rw [k1g f]
 exact k8j _ _ _ _ _
noncomputable def nbs(ls:List Ln):List (List Nat):=(List.range 5).map (nbL ls)
theorem y8l{x:Str}(h:PyData.strOk x=true):z1n (.str x)=some (.str x):=AQ h
theorem q9b(d x:PyData)(r:List PyData):z8f d (x::r)=if PyData.eqv x d then some 0 else(z8f d r).map (·+1):=rfl
section
variable {H:z0b} {Y:z0n} {b i j:Nat} {ls ts:List Ln}
theorem w3p(b:Nat):(W b).map PV.str=(List.range 5).map fun p=>PV.str (wk (b+p)):=by unfold W;rw [AW];rfl
theorem q3q(hb:b<28)(m:Nat):∀ x,x∈z2d b m->PyData.strOk x=true:=fun x hx=>by
 unfold z2d at hx
 split at hx
 ·simp at hx;subst hx;exact k1b
 ·exact y1q hb (z8t m) x hx
theorem j7v(hb:b<28)(m:Nat):(z2d b m).filter (fun x=>decide (x∈W b))=z3x b (z2b m):=by
 unfold z2d
 split
 ·rename_i h
  subst h
  have:decide (q6o∈W b)=false:=EA fun hm=>by
   obtain⟨q,hq,e⟩:=AX.mp hm
   exact k1c (by have:=AN.mp hq;lia) e
  rw [FG,this];rfl
 ·refine FC.mpr fun x hx=>AV ?_
  obtain⟨q,hq,rfl⟩:=AX.mp hx
  exact AX.mpr ⟨q,AN.mpr (z8t m q hq),rfl⟩
theorem q6q(b m:Nat):(z2d b m).length<=5:=by
 unfold z2d
 split
 ·simp
 ·unfold z3x;rw [AJ];exact z5r m
end
theorem y1s{l m:List Nat}{k:Nat}:(l++m).getD (l.length+k) 0=m.getD k 0:=by
 rw [AI,AI,CV (by lia)]
 congr 2;lia
noncomputable def SN(N:Nat)(c:List Nat)(ts:Nat):Nat:=((List.range N).map fun i=>i / ts*c.getD i 0).sum
theorem y1t{l:List Nat}{f:Nat->Nat}(h:∀ i,i∈l->f i=0):(l.map f).sum=0:=by
 induction l with
 | nil=>rfl
 | cons x l ih=>
  rw [BL,FM,h x AC,ih fun i hi=>h i (AD _ hi)]
theorem w3q{N ts:Nat}{c:List Nat}(hN:c.length<=N)(ht:1<=ts):SN N c ts=k8e c ts:=by
 have hz:∀ i,c.length<=i->c.getD i 0=0:=fun i hi=>by rw [AI,CY hi];rfl
 unfold SN k8e
 by_cases h:ts<=c.length
 ·have e:List.range N=List.range' 0 ts++(List.range' ts (c.length - ts)++List.range' c.length (N - c.length)):=by
   rw [List.range_eq_range']
   have e1:List.range' ts (c.length - ts)++List.range' c.length (N - c.length)=List.range' ts (N - ts):=by
    have:=EW (s:=ts) (m:=c.length - ts) (n:=N - c.length)
    rw [FV h,Nat.add_comm (c.length - ts),Nat.sub_add_sub_cancel hN h] at this
    exact this
   rw [e1]
   have:=EW (s:=0) (m:=ts) (n:=N - ts)
   rw [DX,FV (AA h hN)] at this
   exact this.symm
  rw [e,BH,BH,List.sum_append,List.sum_append]
  rw [y1t (l:=List.range' 0 ts) fun i hi=>by
   have:=(CR.mp hi).2
   rw [Nat.div_eq_of_lt (by lia),Nat.zero_mul]]
  rw [y1t (l:=List.range' c.length (N - c.length)) fun i hi=>by
   rw [hz i (CR.mp hi).1,Nat.mul_zero]]
  lia
 ·have e:c.length - ts=0:=by lia
  rw [e]
  show _=0
  refine y1t fun i hi=>?_
  by_cases h2:i<c.length
  ·rw [Nat.div_eq_of_lt (by lia),Nat.zero_mul]
  ·rw [hz i (by lia),Nat.mul_zero]
theorem q3r(c:List Nat)(b i:Nat):(grow c b).getD i 0=c.getD i 0:=by
 unfold grow
 split
 ·by_cases h:i<c.length
  ·rw [AI,AI,DE h]
  ·have:=y1s (l:=c) (m:=List.replicate (b - c.length+1) 0) (k:=i - c.length)
   rw [show c.length+(i - c.length)=i by lia] at this
   rw [this,AI,AI,CY (l:=c) (by lia)]
   by_cases h2:i - c.length<b - c.length+1
   ·rw [List.getElem?_replicate,AQ h2];rfl
   ·rw [List.getElem?_replicate,AS h2]
 ·rfl
theorem q3s(c:List Nat)(b i:Nat):(y7a c b).getD i 0=c.getD i 0+(if i=b then 1 else 0):=by
 unfold y7a
 have hl:=(y1r c b).1
 by_cases h:i=b
 ·subst h
  rw [AQ rfl,AI,EE hl,q3r];rfl
 ·rw [AS h,AI,DJ (Ne.symm h),<- AI,q3r];rfl
theorem j7w:∀ (N b:Nat) (g:Nat->Nat),b<N->((List.range N).map fun i=>if i=b then g i else 0).sum=g b
 | 0,b,g,h=>absurd h (ER _)
 | N+1,b,g,h=>by
  rw [List.range_succ,BH,List.sum_append]
  by_cases e:b=N
  ·subst e
   rw [y1t (l:=List.range b) fun i hi=>by
    have:=AN.mp hi
    rw [AS (by lia)]]
   simp
  ·rw [j7w N b g (by lia)]
   have:¬ N=b:=fun h=>e h.symm
   simp [this]
theorem k1h(l:List Nat)(f g:Nat->Nat):(l.map fun i=>f i+g i).sum=(l.map f).sum+(l.map g).sum:=by
 induction l with
 | nil=>rfl
 | cons x l ih=>simp only [BL,FM,ih];lia
theorem k1i{N b ts:Nat}(c:List Nat)(h:b<N):SN N (y7a c b) ts=SN N c ts+b / ts:=by
 unfold SN
 have e:(fun i=>i / ts*(y7a c b).getD i 0)=fun i=>i / ts*c.getD i 0+(if i=b then i / ts else 0):=by
  funext i
  rw [q3s]
  split<;>simp [Nat.mul_add]
 rw [e,k1h,j7w N b (fun i=>i / ts) h]
section
variable {i j:Nat} {hs:HL} {L:Lim} {H:z0b}
noncomputable def k8l(hs:HL)(x v:Str):HL:=j2p hs x++[(x,v)]
theorem k1j(A0:HAt H i j hs)(x:Str):HAt (H.set j (.lst ((j2p hs x).map z4o))) i j (j2p hs x):=
 A0.set (AA (BZ _ _) A0.n) fun h hh=>A0.ok h (BF.mp hh).1
theorem k8m(lv:Nat){x v:Str}(A0:HAt H i j hs)(hx:x.length<=100000)(ho:okPat true (Txt.lower x)=true)(ho2:okPat true x=true)(hv:okPat false v=true)(hb:L.b<=j) :
  z0f mp2 (lv+3) 9 [.inst 1 i,.str x,.str v] [] L H=some (.none,H.set j (.lst ((k8l hs x v).map z4o))):=by
 have H1:=k1j A0 x
 have e:(j2p hs x).map z4o++[z4o (x,v)]=(k8l hs x v).map z4o:=by unfold k8l;rw [BH];rfl
 have hl:((j2p hs x).map z4o++[z4o (x,v)]).length<=z2n:=by
  rw [AE,AJ]
  exact AA (CD H1.n 1) (by decide)
 exact y1k (Y:=x9l 5 (.inst 1 i) 34 (.str x) 37 (.str v)) w3g rfl (y9y (z0a rfl) (z0a rfl) j6o (x9v lv A0 hx ho hb)
  (y1l (v:=z4o (x,v)) (y9z H1 rfl) H1.l (z1r (z2j (y7y (lv:=lv+1) rfl H1.a (z0a rfl) ho2) (y7y (lv:=lv+1) rfl H1.a (z0a rfl) hv))) H1.l hl hb (e▸z6b 0 _) (by rw [y1n,e];rfl)))
theorem j7x(lv:Nat){x:Str}(A0:HAt H i j hs)(hx:x.length<=100000)(ho:okPat true (Txt.lower x)=true) :
  z0f mp2 (lv+3) 11 [.inst 1 i,.str x] [] L H=some (w7s (q5z hs x),H):=
 z0x (Y:=y3r 5 (.inst 1 i) 34 (.str x)) k6q rfl (z4r (z4n (f:=14) (z0a rfl) A0.a (z1l (z0a rfl)) rfl (k7r lv A0 hx ho)))
theorem k8n(lv:Nat)(A0:HAt H i j hs):z0f mp2 (lv+1) 15 [.inst 1 i] [] L H=some (.lst ((hs.map (·.1)).map .str),H):=by
 have key:=z7m (S:=sem mp2 (z0f mp2 lv) 38) (elt:=.var 31) (Y:=y3q 5 (.inst 1 i)) (pat:=.tup [31,32]) (k:=.over) (args:=[.attr 30 (.var 5)]) (ifs:=[]) (L:=L) (H:=H) (up:=true) (xs:=hs) (enc:=z4o) (out:=fun h=>.str h.1) (test:=fun _=>true)
  (env:=fun h=>upd (upd (clear (y3q 5 (.inst 1 i)) [31,32]) 31 (.str h.1)) 32 (.str h.2)) (y1m A0 rfl) (AA A0.n (by decide)) (fun h _=>rfl) (fun h _=>rfl) (fun h _ _=>z0a rfl)
 rw [z0k] at key
 have e:(hs.map (·.1)).map PV.str=hs.map fun h=>PV.str h.1:=AW
 exact z0x (Y:=y3q 5 (.inst 1 i)) k6u rfl (z4r (z0i (e▸key)))
theorem x3z(lv:Nat)(A0:HAt H i j hs):z0f mp2 (lv+1) 16 [.inst 1 i] [] L H=some (.lst ((hs.map (·.2)).map .str),H):=by
 have key:=z7m (S:=sem mp2 (z0f mp2 lv) 38) (elt:=.var 32) (Y:=y3q 5 (.inst 1 i)) (pat:=.tup [31,32]) (k:=.over) (args:=[.attr 30 (.var 5)]) (ifs:=[]) (L:=L) (H:=H) (up:=true) (xs:=hs) (enc:=z4o) (out:=fun h=>.str h.2) (test:=fun _=>true)
  (env:=fun h=>upd (upd (clear (y3q 5 (.inst 1 i)) [31,32]) 31 (.str h.1)) 32 (.str h.2)) (y1m A0 rfl) (AA A0.n (by decide)) (fun h _=>rfl) (fun h _=>rfl) (fun h _ _=>z0a rfl)
 rw [z0k] at key
 have e:(hs.map (·.2)).map PV.str=hs.map fun h=>PV.str h.2:=AW
 exact z0x (Y:=y3q 5 (.inst 1 i)) k6v rfl (z4r (z0i (e▸key)))
end
noncomputable def tl(b u v:Nat):Str:=z3s ((2^u+2^v)*2^b)
noncomputable def dg(u v:Nat):Str:=⟨#[48+u,48+v]⟩
theorem k8o(b u v:Nat):tl b u v=tl b v u:=AT (fun n=>z3s (n*2^b)) (Nat.add_comm _ _)
structure w3r(w:Str):Prop where
 len:w.length<=100
 ulen:(Txt.upper w).length<=100
 llen:(Txt.lower w).length<=100
 okl:okPat true (Txt.lower w)=true
 oku:okPat true (Txt.upper w)=true
 ll:Txt.lower (Txt.lower w)=Txt.lower w
 lu:Txt.lower (Txt.upper w)=Txt.lower w
 sokl:PyData.strOk (Txt.lower w)=true
 soku:PyData.strOk (Txt.upper w)=true
noncomputable def loC(c:Nat):Nat:=if 65<=c/\c<=90 then c+32 else c
noncomputable def upC(c:Nat):Nat:=if 97<=c/\c<=122 then c - 32 else c
noncomputable def k8p(c:Nat):Bool:=decide (Unicode.lowerOf c=[loC c])&&decide (Unicode.upperOf c=[upC c])&&decide (loC (loC c)=loC c)&&decide (loC (upC c)=loC c)&&Nat.ble 32 (loC c)&&Nat.blt (loC c) 127&&Nat.ble 32 (upC c)&&Nat.blt (upC c) 127&&(Nat.beq c 44 || !Nat.beq (loC c) 44)&&decide (upC (loC c)=upC c)&&decide (upC (upC c)=upC c)
theorem k1k:(List.range' 32 95).all k8p=true:=by decide +kernel
structure w3s(c:Nat):Prop where
 lo:Unicode.lowerOf c=[loC c]
 up:Unicode.upperOf c=[upC c]
 ll:loC (loC c)=loC c
 lu:loC (upC c)=loC c
 l1:32<=loC c
 l2:loC c<127
 u1:32<=upC c
 u2:upC c<127
 ne:c≠44->loC c≠44
 ul:upC (loC c)=upC c
 uu:upC (upC c)=upC c
theorem z9w{c:Nat}(h1:32<=c)(h2:c<127):w3s c:=by
 have h:=BA.mp k1k c (CR.mpr ⟨h1,h2⟩)
 obtain⟨h,b2⟩:=AH.mp h
 obtain⟨h,b1⟩:=AH.mp h
 obtain⟨h,a9⟩:=AH.mp h
 obtain⟨h,a8⟩:=AH.mp h
 obtain⟨h,a7⟩:=AH.mp h
 obtain⟨h,a6⟩:=AH.mp h
 obtain⟨h,a5⟩:=AH.mp h
 obtain⟨h,a4⟩:=AH.mp h
 obtain⟨h,a3⟩:=AH.mp h
 obtain⟨a1,a2⟩:=AH.mp h
 refine⟨AK a1,AK a2,AK a3,AK a4,CE a5,CE a6,CE a7,CE a8,fun n e=>?_,AK b1,AK b2⟩
 rw [e] at a9
 rcases BX.mp a9 with a | a
 ·exact n (Nat.eq_of_beq_eq_true a)
 ·cases a
noncomputable abbrev Pr(x:Str):Prop:=∀ c,c∈x.cps.toList->32<=c/\c<127
theorem y2p{x y:Str}(h:x.cps.toList=y.cps.toList):x=y:=AT Str.mk (Array.toList_inj.mp h)
theorem y8m{x:Str}{f:Nat->Nat->List Nat}{g:Nat->Nat}(h:∀ i (hi:i<x.cps.size),f i x.cps[i]=[g x.cps[i]]):(⟨placed x f⟩:Str).cps.toList=x.cps.toList.map g:=by
 have e:(x.cps.mapIdx fun i c=>(f i c).toArray)=x.cps.map fun c=>#[g c]:=by
  refine Array.ext (by rw [Array.size_mapIdx,Array.size_map]) fun i h1 h2=>?_
  rw [Array.getElem_mapIdx,Array.getElem_map,h]
 show((x.cps.mapIdx fun i c=>(f i c).toArray).flatten).toList=_
 rw [e,Array.toList_flatten,Array.toList_map,AW]
 induction x.cps.toList with
 | nil=>rfl
 | cons c l ih=>exact AT (g c::·) ih
theorem z3v{x:Str}(h:Pr x):(Txt.lower x).cps.toList=x.cps.toList.map loC:=y8m fun i hi=>by
 have hc:=h _ (EZ hi)
 unfold Unicode.lowerAt
 rw [FT hi]
 have n:(x.cps[i]==0x3A3)=false:=ES fun e=>by rw [e] at hc;exact absurd hc.2 (by decide)
 dsimp only
 rw [n,Bool.false_and]
 exact(z9w hc.1 hc.2).lo
theorem z8v{x:Str}(h:Pr x):(Txt.upper x).cps.toList=x.cps.toList.map upC:=y8m fun i hi=>(z9w (h _ (EZ hi)).1 (h _ (EZ hi)).2).up
theorem q9c{x:Str}(h:Pr x):Pr (Txt.lower x):=fun c hc=>by
 rw [z3v h] at hc
 obtain⟨d,hd,rfl⟩:=AX.mp hc
 have k:=z9w (h d hd).1 (h d hd).2
 exact⟨k.l1,k.l2⟩
theorem x4a{x:Str}(h:Pr x):Pr (Txt.upper x):=fun c hc=>by
 rw [z8v h] at hc
 obtain⟨d,hd,rfl⟩:=AX.mp hc
 have k:=z9w (h d hd).1 (h d hd).2
 exact⟨k.u1,k.u2⟩
theorem x6q{x:Str}(h:Pr x)(hl:x.length<=100)(b:Bool):okPat b x=true:=AH.mpr ⟨AV (AA hl (by decide)),BA.mpr fun c hc=>by
 have k:=h c hc
 have n:c≠127:=DL k.2
 induction b using Bool.casesOn
 ·exact AV ⟨.inl k.1,n⟩
 ·exact AV ⟨k.1,n⟩⟩
theorem x6r{x:Str}(h:Pr x)(hl:x.length<=100):PyData.strOk x=true:=DO.mpr fun c hc=>AV (BP (h c (EU.mpr hc)).2 (by decide))
theorem w3t{x:Str}(h:Pr x)(hl:x.length<=100):w3r x:=by
 have l1:(Txt.lower x).length<=100:=by rw [z6d,z3v h,AJ,<- z6d];exact hl
 have l2:(Txt.upper x).length<=100:=by rw [z6d,z8v h,AJ,<- z6d];exact hl
 refine⟨hl,l2,l1,x6q (q9c h) l1 _,x6q (x4a h) l2 _,y2p ?_,y2p ?_,x6r (q9c h) l1,x6r (x4a h) l2⟩
 ·rw [z3v (q9c h),z3v h,AW]
  exact CG fun c hc=>(z9w (h c hc).1 (h c hc).2).ll
 ·rw [z3v (x4a h),z8v h,z3v h,AW]
  exact CG fun c hc=>(z9w (h c hc).1 (h c hc).2).lu
theorem w3u{x:Str}(h:Pr x)(g:Bool):Txt.upper (dr g x)=Txt.upper x:=y2p (by
 induction g using Bool.casesOn with
 | false=>
  show(Txt.upper (Txt.lower x)).cps.toList=_
  rw [z8v (q9c h),z3v h,z8v h,AW]
  exact CG fun c hc=>(z9w (h c hc).1 (h c hc).2).ul
 | true=>
  show(Txt.upper (Txt.upper x)).cps.toList=_
  rw [z8v (x4a h),z8v h,AW]
  exact CG fun c hc=>(z9w (h c hc).1 (h c hc).2).uu)
theorem k8q:((List.range 32).all fun k=>Nat.ble (wk k).length 40&&(wk k).cps.toList.all fun c=>Nat.ble 32 c&&Nat.blt c 127)=true:=by decide +kernel
theorem y2q{k:Nat}(h:k<32):Pr (wk k)/\(wk k).length<=40:=by
 obtain⟨h1,h2⟩:=AH.mp (BA.mp k8q k (AN.mpr h))
 exact⟨fun c hc=>by
  obtain⟨a,b⟩:=AH.mp (BA.mp h2 c hc)
  exact⟨CE a,CE b⟩,CE h1⟩
theorem x4b:∀ v,v<5->∀ u,u<v->z2b (2^u+2^v)=[u,v]/\2^u+2^v<32:=by decide
theorem k1l{b u v:Nat}(hb:b<28)(h:u<v)(hv:v<5):tl b u v=Txt.join z5u [wk (b+u),wk (b+v)]:=by
 obtain⟨h1,h2⟩:=x4b v hv u h
 refine(z8u hb h2).trans ?_
 unfold z2d
 rw [AS (EH (BW (Nat.two_pow_pos u) (BG _ _))),h1]
 rfl
theorem z6x(x y:Str):(Txt.join z5u [x,y]).cps.toList=x.cps.toList++[44,32]++y.cps.toList:=by
 unfold Txt.join
 rw [EQ,z8r];rfl
theorem q9d{x y:Str}(hx:Pr x)(hy:Pr y):Pr (Txt.join z5u [x,y]):=fun c hc=>by
 rw [z6x] at hc
 rcases BJ.mp hc with hc | hc
 ·rcases BJ.mp hc with hc | hc
  ·exact hx c hc
  ·rcases AR.mp hc with e | hc
   ·subst e;exact⟨by decide,by decide⟩
   ·rw [AL.mp hc];exact⟨by decide,by decide⟩
 ·exact hy c hc
theorem q9e{x y:Str}(hx:Pr x)(hy:Pr y):Txt.lower (Txt.join z5u [x,y])=Txt.join z5u [Txt.lower x,Txt.lower y]:=y2p (by
 rw [z3v (q9d hx hy),z6x,z6x,z3v hx,z3v hy,BH,BH];rfl)
theorem x6s{k:Nat}(h:k<32):44∉(Txt.lower (wk k)).cps.toList:=fun hm=>by
 have p:=(y2q h).1
 rw [z3v p] at hm
 obtain⟨d,hd,e⟩:=AX.mp hm
 exact(z9w (p d hd).1 (p d hd).2).ne (fun e=>(z6m h).nc (e▸hd)) e
noncomputable abbrev Up(l:Ln):Prop:=l.1<l.2.1/\l.2.1<5
theorem q6r:∀ v,v<5->∀ u,u<v->(u,v)∈prs:=by decide
theorem Up.mem{l:Ln}(h:Up l):pq l∈prs:=q6r _ h.2 _ h.1
theorem x6t:∀ p,p∈prs->p.1<p.2/\p.2<5:=by decide
theorem j7y{b:Nat}(hb:b<28){p:Nat×Nat}(hp:p∈prs):w3r (tl b p.1 p.2)/\∀ q,q∈prs->(p==q)=(Txt.lower (tl b p.1 p.2)==Txt.lower (tl b q.1 q.2)):=by
 obtain⟨p1,p2⟩:=x6t p hp
 have a1:=b32 hb (BP p1 p2)
 have a2:=b32 hb p2
 rw [k1l hb p1 p2]
 refine⟨w3t (q9d (y2q a1).1 (y2q a2).1) ?_,fun q hq=>?_⟩
 ·rw [z6d,z6x,AE,AE,<- z6d,<- z6d]
  exact AA (BK (BK (y2q a1).2 (AM 2)) (y2q a2).2) (by decide)
 ·obtain⟨q1,q2⟩:=x6t q hq
  have b1:=b32 hb (BP q1 q2)
  have b2:=b32 hb q2
  rw [k1l hb q1 q2,q9e (y2q a1).1 (y2q a2).1,q9e (y2q b1).1 (y2q b2).1,BN,BE,BE]
  refine⟨fun e=>by rw [e],fun e=>?_⟩
  have nc:∀ {i j:Nat},i<32->j<32->∀ t,t∈[Txt.lower (wk i),Txt.lower (wk j)]->44∉t.cps.toList:=fun hi hj t ht=>by
   rcases AR.mp ht with e | ht
   ·rw [e];exact x6s hi
   ·rw [AL.mp ht];exact x6s hj
  have k:=(y2m (DS _ _) (nc a1 a2)).symm.trans ((AT (fun x=>Txt.split x z5u) e).trans (y2m (DS _ _) (nc b1 b2)))
  injection k with k1 k2
  injection k2 with k2
  exact Prod.ext (EC (y2n a1 b1 k1)) (EC (y2n a2 b2 k2))
theorem k1m{b:Nat}(hb:b<28){l:Ln}(h:Up l):w3r (tl b l.1 l.2.1):=(j7y hb h.mem).1
structure w9e(b:Nat)(p:Nat×Nat)(x:Str):Prop where
 len:x.length<=100000
 ok:okPat true x=true
 okl:okPat true (Txt.lower x)=true
 low:Txt.lower x=Txt.lower (tl b p.1 p.2)
 sok:PyData.strOk x=true
theorem j7z{b:Nat}(hb:b<28){l:Ln}(h:Up l)(g:Bool):w9e b (pq l) (dr g (tl b l.1 l.2.1)):=by
 have t:=k1m hb h
 induction g using Bool.casesOn with
 | false=>exact⟨AA t.llen (by decide),t.okl,t.ll.symm▸t.okl,t.ll,t.sokl⟩
 | true=>exact⟨AA t.ulen (by decide),t.oku,t.lu.symm▸t.okl,t.lu,t.soku⟩
noncomputable def lnT(b:Nat)(l:Ln):Str×Str:=(dr l.2.2 (tl b l.1 l.2.1),dg l.1 l.2.1)
noncomputable abbrev Ups(ls:List Ln):Prop:=∀ l,l∈ls->Up l
theorem j8a{b:Nat}(hb:b<28){l:Ln}(h:Up l){p:Nat×Nat}(hp:p∈prs){x:Str}(hx:Txt.lower x=Txt.lower (tl b p.1 p.2)):(Txt.lower (lnT b l).1==Txt.lower x)=(pq l==p):=by
 rw [hx,(j7y hb h.mem).2 p hp]
 show(Txt.lower (dr l.2.2 (tl b l.1 l.2.1))==_)=_
 rw [(j7z hb h _).low]
theorem q0f{b:Nat}(hb:b<28){p:Nat×Nat}(hp:p∈prs){x:Str}(hx:Txt.lower x=Txt.lower (tl b p.1 p.2)):∀ {ls:List Ln},Ups ls->j2p (ls.map (lnT b)) x=(ls.filter fun l=>!(pq l==p)).map (lnT b)
 | [],_=>rfl
 | l::ls,h=>by
  have ih:=q0f hb hp hx (ls:=ls) fun m hm=>h m (AD _ hm)
  have e:=j8a hb (h l AC) hp hx
  unfold j2p at ih ⊢
  rw [BL,FG,FG,e,ih]
  induction pq l==p using Bool.casesOn<;>rfl
theorem x6u{b:Nat}(hb:b<28){p:Nat×Nat}(hp:p∈prs){x:Str}(hx:Txt.lower x=Txt.lower (tl b p.1 p.2)):∀ {ls:List Ln},Ups ls->(q5z (ls.map (lnT b)) x).isSome=ls.any fun l=>pq l==p
 | [],_=>rfl
 | l::ls,h=>by
  have ih:=x6u hb hp hx (ls:=ls) fun m hm=>h m (AD _ hm)
  have e:=j8a hb (h l AC) hp hx
  unfold q5z at ih ⊢
  rw [BL,ED,e,List.any_cons]
  induction pq l==p using Bool.casesOn with
  | true=>rfl
  | false=>rw [<- ih];rfl
theorem At.t{H:z0b}{i j b:Nat}{ls:List Ln}(hb:b<28)(A:At H i j (ls.map (lnT b)))(h:Ups ls)(hn:ls.length<=500):HAt H i j (ls.map (lnT b)):=⟨A.a,A.l,by rw [AJ];exact AA hn (by decide),fun x hx=>by
 obtain⟨l,hl,rfl⟩:=AX.mp hx
 exact(j7z hb (h l hl) _).len⟩
noncomputable def w3v(u v:Nat):Bool:=okPat false (dg u v)&&PyData.strOk (dg u v)
theorem k8r:∀ u,u<5->∀ v,v<5->w3v u v=true:=by decide +kernel
theorem k1n{l:Ln}(h:Up l):okPat false (dg l.1 l.2.1)=true/\PyData.strOk (dg l.1 l.2.1)=true:=AH.mp (k8r _ (BP h.1 h.2) _ h.2)
theorem w7v(H:z0b):∀ {u:Nat},u<5->j2o H (.str (Str.ofString "01234")) (u:Int)=some (.str ⟨#[48+u]⟩)
 | 0,_=>by kernel_rfl
 | 1,_=>by kernel_rfl
 | 2,_=>by kernel_rfl
 | 3,_=>by kernel_rfl
 | 4,_=>by kernel_rfl
 | n+5,h=>absurd h (CH.mpr (CP 5 n))
section
variable {P:MP} {C:z0h} {n:Nat} {Y:z0n} {L:Lim} {H Hb:z0b} {e:ME}
theorem w7w{x:Str}(h:(sem P C n).ev Y e L H=some (.str x,Hb))(hx:x.length<=100000):(sem P C (n+1)).ev Y (.prim .upper [e]) L H=some (.str (Txt.upper x),Hb):=z0u (z1l h) (AQ hx)
theorem k3d{x:Str}(h:(sem P C n).ev Y e L H=some (.str x,Hb))(hx:x.length<=100000):(sem P C (n+1)).ev Y (.prim .lower [e]) L H=some (.str (Txt.lower x),Hb):=z0u (z1l h) (AQ hx)
theorem q6s{g:Bool}{x:Str}{d:ME}(hg:(sem P C (n+1)).ts Y d L H=some (g,H))(h:(sem P C n).ev Y e L H=some (.str x,H))(hx:x.length<=100000) :
  (sem P C (n+2)).ev Y (.ite d (.prim .upper [e]) (.prim .lower [e])) L H=some (.str (dr g x),H):=by
 refine z6j hg ?_
 induction g using Bool.casesOn
 ·exact k3d h hx
 ·exact w7w h hx
theorem w7x{u v:Nat}{a:ME}(h:(sem P C (n+1)).ev Y e L H=some (.int (u:Int),H))(h2:(sem P C (n+1)).ev Y a L H=some (.int (v:Int),H))(hu:u<5)(hv:v<5) :
  (sem P C (n+3)).ev Y (.bin .add (.idx (.str (Str.ofString "01234")) e) (.idx (.str (Str.ofString "01234")) a)) L H=some (.str (dg u v),H):=
 z0g (z8q rfl h (z1j (L:=L) (w7v H hu))) (z8q rfl h2 (z1j (L:=L) (w7v H hv))) rfl
end
noncomputable def z7s(ls:List Ln)(t:Ln):List Ln:=if ls.any (fun l=>pq l==pq t) then ls.filter (fun l=>!(pq l==pq t)) else ls++[t]
theorem y6k{ls:List Ln}{t:Ln}(h:Ups ls)(ht:Up t):Ups (z7s ls t):=fun l hl=>by
 unfold z7s at hl
 split at hl
 ·exact h l (BF.mp hl).1
 ·rcases BJ.mp hl with hl | hl
  ·exact h l hl
  ·rw [AL.mp hl];exact ht
theorem y6l(ls:List Ln)(t:Ln):(z7s ls t).length<=ls.length+1:=by
 unfold z7s
 split
 ·exact CF (BZ _ _)
 ·rw [AE];exact AM _
theorem q6t{ls:List Ln}{t:Ln}(h:ls.any (fun l=>pq l==pq t)=false):(ls.filter fun l=>!(pq l==pq t))=ls:=FC.mpr fun l hl=>by rw [ET.mpr (List.any_eq_false.mp h l hl)];rfl
section
variable {C:z0h} {lv n b i j:Nat} {L:Lim} {H:z0b} {Y Y':z0n}
theorem w3w{m:Nat}{e:ME}(hb:b<28)(hm:m<32)(he:(sem mp2 (z0f mp2 (lv+1)) n).ev Y e ⟨H.length,H.length⟩ H=some (.int ((m*2^b:Nat):Int),H)):(sem mp2 (z0f mp2 (lv+1)) (n+2)).ev Y (.pure (.call 6 [e])) L H=some (.str (z3s (m*2^b)),H):=by
 have hr:m*2^b<2^32:=BU (CI (DM hm) (Nat.pow_le_pow_right (by decide) (DM hb))) (by decide)
 have hj:JoinOk (Str.ofString ", ") ((z5g 32 0 (m*2^b)).map wk)=true:=by
  rw [q9a hb hm]
  refine q3j (AA (BK (y2o hb (z8t m)) (AM _)) ?_)
  have h3:(Str.ofString ", ").length=2:=by decide +kernel
  rw [h3,show(z3x b (z2b m)).length=(z2b m).length from AJ ..]
  exact AA (BK (CI (AM 100) (z5r m)) (CI (z5r m) (AM 2))) (by decide)
 obtain⟨l,hc⟩:=x2u lv (L:=⟨H.length,H.length⟩) (H:=H) hr (AM _) hj
 exact z7p (L:=L) (v:=.str (z3s (m*2^b))) (J:=H++[.lst l]) (z1k (z1l he) hc) rfl
theorem j8b{u v:Nat}(hb:b<28)(hu:u<5)(hv:v<5)(hm:2^u+2^v<32):z0f mp2 (lv+2) 3 [.int (u:Int),.int (v:Int),.int (b:Int)] [] L H=some (.str (tl b u v),H):=
 z0x (Y:=x9l 58 (.int (u:Int)) 32 (.int (v:Int)) 45 (.int (b:Int))) w3c rfl (z4r (w3w hb hm (z0g (z0g (z0g rfl (z0a rfl) (y2j H (BP hu (by decide)))) (z0g rfl (z0a rfl) (y2j H (BP hv (by decide)))) (z2l H _ _)) (z0a rfl) (q6p H (BP hm (by decide)) (AA (BO hb) (by decide))))))
theorem w3x{hs:HL}{x:Str}(A0:HAt H i j hs)(hx:x.length<=100000)(ho:okPat true (Txt.lower x)=true):z9p mp2 (z0f mp2 (lv+3)) .in_ (.str x) (.inst 1 i) L H=some (.bool (q5z hs x).isSome,H):=
 show((y0o mp2 (z0f mp2 (lv+3)) y4z (.inst 1 i) [.str x] []).bind fun r=>(q7j r).bind fun b=>M.pure (.bool b):M PV) L H=_ from z0c (z9g k7m (j1x lv A0 hx ho)) rfl
theorem y1u{P:MP}{C:z0h}{o a e:ME}{v q w:PV}{c f:Nat}{rest:List MS}{Hb H2 Hd H4:z0b}{Q:Option (Fl×z0b)}(h:(sem P C n).ev Y e L H=some (v,Hb))(h1:(sem P C n).ev Y o L Hb=some (.inst c i,H2))(h2:(sem P C n).ev Y a L H2=some (q,Hd))(hm:P.meth c y8y=some f)(hc:C f [.inst c i,q,v] [] L Hd=some (w,H4))(hr:exs (sem P C (n+1)).ex Y rest L H4=Q) :
  exs (sem P C (n+1)).ex Y (.setIdx o a e::rest) L H=Q:=z5c (z0c h (z0c h1 (z0c h2 (z0c (z0c (z9g hm hc) rfl) rfl)))) hr
noncomputable def j2q(H:z0b)(b:Nat)(cur:List Ln):z0b:=H++[.att [(30,.ref (H.length+1))],.lst ((cur.map (lnT b)).map z4o)]
theorem k1o(cur:List Ln):At (j2q H b cur) H.length (H.length+1) (cur.map (lnT b)):=
 ⟨by unfold j2q;rw [CV (AM _),Nat.sub_self];rfl,by unfold j2q;rw [CV (BG H.length 1),DB];rfl⟩
theorem q9f(cur new:List Ln):(j2q H b cur).set (H.length+1) (.lst ((new.map (lnT b)).map z4o))=j2q H b new:=by
 unfold j2q
 rw [List.set_append_right _ _ (BG H.length 1),DB]
 rfl
noncomputable def x6v:List MS:=z8b (st w2x 1)
theorem j2e{l:Ln}(h:Up l):2^l.1+2^l.2.1<32:=(x4b _ h.2 _ h.1).2
theorem x4c{cur:List Ln}{t:Ln}(hb:b<28)(hLb:L.b<=H.length)(hu:Ups cur)(ht:Up t)(hn:cur.length<=400)(h58:Y 58=some (.int (t.1:Int)))(h32:Y 32=some (.int (t.2.1:Int)))(h48:Y 48=some (.bool t.2.2))(h45:Y 45=some (.int (b:Int)))(h118:Y 118=some (.inst 1 H.length)) :
  exs (sem mp2 (z0f mp2 (lv+3)) 39).ex Y x6v L (j2q H b cur)=some (.next (upd (upd Y 119 (.str (tl b t.1 t.2.1))) 34 (.str (dr t.2.2 (tl b t.1 t.2.1)))),j2q H b (z7s cur t)):=by
 have h5:=BP ht.1 ht.2
 have d:=j7z hb ht t.2.2
 have A0:=(k1o (H:=H) (b:=b) cur).t hb hu (AA hn (by decide))
 have hin:=w3x (lv:=lv) (L:=L) A0 d.len d.okl
 rw [x6u hb ht.mem d.low hu] at hin
 have hd:=q0f hb ht.mem d.low hu
 refine z0d (z1k (z5j (z0a h58) (z2j (z0a h32) (z0a h45))) (j8b hb h5 ht.2 (j2e ht))) (z0d (q6s (z4f rfl (z0a h48) rfl) (z0a rfl) (AA (k1m hb ht).len (by decide))) (j9x (z4f rfl (z0l (z0a rfl) (z0a h118) hin) rfl) ?_ rfl))
 unfold z7s
 induction e:cur.any fun l=>pq l==pq t using Bool.casesOn with
 | true=>
  rw [AQ rfl,AQ rfl]
  refine y9y (z0a h118) (z0a rfl) j6o (x9v (lv+1) A0 d.len d.okl (CF hLb)) ?_
  rw [hd,q9f];rfl
 | false=>
  rw [AS CJ,AS CJ]
  refine y1u (w7x (z0a h58) (z0a h32) h5 ht.2) (z0a h118) (z0a rfl) q8k (k8m lv A0 d.len d.okl d.ok (k1n ht).1 (CF hLb)) ?_
  unfold k8l
  rw [hd,q6t e,show(cur.map (lnT b)++[(dr t.2.2 (tl b t.1 t.2.1),dg t.1 t.2.1)])=(cur++[t]).map (lnT b) from(BH (l₁:=cur) (l₂:=[t]) (f:=lnT b)).symm,q9f];rfl
theorem q9g(hb:b<28)(hLb:L.b<=H.length):∀ (ts cur:List Ln) (Y:z0n),Ups ts->Ups cur->cur.length+ts.length<=400->Y 45=some (.int (b:Int))->Y 118=some (.inst 1 H.length) ->
  ∃ Y',z3i (sem mp2 (z0f mp2 (lv+3)) 39).ex (.tup [58,32,48]) x6v [] Y (ts.map z9h) L (j2q H b cur)=some (.next Y',j2q H b (ts.foldl z7s cur))/\Y' 118=some (.inst 1 H.length)
 | [],cur,Y,_,_,_,_,h118=>⟨Y,rfl,h118⟩
 | t::ts,cur,Y,ht,hu,hn,h45,h118=>by
  have t0:=ht t AC
  obtain⟨Y',q,r⟩:=q9g hb hLb ts (z7s cur t) (upd (upd (upd (upd (upd Y 58 (.int (t.1:Int))) 32 (.int (t.2.1:Int))) 48 (.bool t.2.2)) 119 (.str (tl b t.1 t.2.1))) 34 (.str (dr t.2.2 (tl b t.1 t.2.1))))
   (fun l hl=>ht l (AD _ hl)) (y6k hu t0) (AA (CD (y6l cur t) _) (BV _ _ _▸hn)) h45 h118
  exact⟨Y',(z1z (w3o Y 58 32 48 t) (x4c hb hLb hu t0 (AA (BG _ _) hn) rfl rfl rfl h45 h118)).trans q,r⟩
noncomputable abbrev q0g(ts:List Ln):List Ln:=ts.foldl z7s []
theorem w3y{ts:List Ln}(hb:b<28)(ht:Ups ts)(hn:ts.length<=100)(hLb:L.b<=H.length)(hLa:L.ab<=H.length) :
  z0f mp2 (lv+4) 4 [.lst (ts.map z9h),.int (b:Int)] [] L H=some (.inst 1 H.length,j2q H b (q0g ts)):=by
 obtain⟨Y',q2,q3⟩:=q9g (lv:=lv) (L:=L) (H:=H) hb hLb ts [] (upd (y3r 56 (.lst (ts.map z9h)) 45 (.int (b:Int))) 118 (.inst 1 H.length)) ht (fun l hl=>(nomatch hl)) (AA (CM (DX _)) (AA hn (by decide))) rfl rfl
 exact z0x (Y:=y3r 56 (.lst (ts.map z9h)) 45 (.int (b:Int))) w3d rfl (z0d (q0c j6n z5p (j6x (lv+1) hLa)) (y2i (up:=false) (z1q (z1l (z0a rfl)) rfl) q2 (z4r (z0a q3))))
end
theorem w3z(x y:Nat×Nat):(x==y)=decide (x=y):=by
 rw [BN,BE,BY]
theorem w4a(P:MP)(C:z0h)(x y:Nat×Nat)(L:Lim)(H:z0b):z9p P C .ne (z1u x) (z1u y) L H=some (.bool (!(x==y)),H):=
 z7x rfl ((AT (Option.map (!·)) (z9v (f:=z1u) x2z (by decide) ⟨trivial,trivial⟩ ⟨trivial,trivial⟩)).trans (by rw [w3z];rfl))
theorem w4b(P:MP)(C:z0h){x:Nat×Nat}{l:List (Nat×Nat)}(L:Lim)(H:z0b):z9p P C .in_ (z1u x) (.lst (l.map z1u)) L H=some (.bool (decide (x∈l)),H):=z7x rfl w7u
section
variable {C:z0h} {lv n:Nat} {L:Lim} {H:z0b} {Y:z0n}
theorem q9h{k:Nat}{t:Ln}(h:Y k=some (z9h t)):(sem mp2 C (n+2)).ev Y (.slice (.var k) none (some (.int 2))) L H=some (z1u (pq t),H):=
 z6u (z0a h) rfl (j2b H t)
theorem x4d{cur:List Ln}{t:Ln}(hn:cur.length<=400)(h120:Y 120=some (z9h t))(h98:Y 98=some (.lst (cur.map z9h))) :
  exs (sem mp2 C 39).ex Y (z8b (st x2b 1)) L H=some (.next (upd Y 98 (.lst ((z7s cur t).map z9h))),H):=by
 have hl:cur.length<=z2n:=AA hn (by decide)
 have k1:=z0i (z1y (S:=sem mp2 C 35) (elt:=.slice (.var 60) none (some (.int 2))) (Y:=Y) (L:=L) (H:=H) (v:=60) (ifs:=[]) (xs:=cur) (enc:=z9h) (up:=false) (test:=fun _=>true) (out:=fun l=>z1u (pq l)) (z2c h98) hl (fun _ _=>rfl) fun l _ _=>q9h (n:=33) rfl)
 rw [z0k,show(cur.map fun l=>z1u (pq l))=(cur.map pq).map z1u from(AW (g:=z1u) (f:=pq) (l:=cur)).symm] at k1
 have ha:decide (pq t∈cur.map pq)=cur.any fun l=>pq l==pq t:=by
  rw [BN,BY,AX,DD]
  exact⟨fun⟨l,h1,h2⟩=>⟨l,h1,by rw [h2,DC]⟩,fun⟨l,h1,h2⟩=>⟨l,h1,BI h2⟩⟩
 refine j9x (z4f rfl (z0l (q9h (n:=34) h120) k1 (w4b _ _ _ _)) rfl) ?_ rfl
 rw [ha]
 unfold z7s
 induction cur.any fun l=>pq l==pq t using Bool.casesOn with
 | true=>
  rw [AQ rfl,AQ rfl]
  exact z0d (z0i (z1y (xs:=cur) (enc:=z9h) (up:=false) (test:=fun l=>!(pq l==pq t)) (out:=z9h) (z2c h98) hl (fun l _=>z3e (z4f rfl (z0l (q9h (n:=32) rfl) (q9h (n:=32) h120) (w4a _ _ _ _ _ _)) rfl)) fun l _ _=>z0a rfl)) rfl
 | false=>
  rw [AS CJ,AS CJ]
  refine z0d (z0g (z0a h98) (z1s (z1l (z0a h120))) (z7r H _ _ ?_)) (by rw [BH];rfl)
  rw [AE,AJ]
  exact AA (CD hn 1) (by decide)
theorem q9i:∀ (ts cur:List Ln) (Y:z0n),cur.length+ts.length<=400->Y 98=some (.lst (cur.map z9h)) ->
  ∃ Y',z3i (sem mp2 C 39).ex (.one 120) (z8b (st x2b 1)) [] Y (ts.map z9h) L H=some (.next Y',H)/\Y' 98=some (.lst ((ts.foldl z7s cur).map z9h))
 | [],cur,Y,_,h98=>⟨Y,rfl,h98⟩
 | t::ts,cur,Y,hn,h98=>by
  obtain⟨Y',q,r⟩:=q9i ts (z7s cur t) (upd (upd Y 120 (z9h t)) 98 (.lst ((z7s cur t).map z9h))) (AA (CD (y6l cur t) _) (BV _ _ _▸hn)) rfl
  exact⟨Y',(z1z (Y1:=upd Y 120 (z9h t)) rfl (x4d (t:=t) (AA (BG _ _) hn) rfl h98)).trans q,r⟩
theorem w4c{ts:List Ln}(hn:ts.length<=100):z0f mp2 (lv+1) 13 [.lst (ts.map z9h)] [] L H=some (.lst ((q0g ts).map z9h),H):=by
 obtain⟨Y',q2,q3⟩:=q9i (C:=z0f mp2 lv) (L:=L) (H:=H) ts [] (upd (y3q 56 (.lst (ts.map z9h))) 98 (.lst [])) (AA (CM (DX _)) (AA hn (by decide))) rfl
 exact z0x (Y:=y3q 56 (.lst (ts.map z9h))) k6s rfl (z0d rfl (y2i (up:=false) (z1q (z1l (z0a rfl)) rfl) q2 (z4r (z0a q3))))
end
noncomputable def FB(bad:Bool)(run:Option (Fl×z0b))(v:PV)(H:z0b)(I:z0n->Prop):Prop:=(bad=true/\run=some (.ret v,H))\/(bad=false/\∃ Y',I Y'/\run=some (.next Y',H))
theorem FB.mono{bad:Bool}{run:Option (Fl×z0b)}{v:PV}{H:z0b}{I A7:z0n->Prop}(h:FB bad run v H I)(k:∀ Y,I Y->A7 Y):FB bad run v H A7:=h.imp id fun⟨a,Y,b,c⟩=>⟨a,Y,k Y b,c⟩
noncomputable abbrev nb(N:List (List Nat))(p:Nat):List Nat:=N.getD p []
noncomputable abbrev z1b(N:List (List Nat)):PV:=.lst (N.map fun r=>.lst (z1a r))
section
variable {P:MP} {C:z0h} {n:Nat} {L:Lim} {H:z0b} {Y:z0n} {v:PV} {I:z0n->Prop}
theorem y6m{V:Type}{k:Nat}{sk:z6g}{args:List ME}{body:List MS}{xs:List V}{enc:V->PV}(bad:V->Bool)(hsrc:z8z (sem P C n) Y sk args L H=some ((xs.map enc,false),H))
 (step:∀ z,z∈xs->∀ Y,I Y->FB (bad z) (exs (sem P C n).ex (upd Y k (enc z)) body L H) v H I)(h:I Y):FB (xs.any bad) (exs (sem P C (n+1)).ex Y [.for_ (.one k) sk args body []] L H) v H I:=by
 refine(x9t (v:=v) I bad hsrc (fun z hz Y hi=>⟨_,rfl,?_⟩) h).imp (fun⟨a,b⟩=>⟨a,q8n b⟩) fun⟨a,Y',b,c⟩=>⟨a,Y',b,z5c c rfl⟩
 exact(step z hz Y hi).imp id fun⟨a,Y',b,c⟩=>⟨a,Y',c,b⟩
theorem k1p{t:Bool}{g e:ME}(h:(sem P C (n+1)).ts Y g L H=some (t,H))(he:(sem P C n).ev Y e L H=some (v,H))(hi:I Y):FB t (exs (sem P C (n+2)).ex Y [.ifs g [.ret e] []] L H) v H I:=by
 induction t using Bool.casesOn with
 | true=>exact .inl ⟨rfl,j6t h (z4r he)⟩
 | false=>exact .inr ⟨rfl,Y,hi,q3g h rfl⟩
theorem j8c{bad:Bool}{s:MS}(h:FB bad (exs (sem P C (n+2)).ex Y [s] L H) (.bool false) H I):exs (sem P C (n+2)).ex Y [s,.ret (.bool true)] L H=some (.ret (.bool (!bad)),H):=by
 have e:=j1p Y L H (sem P C (n+2)).ex [s] [.ret (.bool true)]
 rcases h with⟨a,b⟩ | ⟨a,Y',_,b⟩
 ·rw [a];exact e.trans (z0c b rfl)
 ·rw [a];exact e.trans (z0c b (z4r rfl))
theorem z4e.row{N:List (List Nat)}(R:z4e N){p:Nat}(hp:p<5):(N.map fun r=>PV.lst (z1a r))[p]?=some (.lst (z1a (nb N p))):=by rw [BC,(R.get hp).1];rfl
theorem x4e{N:List (List Nat)}{k j p:Nat}(R:z4e N)(hp:p<5)(hj:Y j=some (z1b N))(hk:Y k=some (.int (p:Int))):(sem P C (n+2)).ev Y (.idx (.var j) (.var k)) L H=some (.lst (z1a (nb N p)),H):=z0t (z0a hj) (z0a hk) (R.row hp)
theorem y2r{N:List (List Nat)}{k j p:Nat}(R:z4e N)(hp:p<5)(hj:Y j=some (z1b N))(hk:Y k=some (.int (p:Int))):z8z (sem P C (n+2)) Y .over [.idx (.var j) (.var k)] L H=some ((z1a (nb N p),false),H):=z1q (z1l (x4e R hp hj hk)) rfl
theorem k1q{N:List (List Nat)}{j k m p q:Nat}(R:z4e N)(hp:p<5)(hj:Y j=some (z1b N))(hk:Y k=some (.int (p:Int)))(hm:Y m=some (.int (q:Int))):(sem P C (n+4)).ts Y (.cmp .nin (.var m) (.idx (.var j) (.var k))) L H=some (!(nb N p).contains q,H):=
 z4f rfl (z0l (z0a hm) (x4e R hp hj hk) (k0f _ _ _ _)) rfl
theorem j8d{a b p q:Nat}(ha:Y a=some (.int (p:Int)))(hb:Y b=some (.int (q:Int))):(sem P C (n+3)).ts Y (.cmp .ne (.var a) (.var b)) L H=some (!(p==q),H):=z4f rfl (z0l (z0a ha) (z0a hb) (k8a _ _ _ _ _ _)) rfl
theorem q0h{S:z6z}{elt:ME}{pat pat':Pat}{ifs ifs' args:List ME}{k:z6g}{items:List PV}:z3h S elt Y pat ifs [(pat',k,args,ifs')] items=z5e (fun v=>match z1v Y pat v with
  | none=>M.fail
  | some Y'=>(y4w (S.ts Y') ifs).bind fun ok=>if ok then((z8z S Y' k args).bind fun r=>(z3h S elt Y' pat' ifs' [] r.1).raised r.2) else M.pure []) items:=by kernel_rfl
theorem z6y{S:z6z}{V Z:Type}{elt:ME}{a b:Nat}{k k2:z6g}{args args2 ifs2:List ME}{xs:List V}{enc:V->PV}(ys:V->List Z){enc2:V->Z->PV}(test:V->Z->Bool)(out:V->Z->PV)
 (h1:z8z S Y k args L H=some ((xs.map enc,false),H))
 (h2:∀ x,x∈xs->z8z S (upd (clear Y [a,b]) a (enc x)) k2 args2 L H=some (((ys x).map (enc2 x),false),H))
 (ht:∀ x,x∈xs->∀ y,y∈ys x->y4w (S.ts (upd (upd (clear Y [a,b]) a (enc x)) b (enc2 x y))) ifs2 L H=some (test x y,H))
 (ho:∀ x,x∈xs->∀ y,y∈ys x->test x y=true->S.ev (upd (upd (clear Y [a,b]) a (enc x)) b (enc2 x y)) elt L H=some (out x y,H))
 (hlen:(xs.flatMap fun x=>((ys x).filter (test x)).map (out x)).length<=z2n) :
  y0m S elt Y [(.one a,k,args,[]),(.one b,k2,args2,ifs2)] L H=some (xs.flatMap fun x=>((ys x).filter (test x)).map (out x),H):=by
 refine(z0m h1).trans ((z0m (a:=xs.flatMap fun x=>((ys x).filter (test x)).map (out x)) (H':=H) ?_).trans ?_)
 ·show z3h S elt (clear Y [a,b]) (.one a) [] [(.one b,k2,args2,ifs2)] (xs.map enc) L H=_
  rw [q0h]
  refine z7l fun x hx=>?_
  refine z0c (a:=true) (Hb:=H) rfl ((z0m (h2 x hx)).trans ?_)
  show z3h S elt _ (.one b) ifs2 [] ((ys x).map (enc2 x)) L H=_
  rw [z8p,<- y0d]
  refine z7l fun y hy=>?_
  refine z0c (ht x hx y hy) ?_
  induction h:test x y using Bool.casesOn with
  | false=>rfl
  | true=>exact z0c (ho x hx y hy h) rfl
 ·rw [AQ (AV hlen)];rfl
end
noncomputable def j8e(N:List (List Nat))(p q r s:Nat):Bool:=!(r==p)&&(!(s==q)&&(!(nb N p).contains r&&!(nb N q).contains s))
noncomputable def z8w(N:List (List Nat)):Bool:=!((List.range 5).any fun p=>(nb N p).any fun q=>(nb N q).any fun r=>(nb N r).any fun s=>j8e N p q r s)
noncomputable def x4f(N:List (List Nat))(u:Nat):List Nat:=(nb N u).flatMap fun v=>(nb N v).filter fun w=>!(w==u)&&!(nb N u).contains w
section
variable {C:z0h} {lv n:Nat} {L:Lim} {H:z0b} {N:List (List Nat)}
theorem k8s(R:z4e N):z0f mp2 (lv+1) 18 [z1b N] [] L H=some (.bool (z8w N),H):=by
 refine z0x (Y:=y3q 57 (z1b N)) k6x rfl (j8c (y6m (I:=fun Y=>Y 57=some (z1b N)) (xs:=List.range 5) (enc:=fun(p:Nat)=>PV.int (p:Int)) _ rfl (fun p hp Y e57=>?_) rfl))
 have p5:=AN.mp hp
 refine FB.mono (y6m (I:=fun Y=>Y 57=some (z1b N)/\Y 61=some (.int (p:Int))) (enc:=fun(p:Nat)=>PV.int (p:Int)) _ (y2r R p5 e57 rfl) (fun q hq Y ⟨e57,e61⟩=>?_) ⟨e57,rfl⟩) fun _ h=>h.1
 have q5:=(R.get p5).2.2 q hq
 refine FB.mono (y6m (I:=fun Y=>(Y 57=some (z1b N)/\Y 61=some (.int (p:Int)))/\Y 62=some (.int (q:Int))) (enc:=fun(p:Nat)=>PV.int (p:Int)) _ (y2r R q5 e57 rfl) (fun r hr Y ⟨⟨e57,e61⟩,e62⟩=>?_) ⟨⟨e57,e61⟩,rfl⟩) fun _ h=>h.1
 have r5:=(R.get q5).2.2 r hr
 refine FB.mono (y6m (I:=fun Y=>((Y 57=some (z1b N)/\Y 61=some (.int (p:Int)))/\Y 62=some (.int (q:Int)))/\Y 64=some (.int (r:Int))) (enc:=fun(p:Nat)=>PV.int (p:Int)) (j8e N p q r) (y2r R r5 e57 rfl) (fun s hs Y ⟨⟨⟨e57,e61⟩,e62⟩,e64⟩=>?_) ⟨⟨⟨e57,e61⟩,e62⟩,rfl⟩) fun _ h=>h.1
 exact k1p (z7o (z7n (j8d e64 e61) (z7n (j8d rfl e62) (z7n (k1q R p5 e57 e61 e64) (z3e (k1q R q5 e57 e62 rfl)))))) rfl ⟨⟨⟨e57,e61⟩,e62⟩,e64⟩
theorem z7t{V Z:Type}(f:V->List Z)(c:Nat):∀ l:List V,(∀ x,x∈l->(f x).length<=c)->(l.flatMap f).length<=c*l.length
 | [],_=>BM _
 | x::l,h=>by
  rw [List.flatMap_cons,AE,BD,Nat.mul_succ,Nat.add_comm]
  exact BK (z7t f c l fun y hy=>h y (AD _ hy)) (h x AC)
theorem k1r(R:z4e N){u:Nat}(hu:u<5):(x4f N u).length<=z2n:=
 AA (z7t _ 100 _ fun v hv=>AA (BZ _ _) (R.get ((R.get hu).2.2 v hv)).2.1) (AA (CI (AM 100) (R.get hu).2.1) (by decide))
theorem k8t(R:z4e N){u:Nat}(hu:u<5):z0f mp2 (lv+1) 21 [z1b N,.int (u:Int)] [] L H=some (.lst (z1a (x4f N u)),H):=by
 have e:((nb N u).flatMap fun v=>((nb N v).filter fun w=>!(w==u)&&!(nb N u).contains w).map fun(w:Nat)=>PV.int (w:Int))=z1a (x4f N u):=by
  unfold z1a x4f
  rw [EM]
 have key:=z6y (S:=sem mp2 (z0f mp2 lv) 38) (Y:=y3r 57 (z1b N) 58 (.int (u:Int))) (L:=L) (H:=H) (elt:=.var 121) (a:=32) (b:=121) (k:=.over) (k2:=.over) (args:=[.idx (.var 57) (.var 58)]) (args2:=[.idx (.var 57) (.var 32)]) (ifs2:=[.andE [.cmp .ne (.var 121) (.var 58),.cmp .nin (.var 121) (.idx (.var 57) (.var 58))]])
  (enc:=fun(w:Nat)=>PV.int (w:Int)) (fun v=>nb N v) (enc2:=fun _ (w:Nat)=>PV.int (w:Int)) (fun v w=>!(w==u)&&!(nb N u).contains w) (fun v (w:Nat)=>PV.int (w:Int)) (y2r R hu rfl rfl) (fun v hv=>y2r R ((R.get hu).2.2 v hv) rfl rfl)
  (fun v hv w hw=>z3e (z7o (z7n (j8d rfl rfl) (z3e (k1q R hu rfl rfl rfl))))) (fun v hv w hw _=>z0a rfl) (by rw [e,z2y];exact k1r R hu)
 rw [e] at key
 exact z0x (Y:=y3r 57 (z1b N) 58 (.int (u:Int))) k6z rfl (z4r (z0i key))
end
theorem y2s(P:MP)(C:z0h)(l:List Nat)(L:Lim)(H:z0b):z9p P C .eq (.lst (z1a l)) (.lst []) L H=some (.bool l.isEmpty,H):=
 z7x rfl ((z9v (f:=fun l:List Nat=>PV.lst (z1a l)) (z5q y6f) (by decide) (a:=l) (b:=[]) (fun _ _=>trivial) fun _ _=>trivial).trans (by cases l<;>rfl))
theorem q0i(P:MP)(C:z0h)(l:List Nat)(L:Lim)(H:z0b):z9p P C .ne (.lst (z1a l)) (.lst []) L H=some (.bool (!l.isEmpty),H):=
 z7x rfl ((AT (Option.map (!·)) (z9v (f:=fun l:List Nat=>PV.lst (z1a l)) (z5q y6f) (by decide) (a:=l) (b:=[]) (fun _ _=>trivial) fun _ _=>trivial)).trans (by cases l<;>rfl))
noncomputable def k3e(ties:List (Nat×Nat))(out:Nat):List (List Nat):=(List.range 5).map fun u=>(z6s out).filter fun v=>(z6s out).contains u&&decide ((u,v)∈ties)
noncomputable def j8f(N:List (List Nat))(us:List Nat):List Nat:=us.filter fun u=>(x4f N u).isEmpty
noncomputable def q3t(ties:List (Nat×Nat))(h:List Nat)(out:Nat):List Nat:=if(j8f (k3e ties out) (z6s out)).isEmpty then h++z6s out else h
noncomputable def j8g(ties:List (Nat×Nat)):List Nat:=(List.range 6).foldl (q3t ties) []
theorem q0j(out:Nat):∀ u,u∈z6s out->u<5:=fun u hu=>AN.mp (BF.mp hu).1
theorem q3u(ties:List (Nat×Nat))(out:Nat):z4e (k3e ties out):=⟨AJ _,fun r hr=>by
 obtain⟨u,_,rfl⟩:=AX.mp hr
 exact⟨AA (BZ _ _) (AA (z6t out) (by decide)),fun q hq=>q0j out q (BF.mp hq).1⟩⟩
theorem j8h(ties:List (Nat×Nat))(h:List Nat)(out:Nat):(q3t ties h out).length<=h.length+5:=by
 unfold q3t
 split
 ·rw [AE];exact DQ (z6t out) _
 ·exact BG _ _
section
variable {C:z0h} {lv n:Nat} {L:Lim} {H:z0b} {Y:z0n} {ties:List (Nat×Nat)}
theorem k8u{out:Nat}(h68:Y 68=some (.lst (z1a (z6s out))))(h63:Y 63=some (.lst (ties.map z1u))) :
  (sem mp2 C (n+9)).ev Y (.comp (.comp (.var 32) [(.one 32,.over,[.var 68],[.andE [.cmp .in_ (.var 58) (.var 68),.cmp .in_ (.tup [.var 58,.var 32]) (.var 63)]])]) [(.one 58,.range,[.int 5],[])]) L H=some (z1b (k3e ties out),H):=by
 refine(z0i (z1y (xs:=List.range 5) (enc:=fun(u:Nat)=>PV.int (u:Int)) (up:=false) (test:=fun u=>true) (out:=fun u=>PV.lst (z1a ((z6s out).filter fun v=>(z6s out).contains u&&decide ((u,v)∈ties)))) rfl (by decide) (fun u hu=>rfl) fun u hu _=>?_)).trans ?_
 ·exact z0i (z1y (xs:=z6s out) (enc:=fun(u:Nat)=>PV.int (u:Int)) (up:=false) (test:=fun v=>(z6s out).contains u&&decide ((u,v)∈ties)) (out:=fun u=>PV.int (u:Int)) (z2c h68) (AA (z6t out) (by decide))
   (fun v hv=>z3e (z7o (z7n (z4f rfl (z0l (z0a rfl) (z0a h68) (y1o _ _ _ _)) rfl) (z3e (z4f rfl (z0l (z1r (z2j (z0a rfl) (z0a rfl))) (z0a h63) (j7k _ _ _ _)) rfl))))) fun v hv _=>z0a rfl)
 ·rw [z0k]
  unfold z1b k3e
  rw [AW];rfl
theorem k1s{N:List (List Nat)}{us:List Nat}(R:z4e N)(h5:∀ u,u∈us->u<5)(hl:us.length<=100)(h57:Y 57=some (z1b N))(h68:Y 68=some (.lst (z1a us))) :
  (sem mp2 (z0f mp2 (lv+1)) (n+6)).ev Y (.comp (.var 58) [(.one 58,.over,[.var 68],[.cmp .eq (.call 21 [.var 57,.var 58]) (.lst [])])]) L H=some (.lst (z1a (j8f N us)),H):=
 z0i (z1y (xs:=us) (enc:=fun(u:Nat)=>PV.int (u:Int)) (up:=false) (test:=fun u=>(x4f N u).isEmpty) (out:=fun u=>PV.int (u:Int)) (z2c h68) (AA hl (by decide))
  (fun u hu=>z3e (z4f rfl (z0l (z1k (z2j (z0a h57) (z0a rfl)) (k8t R (h5 u hu))) rfl (y2s _ _ _ _ _)) rfl)) fun u hu _=>z0a rfl)
theorem j8i{N:List (List Nat)}{us:List Nat}(R:z4e N)(h5:∀ u,u∈us->u<5)(hl:us.length<=100)(h57:Y 57=some (z1b N))(h68:Y 68=some (.lst (z1a us))) :
  (sem mp2 (z0f mp2 (lv+1)) (n+8)).ts Y (.cmp .eq (.comp (.var 58) [(.one 58,.over,[.var 68],[.cmp .eq (.call 21 [.var 57,.var 58]) (.lst [])])]) (.lst [])) L H=some ((j8f N us).isEmpty,H):=
 z4f rfl (z0l (k1s R h5 hl h57 h68) (z1s z5p) (y2s _ _ _ _ _)) rfl
theorem j2f{out:Nat}{acc:List Nat}(hn:acc.length<=100)(h66:Y 66=some (.lst (z1a acc)))(h67:Y 67=some (.int (out:Int)))(h63:Y 63=some (.lst (ties.map z1u))) :
  ∃ Y',exs (sem mp2 (z0f mp2 (lv+1)) 39).ex Y (z8b (st x2c 1)) L H=some (.next Y',H)/\Y' 66=some (.lst (z1a (q3t ties acc out)))/\Y' 63=some (.lst (ties.map z1u)):=by
 unfold q3t
 induction ho:(j8f (k3e ties out) (z6s out)).isEmpty using Bool.casesOn with
 | true=>
  refine⟨_,z0d (x6m h67) (z0d (k8u rfl h63) (j9x (t:=true) (ho▸j8i (n:=30) (q3u ties out) (q0j out) (AA (z6t out) (by decide)) rfl rfl) (z0d (z0g (z0a h66) (z0a rfl) (z7r H _ _ ?_)) rfl) rfl)),?_,h63⟩
  ·rw [AE,z2y,z2y]
   exact AA (BK hn (z6t out)) (by decide)
  ·exact AT (fun l=>some (PV.lst l)) (BH (l₁:=acc) (l₂:=z6s out)).symm
 | false=>exact⟨_,z0d (x6m h67) (z0d (k8u rfl h63) (q3g (ho▸j8i (n:=30) (q3u ties out) (q0j out) (AA (z6t out) (by decide)) rfl rfl) rfl)),h66,h63⟩
theorem y8n:∀ (os:List Nat) (acc:List Nat) (Y:z0n),acc.length+5*os.length<=100->Y 66=some (.lst (z1a acc))->Y 63=some (.lst (ties.map z1u)) ->
  ∃ Y',z3i (sem mp2 (z0f mp2 (lv+1)) 39).ex (.one 67) (z8b (st x2c 1)) [] Y (z1a os) L H=some (.next Y',H)/\Y' 66=some (.lst (z1a (os.foldl (q3t ties) acc)))
 | [],acc,Y,_,h66,_=>⟨Y,rfl,h66⟩
 | o::os,acc,Y,hn,h66,h63=>by
  obtain⟨Y1,a,b,c⟩:=j2f (lv:=lv) (L:=L) (H:=H) (Y:=upd Y 67 (.int (o:Int))) (out:=o) (AA (BG _ _) hn) h66 rfl h63
  have:=j8h ties acc o
  rw [BD] at hn
  obtain⟨Y',q,r⟩:=y8n os (q3t ties acc o) Y1 (by lia) b c
  exact⟨Y',(z1z (Y1:=upd Y 67 (.int (o:Int))) rfl a).trans q,r⟩
theorem k1t:z0f mp2 (lv+2) 22 [.lst (ties.map z1u)] [] L H=some (.lst (z1a (j8g ties)),H):=by
 obtain⟨Y',q2,q3⟩:=y8n (lv:=lv) (L:=L) (H:=H) (ties:=ties) (List.range 6) [] (upd (y3q 63 (.lst (ties.map z1u))) 66 (.lst [])) (by decide) rfl rfl
 exact z0x (Y:=y3q 63 (.lst (ties.map z1u))) k7a rfl (z0d rfl (y2i (up:=false) rfl q2 (z4r (z0a q3))))
end
noncomputable abbrev cells(f:Nat->List Nat):z0b:=(List.range 5).map fun p=>.lst (z1a (f p))
noncomputable abbrev x6w(k:Nat):List PV:=(List.range 5).map fun p=>.ref (k+p)
noncomputable def q6u(f:Nat->List Nat)(u v:Nat):Nat->List Nat:=fun p=>if p=u then f p++[v] else f p
section
variable {C:z0h} {lv n:Nat} {L:Lim} {H:z0b} {Y:z0n} {f:Nat->List Nat}
theorem q0k{u:Nat}(hu:u<5):(H++cells f)[H.length+u]?=some (.lst (z1a (f u))):=by
 rw [CV (BG _ _),DB,BC,EB hu];rfl
theorem j8j{u v:Nat}(hu:u<5):(H++cells f).set (H.length+u) (.lst (z1a (f u)++[.int (v:Int)]))=H++cells (q6u f u v):=by
 rw [List.set_append_right _ _ (BG _ _),DB]
 congr 1
 refine List.ext_getElem (by rw [List.length_set,AJ,AJ]) fun p h1 h2=>?_
 rw [List.getElem_set,EK,EK,List.getElem_range]
 unfold q6u
 by_cases e:u=p
 ·rw [AQ e,AQ e.symm,<- e]
  exact AT z3a.lst (BH (l₁:=f u) (l₂:=[v])).symm
 ·rw [AS e,AS (Ne.symm e)]
theorem k1u{k u:Nat}(hu:u<5):(x6w k)[u]?=some (.ref (k+u)):=by rw [BC,EB hu];rfl
theorem q9j{u:Nat}{e:ME}(hu:u<5)(h:(sem mp2 C n).ev Y e L H=some (.str ⟨#[48+u]⟩,H)):(sem mp2 C (n+1)).ev Y (.prim .int [e]) L H=some (.int (u:Int),H):=
 z0u (z1l h) (match u,hu with | 0,_=>rfl | 1,_=>rfl | 2,_=>rfl | 3,_=>rfl | 4,_=>rfl | n+5,h=>absurd h (CH.mpr (CP 5 n)))
theorem x6x{k u v:Nat}(h:Y k=some (.str (dg u v))):(sem mp2 C (n+2)).ev Y (.idx (.var k) (.int 0)) L H=some (.str ⟨#[48+u]⟩,H):=z8q (z0a h) (j:=0) rfl rfl
theorem x6y{k u v:Nat}(h:Y k=some (.str (dg u v))):(sem mp2 C (n+2)).ev Y (.idx (.var k) (.int 1)) L H=some (.str ⟨#[48+v]⟩,H):=z8q (z0a h) (j:=1) rfl rfl
theorem k8v{o e:ME}{u v:Nat}{rest:List MS}{Q:Option (Fl×z0b)}(hu:u<5)(hv:v<5)(hf:(f u).length<=1000)(hL:L.b<=H.length)(h57:Y 57=some (.lst (x6w H.length)))(ho:(sem mp2 C (n+3)).ev Y o L (H++cells f)=some (.int (u:Int),H++cells f))(he:(sem mp2 C (n+4)).ev Y e L (H++cells f)=some (.int (v:Int),H++cells f))
 (hr:exs (sem mp2 C (n+5)).ex Y rest L (H++cells (q6u f u v))=Q):exs (sem mp2 C (n+5)).ex Y (.append (.idx (.var 57) o) e::rest) L (H++cells f)=Q:=by
 refine y1l (z0t (z0a h57) ho (k1u hu)) (q0k hu) he (q0k hu) ?_ (AA hL (BG _ _)) ?_ (by rw [j8j hu];exact hr)
 ·rw [AE,z2y];exact AA (CD hf 1) (by decide)
 ·exact(AT (z0w 0) (BH (l₁:=f u) (l₂:=[v])).symm).trans (z4v 0 _)
noncomputable abbrev dgs(ls:List Ln):List PV:=ls.map fun(l:Ln)=>PV.str (dg l.1 l.2.1)
noncomputable def y6r(ls:List Ln)(p:Nat):List Nat:=ls.flatMap fun l=>(if p=l.1 then[l.2.1] else[])++(if p=l.2.1 then[l.1] else[])
noncomputable def z2a(ls:List Ln):List (List Nat):=(List.range 5).map (y6r ls)
theorem w4d(f:Nat->List Nat)(u v p:Nat):q6u (q6u f u v) v u p=f p++((if p=u then[v] else[])++if p=v then[u] else[]):=by
 unfold q6u
 by_cases h1:p=u
 ·by_cases h2:p=v
  ·rw [AQ h2,AQ h1,AQ h1,AQ h2,AY]
  ·rw [AS h2,AQ h1,AQ h1,AS h2,CA]
 ·by_cases h2:p=v
  ·rw [AQ h2,AS h1,AS h1,AQ h2];rfl
  ·rw [AS h2,AS h1,AS h1,AS h2];exact(CA _).symm
theorem q0l(f:Nat->List Nat)(u v p:Nat):(q6u f u v p).length<=(f p).length+1:=by
 unfold q6u
 split
 ·rw [AE];exact AM _
 ·exact GE _
theorem q3v(hL:L.b<=H.length):∀ (ls:List Ln) (f:Nat->List Nat) (Y:z0n),Ups ls->(∀ p,(f p).length+2*ls.length<=999)->Y 57=some (.lst (x6w H.length)) ->
  ∃ Y',z3i (sem mp2 C 39).ex (.one 35) (z8b (st x2d 1)) [] Y (dgs ls) L (H++cells f)=some (.next Y',H++cells fun p=>f p++y6r ls p)/\Y' 57=some (.lst (x6w H.length))
 | [],f,Y,_,_,h57=>⟨Y,by rw [show(fun p=>f p++y6r [] p)=f from funext fun p=>CA _];rfl,h57⟩
 | l::ls,f,Y,hu,hn,h57=>by
  have u0:=hu l AC
  have h5:=BP u0.1 u0.2
  obtain⟨Y',q,r⟩:=q3v hL ls (q6u (q6u f l.1 l.2.1) l.2.1 l.1) (upd Y 35 (.str (dg l.1 l.2.1))) (fun m hm=>hu m (AD _ hm)) (fun p=>by
   have a:=q0l (q6u f l.1 l.2.1) l.2.1 l.1 p
   have b:=q0l f l.1 l.2.1 p
   have c:=hn p
   rw [BD] at c
   lia) h57
  have e:(fun p=>q6u (q6u f l.1 l.2.1) l.2.1 l.1 p++y6r ls p)=fun p=>f p++y6r (l::ls) p:=funext fun p=>by
   rw [w4d,AY];rfl
  rw [e] at q
  have b0:∀ p,(f p).length<=999:=fun p=>AA (BG _ _) (hn p)
  have st:exs (sem mp2 C 39).ex (upd Y 35 (.str (dg l.1 l.2.1))) (z8b (st x2d 1)) L (H++cells f)=some (.next (upd Y 35 (.str (dg l.1 l.2.1))),H++cells (q6u (q6u f l.1 l.2.1) l.2.1 l.1)):=
   k8v h5 u0.2 (CF (b0 _)) hL h57 (q9j h5 (x6x rfl)) (q9j u0.2 (x6y rfl)) (k8v u0.2 h5 (AA (q0l _ _ _ _) (CK (b0 _))) hL h57 (q9j u0.2 (x6y rfl)) (q9j h5 (x6x rfl)) rfl)
  exact⟨Y',(z1z rfl st).trans q,r⟩
theorem x4g:(sem mp2 C (n+4)).ev Y (.comp (.mlst []) [(.one 58,.range,[.int 5],[])]) L H=some (.lst (x6w H.length),H++cells fun _=>[]):=by
 have h:(sem mp2 C (n+4)).ev Y (.comp (.mlst []) [(.one 58,.range,[.int 5],[])]) L H=some (.lst [.ref H.length,.ref (H++[z3a.lst []]).length,.ref (H++[z3a.lst []]++[z3a.lst []]).length,.ref (H++[z3a.lst []]++[z3a.lst []]++[z3a.lst []]).length,.ref (H++[z3a.lst []]++[z3a.lst []]++[z3a.lst []]++[z3a.lst []]).length],H++[z3a.lst []]++[z3a.lst []]++[z3a.lst []]++[z3a.lst []]++[z3a.lst []]):=rfl
 rw [h]
 simp only [AY,AE]
 rfl
theorem x4h:frz H.length (H++cells f) (.lst (x6w H.length))=some (z1b ((List.range 5).map f)):=by
 have h:∀ u,u<5->frz H.length (H++cells f) (.ref (H.length+u))=some (.lst (z1a (f u))):=fun u hu=>by
  show(if _ then _ else _)=_
  rw [AS (CH.mpr (BG _ _)),z1t (q0k hu)]
  exact AQ (z4v _ _)
 show(j0b H.length (H++cells f) (.ref (H.length+0)::.ref (H.length+1)::.ref (H.length+2)::.ref (H.length+3)::.ref (H.length+4)::[])).map PV.lst=_
 simp only [j0b,h 0 (by decide),h 1 (by decide),h 2 (by decide),h 3 (by decide),h 4 (by decide)]
 rfl
theorem k8w{ls:List Ln}{e:ME}(hu:Ups ls)(hn:ls.length<=400)(he:∀ L,(sem mp2 (z0f mp2 (lv+1)) n).ev Y e L H=some (.lst (dgs ls),H)) :
  (sem mp2 (z0f mp2 (lv+1)) (n+2)).ev Y (.pure (.call 23 [e])) L H=some (z1b (z2a ls),H):=by
 obtain⟨Y',q2,q3⟩:=q3v (C:=z0f mp2 lv) (L:=⟨H.length,H.length⟩) (H:=H) (AM _) ls (fun _=>[]) (upd (y3q 103 (.lst (dgs ls))) 57 (.lst (x6w H.length))) hu (fun p=>by show 0+_<=_;lia) rfl
 have hc:z0f mp2 (lv+1) 23 [.lst (dgs ls)] [] ⟨H.length,H.length⟩ H=some (.lst (x6w H.length),_):=z0x (Y:=y3q 103 (.lst (dgs ls))) k7b rfl (z0d x4g (y2i (up:=false) (z1q (z1l (z0a rfl)) rfl) q2 (z4r (z0a q3))))
 exact z7p (L:=L) (z1k (z1l (he _)) hc) x4h
end
noncomputable def y0h(N B:List (List Nat)):Bool:=!((List.range 5).any fun u=>(nb N u).any fun v=>q6j B u v)
noncomputable abbrev z4c(b:Nat)(M:Nat->Nat):List PV:=(List.range 5).map fun p=>.str (z3s (M p*2^b))
noncomputable abbrev z3g(M:Nat->Nat):List (List Nat):=(List.range 5).map fun p=>z2b (M p)
theorem q3w(M:Nat->Nat):z4e (z3g M):=⟨AJ _,fun r hr=>by
 obtain⟨p,_,rfl⟩:=AX.mp hr
 exact⟨AA (z5r _) (by decide),z8t _⟩⟩
section
variable {C:z0h} {lv n b:Nat} {L:Lim} {H:z0b} {Y:z0n} {N:List (List Nat)} {M:Nat->Nat}
theorem k8x{e:ME}{x:Str}(he:(sem mp2 C (n+1)).ev Y e L H=some (.str x,H))(h:x.length<=100000):(sem mp2 C (n+2)).ev Y (.prim .split [e,.str (Str.ofString ", ")]) L H=some (.lst ((Txt.split x z5u).map .str),H):=
 z0u (z2j he rfl) (j2d _ h)
theorem w4e(hb:b<28)(hM:∀ p,p<5->M p<32)(h55:Y 55=some (.lst ((W b).map .str)))(h87:Y 87=some (.lst (z4c b M))) :
  (sem mp2 C (n+9)).ev Y (.comp (.comp (.var 47) [(.one 47,.over,[.prim .split [.var 75,.str (Str.ofString ", ")]],[.cmp .in_ (.var 47) (.var 55)])]) [(.one 75,.over,[.var 87],[])]) L H=some (.lst (y6i b (z3g M)),H):=by
 refine(z0i (z1y (xs:=List.range 5) (enc:=fun p=>PV.str (z3s (M p*2^b))) (up:=false) (test:=fun _=>true) (out:=fun p=>PV.lst ((z3x b (z2b (M p))).map .str)) (z2c h87) (by decide) (fun _ _=>rfl) fun p hp _=>?_)).trans ?_
 ·have hm:=hM p (AN.mp hp)
  have sp:=fun L=>k8x (C:=C) (L:=L) (H:=H) (Y:=upd Y 75 (.str (z3s (M p*2^b)))) (n:=n+5) (z0a (k:=75) (v:=.str (z3s (M p*2^b))) rfl) (AA (y8k hb hm) (by decide))
  rw [y3l hb hm] at sp
  have k2:=z1y (S:=sem mp2 C (n+7)) (elt:=.var 47) (Y:=upd Y 75 (.str (z3s (M p*2^b)))) (v:=47) (k:=.over) (ifs:=[.cmp .in_ (.var 47) (.var 55)]) (L:=Lup false L H) (H:=H)
   (xs:=z2d b (M p)) (enc:=PV.str) (up:=false) (test:=fun x=>decide (x∈W b)) (out:=PV.str) (z1q (z1l (sp _)) rfl) (AA (q6q b (M p)) (by decide))
   (fun x hx=>z3e (z4f rfl (z0l (z0a rfl) (z0a h55) (x3b _ _ (q3q hb _ x hx) (k1f hb) _ _)) rfl)) fun x hx _=>z0a rfl
  rw [j7v hb] at k2
  exact z0i k2
 ·rw [z0k]
  unfold y6i z3g
  rw [AW];rfl
theorem k1v{B:List (List Nat)}{x y:List Nat}(hb:b<28)(h71:Y 71=some (.lst ((z3x b x).map .str)))(h72:Y 72=some (.lst ((z3x b y).map .str)))(hx:∀ q,q∈x->q<5)(hy:∀ q,q∈y->q<5) :
  (sem mp2 C (n+4)).ts Y (.andE [.cmp .ne (.var 71) (.lst []),.cmp .ne (.var 72) (.lst [])]) L H=some (!x.isEmpty&&!y.isEmpty,H):=by
 have e:∀ r:List Nat,(z3x b r).isEmpty=r.isEmpty:=fun r=>by cases r<;>rfl
 refine z7o (z7n (z4f rfl (z0l (z0a h71) (z1s z5p) (j7o _ _ (y1q hb hx) _ _)) ?_) (z3e (z4f rfl (z0l (z0a h72) (z1s z5p) (j7o _ _ (y1q hb hy) _ _)) ?_)))
 ·rw [e];rfl
 ·rw [e];rfl
theorem j8k(hb:b<28)(R:z4e N)(hM:∀ p,p<5->M p<32):z0f mp2 (lv+1) 20 [.lst (z4c b M),.lst ((W b).map .str),z1b N] [] L H=some (.bool (y0h N (z3g M)),H):=by
 have RB:=q3w M
 refine z0x (Y:=x9l 87 (.lst (z4c b M)) 55 (.lst ((W b).map .str)) 57 (z1b N)) k6y rfl (z0d (w4e hb hM rfl rfl) (j8c (y6m (I:=fun Y=>Y 57=some (z1b N)/\Y 55=some (.lst ((W b).map .str))/\Y 70=some (.lst (y6i b (z3g M)))) (xs:=List.range 5) (enc:=fun(p:Nat)=>PV.int (p:Int)) _ rfl (fun u hu Y ⟨e57,e55,e70⟩=>?_) ⟨rfl,rfl,rfl⟩)))
 have u5:=AN.mp hu
 refine FB.mono (y6m (I:=fun Y=>(Y 57=some (z1b N)/\Y 55=some (.lst ((W b).map .str))/\Y 70=some (.lst (y6i b (z3g M))))/\Y 58=some (.int (u:Int))) (enc:=fun(p:Nat)=>PV.int (p:Int)) (q6j (z3g M) u) (y2r R u5 e57 rfl) (fun v hv Y ⟨⟨e57,e55,e70⟩,e58⟩=>?_) ⟨⟨e57,e55,e70⟩,rfl⟩) fun _ h=>h.1
 have v5:=(R.get u5).2.2 v hv
 have m1:=q8x (C:=z0f mp2 lv) (L:=L) (H:=H) (n:=29) (Y:=upd Y 32 (.int (v:Int))) (ku:=58) (kv:=32) hb RB u5 v5 e70 e55 (by decide) (by decide) e58 rfl
 have m2:=q8x (C:=z0f mp2 lv) (L:=L) (H:=H) (n:=29) (Y:=upd (upd Y 32 (.int (v:Int))) 71 (.lst ((z3x b (q6i (z3g M) u v)).map .str))) (ku:=32) (kv:=58) hb RB v5 u5 e70 e55 (by decide) (by decide) rfl e58
 have key:FB (q6j (z3g M) u v) _ (.bool false) H _:=k1p (I:=fun Y=>(Y 57=some (z1b N)/\Y 55=some (.lst ((W b).map .str))/\Y 70=some (.lst (y6i b (z3g M))))/\Y 58=some (.int (u:Int))) (C:=z0f mp2 lv) (P:=mp2) (n:=36) (e:=.bool false) (L:=L)
  (k1v (n:=33) (B:=z3g M) (Y:=upd (upd (upd Y 32 (.int (v:Int))) 71 (.lst ((z3x b (q6i (z3g M) u v)).map .str))) 72 (.lst ((z3x b (q6i (z3g M) v u)).map .str))) hb rfl rfl (fun q hq=>(RB.get u5).2.2 q (BF.mp hq).1) fun q hq=>(RB.get v5).2.2 q (BF.mp hq).1) rfl ⟨⟨e57,e55,e70⟩,e58⟩
 exact key.imp (fun⟨a,b⟩=>⟨a,z0d m1 (z0d m2 b)⟩) fun⟨a,Y',b,c⟩=>⟨a,Y',b,z0d m1 (z0d m2 c)⟩
end
noncomputable def y3m(N:List (List Nat)):List Nat:=(List.range 5).filter fun u=>!(nb N u).isEmpty&&(x4f N u).isEmpty
noncomputable def prT(h v:Nat):Nat×Nat:=if h<v then(h,v) else(v,h)
noncomputable def k8y(cur:List Ln)(h v:Nat):List Ln:=cur.filter fun l=>!(pq l==prT h v)
noncomputable def y3t(cur:List Ln):List Ln:=match y3m (z2a cur) with
 | []=>cur
 | h::_=>cur.filter fun l=>!(l.1==h)&&!(l.2.1==h)
noncomputable def q3x(ls:List Ln):List Ln:=(List.range 5).foldl (fun c _=>y3t c) ls
theorem y3n{V Z:Type}(p:Z->V->Bool):∀ (vs:List Z) (cur:List V),vs.foldl (fun c v=>c.filter (p v)) cur=cur.filter fun l=>vs.all fun v=>p v l
 | [],cur=>(z0k cur).symm
 | v::vs,cur=>by
  rw [CW,y3n p vs,List.filter_filter]
  refine CQ fun l _=>?_
  rw [List.all_cons,Bool.and_comm]
theorem y4v(f:Nat->List Nat){p:Nat}(hp:p<5):nb ((List.range 5).map f) p=f p:=by
 unfold nb
 rw [AI,BC,EB hp];rfl
theorem z3m{ls:List Ln}{p q:Nat}:q∈y6r ls p↔∃ l,l∈ls/\((p=l.1/\q=l.2.1)\/(p=l.2.1/\q=l.1)):=by
 unfold y6r
 rw [CU]
 refine⟨fun⟨l,h,k⟩=>⟨l,h,?_⟩,fun⟨l,h,k⟩=>⟨l,h,?_⟩⟩
 ·rcases BJ.mp k with k | k
  ·by_cases e:p=l.1
   ·rw [AQ e] at k;exact .inl ⟨e,AL.mp k⟩
   ·rw [AS e] at k;exact absurd k BB
  ·by_cases e:p=l.2.1
   ·rw [AQ e] at k;exact .inr ⟨e,AL.mp k⟩
   ·rw [AS e] at k;exact absurd k BB
 ·rcases k with⟨a,b⟩ | ⟨a,b⟩
  ·rw [AQ a,b];exact CN _ (AL.mpr rfl)
  ·rw [AQ a,b];exact BR _ (AL.mpr rfl)
theorem y0i{ls:List Ln}(hu:Ups ls){p q:Nat}(h:q∈y6r ls p):q<5/\q≠p:=by
 obtain⟨l,hl,h⟩:=z3m.mp h
 have u:=hu l hl
 rcases h with⟨a,b⟩ | ⟨a,b⟩
 ·rw [a,b];exact⟨u.2,EH u.1⟩
 ·rw [a,b];exact⟨BP u.1 u.2,DL u.1⟩
theorem j8l{c:Prop}[Decidable c](x:Nat):(if c then[x] else[]).length<=1:=by
 split
 ·exact AM 1
 ·exact BM 1
theorem x4i{ls:List Ln}(p:Nat):(y6r ls p).length<=2*ls.length:=z7t _ 2 _ fun l _=>by
 rw [AE]
 exact BK (j8l _) (j8l _)
theorem y8o{ls:List Ln}(hu:Ups ls)(hn:ls.length<=50):z4e (z2a ls):=⟨AJ _,fun r hr=>by
 obtain⟨p,_,rfl⟩:=AX.mp hr
 exact⟨AA (x4i p) (CI (AM 2) hn),fun q hq=>(y0i hu hq).1⟩⟩
theorem k8z{h v:Nat}(h5:h<5)(v5:v<5)(n:v≠h)(b:Nat):prT h v∈prs/\tl b h v=tl b (prT h v).1 (prT h v).2/\2^h+2^v<32:=by
 unfold prT
 by_cases e:h<v
 ·rw [AQ e];exact⟨q6r _ v5 _ e,rfl,(x4b _ v5 _ e).2⟩
 ·have e':v<h:=Nat.lt_of_le_of_ne (CH.mp e) n
  rw [AS e];exact⟨q6r _ h5 _ e',k8o b h v,Nat.add_comm _ _▸(x4b _ h5 _ e').2⟩
theorem x4j{cur:List Ln}(hu:Ups cur)(h:Nat):(y6r cur h).foldl (k8y · h) cur=cur.filter fun l=>!(l.1==h)&&!(l.2.1==h):=by
 unfold k8y
 rw [y3n (fun v l=>!(pq l==prT h v))]
 refine CQ fun l hl=>?_
 have u:=hu l hl
 rw [BN,BA,EL]
 simp only [DG,FA]
 constructor
 ·intro k
  refine⟨fun e=>k l.2.1 (z3m.mpr ⟨l,hl,.inl ⟨e.symm,rfl⟩⟩) ?_,fun e=>k l.1 (z3m.mpr ⟨l,hl,.inr ⟨e.symm,rfl⟩⟩) ?_⟩
  ·unfold prT;rw [<- e,AQ u.1];rfl
  ·unfold prT;rw [<- e,AS (CH.mpr (BO u.1))];rfl
 ·rintro⟨a,b⟩ v hv e
  unfold prT at e
  split at e
  ·exact a (AT Prod.fst e)
  ·exact b (AT Prod.snd e)
theorem q0m(n:Nat)(H:z0b):∀ l:List Str,j0b n H (l.map .str)=some (l.map .str)
 | []=>rfl
 | x::l=>by
  show(frz n H (.str x)).bind (fun q=>(j0b n H (l.map .str)).map fun qs=>q::qs)=_
  rw [q0m n H l];rfl
noncomputable abbrev stT(H:z0b)(j b:Nat)(cur:List Ln):z0b:=H.set j (.lst ((cur.map (lnT b)).map z4o))
section
variable {lv n b i j:Nat} {L:Lim} {H:z0b} {Y:z0n}
theorem q9k{k:Nat}{hs:HL}(A0:HAt H i j hs)(hk:Y k=some (.inst 1 i)):(sem mp2 (z0f mp2 (lv+1)) (n+3)).ev Y (.pure (.meth 103 (.var k) [])) L H=some (.lst ((hs.map (·.2)).map .str),H):=
 z7p (L:=L) (z4n (z0a hk) A0.a z5p x2k (x3z lv A0)) (AT (Option.map PV.lst) (q0m _ _ _))
theorem j8m{k:Nat}{hs:HL}(A0:HAt H i j hs)(hk:Y k=some (.inst 1 i)):(sem mp2 (z0f mp2 (lv+1)) (n+3)).ev Y (.pure (.meth 102 (.var k) [])) L H=some (.lst ((hs.map (·.1)).map .str),H):=
 z7p (L:=L) (z4n (z0a hk) A0.a z5p x2j (k8n lv A0)) (AT (Option.map PV.lst) (q0m _ _ _))
theorem k9a(cur:List Ln):(((cur.map (lnT b)).map (·.2)).map PV.str)=dgs cur:=by rw [AW,AW];rfl
theorem j8n{k:Nat}{cur:List Ln}(hb:b<28)(hu:Ups cur)(hn:cur.length<=50)(A:At H i j (cur.map (lnT b)))(hk:Y k=some (.inst 1 i)):(sem mp2 (z0f mp2 (lv+1)) (n+5)).ev Y (.pure (.call 23 [.pure (.meth 103 (.var k) [])])) L H=some (z1b (z2a cur),H):=
 k8w hu (AA hn (by decide)) fun L=>(q9k (A.t hb hu (AA hn (by decide))) hk).trans (by rw [k9a])
theorem x4k{N:List (List Nat)}(R:z4e N)(h57:Y 57=some (z1b N)) :
  (sem mp2 (z0f mp2 (lv+1)) (n+8)).ev Y (.comp (.var 58) [(.one 58,.range,[.int 5],[.andE [.cmp .ne (.idx (.var 57) (.var 58)) (.lst []),.cmp .eq (.call 21 [.var 57,.var 58]) (.lst [])]])]) L H=some (.lst (z1a (y3m N)),H):=
 z0i (z1y (xs:=List.range 5) (enc:=fun(u:Nat)=>PV.int (u:Int)) (up:=false) (test:=fun u=>!(nb N u).isEmpty&&(x4f N u).isEmpty) (out:=fun u=>PV.int (u:Int)) rfl (by decide)
  (fun u hu=>z3e (z7o (z7n (z4f rfl (z0l (x4e R (AN.mp hu) h57 rfl) (z1s z5p) (q0i _ _ _ _ _)) rfl) (z3e (z4f rfl (z0l (z1k (z2j (z0a h57) (z0a rfl)) (k8t R (AN.mp hu))) (z1s z5p) (y2s _ _ _ _ _)) rfl))))) fun u hu _=>z0a rfl)
theorem x6z(A:∃ hs,At H i j hs)(cur:List Ln):At (stT H j b cur) i j (cur.map (lnT b)):=A.elim fun _ A=>A.set
theorem q9l{h:Nat}{t:List PV}(hb:b<28)(h5:h<5)(A:∃ hs,At H i j hs)(hL:L.b<=j):∀ (vs:List Nat) (cur:List Ln) (Y:z0n),Ups cur->cur.length<=50->(∀ v,v∈vs->v<5/\v≠h)->Y 73=some (.inst 1 i)->Y 123=some (.lst (.int (h:Int)::t))->Y 45=some (.int (b:Int)) ->
  ∃ Y',z3i (sem mp2 (z0f mp2 (lv+2)) 38).ex (.one 32) [.delIdx (.var 73) (.call 3 [.idx (.var 123) (.int 0),.var 32,.var 45])] [] Y (z1a vs) L (stT H j b cur)=some (.next Y',stT H j b (vs.foldl (k8y · h) cur))/\Y' 73=some (.inst 1 i)/\Y' 45=some (.int (b:Int))
 | [],cur,Y,_,_,_,h73,_,h45=>⟨Y,rfl,h73,h45⟩
 | v::vs,cur,Y,hu,hn,hv,h73,h123,h45=>by
  obtain⟨v5,vn⟩:=hv v AC
  obtain⟨p1,p2,p3⟩:=k8z h5 v5 vn b
  have A0:=(x6z A cur).t hb hu (AA hn (by decide))
  have tk:=(j7y hb p1).1
  have lo:Txt.lower (tl b h v)=Txt.lower (tl b (prT h v).1 (prT h v).2):=AT Txt.lower p2
  obtain⟨Y',q,r⟩:=q9l hb h5 A hL vs (k8y cur h v) (upd Y 32 (.int (v:Int))) (fun l hl=>hu l (BF.mp hl).1) (AA (BZ _ _) hn) (fun w hw=>hv w (AD _ hw)) h73 h123 h45
  have hd:=x9v lv (x:=tl b h v) (L:=L) A0 (p2▸AA tk.len (by decide)) (lo▸tk.okl) hL
  rw [q0f hb p1 lo hu,y1n] at hd
  have st:exs (sem mp2 (z0f mp2 (lv+2)) 38).ex (upd Y 32 (.int (v:Int))) [.delIdx (.var 73) (.call 3 [.idx (.var 123) (.int 0),.var 32,.var 45])] L (stT H j b cur)=some (.next (upd Y 32 (.int (v:Int))),stT H j b (k8y cur h v)):=
   y9y (z0a h73) (z1k (z5j (z0t (k:=0) (z0a h123) rfl rfl) (z2j (z0a rfl) (z0a h45))) (j8b hb h5 v5 p3)) j6o hd rfl
  exact⟨Y',(z1z rfl st).trans q,r⟩
theorem j8o{cur:List Ln}(hb:b<28)(A:∃ hs,At H i j hs)(hL:L.b<=j)(hu:Ups cur)(hn:cur.length<=50)(h73:Y 73=some (.inst 1 i))(h45:Y 45=some (.int (b:Int))) :
  ∃ Y',exs (sem mp2 (z0f mp2 (lv+2)) 39).ex Y (z8b (st x2e 0)) L (stT H j b cur)=some (.next Y',stT H j b (y3t cur))/\Y' 73=some (.inst 1 i)/\Y' 45=some (.int (b:Int)):=by
 have R:=y8o hu hn
 have s1:=j8n (lv:=lv+1) (n:=33) (L:=L) (Y:=Y) hb hu hn (x6z A cur) h73
 have s2:=x4k (lv:=lv+1) (n:=30) (L:=L) (H:=stT H j b cur) (Y:=upd Y 57 (z1b (z2a cur))) R rfl
 have hb5:∀ u,u∈y3m (z2a cur)->u<5:=fun u hu=>AN.mp (BF.mp hu).1
 unfold y3t
 generalize y3m (z2a cur)=hs at s2 hb5
 induction hs using List.casesOn with
 | nil=>
  exact⟨upd (upd Y 57 (z1b (z2a cur))) 123 (.lst []),z0d s1 (z0d s2 (x6h (up:=false) (z1q (z1l (z6j (t:=false) (z4f rfl (z0l (z0a rfl) (z1s z5p) (q0i _ _ [] _ _)) rfl) (z1s z5p))) rfl) rfl)),h73,h45⟩
 | cons h t=>
  have h5:=hb5 h AC
  obtain⟨Y',q,r⟩:=q9l (lv:=lv) (t:=z1a t) hb h5 A hL (y6r cur h) cur (upd (upd Y 57 (z1b (z2a cur))) 123 (.lst (z1a (h::t)))) hu hn (fun v hv=>y0i hu hv) h73 rfl h45
  rw [x4j hu] at q
  refine⟨Y',z0d s1 (z0d s2 (y2i (up:=false) (z1q (z1l (z6j (t:=true) (z4f rfl (z0l (z0a rfl) (z1s z5p) (q0i _ _ (h::t) _ _)) rfl) (z0t (k:=h) (z0a rfl) (z0t (k:=0) (z0a rfl) rfl rfl) (R.row h5)))) ?_) q rfl)),r⟩
  unfold z2a
  rw [y4v _ h5];rfl
theorem j8p{cur:List Ln}:∀ l,l∈y3t cur->l∈cur:=fun l hl=>by
 unfold y3t at hl
 split at hl
 ·exact hl
 ·exact(BF.mp hl).1
theorem j8q(cur:List Ln):(y3t cur).length<=cur.length:=by
 unfold y3t
 split
 ·exact AM _
 ·exact BZ _ _
theorem q3y(hb:b<28)(A:∃ hs,At H i j hs)(hL:L.b<=j):∀ (os:List Nat) (cur:List Ln) (Y:z0n),Ups cur->cur.length<=50->Y 73=some (.inst 1 i)->Y 45=some (.int (b:Int)) ->
  ∃ Y',z3i (sem mp2 (z0f mp2 (lv+2)) 39).ex (.one 122) (z8b (st x2e 0)) [] Y (z1a os) L (stT H j b cur)=some (.next Y',stT H j b (os.foldl (fun c _=>y3t c) cur))
 | [],cur,Y,_,_,_,_=>⟨Y,rfl⟩
 | o::os,cur,Y,hu,hn,h73,h45=>by
  obtain⟨Y1,a,c,d⟩:=j8o (lv:=lv) (L:=L) (Y:=upd Y 122 (.int (o:Int))) hb A hL hu hn h73 h45
  obtain⟨Y',q⟩:=q3y hb A hL os (y3t cur) Y1 (fun l hl=>hu l (j8p l hl)) (AA (j8q cur) hn) c d
  exact⟨Y',(z1z rfl a).trans q⟩
theorem j8r{ls:List Ln}(hb:b<28)(A:At H i j (ls.map (lnT b)))(hL:L.b<=j)(hu:Ups ls)(hn:ls.length<=50):z0f mp2 (lv+3) 24 [.inst 1 i,.int (b:Int)] [] L H=some (.none,stT H j b (q3x ls)):=by
 obtain⟨Y',q⟩:=q3y (lv:=lv) (L:=L) hb ⟨_,A⟩ hL (List.range 5) ls (y3r 73 (.inst 1 i) 45 (.int (b:Int))) hu hn rfl rfl
 rw [show stT H j b ls=H from A.refl_set] at q
 exact y1k (Y:=y3r 73 (.inst 1 i) 45 (.int (b:Int))) k7c rfl (y2i (up:=false) rfl q rfl)
end
noncomputable abbrev Pg:=Nat×Str×Bool×List Nat
noncomputable def gr(l:Pg):Pg:=(l.1,l.2.1,true,l.2.2.2)
noncomputable def ins(a:Nat)(f:Pg->Pg):List Pg->List Pg
 | []=>[]
 | l::r=>if l.1=a then l::f l::r.map gr else l::ins a f r
theorem y1v{a:Nat}{f:Pg->Pg}{l:Pg}{R:List Pg}(h:l.1=a):∀ {A:List Pg},(∀ m,m∈A->m.1≠a)->ins a f (A++l::R)=A++l::f l::R.map gr
 | [],_=>AQ h
 | m::A,k=>(AS (k m AC)).trans (AT (m::·) (y1v h fun x hx=>k x (AD _ hx)))
theorem q0n{a:Nat}{S:List Pg}(h:a∈S.map (·.1)):∃ A l R,S=A++l::R/\l.1=a/\∀ m,m∈A->m.1≠a:=by
 induction S with
 | nil=>exact absurd h BB
 | cons m S ih=>
  by_cases e:m.1=a
  ·exact⟨[],m,S,rfl,e,fun _ h=>absurd h BB⟩
  ·rw [BL] at h
   obtain⟨A,l,R,h1,h2,h3⟩:=ih ((AR.mp h).resolve_left (Ne.symm e))
   refine⟨m::A,l,R,by rw [h1];rfl,h2,fun x hx=>?_⟩
   rcases AR.mp hx with e' | hx
   ·rw [e'];exact e
   ·exact h3 x hx
noncomputable def abv(order:List Nat)(N:List (List Nat))(k:Nat):List Nat:=(order.take k).filter fun u=>(nb N (order.getD k 0)).contains u
noncomputable def z2z(pc:Nat->Str)(v:Nat)(h:Pg):Pg:=(v,h.2.1++pc v,false,h.2.2.2++[h.1])
noncomputable def z5k(order:List Nat)(N:List (List Nat))(pc:Nat->Str)(S:List Pg)(k:Nat):List Pg:=match(abv order N k).getLast? with
 | none=>S++[(order.getD k 0,pc (order.getD k 0),false,[])]
 | some a=>ins a (z2z pc (order.getD k 0)) S
structure z2s(x:Str)(n:Nat):Prop where
 len:x.length<=n
 ok:∀ c,c∈x.cps.toList->c=32\/c=9
theorem z2s.add{x y:Str}{m n:Nat}(h:z2s x m)(k:z2s y n):z2s (x++y) (m+n):=⟨by rw [z6v];exact BK h.len k.len,fun c hc=>by
 rw [z2t] at hc
 exact(BJ.mp hc).elim (h.ok c) (k.ok c)⟩
theorem z2s.pat{x:Str}{n:Nat}(h:z2s x n)(hn:n<=100):okPat false x=true:=AH.mpr ⟨AV (AA h.len (AA hn (by decide))),BA.mpr fun c hc=>by
 rcases h.ok c hc with e | e
 ·rw [e];rfl
 ·rw [e];rfl⟩
theorem z2s.sok{x:Str}{n:Nat}(h:z2s x n):PyData.strOk x=true:=DO.mpr fun c hc=>AV (by
 rcases h.ok c (EU.mpr hc) with e | e
 ·rw [e];decide
 ·rw [e];decide)
structure y2t(order:List Nat)(pc:Nat->Str):Prop where
 len:order.length=5
 nd:order.Nodup
 lt:∀ u,u∈order->u<5
 pc:∀ v,v<5->z2s (pc v) 2
theorem y2t.at{order:List Nat}{pc:Nat->Str}(O:y2t order pc){k:Nat}(hk:k<5):order[k]?=some (order.getD k 0)/\order.getD k 0<5/\order.take (k+1)=order.take k++[order.getD k 0]/\order.getD k 0∉order.take k:=by
 have hl:k<order.length:=by rw [O.len];exact hk
 have e:order[k]?=some (order.getD k 0):=by rw [AI,AP hl];rfl
 have t:order.take (k+1)=order.take k++[order.getD k 0]:=by rw [List.take_add_one,e];rfl
 refine⟨e,O.lt _ (CB e),t,fun hm=>?_⟩
 have nd:=(List.take_sublist (k+1) order).nodup O.nd
 rw [t,DF] at nd
 exact nd.2.2 _ hm _ (AL.mpr rfl) rfl
structure y3u(order:List Nat)(k:Nat)(S:List Pg):Prop where
 mem:∀ u,u∈S.map (·.1)↔u∈order.take k
 nd:(S.map (·.1)).Nodup
 lead:∀ l,l∈S->z2s l.2.1 (2*k)
 len:S.length=k
theorem y3u.lt{order:List Nat}{pc:Nat->Str}(O:y2t order pc){k:Nat}{S:List Pg}(I:y3u order k S):∀ l,l∈S->l.1<5:=fun l hl=>O.lt _ (List.mem_of_mem_take ((I.mem _).mp (CT hl)))
theorem q6v{order:List Nat}{N:List (List Nat)}{k a:Nat}(h:(abv order N k).getLast?=some a):a∈order.take k:=(BF.mp (List.mem_of_getLast? h)).1
theorem z2s.mono{x:Str}{m n:Nat}(h:z2s x m)(k:m<=n):z2s x n:=⟨AA h.len k,h.ok⟩
theorem y3u.step{order:List Nat}{pc:Nat->Str}(O:y2t order pc){k:Nat}{S:List Pg}(I:y3u order k S)(hk:k<5)(N:List (List Nat)):y3u order (k+1) (z5k order N pc S k):=by
 obtain⟨e1,e2,e3,e4⟩:=O.at hk
 have up:∀ {x:Str},z2s x (2*k)->z2s x (2*(k+1)):=fun h=>h.mono (CI (AM 2) (GE k))
 unfold z5k
 induction h:(abv order N k).getLast? using Option.casesOn with
 | none=>
  refine⟨fun u=>?_,?_,fun l hl=>?_,?_⟩
  ·rw [BH,BJ,e3,BJ,I.mem];rfl
  ·rw [BH,DF]
   refine⟨I.nd,DH.mpr ⟨BB,CX⟩,fun x hx y hy e=>?_⟩
   rw [e,AL.mp hy] at hx
   exact e4 ((I.mem _).mp hx)
  ·rcases BJ.mp hl with hl | hl
   ·exact up (I.lead l hl)
   ·rw [AL.mp hl];exact(O.pc _ e2).mono (CI (AM 2) (CK (BM k)))
  ·rw [AE,I.len];rfl
 | some a=>
  obtain⟨A,l,R,q1,q2,q3⟩:=q0n ((I.mem a).mpr (q6v h))
  obtain⟨mem,nd,lead,len⟩:=I
  subst q1
  have hg:(R.map gr).map (fun x:Pg=>x.1)=R.map (fun x=>x.1):=by rw [AW];rfl
  have e:(A++l::z2z pc (order.getD k 0) l::R.map gr).map (fun x:Pg=>x.1)=A.map (fun x=>x.1)++l.1::order.getD k 0::R.map (fun x=>x.1):=by rw [BH,BL,BL,hg];rfl
  have p:(A.map (fun x:Pg=>x.1)++l.1::order.getD k 0::R.map (fun x=>x.1)).Perm (order.getD k 0::(A++l::R).map (fun x=>x.1)):=by
   rw [BH,BL]
   exact(((List.Perm.swap _ _ _)).append_left _).trans List.perm_middle
  dsimp only
  rw [y1v q2 q3]
  refine⟨fun u=>?_,?_,fun m hm=>?_,?_⟩
  ·rw [e,p.mem_iff,AR,mem,e3,BJ,AL,Or.comm]
  ·rw [e,p.nodup_iff,DH]
   exact⟨fun hm=>e4 ((mem _).mp hm),nd⟩
  ·rcases BJ.mp hm with hm | hm
   ·exact up (lead m (CN _ hm))
   ·rcases AR.mp hm with hm | hm
    ·rw [hm];exact up (lead l (BR _ AC))
    ·rcases AR.mp hm with hm | hm
     ·rw [hm];exact(lead l (BR _ AC)).add (O.pc _ e2)
     ·obtain⟨m',hm',rfl⟩:=AX.mp hm
      exact up (lead m' (BR _ (AD _ hm')))
  ·rw [<- len,AE,AE,BD,BD,BD,AJ];rfl
theorem q3z{order:List Nat}{N B:List (List Nat)}(pc:Nat->Str)(S:List Pg)(k:Nat)(h:∀ u,u∈order->(nb N (order.getD k 0)).contains u=(nb B (order.getD k 0)).contains u):z5k order N pc S k=z5k order B pc S k:=by
 have e:abv order N k=abv order B k:=CQ fun u hu=>h u (List.mem_of_mem_take hu)
 unfold z5k
 rw [e]
noncomputable abbrev y7c(order:List Nat)(N:List (List Nat))(pc:Nat->Str)(k:Nat):List Pg:=(List.range k).foldl (z5k order N pc) []
theorem y8p(order:List Nat)(N:List (List Nat))(pc:Nat->Str)(k:Nat):y7c order N pc (k+1)=z5k order N pc (y7c order N pc k) k:=by
 unfold y7c
 rw [List.range_succ,DN];rfl
theorem q9m(order:List Nat):y3u order 0 []:=⟨fun u=>Iff.rfl,CX,fun l hl=>absurd hl BB,rfl⟩
noncomputable def lnP(b:Nat)(l:Pg):Str×Str:=(dr l.2.2.1 (wk (b+l.1)),l.2.1)
theorem y2u{V:Type}(l:V)(R:List V):∀ A:List V,(A++l::R).drop (A.length+1)=R
 | []=>rfl
 | _::A=>y2u l R A
theorem q4a{V:Type}(l:V)(R:List V):∀ A:List V,(A++l::R)[A.length]?=some l
 | []=>rfl
 | _::A=>q4a l R A
theorem k1w{b v:Nat}(hb:b<28){l:Pg}(h:l.1<5)(hv:v<5){x:Str}(hx:Txt.lower x=Txt.lower (wk (b+v))):(Txt.lower (lnP b l).1==Txt.lower x)=(l.1==v):=by
 have w:=z6m (b32 hb h)
 rw [hx,show Txt.lower (lnP b l).1=Txt.lower (wk (b+l.1)) from y8a w,BN,BE,BE]
 exact⟨fun e=>EC (y2n (b32 hb h) (b32 hb hv) e),fun e=>by rw [e]⟩
theorem k9b{b v:Nat}(hb:b<28)(hv:v<5){x:Str}(hx:Txt.lower x=Txt.lower (wk (b+v))):∀ {S:List Pg},(∀ l,l∈S->l.1<5)->j2p (S.map (lnP b)) x=(S.filter fun l=>!(l.1==v)).map (lnP b)
 | [],_=>rfl
 | l::S,h=>by
  have ih:=k9b hb hv hx (S:=S) fun m hm=>h m (AD _ hm)
  have e:=k1w hb (h l AC) hv hx
  unfold j2p at ih ⊢
  rw [BL,FG,FG,e,ih]
  induction l.1==v using Bool.casesOn<;>rfl
theorem k1x{b:Nat}(hb:b<28){l:Pg}{R:List Pg}(hv:l.1<5){x:Str}(hx:Txt.lower x=Txt.lower (wk (b+l.1))):∀ {A:List Pg},(∀ m,m∈A->m.1<5/\m.1≠l.1)->q5z ((A++l::R).map (lnP b)) x=some l.2.1
 | [],_=>by
  have e:=k1w hb hv hv hx
  unfold q5z
  rw [List.nil_append,BL,ED,e,DC];rfl
 | m::A,h=>by
  have ih:=k1x hb hv hx (R:=R) (A:=A) fun y hy=>h y (AD _ hy)
  have e:=k1w hb (h m AC).1 hv hx
  unfold q5z at ih ⊢
  rw [List.cons_append,BL,ED,e,ES (h m AC).2]
  exact ih
theorem z8x{S:List Pg}{v:Nat}(h:∀ m,m∈S->m.1≠v):(S.filter fun l=>!(l.1==v))=S:=FC.mpr fun m hm=>by rw [ES (h m hm)];rfl
noncomputable abbrev j8s(H:z0b)(hs:HL):z0b:=H++[.att [(30,.ref (H.length+1))],.lst (hs.map z4o)]
theorem x7a(H:z0b)(hs:HL):At (j8s H hs) H.length (H.length+1) hs:=
 ⟨by rw [CV (AM _),Nat.sub_self];rfl,by rw [CV (BG H.length 1),DB];rfl⟩
theorem k1y(H:z0b)(hs hs':HL):(j8s H hs).set (H.length+1) (.lst (hs'.map z4o))=j8s H hs':=by
 rw [List.set_append_right _ _ (BG H.length 1),DB]
 rfl
noncomputable abbrev z8d(H:z0b)(b:Nat)(S:List Pg):z0b:=j8s H (S.map (lnP b))
section
variable {lv n b:Nat} {L:Lim} {H:z0b} {Y:z0n} {N:List (List Nat)} {order:List Nat} {pc:Nat->Str}
theorem w1v{S:List Pg}(hb:b<28)(h5:∀ l,l∈S->l.1<5)(hn:S.length<=100):HAt (z8d H b S) H.length (H.length+1) (S.map (lnP b)):=⟨(x7a H _).a,(x7a H _).l,by rw [AJ];exact AA hn (by decide),fun x hx=>by
 obtain⟨l,hl,rfl⟩:=AX.mp hx
 exact AA (y8b (z6m (b32 hb (h5 l hl)))) (by decide)⟩
theorem q4b{i j:Nat}{hs:HL}{o e:ME}{x v:Str}(A0:HAt H i j hs)(ho:(sem mp2 (z0f mp2 (lv+3)) n).ev Y o L H=some (.inst 1 i,H))(he:(sem mp2 (z0f mp2 (lv+3)) n).ev Y e L H=some (.str x,H))(hx:x.length<=100000)(hl:okPat true (Txt.lower x)=true)(hg:q5z hs x=some v) :
  (sem mp2 (z0f mp2 (lv+3)) (n+1)).ev Y (.idx o e) L H=some (.str v,H):=z0c ho (z0c he (z9g k7l ((j7x lv A0 hx hl).trans (by rw [hg];rfl))))
theorem k1z{S:List Pg}{x:Str}{l:Pg}(hb:b<28)(h5:∀ m,m∈S->m.1<5)(hn:S.length<=100)(hL:L.b<=H.length)(hv:l.1<5)(hx:x=dr l.2.2.1 (wk (b+l.1)))(hp:okPat false l.2.1=true) :
  z0f mp2 (lv+3) 9 [.inst 1 H.length,.str x,.str l.2.1] [] L (z8d H b S)=some (.none,z8d H b ((S.filter fun m=>!(m.1==l.1))++[l])):=by
 have w:=z6m (b32 hb hv)
 have lo:Txt.lower x=Txt.lower (wk (b+l.1)):=hx▸y8a w
 have h:=k8m (L:=L) lv (x:=x) (v:=l.2.1) (w1v hb h5 hn) (AA (hx▸y8b w) (by decide)) (lo▸w.okl) (hx▸w3l w) hp (CF hL)
 unfold k8l at h
 rw [k9b hb hv lo h5,k1y,hx] at h
 rw [hx]
 exact h.trans (AT (fun z=>some (PV.none,j8s H z)) (BH (l₁:=S.filter fun m=>!(m.1==l.1)) (l₂:=[l]) (f:=lnP b)).symm)
theorem j8t(hb:b<28)(hL:L.b<=H.length):∀ (R A T:List Pg) (Y:z0n),(∀ m,m∈A++R++T->m.1<5/\z2s m.2.1 100)->(A++R++T).length<=100->(∀ l,l∈R->(∀ m,m∈A->m.1≠l.1)/\∀ m,m∈T->m.1≠l.1)->R.Pairwise (fun l m=>m.1≠l.1)->Y 90=some (.inst 1 H.length) ->
  ∃ Y',z3i (sem mp2 (z0f mp2 (lv+3)) (n+4)).ex (.one 34) [.setIdx (.var 90) (.prim .upper [.var 34]) (.idx (.var 90) (.var 34))] [] Y (R.map fun l=>.str (lnP b l).1) L (z8d H b (A++R++T))=some (.next Y',z8d H b (A++T++R.map gr))/\∀ j,j≠34->Y' j=Y j
 | [],A,T,Y,_,_,_,_,h90=>⟨Y,by rw [List.map_nil,CA,List.map_nil,CA];rfl,fun _ _=>rfl⟩
 | l::R,A,T,Y,h5,hn,hd,hp,h90=>by
  obtain⟨d1,d2⟩:=hd l AC
  obtain⟨p1,p2⟩:=List.pairwise_cons.mp hp
  obtain⟨l5,ll⟩:=h5 l (CN _ (BR _ AC))
  have w:=z6m (b32 hb l5)
  have eS:A++l::R++T=A++l::(R++T):=by rw [AY];rfl
  have A0:=w1v (H:=H) hb (fun m hm=>(h5 m hm).1) hn
  have hs:=k1z (lv:=lv) (l:=gr l) (x:=Txt.upper (lnP b l).1) (L:=L) (S:=A++l::R++T) hb (fun m hm=>(h5 m hm).1) hn hL l5 (w3u (y2q (b32 hb l5)).1 _) (ll.pat (AM _))
  have ef:((A++l::R++T).filter fun m:Pg=>!(m.1==l.1))++[gr l]=A++R++(T++[gr l]):=by
   rw [eS,List.filter_append,z8x d1,FG,DC l.1]
   show A++(R++T).filter (fun m:Pg=>!(m.1==l.1))++[gr l]=_
   rw [List.filter_append,z8x p1,z8x d2,AY,AY,AY]
  have hs':=hs.trans (AT (fun z=>some (PV.none,z8d H b z)) ef)
  obtain⟨Y',q,r⟩:=j8t hb hL R A (T++[gr l]) (upd Y 34 (.str (lnP b l).1)) (fun m hm=>by
   rw [<- AY] at hm
   rcases BJ.mp hm with hm | hm
   ·refine h5 m (eS▸?_)
    rcases BJ.mp hm with hm | hm
    ·rcases BJ.mp hm with hm | hm
     ·exact CN _ hm
     ·exact BR _ (AD _ (CN _ hm))
    ·exact BR _ (AD _ (BR _ hm))
   ·rw [AL.mp hm];exact⟨l5,ll⟩) (by
   refine AA (CM ?_) hn
   rw [eS]
   simp only [AE,BD,List.length_nil,Nat.add_assoc,DX]) (fun m hm=>⟨(hd m (AD _ hm)).1,fun x hx=>by
    rcases BJ.mp hx with hx | hx
    ·exact(hd m (AD _ hm)).2 x hx
    ·rw [AL.mp hx];exact Ne.symm (p1 m hm)⟩) p2 h90
  have hg:q5z ((A++l::R++T).map (lnP b)) (lnP b l).1=some l.2.1:=by
   rw [eS]
   exact k1x hb l5 (y8a w) fun m hm=>⟨(h5 m (CN _ (CN _ hm))).1,d1 m hm⟩
  have hx:(lnP b l).1.length<=100000:=AA (y8b w) (by decide)
  have st:exs (sem mp2 (z0f mp2 (lv+3)) (n+4)).ex (upd Y 34 (.str (lnP b l).1)) [.setIdx (.var 90) (.prim .upper [.var 34]) (.idx (.var 90) (.var 34))] L (z8d H b (A++l::R++T))=some (.next (upd Y 34 (.str (lnP b l).1)),z8d H b (A++R++(T++[gr l]))):=
   y1u (q4b A0 (z0a h90) (z0a rfl) hx ((y8a w (g:=l.2.2.1))▸w.okl) hg) (z0a h90) (w7w (z0a rfl) hx) q8k hs' rfl
  have eT:A++(T++[gr l])++R.map gr=A++T++gr l::R.map gr:=by
   rw [<- AY A T,AY (A++T)];rfl
  exact⟨Y',(z1z rfl st).trans (q.trans (AT (fun z=>some (Fl.next Y',z8d H b z)) eT)),fun j hj=>(r j hj).trans (AS hj)⟩
end
theorem x4l{P:MP}{C:z0h}{l:List PV}{v:PV}(h:l.getLast?=some v)(L:Lim)(H:z0b):j9v P C (.lst l) (.int (-1)) L H=some (v,H):=by
 rw [List.getLast?_eq_getElem?] at h
 have hl:=(AU.mp h).1
 have e:z7a l.length (-1)=some (l.length - 1):=by
  unfold z7a
  rw [AS (by decide),AQ (by lia)]
  congr 1;lia
 exact z1j (L:=L) (show((z7a l.length (-1)).bind fun j=>l[j]?)=some v by rw [e];exact h)
theorem q9n{V:Type}{f:V->PyData}{l:V}{R:List V}(hl:PyData.eqv (f l) (f l)=true):∀ {A:List V},(∀ m,m∈A->PyData.eqv (f m) (f l)=false)->z8f (f l) ((A++l::R).map f)=some A.length
 | [],_=>(q9b _ _ _).trans (AQ hl)
 | m::A,h=>by
  exact(q9b _ _ _).trans ((AS (ET.mp (h m AC))).trans (AT (Option.map (·+1)) (q9n hl fun x hx=>h x (AD _ hx))))
theorem y6n{P:MP}{H:z0b}{V:Type}[DecidableEq V]{g:V->PV}{f:V->PyData}{l:V}{A R:List V}(hd:∀ m,m∈A++l::R->z1n (g m)=some (f m))(h0:(f l).depth=0)(hl:PyData.eqv (f l) (f l)=true)(h:∀ m,m∈A->PyData.eqv (f m) (f l)=false):z4z P .index H [.lst ((A++l::R).map g),g l]=some (.int ((A.length:Nat):Int)):=by
 have hds:z0p ((A++l::R).map g)=some ((A++l::R).map f):=z7q (A6:=fun m=>z1n (g m)=some (f m)) (fun a ha=>ha) _ hd
 show((z0p ((A++l::R).map g)).bind fun ds=>(z1n (g l)).bind fun d=>if d.depth=0 then(z8f d ds).map fun(n:Nat)=>PV.int (n:Int) else none)=_
 rw [hds,hd l (BR _ AC)]
 show(if(f l).depth=0 then(z8f (f l) ((A++l::R).map f)).map (fun(n:Nat)=>PV.int (n:Int)) else none)=_
 rw [AQ h0,q9n hl h];rfl
theorem y3o{V:Type}:∀ {l:List V},l.isEmpty=l.getLast?.isNone
 | []=>rfl
 | a::l=>by rw [List.getLast?_eq_some_getLast (DS a l)];rfl
section
variable {C:z0h} {P:MP} {lv n b:Nat} {L:Lim} {H:z0b} {Y:z0n} {N:List (List Nat)} {order:List Nat} {pc:Nat->Str}
theorem x7b{k a:Nat}{l:List Nat}(h:l.getLast?=some a)(hk:Y k=some (.lst (z1a l))):(sem P C (n+3)).ev Y (.idx (.var k) (.neg (.int 1))) L H=some (.int (a:Int),H):=
 z0c (z0a hk) (z0c (a:=.int (-1)) (Hb:=H) rfl (x4l (by rw [List.getLast?_map,h];rfl) L H))
noncomputable abbrev j8u(pc:Nat->Str):List PV:=(List.range 5).map fun v=>.str (pc v)
theorem k2a(pc:Nat->Str){v:Nat}(hv:v<5):(j8u pc)[v]?=some (.str (pc v)):=by rw [BC,EB hv];rfl
theorem q0o{l:List Nat}{k v:Nat}(h:l[k]?=some v):(z1a l)[k]?=some (.int (v:Int)):=by rw [BC,h];rfl
theorem k9c{g:ME}{k:Nat}(R:z4e N)(O:y2t order pc)(hk:k<5)(h57:Y 57=some (z1b N))(h124:Y 124=some (.lst (z1a order)))(h31:Y 31=some (.int (k:Int)))(hg:∀ u:Nat,(sem P C (n+2)).ev (upd Y 58 (.int (u:Int))) g L H=some (.int (order.getD k 0:Int),H)) :
  (sem P C (n+6)).ev Y (.comp (.var 58) [(.one 58,.over,[.slice (.var 124) none (some (.var 31))],[.cmp .in_ (.var 58) (.idx (.var 57) g)])]) L H=some (.lst (z1a (abv order N k)),H):=
 z0i (z1y (xs:=order.take k) (enc:=fun(u:Nat)=>PV.int (u:Int)) (up:=false) (test:=fun u=>(nb N (order.getD k 0)).contains u) (out:=fun u=>PV.int (u:Int))
  (z1q (z1l (z6u (z0a h124) (z0a h31) (by rw [z9i H _ (AA (BO hk) (by decide)),j7n]))) rfl) (AA (FD _ _) (AA (BO hk) (by decide)))
  (fun u hu=>z3e (z4f rfl (z0l (z0a rfl) (z0t (z0a h57) (hg u) (R.row (O.at hk).2.1)) (y1o _ _ _ _)) rfl)) fun u hu _=>z0a rfl)
structure PgE(b:Nat)(order:List Nat)(N:List (List Nat))(pc:Nat->Str)(i:Nat)(Y:z0n):Prop where
 e124:Y 124=some (.lst (z1a order))
 e57:Y 57=some (z1b N)
 e55:Y 55=some (.lst ((W b).map .str))
 e125:Y 125=some (.lst (j8u pc))
 e90:Y 90=some (.inst 1 i)
theorem q6w(S:List Pg):((S.map (lnP b)).map (·.1)).map PV.str=S.map fun l=>.str (lnP b l).1:=by rw [AW,AW];rfl
theorem w4f{A R:List Pg}{l:Pg}(nd:((A++l::R).map (fun x:Pg=>x.1)).Nodup):(∀ m,m∈A->m.1≠l.1)/\(∀ m,m∈R->m.1≠l.1)/\(∀ m,m∈R->∀ x,x∈A->x.1≠m.1)/\R.Pairwise (fun l m=>m.1≠l.1):=by
 rw [BH,BL,DF,DH] at nd
 obtain⟨n1,⟨n2,n3⟩,n4⟩:=nd
 exact⟨fun m hm=>n4 _ (CT hm) _ AC,fun m hm e=>n2 (e▸CT (f:=fun x:Pg=>x.1) hm),fun m hm x hx=>n4 _ (CT hx) _ (AD _ (CT hm)),(List.pairwise_map.mp n3).imp Ne.symm⟩
theorem j8v{S:List Pg}{k:Nat}(hb:b<28)(hL:L.b<=H.length)(R:z4e N)(O:y2t order pc)(hk:k<5)(I:y3u order k S)(E:PgE b order N pc H.length Y)(h31:Y 31=some (.int (k:Int))) :
  ∃ Y',exs (sem mp2 (z0f mp2 (lv+3)) 39).ex Y (z8b (st x2f 1)) L (z8d H b S)=some (.next Y',z8d H b (z5k order N pc S k))/\PgE b order N pc H.length Y':=by
 obtain⟨e124,e57,e55,e125,e90⟩:=E
 obtain⟨o1,o2,o3,o4⟩:=O.at hk
 have h5:=I.lt O
 have hn:S.length<=5:=I.len▸BO hk
 have hn':S.length<=100:=AA hn (by decide)
 have w:=z6m (b32 hb o2)
 have wl:=AA w.len (by decide:100<=100000)
 have A0:=w1v (H:=H) hb h5 hn'
 have eo:∀ {m:Nat} {Y':z0n},Y' 124=Y 124->Y' 31=Y 31->(sem mp2 (z0f mp2 (lv+3)) (m+2)).ev Y' (.idx (.var 124) (.var 31)) L (z8d H b S)=some (.int ((order.getD k 0:Nat):Int),z8d H b S):=fun a c=>z0t (z0a (a.trans e124)) (z0a (c.trans h31)) (q0o o1)
 have s1:=k9c (P:=mp2) (C:=z0f mp2 (lv+3)) (n:=32) (Y:=Y) (L:=L) (H:=z8d H b S) (g:=.idx (.var 124) (.var 31)) R O hk e57 e124 h31 fun u=>eo rfl rfl
 have s2:(sem mp2 (z0f mp2 (lv+3)) 38).ev (upd Y 126 (.lst (z1a (abv order N k)))) (.tup [.prim .lower [.idx (.var 55) (.idx (.var 124) (.var 31))],.idx (.var 125) (.idx (.var 124) (.var 31)),.pure (.meth 102 (.var 90) [])]) L (z8d H b S)=some (.tup [.str (Txt.lower (wk (b+order.getD k 0))),.str (pc (order.getD k 0)),.lst (S.map fun l=>.str (lnP b l).1)],z8d H b S):=
  z1r (z5j (k3d (z0t (z0a e55) (eo (m:=33) rfl rfl) (q6g o2)) wl) (z2j (z0t (z0a e125) (eo (m:=34) rfl rfl) (k2a pc o2)) ((j8m (lv:=lv+2) (n:=34) (L:=L) (k:=90) A0 e90).trans (by rw [q6w]))))
 have hpc:=O.pc _ o2
 have hv:∀ m,m∈S->m.1≠order.getD k 0:=fun m hm e=>o4 ((I.mem _).mp (e▸CT (f:=fun x:Pg=>x.1) hm))
 let Y2:=upd (upd (upd (upd Y 126 (.lst (z1a (abv order N k)))) 47 (.str (Txt.lower (wk (b+order.getD k 0))))) 127 (.str (pc (order.getD k 0)))) 27 (.lst (S.map fun l=>.str (lnP b l).1))
 have tt:(sem mp2 (z0f mp2 (lv+3)) 38).ts Y2 (.cmp .eq (.var 126) (.lst [])) L (z8d H b S)=some ((abv order N k).getLast?.isNone,z8d H b S):=by
  rw [<- y3o]
  exact z4f rfl (z0l (z0a rfl) (z1s z5p) (y2s _ _ _ _ _)) rfl
 unfold z5k
 induction h:(abv order N k).getLast? using Option.casesOn with
 | none=>
  rw [h] at tt
  have hs:=k1z (lv:=lv) (L:=L) (H:=H) (S:=S) (l:=(order.getD k 0,pc (order.getD k 0),false,[])) hb h5 hn' hL o2 rfl (hpc.pat (by decide))
  rw [z8x hv] at hs
  exact⟨Y2,z0d s1 (y4q s2 rfl (j9x tt (y1u (z0a rfl) (z0a e90) (z0a rfl) q8k hs rfl) rfl)),e124,e57,e55,e125,e90⟩
 | some a=>
  rw [h] at tt
  obtain⟨A,l,T,q1,q2,q3⟩:=q0n ((I.mem a).mpr (q6v h))
  obtain⟨mem,nd,lead,len⟩:=I
  subst q1
  obtain⟨n1,n2,n3,n4⟩:=w4f nd
  have l5:=h5 l (BR _ AC)
  have ll:=lead l (BR _ AC)
  have wa:=z6m (b32 hb l5)
  have wal:=AA wa.len (by decide:100<=100000)
  have a5:a<5:=q2▸l5
  let Y3:=upd Y2 128 (.str (wk (b+a)))
  let Y4:=upd Y3 129 (.int ((A.length:Nat):Int))
  have t1:(sem mp2 (z0f mp2 (lv+3)) 37).ev Y2 (.idx (.var 55) (.idx (.var 126) (.neg (.int 1)))) L (z8d H b (A++l::T))=some (.str (wk (b+a)),z8d H b (A++l::T)):=z0t (z0a e55) (x7b h rfl) (q6g a5)
  have t2:(sem mp2 (z0f mp2 (lv+3)) 37).ev Y3 (.prim .index [.comp (.prim .lower [.var 34]) [(.one 34,.over,[.var 27],[])],.prim .lower [.var 128]]) L (z8d H b (A++l::T))=some (.int ((A.length:Nat):Int),z8d H b (A++l::T)):=by
   have low:∀ m,m∈A++l::T->Txt.lower (lnP b m).1=Txt.lower (wk (b+m.1)):=fun m hm=>y8a (z6m (b32 hb (h5 m hm)))
   have c:=z0i (n:=35) (z1y (S:=sem mp2 (z0f mp2 (lv+3)) 35) (elt:=.prim .lower [.var 34]) (Y:=Y3) (v:=34) (k:=.over) (args:=[.var 27]) (ifs:=[]) (L:=L) (H:=z8d H b (A++l::T)) (xs:=A++l::T) (enc:=fun l=>.str (lnP b l).1) (up:=false) (test:=fun _=>true) (out:=fun m=>.str (Txt.lower (wk (b+m.1)))) (z2c rfl) (AA hn (by decide)) (fun _ _=>rfl)
    fun m hm _=>(k3d (z0a rfl) (AA (y8b (z6m (b32 hb (h5 m hm)))) (by decide))).trans (AT (fun z=>some (PV.str z,z8d H b (A++l::T))) (low m hm)))
   rw [z0k] at c
   have lo:(sem mp2 (z0f mp2 (lv+3)) 36).ev Y3 (.prim .lower [.var 128]) L (z8d H b (A++l::T))=some (.str (Txt.lower (wk (b+l.1))),z8d H b (A++l::T)):=(k3d (z0a rfl) (q2▸wal)).trans (by rw [q2])
   exact z0u (z2j c lo) (y6n (g:=fun m:Pg=>PV.str (Txt.lower (wk (b+m.1)))) (f:=fun m=>.str (Txt.lower (wk (b+m.1)))) (fun m hm=>y8l (z6m (b32 hb (h5 m hm))).sokl) rfl (DC (Txt.lower (wk (b+l.1)))) fun m hm=>ES fun e=>n1 m hm (EC (y2n (b32 hb (h5 m (CN _ hm))) (b32 hb l5) e)))
  have hg:=k1x (x:=wk (b+l.1)) (R:=T) hb l5 rfl (A:=A) fun m hm=>⟨h5 m (CN _ hm),n1 m hm⟩
  have t3:(sem mp2 (z0f mp2 (lv+3)) 37).ev Y4 (.bin .add (.idx (.var 90) (.var 128)) (.var 127)) L (z8d H b (A++l::T))=some (.str (l.2.1++pc (order.getD k 0)),z8d H b (A++l::T)):=
   z0g (q4b A0 (z0a e90) (z0a (v:=.str (wk (b+l.1))) (by rw [q2];rfl)) wal wa.okl hg) (z0a rfl) (add_str _ (AA (BK ll.len hpc.len) (AA (BK (CI (AM 2) (BO hk)) (AM 2)) (by decide))))
  have hln:=ll.add hpc
  have hs:=k1z (lv:=lv) (L:=L) (H:=H) (S:=A++l::T) (l:=z2z pc (order.getD k 0) l) hb h5 hn' hL o2 rfl (hln.pat (AA (BK (CI (AM 2) (BO hk)) (AM 2)) (by decide)))
  have ef:((A++l::T).filter fun m:Pg=>!(m.1==(z2z pc (order.getD k 0) l).1))++[z2z pc (order.getD k 0) l]=(A++[l])++T++[z2z pc (order.getD k 0) l]:=by
   rw [show((A++l::T).filter fun m:Pg=>!(m.1==(z2z pc (order.getD k 0) l).1))=A++l::T from z8x hv,AY A [l]];rfl
  have hs':=hs.trans (AT (fun z=>some (PV.none,z8d H b z)) ef)
  have mem':∀ m,m∈(A++[l])++T++[z2z pc (order.getD k 0) l]->m.1<5/\z2s m.2.1 100:=fun m hm=>by
   rw [AY A [l]] at hm
   rcases BJ.mp hm with hm | hm
   ·exact⟨h5 m hm,(lead m hm).mono (AA (CI (AM 2) (BO hk)) (by decide))⟩
   ·rw [AL.mp hm];exact⟨o2,hln.mono (AA (BK (CI (AM 2) (BO hk)) (AM 2)) (by decide))⟩
  obtain⟨Y',g,r⟩:=j8t (lv:=lv) (n:=33) hb hL T (A++[l]) [z2z pc (order.getD k 0) l] Y4 mem' (by
    rw [AY A [l],AE]
    exact AA (CD hn 1) (by decide)) (fun m hm=>⟨fun x hx=>by
    rcases BJ.mp hx with hx | hx
    ·exact n3 m hm x hx
    ·rw [AL.mp hx];exact Ne.symm (n2 m hm),fun x hx=>by
    rw [AL.mp hx];exact Ne.symm (hv m (BR _ (AD _ hm)))⟩) n4 e90
  have sr:z8z (sem mp2 (z0f mp2 (lv+3)) 37) Y4 .over [.slice (.var 27) (some (.bin .add (.var 129) (.int 1))) none] L (z8d H b ((A++[l])++T++[z2z pc (order.getD k 0) l]))=some ((T.map fun l=>.str (lnP b l).1,false),z8d H b ((A++[l])++T++[z2z pc (order.getD k 0) l])):=by
   refine z1q (z1l (y8f (z0a rfl) (z0g (z0a rfl) rfl (z2l _ A.length 1)) (y8e _ _ ?_))) ?_
   ·rw [AE] at hn
    exact AA (CK (AA (BG _ _) hn)) (by decide)
   ·have hd:=y2u (PV.str (lnP b l).1) (T.map fun l=>PV.str (lnP b l).1) (A.map fun l=>PV.str (lnP b l).1)
    rw [AJ] at hd
    rw [BH,BL,hd];rfl
  have er:(A++[l])++[z2z pc (order.getD k 0) l]++T.map gr=ins a (z2z pc (order.getD k 0)) (A++l::T):=by
   rw [y1v q2 q3,AY,AY];rfl
  have g':=g.trans (AT (fun z=>some (Fl.next Y',z8d H b z)) er)
  exact⟨Y',z0d s1 (y4q s2 rfl (j9x tt (z0d t1 (z0d t2 (y1u t3 (z0a e90) (z0a rfl) q8k hs' (y2i sr g' rfl)))) rfl)),
   (r 124 (by decide)).trans e124,(r 57 (by decide)).trans e57,(r 55 (by decide)).trans e55,(r 125 (by decide)).trans e125,(r 90 (by decide)).trans e90⟩
theorem q4c(hb:b<28)(hL:L.b<=H.length)(R:z4e N)(O:y2t order pc):∀ (m k:Nat) (S:List Pg) (Y:z0n),k+m=5->y3u order k S->PgE b order N pc H.length Y ->
  ∃ Y',z3i (sem mp2 (z0f mp2 (lv+3)) 39).ex (.one 31) (z8b (st x2f 1)) [] Y (z1a (List.range' k m)) L (z8d H b S)=some (.next Y',z8d H b ((List.range' k m).foldl (z5k order N pc) S))/\Y' 90=some (.inst 1 H.length)
 | 0,k,S,Y,_,_,E=>⟨Y,rfl,E.e90⟩
 | m+1,k,S,Y,hk,I,E=>by
  have k5:k<5:=hk▸Nat.lt_add_of_pos_right (Nat.succ_pos m)
  obtain⟨Y1,a,c⟩:=j8v (lv:=lv) (Y:=upd Y 31 (.int (k:Int))) hb hL R O k5 I ⟨E.e124,E.e57,E.e55,E.e125,E.e90⟩ rfl
  obtain⟨Y',q,r⟩:=q4c hb hL R O m (k+1) _ Y1 (by rw [<- hk,BV];rfl) (I.step O k5 N) c
  exact⟨Y',(z1z rfl a).trans q,r⟩
theorem k9d(hb:b<28)(hL:L.b<=H.length)(hLa:L.ab<=H.length)(R:z4e N)(O:y2t order pc) :
  z0f mp2 (lv+4) 25 [.lst (z1a order),z1b N,.lst ((W b).map .str),.lst (j8u pc)] [] L H=some (.inst 1 H.length,z8d H b (y7c order N pc 5)):=by
 obtain⟨Y',q,r⟩:=q4c (lv:=lv) (L:=L) hb hL R O 5 0 [] (upd (w7i 124 (.lst (z1a order)) 57 (z1b N) 55 (.lst ((W b).map .str)) 125 (.lst (j8u pc))) 90 (.inst 1 H.length)) rfl (q9m order) ⟨rfl,rfl,rfl,rfl,rfl⟩
 exact z0x (Y:=w7i 124 (.lst (z1a order)) 57 (z1b N) 55 (.lst ((W b).map .str)) 125 (.lst (j8u pc))) k7d rfl (z0d (q0c j6n z5p (j6x (lv+1) hLa)) (y2i (up:=false) rfl q (z4r (z0a r))))
end
noncomputable def z6n(l:Pg):PV:=.tup [.int (l.1:Int),.str l.2.1,.bool l.2.2.1,.lst (z1a l.2.2.2)]
section
variable {C:z0h} {lv n:Nat} {L:Lim} {H:z0b} {Y:z0n} {N:List (List Nat)} {order:List Nat} {pc:Nat->Str}
structure LnE(order:List Nat)(N:List (List Nat))(pc:Nat->Str)(S:List Pg)(Y:z0n):Prop where
 e124:Y 124=some (.lst (z1a order))
 e57:Y 57=some (z1b N)
 e125:Y 125=some (.lst (j8u pc))
 e59:Y 59=some (.lst (S.map z6n))
theorem j8w{k j:Nat}{l:Pg}{v:PV}(hk:Y k=some (z6n l))(hv:[PV.int (l.1:Int),.str l.2.1,.bool l.2.2.1,.lst (z1a l.2.2.2)][j]?=some v):(sem mp2 C (n+2)).ev Y (.idx (.var k) (.int (j:Int))) L H=some (v,H):=z8s (z0a hk) rfl hv
noncomputable abbrev x4m(k:Nat)(S:List Pg):Prop:=∀ l,l∈S->l.2.2.2.length<=k
theorem x4m.step{k:Nat}{S:List Pg}(h:x4m k S):x4m (k+1) (z5k order N pc S k):=fun m hm=>by
 unfold z5k at hm
 induction e:(abv order N k).getLast? using Option.casesOn with
 | none=>
  rw [e] at hm
  rcases BJ.mp hm with hm | hm
  ·exact CF (h m hm)
  ·rw [AL.mp hm];exact BM _
 | some a=>
  rw [e] at hm
  have key:∀ S,x4m k S->x4m (k+1) (ins a (z2z pc (order.getD k 0)) S):=fun S=>by
   induction S with
   | nil=>exact fun _ m hm=>absurd hm BB
   | cons l S ih=>
    intro h m hm
    unfold ins at hm
    by_cases el:l.1=a
    ·rw [AQ el] at hm
     rcases AR.mp hm with hm | hm
     ·rw [hm];exact CF (h l AC)
     ·rcases AR.mp hm with hm | hm
      ·rw [hm]
       show(l.2.2.2++[l.1]).length<=_
       rw [AE];exact CK (h l AC)
      ·obtain⟨m',hm',rfl⟩:=AX.mp hm
       exact CF (h m' (AD _ hm'))
    ·rw [AS el] at hm
     rcases AR.mp hm with hm | hm
     ·rw [hm];exact CF (h l AC)
     ·exact ih (fun x hx=>h x (AD _ hx)) m hm
  exact key S h m hm
theorem j2g{S:List Pg}{k:Nat}(R:z4e N)(O:y2t order pc)(hk:k<5)(I:y3u order k S)(A6:x4m k S)(E:LnE order N pc S Y)(h31:Y 31=some (.int (k:Int))) :
  ∃ Y',exs (sem mp2 C 39).ex Y (z8b (st x2g 1)) L H=some (.next Y',H)/\LnE order N pc (z5k order N pc S k) Y':=by
 obtain⟨e124,e57,e125,e59⟩:=E
 obtain⟨o1,o2,o3,o4⟩:=O.at hk
 have hn:S.length<=5:=I.len▸BO hk
 have s0:(sem mp2 C 38).ev Y (.idx (.var 124) (.var 31)) L H=some (.int ((order.getD k 0:Nat):Int),H):=z0t (z0a e124) (z0a h31) (q0o o1)
 have s1:=k9c (P:=mp2) (C:=C) (n:=32) (Y:=upd Y 32 (.int ((order.getD k 0:Nat):Int))) (L:=L) (H:=H) (g:=.var 32) R O hk e57 e124 h31 fun u=>z0a rfl
 have hpc:=O.pc _ o2
 let Y2:=upd (upd Y 32 (.int ((order.getD k 0:Nat):Int))) 126 (.lst (z1a (abv order N k)))
 have tt:(sem mp2 C 38).ts Y2 (.cmp .eq (.var 126) (.lst [])) L H=some ((abv order N k).getLast?.isNone,H):=by
  rw [<- y3o]
  exact z4f rfl (z0l (z0a rfl) (z1s z5p) (y2s _ _ _ _ _)) rfl
 unfold z5k
 induction h:(abv order N k).getLast? using Option.casesOn with
 | none=>
  rw [h] at tt
  refine⟨upd Y2 59 (.lst ((S++[(order.getD k 0,pc (order.getD k 0),false,[])]).map z6n)),z0d s0 (z0d s1 (j9x tt (z0d (z0g (z0a e59) (z1s (z1l (z1r (z5j (z0a rfl) (z5j (z0t (z0a e125) (z0a rfl) (k2a pc o2)) (z2j rfl (z1s z5p))))))) (z7r H _ _ ?_)) ?_) rfl)),e124,e57,e125,rfl⟩
  ·rw [AE,AJ];exact AA (CD hn 1) (by decide)
  ·rw [BH];rfl
 | some a=>
  rw [h] at tt
  obtain⟨A,l,T,q1,q2,q3⟩:=q0n ((I.mem a).mpr (q6v h))
  obtain⟨mem,nd,lead,len⟩:=I
  subst q1
  have hl:=BR A (AC (a:=l) (l:=T))
  have ll:=lead l hl
  let Y3:=upd Y2 129 (.int ((A.length:Nat):Int))
  let Y4:=upd Y3 128 (z6n l)
  let Y5:=upd Y4 130 (.lst ((T.map gr).map z6n))
  have t1:(sem mp2 C 37).ev Y2 (.prim .index [.comp (.idx (.var 60) (.int 0)) [(.one 60,.over,[.var 59],[])],.idx (.var 126) (.neg (.int 1))]) L H=some (.int ((A.length:Nat):Int),H):=by
   have c:=z0i (n:=35) (z1y (S:=sem mp2 C 35) (elt:=.idx (.var 60) (.int 0)) (Y:=Y2) (v:=60) (k:=.over) (args:=[.var 59]) (ifs:=[]) (L:=L) (H:=H) (xs:=A++l::T) (enc:=z6n) (up:=false) (test:=fun _=>true) (out:=fun m=>.int (m.1:Int)) (z2c e59) (AA hn (by decide)) (fun _ _=>rfl) fun m hm _=>j8w (j:=0) rfl rfl)
   rw [z0k] at c
   exact z0u (z2j c ((x7b h rfl).trans (by rw [<- q2]))) (y6n (g:=fun m:Pg=>PV.int (m.1:Int)) (f:=fun m=>.int (m.1:Int)) (fun _ _=>rfl) rfl (DC (l.1:Int)) fun m hm=>ES fun e=>q3 m hm (q2▸Int.ofNat.inj e))
  have eg:((A++l::T).map z6n)[A.length]?=some (z6n l):=by
   rw [BH,BL]
   have:=q4a (z6n l) (T.map z6n) (A.map z6n)
   rw [AJ] at this
   exact this
  have al:A.length+1<=5:=by
   refine AA ?_ hn
   rw [AE,BD]
   exact DQ (CK (BM _)) _
  have dr:((A++l::T).map z6n).drop (A.length+1)=T.map z6n:=by rw [<- List.map_drop,y2u]
  have tk:((A++l::T).map z6n).take (A.length+1)=(A++[l]).map z6n:=by
   rw [<- List.map_take,show A++l::T=(A++[l])++T by rw [AY];rfl,FH (by rw [AE];exact AM _),EF (by rw [AE];exact AM _)]
  have one:∀ {m:Nat} {Y':z0n},Y' 129=some (.int ((A.length:Nat):Int))->(sem mp2 C (m+2)).ev Y' (.bin .add (.var 129) (.int 1)) L H=some (.int ((A.length+1:Nat):Int),H):=fun e=>z0g (z0a e) rfl (z2l H A.length 1)
  have t3:(sem mp2 C 37).ev Y4 (.comp (.tup [.var 58,.var 131,.bool true,.var 132]) [(.tup [58,131,48,132],.over,[.slice (.var 59) (some (.bin .add (.var 129) (.int 1))) none],[])]) L H=some (.lst ((T.map gr).map z6n),H):=by
   have c:=z0i (n:=36) (z7m (S:=sem mp2 C 36) (elt:=.tup [.var 58,.var 131,.bool true,.var 132]) (Y:=Y4) (pat:=.tup [58,131,48,132]) (k:=.over) (args:=[.slice (.var 59) (some (.bin .add (.var 129) (.int 1))) none]) (ifs:=[]) (L:=L) (H:=H) (up:=false) (xs:=T) (enc:=z6n) (out:=fun m=>z6n (gr m)) (test:=fun _=>true)
    (env:=fun m=>upd (upd (upd (upd (clear Y4 [58,131,48,132]) 58 (.int (m.1:Int))) 131 (.str m.2.1)) 48 (.bool m.2.2.1)) 132 (.lst (z1a m.2.2.2)))
    (z1q (z1l (y8f (z0a e59) (one rfl) (y8e _ _ (AA al (by decide))))) (by rw [dr];rfl)) (AA (by rw [AE,BD] at hn;exact AA (AA (GE _) (CP _ _)) hn) (by decide:5<=z2n)) (fun _ _=>rfl) (fun _ _=>rfl)
    fun m _ _=>z1r (z5j (z0a rfl) (z5j (z0a rfl) (z2j rfl (z0a rfl)))))
   rw [z0k] at c
   rw [AW];exact c
  have ins':(A++[l]).map z6n++[z6n (z2z pc (order.getD k 0) l)]++(T.map gr).map z6n=(ins a (z2z pc (order.getD k 0)) (A++l::T)).map z6n:=by
   rw [y1v q2 q3,BH,BH,AY,AY];rfl
  have lnT:(T.map gr).length<=5:=by
   rw [AJ]
   rw [AE,BD] at hn
   exact AA (AA (GE _) (CP _ _)) hn
  have t4:(sem mp2 C 37).ev Y5 (.bin .add (.bin .add (.slice (.var 59) none (some (.bin .add (.var 129) (.int 1)))) (.lst [.tup [.var 32,.bin .add (.idx (.var 128) (.int 1)) (.idx (.var 125) (.var 32)),.bool false,.bin .add (.idx (.var 128) (.int 3)) (.lst [.idx (.var 128) (.int 0)])]])) (.var 130)) L H=some (.lst ((ins a (z2z pc (order.getD k 0)) (A++l::T)).map z6n),H):=by
   have hnew:(sem mp2 C 34).ev Y5 (.tup [.var 32,.bin .add (.idx (.var 128) (.int 1)) (.idx (.var 125) (.var 32)),.bool false,.bin .add (.idx (.var 128) (.int 3)) (.lst [.idx (.var 128) (.int 0)])]) L H=some (z6n (z2z pc (order.getD k 0) l),H):=by
    have a1:(sem mp2 C 33).ev Y5 (.bin .add (.idx (.var 128) (.int 1)) (.idx (.var 125) (.var 32))) L H=some (.str (l.2.1++pc (order.getD k 0)),H):=z0g (j8w (j:=1) rfl rfl) (z0t (z0a e125) (z0a rfl) (k2a pc o2)) (add_str H (AA (BK ll.len hpc.len) (AA (BK (CI (AM 2) (BO hk)) (AM 2)) (by decide))))
    have a2:(sem mp2 C 33).ev Y5 (.bin .add (.idx (.var 128) (.int 3)) (.lst [.idx (.var 128) (.int 0)])) L H=some (.lst (z1a (l.2.2.2++[l.1])),H):=z0g (j8w (j:=3) rfl rfl) (z1s (z1l (j8w (j:=0) rfl rfl))) ((z7r H _ _ (by rw [AE,z2y];exact AA (CD (AA (A6 l hl) (BO hk)) 1) (by decide))).trans (by unfold z1a;rw [BH];rfl))
    exact z1r (z5j (z0a rfl) (z5j a1 (z2j rfl a2)))
   have h1:(sem mp2 C 36).ev Y5 (.bin .add (.slice (.var 59) none (some (.bin .add (.var 129) (.int 1)))) (.lst [.tup [.var 32,.bin .add (.idx (.var 128) (.int 1)) (.idx (.var 125) (.var 32)),.bool false,.bin .add (.idx (.var 128) (.int 3)) (.lst [.idx (.var 128) (.int 0)])]])) L H=some (.lst ((A++[l]).map z6n++[z6n (z2z pc (order.getD k 0) l)]),H):=
    z0g (z6u (z0a e59) (one rfl) ((z9i H _ (AA al (by decide))).trans (AT (fun z=>some (PV.lst z)) tk))) (z1s (z1l hnew)) (z7r H _ _ (by rw [AE,AJ,AE];exact AA (CD al 1) (by decide)))
   have hlen:((A++[l]).map z6n++[z6n (z2z pc (order.getD k 0) l)]++(T.map gr).map z6n).length<=z2n:=by
    rw [AE,AE,AJ,AJ,AE]
    exact AA (BK (CD al 1) lnT) (by decide)
   have h3:y6q .add H (.lst ((A++[l]).map z6n++[z6n (z2z pc (order.getD k 0) l)])) (.lst ((T.map gr).map z6n))=some (.lst ((ins a (z2z pc (order.getD k 0)) (A++l::T)).map z6n)):=ins'▸z7r H _ _ hlen
   exact z0g h1 (z0a rfl) h3
  exact⟨upd Y5 59 (.lst ((ins a (z2z pc (order.getD k 0)) (A++l::T)).map z6n)),z0d s0 (z0d s1 (j9x tt (z0d t1 (z0d (z0t (z0a e59) (z0a rfl) eg) (z0d t3 (z0d t4 rfl)))) rfl)),e124,e57,e125,rfl⟩
theorem y8q(R:z4e N)(O:y2t order pc):∀ (m k:Nat) (S:List Pg) (Y:z0n),k+m=5->y3u order k S->x4m k S->LnE order N pc S Y ->
  ∃ Y',z3i (sem mp2 C 39).ex (.one 31) (z8b (st x2g 1)) [] Y (z1a (List.range' k m)) L H=some (.next Y',H)/\Y' 59=some (.lst (((List.range' k m).foldl (z5k order N pc) S).map z6n))
 | 0,k,S,Y,_,_,_,E=>⟨Y,rfl,E.e59⟩
 | m+1,k,S,Y,hk,I,A6,E=>by
  have k5:k<5:=hk▸Nat.lt_add_of_pos_right (Nat.succ_pos m)
  obtain⟨Y1,a,c⟩:=j2g (C:=C) (L:=L) (H:=H) (Y:=upd Y 31 (.int (k:Int))) R O k5 I A6 ⟨E.e124,E.e57,E.e125,E.e59⟩ rfl
  obtain⟨Y',q,r⟩:=y8q R O m (k+1) _ Y1 (by rw [<- hk,BV];rfl) (I.step O k5 N) A6.step c
  exact⟨Y',(z1z rfl a).trans q,r⟩
theorem k2b(R:z4e N)(O:y2t order pc):z0f mp2 (lv+1) 26 [.lst (z1a order),z1b N,.lst (j8u pc)] [] L H=some (.lst ((y7c order N pc 5).map z6n),H):=by
 obtain⟨Y',q,r⟩:=y8q (C:=z0f mp2 lv) (L:=L) (H:=H) R O 5 0 [] (upd (x9l 124 (.lst (z1a order)) 57 (z1b N) 125 (.lst (j8u pc))) 59 (.lst [])) rfl (q9m order) (fun l hl=>absurd hl BB) ⟨rfl,rfl,rfl,rfl⟩
 exact z0x (Y:=x9l 124 (.lst (z1a order)) 57 (z1b N) 125 (.lst (j8u pc))) k7e rfl (z0d rfl (y2i (up:=false) rfl q (z4r (z0a r))))
end
structure WsK(H:z0b)(i:Nat)(s:WsS):Prop where
 at':∃ ws,H[i]?=some (.att (y7b ws s))
 b:s.b<=20
 cl:s.c.length<=20
 ce:∀ k,s.c.getD k 0<=10
 ntl:s.nt<=20
noncomputable def z2m(s:WsS):Nat:=max (s.c.length - 1) s.b
noncomputable def x4n(s:WsS)(ts:Nat):Nat:=s.b+ts*(k8e s.c ts+s.nt)
noncomputable def q4d(s t:WsS):Bool:=if t.n<=s.n then false else if decide (s.c.length<=1)&&decide (t.c.length<=1) then decide (s.nt<=t.nt) else !((List.range' 2 (max (z2m s) (z2m t)+1+1 - 2)).any fun ts=>decide (x4n t ts<=x4n s ts))
section
variable {lv n i j:Nat} {L:Lim} {H:z0b} {C:z0h} {Y:z0n} {s t:WsS}
theorem x4o{k a:Nat}{v:PV}(W:WsK H i s)(hk:Y k=some (.inst 0 i))(ha:∀ ws,(y7b ws s).lookup a=some v):(sem mp2 C (n+2)).ev Y (.attr a (.var k)) L H=some (v,H):=W.at'.elim fun ws h=>q3e (z0a hk) h (ha ws)
theorem k9e(W:WsK H i s):z0f mp2 (lv+1) 1 [.inst 0 i] [] L H=some (.int ((z2m s:Nat):Int),H):=by
 refine z0x (Y:=y3q 5 (.inst 0 i)) w3a rfl (y4q (x4o W rfl fun _=>rfl) rfl (z4r (z0u (z2j (z0g (q:=.int ((1:Nat):Int)) (z5v (z0a rfl) (by rw [j7s,z2y])) rfl rfl) (z0a rfl)) ?_)))
 show some (PV.int (if(s.b:Int) > (s.c.length:Int) - ((1:Nat):Int) then(s.b:Int) else(s.c.length:Int) - ((1:Nat):Int)))=_
 unfold z2m
 congr 2
 split<;>lia
theorem w4g{ts:Nat}(W:WsK H i s)(h1:1<=ts)(h2:ts<=30):z0f mp2 (lv+1) 2 [.inst 0 i,.int (ts:Int)] [] L H=some (.int ((x4n s ts:Nat):Int),H):=by
 have hcl:s.c.length<=30:=AA W.cl (by decide)
 have hin:∀ k,k∈List.range' ts (s.c.length - ts)->k<s.c.length:=fun k hk=>by
  obtain⟨a,b⟩:=CR.mp hk
  by_cases h:ts<=s.c.length
  ·rw [FV h] at b;exact b
  ·rw [Nat.sub_eq_zero_of_le (Nat.le_of_not_le h)] at b;exact absurd a (Nat.not_le.mpr b)
 have hlen:(List.range' ts (s.c.length - ts)).length<=30:=by rw [GC];exact AA (Nat.sub_le _ _) hcl
 have hs:k8e s.c ts<=9000:=AA (k8f (ts:=ts) W.ce hcl _ (fun k hk=>AA (BO (hin k hk)) hcl) hlen) (CI (AM 300) hlen)
 obtain⟨Y',q1,q2,q3⟩:=q8z (C:=z0f mp2 lv) (L:=L) (H:=H) h1 h2 hcl W.ce _ 0 (upd (upd (upd (y3r 5 (.inst 0 i) 18 (.int (ts:Int))) 10 (.tup (z1a s.c))) 17 (.int (s.b:Int))) 19 (.int ((0:Nat):Int))) hin rfl rfl rfl
 rw [DX] at q2
 have hr:=z0g (C:=z0f mp2 lv) (L:=L) (n:=38) (z0a ((q3 17 (by decide) (by decide)).trans rfl)) (z0g (z0a ((q3 18 (by decide) (by decide)).trans rfl)) (z0g (z0a q2) (x4o (a:=13) W ((q3 5 (by decide) (by decide)).trans rfl) fun _=>rfl) (z2l H _ _)) (q6h H (lk h2 rfl) (AA (BK hs W.ntl) (by decide)))) (z2l H s.b _)
 exact z0x w3b rfl (y4q (x4o W rfl fun _=>rfl) rfl (z0d rfl (y2i (up:=false) (y4s (z0a rfl) (z5v (z0a rfl) (by rw [j7s,z2y])) (lk h2 rfl) (lk hcl rfl)) q1 (z4r hr))))
theorem k9f{k x:Nat}(W:WsK H i s)(hk:Y k=some (.inst 0 i))(h24:Y 24=some (.int (x:Int)))(h1:1<=x)(h2:x<=30):(sem mp2 (z0f mp2 (lv+1)) (n+2)).ev Y (.meth 25 (.var k) [.var 24]) L H=some (.int ((x4n s x:Nat):Int),H):=
 W.at'.elim fun _ h=>z4n (z0a hk) h (z1l (z0a h24)) x9q (w4g W h1 h2)
theorem x7c{k:Nat}(W:WsK H i s)(hk:Y k=some (.inst 0 i)):(sem mp2 (z0f mp2 (lv+1)) (n+2)).ev Y (.meth 22 (.var k) []) L H=some (.int ((z2m s:Nat):Int),H):=
 W.at'.elim fun _ h=>z4n (z0a hk) h z5p x9p (k9e W)
theorem k9g(P:MP)(C:z0h)(a b:Nat)(L:Lim)(H:z0b):z9p P C .le (.int (a:Int)) (.int (b:Int)) L H=some (.bool (decide (a<=b)),H):=
 z7x rfl (AT some (FF.mpr Int.ofNat_le))
theorem j8x(W:WsK H i s):z2m s<=20:=Nat.max_le.mpr ⟨AA (Nat.sub_le _ _) W.cl,W.b⟩
theorem k9h(W:WsK H i s)(A6:WsK H j t):z0f mp2 (lv+2) 5 [.inst 0 i,.inst 0 j] [] L H=some (.bool (q4d s t),H):=by
 have t0:(sem mp2 (z0f mp2 (lv+1)) 39).ts (y3r 5 (.inst 0 i) 21 (.inst 0 j)) (.cmp .ge (.attr 12 (.var 5)) (.attr 12 (.var 21))) L H=some (decide (t.n<=s.n),H):=z4f rfl (z0l (x4o W rfl fun _=>rfl) (x4o A6 rfl fun _=>rfl) (q8u _ _ _ _ _ _)) rfl
 have t1:(sem mp2 (z0f mp2 (lv+1)) 39).ts (y3r 5 (.inst 0 i) 21 (.inst 0 j)) (.andE [.attr 16 (.var 5),.attr 16 (.var 21)]) L H=some (decide (s.c.length<=1)&&decide (t.c.length<=1),H):=z7o (z7n (z4f rfl (x4o W rfl fun _=>rfl) rfl) (z3e (z4f rfl (x4o A6 rfl fun _=>rfl) rfl)))
 unfold q4d
 by_cases h0:t.n<=s.n
 ·rw [AQ h0]
  rw [AV h0] at t0
  exact z0x (Y:=y3r 5 (.inst 0 i) 21 (.inst 0 j)) x9o rfl (j6t t0 (z4r rfl))
 ·rw [AS h0]
  rw [EA h0] at t0
  induction h1:(decide (s.c.length<=1)&&decide (t.c.length<=1)) using Bool.casesOn with
  | true=>
   rw [h1] at t1
   exact z0x (Y:=y3r 5 (.inst 0 i) 21 (.inst 0 j)) x9o rfl (q3g t0 (j6t t1 (z4r (z0l (x4o W rfl fun _=>rfl) (x4o A6 rfl fun _=>rfl) (k9g _ _ _ _ _ _)))))
  | false=>
   rw [h1] at t1
   have hm:max (z2m s) (z2m t)+1<=21:=CK (Nat.max_le.mpr ⟨j8x W,j8x A6⟩)
   have hr:∀ {Y':z0n},Y' 12=some (.int ((max (z2m s) (z2m t)+1:Nat):Int))->z8z (sem mp2 (z0f mp2 (lv+1)) 39) Y' .range [.int 2,.bin .add (.var 12) (.int 1)] L H=some ((z1a (List.range' 2 (max (z2m s) (z2m t)+1+1 - 2)),false),H):=fun e=>y4s (a:=2) rfl (z0g (z0a e) rfl (z2l H (max (z2m s) (z2m t)+1) 1)) (by decide) (AA (CK hm) (by decide))
   refine z0x (Y:=y3r 5 (.inst 0 i) 21 (.inst 0 j)) x9o rfl (q3g t0 (q3g t1 (z0d (z0g (z0u (z2j (x7c W rfl) (x7c A6 rfl)) (k0o _ _ _ _)) rfl (z2l H (max (z2m s) (z2m t)) 1)) (j8c (y6m (I:=fun Y=>Y 5=some (.inst 0 i)/\Y 21=some (.inst 0 j)) (enc:=fun(p:Nat)=>PV.int (p:Int)) (fun ts=>decide (x4n t ts<=x4n s ts)) (hr rfl) (fun ts hts Y ⟨e5,e21⟩=>?_) ⟨rfl,rfl⟩)))))
   obtain⟨a,c⟩:=CR.mp hts
   have a1:1<=ts:=AA (by decide) a
   have c1:ts<=30:=AA (BO c) (by lia)
   exact k1p (z4f rfl (z0l (k9f W e5 rfl a1 c1) (k9f A6 e21 rfl a1 c1) (q8u _ _ _ _ _ _)) rfl) rfl ⟨e5,e21⟩
end
noncomputable def y7d(t col ch:Nat):Nat:=if ch=32 then col+1 else col / t*t+t
noncomputable abbrev z8c(cs:List Nat)(t:Nat):Nat:=cs.foldl (y7d t) 0
noncomputable abbrev Blk(cs:List Nat):Prop:=∀ c,c∈cs->c=32\/c=9
theorem Blk.tl{c:Nat}{cs:List Nat}(h:Blk (c::cs)):Blk cs:=fun x hx=>h x (AD _ hx)
theorem x4p{c:Nat}(r:List Nat)(s:WsS)(h1:c≠32)(h2:c≠9):wsF (c::r) s=s:=(AS h1).trans (AS h2)
theorem q0p:∀ (xs ys:List Nat) (s:WsS),Blk xs->wsF (xs++ys) s=wsF ys (wsF xs s)
 | [],_,_,_=>rfl
 | c::xs,ys,s,h=>by
  rcases h c AC with e | e<;>subst e
  ·exact q0p xs ys _ h.tl
  ·exact q0p xs ys _ h.tl
theorem k2c:∀ (xs:List Nat) (s:WsS),Blk xs->(wsF xs s).n=s.n+xs.length
 | [],_,_=>rfl
 | c::xs,s,h=>by
  rcases h c AC with e | e<;>subst e
  ·exact(k2c xs _ h.tl).trans (BV s.n 1 xs.length)
  ·exact(k2c xs _ h.tl).trans (BV s.n 1 xs.length)
theorem j8y:∀ (xs:List Nat) (s:WsS) (m:Nat),Blk xs->s.b<=m->s.nt<=m->(∀ k,s.c.getD k 0<=m)->(wsF xs s).b<=m+xs.length/\(wsF xs s).nt<=m+xs.length/\∀ k,(wsF xs s).c.getD k 0<=m+xs.length
 | [],_,_,_,h1,h2,h3=>⟨h1,h2,h3⟩
 | c::xs,s,m,h,h1,h2,h3=>by
  rw [show m+(c::xs).length=(m+1)+xs.length from BV m xs.length 1]
  rcases h c AC with e | e<;>subst e
  ·exact j8y xs _ (m+1) h.tl (CK h1) (CF h2) fun k=>CF (h3 k)
  ·refine j8y xs _ (m+1) h.tl (BM _) (CK h2) fun k=>?_
   rw [q3s]
   exact BK (h3 k) (by split<;>decide)
theorem j8z{N t:Nat}(ht:1<=t):∀ (cs:List Nat) (s:WsS),Blk cs->s.b+cs.length<N->cs.foldl (y7d t) (s.b+t*(SN N s.c t+s.nt))=(wsF cs s).b+t*(SN N (wsF cs s).c t+(wsF cs s).nt)
 | [],_,_,_=>rfl
 | c::cs,s,h,hN=>by
  rw [BD] at hN
  rcases h c AC with e | e<;>subst e
  ·have e1:y7d t (s.b+t*(SN N s.c t+s.nt)) 32=s.b+1+t*(SN N s.c t+s.nt):=BV _ _ 1
   rw [CW,e1]
   exact j8z ht cs ⟨s.b+1,s.n+1,s.nt,s.c⟩ h.tl (BV s.b 1 cs.length▸hN)
  ·have e1:y7d t (s.b+t*(SN N s.c t+s.nt)) 9=0+t*(SN N (y7a s.c s.b) t+(s.nt+1)):=by
    show(s.b+t*(SN N s.c t+s.nt)) / t*t+t=_
    rw [Nat.add_mul_div_left _ _ ht,k1i s.c (BU (BG _ _) hN),DX,Nat.mul_comm _ t,<- Nat.mul_succ]
    congr 1;lia
   rw [CW,e1]
   exact j8z ht cs ⟨0,s.n+1,s.nt+1,y7a s.c s.b⟩ h.tl (BU (by show 0+cs.length<=_;lia) hN)
noncomputable abbrev wsL(cs:List Nat):WsS:=wsF cs ws0
theorem k9i{t:Nat}(ht:1<=t){cs:List Nat}(h:Blk cs):z8c cs t=(wsL cs).b+t*(SN (cs.length+1) (wsL cs).c t+(wsL cs).nt):=by
 have:=j8z (N:=cs.length+1) ht cs ws0 h (by show 0+cs.length<_;lia)
 rw [show ws0.b+t*(SN (cs.length+1) ws0.c t+ws0.nt)=0 by
  rw [show SN (cs.length+1) ws0.c t=0 from y1t fun i _=>Nat.mul_zero _]
  exact Nat.mul_zero t] at this
 exact this
theorem q6x(cs:List Nat):(wsL cs).c.length<=cs.length:=AA (q6n cs ws0) (Nat.max_le.mpr ⟨BM _,CM (DX _)⟩)
theorem x7d{t:Nat}(ht:1<=t){cs:List Nat}(h:Blk cs):z8c cs t=x4n (wsL cs) t:=by
 rw [k9i ht h,w3q (CF (q6x cs)) ht];rfl
theorem q0q:∀ (cs:List Nat) (a:Nat),cs.foldl (y7d 1) a=a+cs.length
 | [],_=>rfl
 | c::cs,a=>by
  have e:y7d 1 a c=a+1:=by
   unfold y7d
   split
   ·rfl
   ·rw [Nat.div_one,Nat.mul_one]
  rw [CW,e,q0q cs,BV];rfl
theorem y2v{s:WsS}{t:Nat}(h:s.c.length<=t):x4n s t=s.b+t*s.nt:=by
 unfold x4n k8e
 rw [Nat.sub_eq_zero_of_le h]
 exact AT (fun z=>s.b+t*z) (DX _)
theorem w7y{a a' b b' n:Nat}(h:b+n*a<b'+n*a')(hb:b'<n):a<=a':=by
 refine CH.mp fun k=>?_
 have:=Nat.mul_le_mul_left n (show a'+1<=a from k)
 rw [Nat.mul_succ] at this
 lia
theorem w7z{a a' b b' n t:Nat}(h:b+n*a<b'+n*a')(ha:a<=a')(hn:n<=t):b+t*a<b'+t*a':=by
 obtain⟨k,rfl⟩:=Nat.exists_eq_add_of_le hn
 have:=Nat.mul_le_mul_left k ha
 rw [Nat.add_mul,Nat.add_mul]
 lia
theorem x4q{xs ys:List Nat}{top:Nat}(hx:Blk xs)(hy:Blk ys)(tx:z2m (wsL xs)<top)(ty:z2m (wsL ys)<top):q4d (wsL xs) (wsL ys)=true↔∀ t,1<=t->t<=top->z8c xs t<z8c ys t:=by
 have c1:∀ {zs},Blk zs->z8c zs 1=(wsL zs).n:=fun {zs} hz=>(q0q zs 0).trans (k2c zs ws0 hz).symm
 have h1:1<=top:=BU (BM _) tx
 have cx:=fun t (ht:1<=t)=>x7d ht hx
 have cy:=fun t (ht:1<=t)=>x7d ht hy
 have c1x:=c1 hx
 have c1y:=c1 hy
 have lc:∀ {s:WsS} {n:Nat},z2m s<n->s.c.length<=n/\s.b<n:=fun {s n} h=>by
  have a:=BU (DZ (s.c.length - 1) s.b) h
  exact⟨by lia,BU (EI _ _) h⟩
 generalize wsL xs=S at *
 generalize wsL ys=T at *
 unfold q4d
 by_cases h0:T.n<=S.n
 ·rw [AQ h0]
  exact⟨fun h=>absurd h CJ,fun h=>absurd (c1x▸c1y▸h 1 (AM _) h1) (CH.mpr h0)⟩
 ·rw [AS h0]
  have l1:z8c xs 1<z8c ys 1:=c1x▸c1y▸Nat.not_le.mp h0
  by_cases hs:(decide (S.c.length<=1)&&decide (T.c.length<=1))=true
  ·rw [AQ hs,BY]
   obtain⟨a,b⟩:=AH.mp hs
   have a:=AK a
   have b:=AK b
   have ex:=fun t (ht:1<=t)=>(cx t ht).trans (y2v (AA a ht))
   have ey:=fun t (ht:1<=t)=>(cy t ht).trans (y2v (AA b ht))
   rw [ex 1 (AM _),ey 1 (AM _)] at l1
   constructor
   ·intro h t ht _
    rw [ex t ht,ey t ht]
    exact w7z l1 h ht
   ·intro h
    have:=h top h1 (AM _)
    rw [ex top h1,ey top h1] at this
    exact w7y this (lc ty).2
  ·rw [AS hs,DG,List.any_eq_false]
   have ln:z2m S<max (z2m S) (z2m T)+1/\z2m T<max (z2m S) (z2m T)+1:=⟨Nat.lt_succ_of_le (DZ _ _),Nat.lt_succ_of_le (EI _ _)⟩
   have lt:max (z2m S) (z2m T)+1<=top:=Nat.max_lt.mpr ⟨tx,ty⟩
   generalize max (z2m S) (z2m T)+1=n at ln lt
   obtain⟨n1,n2⟩:=ln
   have hn:1<=n:=BU (BM _) n1
   constructor
   ·intro h
    have mid:∀ t,1<=t->t<=n->z8c xs t<z8c ys t:=fun t ht hl=>by
     by_cases e:t=1
     ·rw [e];exact l1
     ·rw [cx t ht,cy t ht]
      have:=h t (CR.mpr ⟨by lia,by lia⟩)
      rw [BY] at this
      exact Nat.not_le.mp this
    intro t ht _
    by_cases e:t<=n
    ·exact mid t ht e
    ·have e':n<=t:=Nat.le_of_not_le e
     have q:=mid n hn (AM _)
     rw [cx n hn,cy n hn,y2v (lc n1).1,y2v (lc n2).1] at q
     rw [cx t ht,cy t ht,y2v (AA (lc n1).1 e'),y2v (AA (lc n2).1 e')]
     exact w7z q (w7y q (lc n2).2) e'
   ·intro h t ht
    obtain⟨a,b⟩:=CR.mp ht
    have a1:1<=t:=AA (by decide) a
    have:=h t a1 (AA (by lia) lt)
    rw [cx t a1,cy t a1] at this
    rw [BY]
    exact Nat.not_le.mpr this
theorem j9a{t:Nat}(ht:1<=t)(a c:Nat):a<y7d t a c:=by
 unfold y7d
 split
 ·exact DV _
 ·have:=Nat.div_add_mod a t
  have m:=Nat.mod_lt a ht
  rw [Nat.mul_comm] at this
  lia
theorem q6y{t:Nat}(ht:1<=t):∀ (cs:List Nat) (a:Nat),a<=cs.foldl (y7d t) a
 | [],_=>AM _
 | c::cs,a=>AA (BO (j9a ht a c)) (q6y ht cs _)
theorem j9b{t:Nat}(ht:1<=t)(xs:List Nat){c:Nat}(cs:List Nat):z8c xs t<z8c (xs++c::cs) t:=by
 unfold z8c
 rw [DN]
 exact BW (j9a ht _ c) (q6y ht cs _)
noncomputable abbrev P3:List (List Nat):=[[32,32],[9],[32,9]]
theorem x4r{x p q r:List Nat}{top:Nat}(hx:Blk x)(hp:p∈P3)(hq:q∈P3)(ht:z2m (wsL (x++q))<top):∃ t,1<=t/\t<=top/\z8c (x++q) t<=z8c (x++p++r) t:=by
 have h1:1<=top:=BU (BM _) ht
 by_cases hl:q.length<=p.length
 ·refine⟨1,AM _,h1,?_⟩
  unfold z8c
  rw [q0q,q0q,AE,AE,AE]
  lia
 ·have ep:p=[9]:=by
   rcases AR.mp hp with e | hp
   ·subst e
    rcases AR.mp hq with e | hq
    ·exact absurd (CM (AT _ e)) hl
    ·rcases AR.mp hq with e | hq
     ·rw [e] at hl;exact absurd (by decide) hl
     ·rw [AL.mp hq] at hl;exact absurd (by decide) hl
   ·rcases AR.mp hp with e | hp
    ·exact e
    ·rw [AL.mp hp] at hl
     rcases AR.mp hq with e | hq
     ·rw [e] at hl;exact absurd (by decide) hl
     ·rcases AR.mp hq with e | hq
      ·rw [e] at hl;exact absurd (by decide) hl
      ·rw [AL.mp hq] at hl;exact absurd (by decide) hl
  subst ep
  refine⟨top,h1,AM _,?_⟩
  have hc:=k9i h1 hx
  rw [show wsL (x++q)=wsF q (wsL x) from q0p x q ws0 hx] at ht
  have e:∀ ys,z8c (x++ys) top=ys.foldl (y7d top) (z8c x top):=fun ys=>DN
  rw [AY,e,e]
  generalize SN (x.length+1) (wsL x).c top+(wsL x).nt=X at hc
  generalize z8c x top=c at hc
  have hd:∀ k,(wsL x).b+k<top->(c+k) / top*top=top*X:=fun k hk=>by
   rw [hc,BV,Nat.add_mul_div_left _ _ h1,Nat.div_eq_of_lt hk,DX,Nat.mul_comm]
  refine AA ?_ (q6y h1 r _)
  show _<=c / top*top+top
  rcases AR.mp hq with e | hq
  ·subst e
   have hb:(wsL x).b+1+1<top:=BU (EI _ _) ht
   have:=hd 0 (by lia)
   rw [Nat.add_zero] at this
   rw [this]
   show c+1+1<=_
   lia
  ·rcases AR.mp hq with e | hq
   ·rw [e] at hl;exact absurd (by decide) hl
   ·have e:=AL.mp hq
    subst e
    have hb:(y7a (wsL x).c ((wsL x).b+1)).length - 1<top:=BU (DZ _ _) ht
    have:=(y1r (wsL x).c ((wsL x).b+1)).1
    rw [q0e] at hb
    have a:=hd 0 (by lia)
    have b:=hd 1 (by lia)
    rw [Nat.add_zero] at a
    rw [a]
    show(c+1) / top*top+top<=_
    rw [b];exact AM _
theorem k9j{c:Nat}(h:c≠32):loC c≠32:=by
 unfold loC
 split
 ·intro e;lia
 ·exact h
theorem k9k{c:Nat}(h:c≠32):upC c≠32:=by
 unfold upC
 split
 ·intro e;lia
 ·exact h
theorem k2d{k:Nat}(hk:k<32)(g:Bool):∃ c r,(dr g (wk k)).cps.toList=c::r/\c≠32/\c≠9:=by
 have p:=(y2q hk).1
 have h1:=(z6m hk).h1
 have e:(dr g (wk k)).cps.toList=(wk k).cps.toList.map (if g then upC else loC):=by
  induction g using Bool.casesOn
  ·exact z3v p
  ·exact z8v p
 rw [e]
 induction hl:(wk k).cps.toList using List.casesOn with
 | nil=>rw [hl] at h1;exact absurd rfl h1
 | cons c r=>
  rw [hl] at h1
  have pc:=p c (hl▸AC)
  have k:=z9w pc.1 pc.2
  refine⟨_,_,rfl,?_,?_⟩
  ·induction g using Bool.casesOn
   ·exact k9j h1
   ·exact k9k h1
  ·induction g using Bool.casesOn
   ·exact EH (BW (by decide) k.l1)
   ·exact EH (BW (by decide) k.u1)
noncomputable abbrev ldS(x:Str):WsS:=wsL x.cps.toList
theorem k2e{x:Str}{n k:Nat}(hx:z2s x n)(hk:k<32)(g:Bool):wsF ((x++dr g (wk k))++Str.ofString "\t").cps.toList ws0=ldS x:=by
 obtain⟨c,r,e,h1,h2⟩:=k2d hk g
 rw [z2t,z2t,e,AY,q0p _ _ _ hx.ok]
 exact x4p _ _ h1 h2
theorem k9l{H:z0b}{i:Nat}{x:Str}(hx:z2s x 10)(h:∃ ws,H[i]?=some (.att (y7b ws (ldS x)))):WsK H i (ldS x):=by
 have hl:x.cps.toList.length<=10:=z6d x▸hx.len
 obtain⟨a,b,c⟩:=j8y x.cps.toList ws0 0 hx.ok (BM _) (BM _) fun k=>BM _
 rw [DX] at a b c
 exact⟨h,AA a (AA hl (by decide)),AA (q6x _) (AA hl (by decide)),fun k=>AA (c k) hl,AA b (AA hl (by decide))⟩
theorem y6o{f:PV->M (List PV)}{V:Type}{enc:V->PV}{cell:V->z3a}{c:Nat}{L:Lim}:∀ (xs:List V) (J:z0b),L.b<=J.length->L.ab<=J.length->(∀ x,x∈xs->∀ J:z0b,L.b<=J.length->L.ab<=J.length->f (enc x) L J=some ([.inst c J.length],J++[cell x])) ->
  z5e f (xs.map enc) L J=some ((List.range' J.length xs.length).map (.inst c),J++xs.map cell)
 | [],J,_,_,_=>AT (fun z=>some (([]:List PV),z)) (CA J).symm
 | x::xs,J,hb,ha,h=>by
  have hl:(J++[cell x]).length=J.length+1:=AE
  have ih:=y6o xs (J++[cell x]) (hl▸CF hb) (hl▸CF ha) fun y hy=>h y (AD _ hy)
  rw [hl,AY] at ih
  exact(z0m (h x AC J hb ha)).trans (z0m ih)
section
variable {lv n b i j:Nat} {L:Lim} {H:z0b} {C:z0h} {Y:z0n}
theorem j9c{P:MP}{C:z0h}{c f:Nat}{args:List ME}{vs:List PV}{w:PV}{Hb H2:z0b}(hm:P.meth c y4y=some f)(h3:z3t ((sem P C n).ev Y) args L H=some (vs,Hb))(h:y2y Hb.length (C f (.inst c Hb.length::vs) []) L (Hb++[.att []])=some (w,H2)) :
  (sem P C (n+1)).ev Y (.newg c args) L H=some (.inst c Hb.length,H2):=z0c (z1j hm) (z0c h3 (z0c rfl (z0c h rfl)))
theorem w9f{e:ME}{ws:Str}(ha:(sem mp2 (z0f mp2 (lv+1)) n).ev Y e L H=some (.str ws,H))(hn:ws.length<=400)(hL:L.b<=H.length)(hLa:L.ab<=H.length) :
  (sem mp2 (z0f mp2 (lv+1)) (n+1)).ev Y (.newg 0 [e]) L H=some (.inst 0 H.length,H++[.att (y7b ws (wsF ws.cps.toList ws0))]):=by
 rw [z6d] at hn
 obtain⟨J,i1,i2,i3⟩:=x3c (lv:=lv) (L:=⟨L.b,H.length⟩) (H:=H) (ws:=ws) hL (AM _) hn fun k hk=>AA (q6x _) (AA (FD _ _) (AA hk hn))
 have hs:(H++[z3a.att []]).length=H.length+1:=AE
 have hg:y2y H.length (z0f mp2 (lv+1) 0 [.inst 0 H.length,.str ws] []) L (H++[.att []])=some (.none,H++[.att (y7b ws (wsF ws.cps.toList ws0))]):=by
  unfold y2y
  rw [i1]
  dsimp only
  rw [i2]
  dsimp only
  rw [AQ ⟨hLa,hs.symm,j2c _ _ _,rfl⟩,hs,i3]
 exact j9c k7k (z1l ha) hg
noncomputable def z7y(S:List Pg):List (Nat×Nat):=(List.range 5).flatMap fun i=>((List.range' (i+1) (5 - (i+1))).filter fun j=>q4d (ldS (S.getD i (0,wk 0,false,[])).2.1) (ldS (S.getD j (0,wk 0,false,[])).2.1)).map fun j=>(i,j)
theorem k9m(n:Nat)(H:z0b):∀ l:List (Nat×Nat),j0b n H (l.map z1u)=some (l.map z1u)
 | []=>rfl
 | x::l=>by
  show(frz n H (z1u x)).bind (fun q=>(j0b n H (l.map z1u)).map fun qs=>q::qs)=_
  rw [k9m n H l];rfl
structure x4s(b:Nat)(S:List Pg):Prop where
 b:b<28
 len:S.length=5
 lt:∀ l,l∈S->l.1<5
 lead:∀ l,l∈S->z2s l.2.1 10
theorem x4s.at{S:List Pg}(O:x4s b S){i:Nat}(hi:i<5):S[i]?=some (S.getD i (0,wk 0,false,[]))/\z2s (S.getD i (0,wk 0,false,[])).2.1 10:=by
 have e:S[i]?=some (S.getD i (0,wk 0,false,[])):=by rw [AI,AP (O.len.symm▸hi)];rfl
 exact⟨e,O.lead _ (CB e)⟩
noncomputable def y3p(b:Nat)(l:Pg):z3a:=.att (y7b ((l.2.1++(lnP b l).1)++Str.ofString "\t") (ldS l.2.1))
theorem r15{i j:Nat}(h:j∈List.range' (i+1) (5 - (i+1))):i<j/\j<5:=by
 obtain⟨a,c⟩:=CR.mp h
 exact⟨a,by lia⟩
theorem j9d{k:Nat}(hk:Y k=some (.int (i:Int)))(hi:i<5):z8z (sem mp2 C (n+3)) Y .range [.bin .add (.var k) (.int 1),.int 5] L H=some ((z1a (List.range' (i+1) (5 - (i+1))),false),H):=
 y4s (b:=5) (z0g (z0a hk) rfl (z2l H i 1)) rfl (AA hi (by decide)) (by decide)
theorem k2f{V:Type}(f:Nat->Nat->Bool)(g:Nat->Nat->V):((List.range 5).flatMap fun i=>((List.range' (i+1) (5 - (i+1))).filter (f i)).map (g i)).length<=z2n:=
 AA (z7t _ 5 _ fun i _=>by
  rw [AJ]
  exact AA (BZ _ _) (by rw [GC];exact Nat.sub_le _ _)) (by decide)
theorem k2g{S:List Pg}(O:x4s b S)(hL:L.b<=H.length)(hLa:L.ab<=H.length) :
  z0f mp2 (lv+3) 27 [.lst (S.map fun l=>.str (lnP b l).1),.lst (S.map fun l=>.str l.2.1)] [] L H=some (.lst ((z7y S).map z1u),H++S.map (y3p b)):=by
 let B1:=y3r 27 (.lst (S.map fun l=>.str (lnP b l).1)) 133 (.lst (S.map fun l=>.str l.2.1))
 have hl5:S.length<=5:=CM O.len
 have hsrc:z8z (sem mp2 (z0f mp2 (lv+2)) 38) B1 .zip [.var 27,.var 133] L H=some ((S.map fun l=>.tup [.str (lnP b l).1,.str l.2.1],false),H):=by
  refine z1q (z2j (z0a rfl) (z0a rfl)) ?_
  show some (((S.map fun l=>PV.str (lnP b l).1).zip (S.map fun l=>PV.str l.2.1)).map (fun q=>PV.tup [q.1,q.2]),false)=_
  rw [List.zip_map',AW];rfl
 have t1:(sem mp2 (z0f mp2 (lv+2)) 39).ev B1 (.comp (.newg 0 [.bin .add (.bin .add (.var 131) (.var 34)) (.str (Str.ofString "\t"))]) [(.tup [34,131],.zip,[.var 27,.var 133],[])]) L H=some (.lst ((List.range' H.length S.length).map (.inst 0)),H++S.map (y3p b)):=by
  refine z0i ((q3a).trans ((z0m hsrc).trans ((z0m (a:=(List.range' H.length S.length).map (PV.inst 0)) (H':=H++S.map (y3p b)) ?_).trans ?_)))
  ·show z3h _ _ (clear B1 [34,131]) (.tup [34,131]) [] [] (S.map fun l=>.tup [.str (lnP b l).1,.str l.2.1]) L H=_
   rw [z8p]
   refine y6o S H hL hLa fun l hl J h1 h2=>?_
   have w:=z6m (b32 O.b (O.lt l hl))
   have ld:=O.lead l hl
   have n1:l.2.1.length+(lnP b l).1.length<=110:=BK ld.len (y8b w)
   have tb:(Str.ofString "\t").length=1:=by rw [j7r];rfl
   have ha:(sem mp2 (z0f mp2 (lv+2)) 37).ev (upd (upd (clear B1 [34,131]) 34 (.str (lnP b l).1)) 131 (.str l.2.1)) (.bin .add (.bin .add (.var 131) (.var 34)) (.str (Str.ofString "\t"))) L J=some (.str ((l.2.1++(lnP b l).1)++Str.ofString "\t"),J):=
    z0g (z0g (z0a rfl) (z0a rfl) (add_str J (AA n1 (by decide)))) rfl (add_str J (by rw [z6v,tb];exact AA (CD n1 1) (by decide)))
   have hs:=w9f (lv:=lv+1) ha (by rw [z6v,z6v,tb];exact AA (CD n1 1) (by decide)) h1 h2
   rw [show wsF ((l.2.1++(lnP b l).1)++Str.ofString "\t").cps.toList ws0=ldS l.2.1 from k2e ld (b32 O.b (O.lt l hl)) _] at hs
   exact z0c (a:=true) (Hb:=J) rfl (z0c hs rfl)
  ·rw [AQ (AV (by rw [AJ,GC];exact AA hl5 (by decide)))];rfl
 have kk:∀ i,i<5->WsK (H++S.map (y3p b)) (H.length+i) (ldS (S.getD i (0,wk 0,false,[])).2.1):=fun i hi=>by
  obtain⟨e,ld⟩:=O.at hi
  have h:(H++S.map (y3p b))[H.length+i]?=some (y3p b (S.getD i (0,wk 0,false,[]))):=by
   rw [CV (BG _ _),DB,BC,e];rfl
  exact k9l ld ⟨_,h⟩
 have at5:∀ i,i<5->((List.range' H.length S.length).map (PV.inst 0))[i]?=some (.inst 0 (H.length+i)):=fun i hi=>by
  rw [BC,List.getElem?_range' (O.len.symm▸hi),Nat.one_mul];rfl
 have key:=z6y (S:=sem mp2 (z0f mp2 (lv+2)) 38) (Y:=upd B1 134 (.lst ((List.range' H.length S.length).map (.inst 0)))) (L:=L) (H:=H++S.map (y3p b)) (elt:=.tup [.var 20,.var 135]) (a:=20) (b:=135) (k:=.range) (k2:=.range) (args:=[.int 5]) (args2:=[.bin .add (.var 20) (.int 1),.int 5]) (ifs2:=[.meth 72 (.idx (.var 134) (.var 20)) [.idx (.var 134) (.var 135)]])
  (xs:=List.range 5) (enc:=fun(w:Nat)=>PV.int (w:Int)) (fun i=>List.range' (i+1) (5 - (i+1))) (enc2:=fun _ (w:Nat)=>PV.int (w:Int)) (fun i j=>q4d (ldS (S.getD i (0,wk 0,false,[])).2.1) (ldS (S.getD j (0,wk 0,false,[])).2.1)) (fun i j=>z1u (i,j)) rfl
  (fun i hi=>j9d rfl (AN.mp hi))
  (fun i hi j hj=>by
   have i5:=AN.mp hi
   have j5:=(r15 hj).2
   exact(kk i i5).at'.elim fun _ h=>z3e (z4f rfl (z4n (z0t (z0a rfl) (z0a rfl) (at5 i i5)) h (z1l (z0t (z0a rfl) (z0a rfl) (at5 j j5))) x9r (k9h (kk i i5) (kk j j5))) rfl))
  (fun i hi j hj _=>z1r (z2j (z0a rfl) (z0a rfl))) (k2f _ _)
 refine z0x (Y:=B1) k7f rfl (z0d t1 (z4r ((z0i key).trans ?_)))
 unfold z7y
 rw [EM]
 exact AT (fun f=>some (PV.lst ((List.range 5).flatMap f),H++S.map (y3p b))) (funext fun i=>(AW (f:=fun j=>(i,j)) (g:=z1u)).symm)
end
noncomputable def q9o(ps:List (Nat×Nat))(i:Nat):Nat->Nat->List (Nat×Nat)
 | 0,_=>[]
 | n+1,j=>if decide ((i,j)∈ps) then(i,j)::q9o ps i n (j+1) else[]
noncomputable def z8y(ps:List (Nat×Nat)):List (Nat×Nat):=(List.range 5).flatMap fun i=>q9o ps i (4 - i) (i+1)
theorem q0r(ps:List (Nat×Nat))(i:Nat):∀ n j,(q9o ps i n j).length<=n
 | 0,_=>AM _
 | n+1,j=>by
  unfold q9o
  split
  ·exact CK (q0r ps i n (j+1))
  ·exact BM _
noncomputable def y6s:Str:=⟨#[9]⟩
noncomputable def mxN:List Nat->Nat
 | []=>0
 | x::xs=>xs.foldl (fun a b=>if b > a then b else a) x
noncomputable def y7e(ls:List Str):List Nat:=ls.flatMap fun x=>(Txt.split x y6s).map fun y=>y.length
noncomputable def q4e:List (Nat×Nat):=(List.range 5).flatMap fun i=>(List.range' (i+1) (5 - (i+1))).map fun j=>(i,j)
noncomputable def j2h(ls:List Str)(top:Nat)(p:Nat×Nat):Bool:=((List.range top).filter fun k=>decide (z8c (ls.getD p.2 y6s).cps.toList (k+1)<=z8c (ls.getD p.1 y6s).cps.toList (k+1))).isEmpty
noncomputable def y2w(ls:List Str):List (Nat×Nat):=q4e.filter (j2h ls (1+mxN (y7e ls)))
section
variable {lv n i j:Nat} {L:Lim} {H J:z0b} {C:z0h} {Y:z0n} {ps:List (Nat×Nat)}
theorem q0s(n:Nat):∀ l:List (Nat×Nat),z0w n (l.map z1u)=true
 | []=>rfl
 | x::l=>by
  show(y6t n (z1u x)&&z0w n (l.map z1u))=true
  rw [q0s n l];rfl
theorem k2h(a b:Nat):x5k .add (.int (a:Int)) (.int (b:Int))=some (.int ((a+b:Nat):Int)):=AT (fun z=>some (PV.int z)) (Int.natCast_add a b).symm
theorem q4f(h5:(i,5)∉ps)(hL:L.b<=H.length):∀ (n j m:Nat) (acc:List (Nat×Nat)) (Y:z0n),j+n=5->n<m->acc.length+n<=100->Y 20=some (.int (i:Int))->Y 135=some (.int (j:Int))->Y 85=some (.lst (ps.map z1u))->Y 136=some (.ref H.length) ->
  ∃ Y',y7g (sem mp2 C 38) (.cmp .in_ (.tup [.var 20,.var 135]) (.var 85)) [.append (.var 136) (.tup [.var 20,.var 135]),.aug .add 135 (.int 1)] m Y L (H++[.lst (acc.map z1u)])=some (.next Y',H++[.lst ((acc++q9o ps i n j).map z1u)])/\Y' 85=some (.lst (ps.map z1u))/\Y' 136=some (.ref H.length)
 | n,j,0,acc,Y,_,hm,_,_,_,_,_=>absurd hm (ER _)
 | n,j,m+1,acc,Y,hj,hm,hn,h20,h135,h85,h136=>by
  have t:(sem mp2 C 38).ts Y (.cmp .in_ (.tup [.var 20,.var 135]) (.var 85)) L (H++[.lst (acc.map z1u)])=some (decide ((i,j)∈ps),H++[.lst (acc.map z1u)]):=z4f rfl (z0l (z1r (z2j (z0a h20) (z0a h135))) (z0a h85) (j7k _ _ _ _)) rfl
  by_cases h:(i,j)∈ps
  ·rw [AV h] at t
   induction n using Nat.casesOn with
   | zero=>rw [show j=5 from hj] at h;exact absurd h h5
   | succ n=>
    have hset:(H++[z3a.lst (acc.map z1u)]).set H.length (.lst (acc.map z1u++[z1u (i,j)]))=H++[.lst ((acc++[(i,j)]).map z1u)]:=by rw [y0f,BH];rfl
    have st:exs (sem mp2 C 38).ex Y [.append (.var 136) (.tup [.var 20,.var 135]),.aug .add 135 (.int 1)] L (H++[.lst (acc.map z1u)])=some (.next (upd Y 135 (.int ((j+1:Nat):Int))),H++[.lst ((acc++[(i,j)]).map z1u)]):=by
     refine y1l (z0a h136) (z2r _ _) (z1r (z2j (z0a h20) (z0a h135))) (z2r _ _) ?_ hL ?_ ?_
     ·rw [AE,AJ];exact AA (BK (AA (BG _ _) hn) (AM 1)) (by decide)
     ·exact(AT (z0w 0) (BH (l₁:=acc) (l₂:=[(i,j)]) (f:=z1u)).symm).trans (q0s 0 _)
     ·refine Eq.trans (AT (exs _ Y _ L) hset) ?_
      exact x9s h135 rfl (k2h j 1) rfl
    obtain⟨Y',q,r⟩:=q4f h5 hL n (j+1) m (acc++[(i,j)]) (upd Y 135 (.int ((j+1:Nat):Int))) (BV j 1 n▸hj) (Nat.lt_of_succ_lt_succ hm) (by rw [AE];exact AA (CM (BV acc.length 1 n)) hn) h20 rfl h85 h136
    refine⟨Y',(z0c t (z0c st q)).trans ?_,r⟩
    have e:q9o ps i (n+1) j=(i,j)::q9o ps i n (j+1):=AQ (AV h)
    rw [e,AY];rfl
  ·rw [EA h] at t
   refine⟨Y,(z0c t rfl).trans ?_,h85,h136⟩
   have e:q9o ps i n j=[]:=by
    cases n
    ·rfl
    ·exact AS (fun k=>h (AK k))
   rw [e,CA];rfl
theorem q9p(h5:∀ i,(i,5)∉ps)(hL:L.b<=H.length):∀ (is:List Nat) (acc:List (Nat×Nat)) (Y:z0n),(∀ i,i∈is->i<5)->acc.length+5*is.length<=90->Y 85=some (.lst (ps.map z1u))->Y 136=some (.ref H.length) ->
  ∃ Y',z3i (sem mp2 C 39).ex (.one 20) (z8b (st x2h 1)) [] Y (z1a is) L (H++[.lst (acc.map z1u)])=some (.next Y',H++[.lst ((acc++is.flatMap fun i=>q9o ps i (4 - i) (i+1)).map z1u)])/\Y' 136=some (.ref H.length)
 | [],acc,Y,_,_,_,h136=>⟨Y,by rw [List.flatMap_nil,CA];rfl,h136⟩
 | i::is,acc,Y,hi,hn,h85,h136=>by
  have i5:=hi i AC
  rw [BD] at hn
  have bl:=q0r ps i (4 - i) (i+1)
  obtain⟨Y1,a,b,c⟩:=q4f (C:=C) (h5 i) hL (4 - i) (i+1) 40 acc (upd (upd Y 20 (.int (i:Int))) 135 (.int ((i+1:Nat):Int))) (by lia) (by lia) (by lia) rfl rfl h85 h136
  obtain⟨Y',q,r⟩:=q9p h5 hL is (acc++q9o ps i (4 - i) (i+1)) Y1 (fun k hk=>hi k (AD _ hk)) (by rw [AE];lia) b c
  have st':exs (sem mp2 C 39).ex (upd Y 20 (.int (i:Int))) (z8b (st x2h 1)) L (H++[.lst (acc.map z1u)])=some (.next Y1,_):=z0d (z0g (z0a rfl) rfl (z2l _ i 1)) (z5c a rfl)
  refine⟨Y',(z1z rfl st').trans (q.trans ?_),r⟩
  rw [List.flatMap_cons,AY]
theorem x4t{k:Nat}(h5:∀ i,(i,5)∉ps)(hk:Y k=some (.lst (ps.map z1u))):(sem mp2 (z0f mp2 (lv+1)) (n+3)).ev Y (.pure (.call 28 [.var k])) L H=some (.lst ((z8y ps).map z1u),H):=by
 obtain⟨Y',q,r⟩:=q9p (C:=z0f mp2 lv) (L:=⟨H.length,H.length⟩) (H:=H) h5 (AM _) (List.range 5) [] (upd (y3q 85 (.lst (ps.map z1u))) 136 (.ref H.length)) (fun i hi=>AN.mp hi) (by decide) rfl rfl
 have hc:z0f mp2 (lv+1) 28 [.lst (ps.map z1u)] [] ⟨H.length,H.length⟩ H=some (.ref H.length,_):=z0x (Y:=y3q 85 (.lst (ps.map z1u))) k7g rfl (z0d (y6b z5p rfl) (y2i (up:=false) rfl q (z4r (z0a r))))
 exact z7p (L:=L) (z1k (z1l (z0a hk)) hc) (j6q (z1t (z2r _ _)) (q0s _ _))
theorem x7e{t:Nat}:∀ (cs:List Nat) (a:Nat),cs.foldl (y7d t) a<=a+(t+1)*cs.length
 | [],_=>BG _ _
 | c::cs,a=>by
  have e:y7d t a c<=a+(t+1):=by
   unfold y7d
   split
   ·exact DQ (CK (BM t)) a
   ·exact BK (Nat.div_mul_le_self a t) (GE t)
  refine AA (x7e cs _) ?_
  rw [BD,Nat.mul_succ]
  lia
theorem q9q{t:Nat}(h1:1<=t)(h2:t<=30):∀ (cs:List Nat) (a:Nat) (Y:z0n),a+31*cs.length<=10000->Y 137=some (.int (a:Int))->Y 81=some (.int (t:Int)) ->
  ∃ Y',z3i (sem mp2 C 39).ex (.one 138) (z8b (st x2i 1)) [] Y (cs.map fun c=>.str ⟨#[c]⟩) L H=some (.next Y',H)/\Y' 137=some (.int ((cs.foldl (y7d t) a:Nat):Int))
 | [],a,Y,_,h137,_=>⟨Y,rfl,h137⟩
 | c::cs,a,Y,hn,h137,h81=>by
  rw [BD,Nat.mul_succ] at hn
  have bd:=x7e (t:=t) [c] a
  obtain⟨Y',q,r⟩:=q9q h1 h2 cs (y7d t a c) (upd (upd Y 138 (.str ⟨#[c]⟩)) 137 (.int ((y7d t a c:Nat):Int))) (by
   have:y7d t a c<=a+(t+1)*1:=bd
   lia) rfl h81
  have te:(sem mp2 C 37).ts (upd Y 138 (.str ⟨#[c]⟩)) (.cmp .eq (.var 138) (.str (Str.ofString " "))) L H=some (c==32,H):=by
   rw [<- j7q,<- q8y]
   exact z4f rfl (z0l (z0a rfl) rfl (eq_str _ _ _ _ _ _)) rfl
  have d1:a / t<=1000000:=AA (Nat.div_le_self _ _) (by lia)
  have ev:(sem mp2 C 38).ev (upd Y 138 (.str ⟨#[c]⟩)) (.ite (.cmp .eq (.var 138) (.str (Str.ofString " "))) (.bin .add (.var 137) (.int 1)) (.bin .add (.bin .mul (.bin .fdiv (.var 137) (.var 81)) (.var 81)) (.var 81))) L H=some (.int ((y7d t a c:Nat):Int),H):=by
   refine z6j te ?_
   unfold y7d
   by_cases h:c=32
   ·rw [AQ (BE.mpr h),AQ h];exact z0g (z0a h137) rfl (z2l H a 1)
   ·rw [AS (fun k=>h (BE.mp k)),AS h]
    exact z0g (z0g (z0g (z0a h137) (z0a h81) (j7m H h1 (AA h2 (by decide)))) (z0a h81) (q6h H d1 (AA h2 (by decide)))) (z0a h81) (z2l H _ _)
  have st:exs (sem mp2 C 39).ex (upd Y 138 (.str ⟨#[c]⟩)) (z8b (st x2i 1)) L H=some (.next (upd (upd Y 138 (.str ⟨#[c]⟩)) 137 (.int ((y7d t a c:Nat):Int))),H):=z0d ev rfl
  exact⟨Y',(z1z rfl st).trans q,r⟩
theorem w4h{x:Str}{t:Nat}(hx:x.length<=100)(h1:1<=t)(h2:t<=30):z0f mp2 (lv+1) 29 [.str x,.int (t:Int)] [] L H=some (.int ((z8c x.cps.toList t:Nat):Int),H):=by
 rw [z6d] at hx
 obtain⟨Y',q,r⟩:=q9q (C:=z0f mp2 lv) (L:=L) (H:=H) h1 h2 x.cps.toList 0 (upd (y3r 131 (.str x) 81 (.int (t:Int))) 137 (.int ((0:Nat):Int))) (by lia) rfl rfl
 exact z0x (Y:=y3r 131 (.str x) 81 (.int (t:Int))) k7h rfl (z0d rfl (y2i (up:=false) (z1q (z1l (z0a rfl)) rfl) q (z4r (z0a r))))
end
structure k3f(ls:List Str):Prop where
 len:ls.length=5
 ok:∀ x,x∈ls->z2s x 10
 ne:y7e ls≠[]
 runs:∀ r,r∈y7e ls->r<=10
 few:(y7e ls).length<=1000
theorem k3f.at{ls:List Str}(O:k3f ls){i:Nat}(hi:i<5):ls[i]?=some (ls.getD i y6s)/\z2s (ls.getD i y6s) 10:=by
 have e:ls[i]?=some (ls.getD i y6s):=by rw [AI,AP (O.len.symm▸hi)];rfl
 exact⟨e,O.ok _ (CB e)⟩
theorem q9r:∀ (xs:List Nat) (a:Nat),a<=xs.foldl (fun a b=>if b > a then b else a) a/\(∀ x,x∈xs->x<=xs.foldl (fun a b=>if b > a then b else a) a)/\∀ m,a<=m->(∀ x,x∈xs->x<=m)->xs.foldl (fun a b=>if b > a then b else a) a<=m
 | [],a=>⟨AM _,fun x hx=>absurd hx BB,fun m h _=>h⟩
 | x::xs,a=>by
  have h:a<=(if x > a then x else a)/\x<=(if x > a then x else a)/\∀ m,a<=m->x<=m->(if x > a then x else a)<=m:=by
   split
   ·exact⟨BO ‹_›,AM _,fun m _ h=>h⟩
   ·exact⟨AM _,CH.mp ‹_›,fun m h _=>h⟩
  obtain⟨a1,a2,a3⟩:=q9r xs (if x > a then x else a)
  refine⟨AA h.1 a1,fun y hy=>?_,fun m h1 h2=>a3 m (h.2.2 m h1 (h2 x AC)) fun y hy=>h2 y (AD _ hy)⟩
  rcases AR.mp hy with e | hy
  ·rw [e];exact AA h.2.1 a1
  ·exact a2 y hy
theorem k9n{l:List Nat}:∀ x,x∈l->x<=mxN l:=fun x hx=>by
 induction l using List.casesOn with
 | nil=>exact absurd hx BB
 | cons y l=>
  rcases AR.mp hx with e | hx
  ·rw [e];exact(q9r l y).1
  ·exact(q9r l y).2.1 x hx
theorem k9o{l:List Nat}{m:Nat}(h:∀ x,x∈l->x<=m):mxN l<=m:=by
 induction l using List.casesOn with
 | nil=>exact BM _
 | cons y l=>exact(q9r l y).2.2 m (h y AC) fun x hx=>h x (AD _ hx)
theorem q9s:∀ (xs:List Nat) (a:Nat),(xs.map fun(n:Nat)=>(n:Int)).foldl (fun a b=>if b > a then b else a) (a:Int)=((xs.foldl (fun a b=>if b > a then b else a) a:Nat):Int)
 | [],_=>rfl
 | x::xs,a=>by
  rw [BL,CW,CW,<- q9s xs]
  congr 1
  by_cases h:x > a
  ·rw [AQ h,AQ (Int.ofNat_lt.mpr h)]
  ·rw [AS h,AS (fun k=>h (Int.ofNat_lt.mp k))]
theorem x4u(P:MP)(H:z0b){l:List Nat}(h:l≠[]):z4z P .max H [.lst (z1a l)]=some (.int ((mxN l:Nat):Int)):=by
 show(z4y (z1a l)).bind w1z=_
 rw [y0g]
 induction l using List.casesOn with
 | nil=>exact absurd rfl h
 | cons x xs=>exact AT (fun z=>some (PV.int z)) (q9s xs x)
section
variable {lv n i j:Nat} {L:Lim} {H:z0b} {C:z0h} {Y:z0n} {ls:List Str}
theorem j9e{P:MP}(H:z0b){x:Str}(h:x.length<=100000):z4z P .split H [.str x,.str (Str.ofString "\t")]=some (.lst ((Txt.split x y6s).map .str)):=by
 rw [show Str.ofString "\t"=y6s from j7r]
 exact AQ ⟨h,by decide⟩
theorem len_str(P:MP)(H:z0b){x:Str}(h:x.length<=1000000):z4z P .len H [.str x]=some (.int (x.length:Int)):=AQ h
theorem x4v(O:k3f ls):z0f mp2 (lv+2) 30 [.lst (ls.map .str)] [] L H=some (.lst ((y2w ls).map z1u),H):=by
 let B1:=y3q 133 (.lst (ls.map .str))
 have l5:ls.length<=z2n:=AA (CM O.len) (by decide)
 have er:(ls.flatMap fun x=>((Txt.split x y6s).filter fun _=>true).map fun y=>PV.int (y.length:Int))=z1a (y7e ls):=by
  unfold y7e z1a
  rw [EM]
  refine AT (fun f=>ls.flatMap f) (funext fun x=>?_)
  rw [z0k,AW];rfl
 have k1:=z6y (S:=sem mp2 (z0f mp2 (lv+1)) 36) (Y:=B1) (L:=L) (H:=H) (elt:=.prim .len [.var 140]) (a:=131) (b:=140) (k:=.over) (k2:=.over) (args:=[.var 133]) (args2:=[.prim .split [.var 131,.str (Str.ofString "\t")]]) (ifs2:=[])
  (xs:=ls) (enc:=PV.str) (fun x=>Txt.split x y6s) (enc2:=fun _ y=>PV.str y) (fun _ _=>true) (fun x y=>.int (y.length:Int)) (z2c rfl)
  (fun x hx=>z1q (z1l (z0u (z2j (z0a rfl) rfl) (j9e _ (AA (O.ok x hx).len (by decide))))) rfl) (fun _ _ _ _=>rfl)
  (fun x hx y hy _=>z0u (z1l (z0a rfl)) (len_str _ _ (AA (O.runs _ (CU.mpr ⟨x,hx,CT hy⟩)) (by decide)))) (by rw [er,z2y];exact AA O.few (by decide))
 rw [er] at k1
 have mx:=k9o O.runs
 have t1:(sem mp2 (z0f mp2 (lv+1)) 39).ev B1 (.bin .add (.int 1) (.prim .max [.comp (.prim .len [.var 140]) [(.one 131,.over,[.var 133],[]),(.one 140,.over,[.prim .split [.var 131,.str (Str.ofString "\t")]],[])]])) L H=some (.int ((1+mxN (y7e ls):Nat):Int),H):=
  z0g rfl (z0u (z1l (z0i k1)) (x4u _ _ O.ne)) (z2l H 1 _)
 generalize ht:1+mxN (y7e ls)=top at t1
 have top11:top<=11:=by lia
 have hcol:∀ x,x∈ls->∀ t,t∈List.range' 1 top->1<=t/\t<=30:=fun x _ t h=>by
  obtain⟨a,b⟩:=CR.mp h
  exact⟨a,by lia⟩
 have t2:(sem mp2 (z0f mp2 (lv+1)) 39).ev (upd B1 139 (.int (top:Int))) (.comp (.comp (.call 29 [.var 131,.var 81]) [(.one 81,.range,[.int 1,.bin .add (.var 139) (.int 1)],[])]) [(.one 131,.over,[.var 133],[])]) L H=some (.lst (ls.map fun x=>.lst (z1a ((List.range' 1 top).map fun t=>z8c x.cps.toList t))),H):=by
  have k:=z1y (S:=sem mp2 (z0f mp2 (lv+1)) 38) (elt:=.comp (.call 29 [.var 131,.var 81]) [(.one 81,.range,[.int 1,.bin .add (.var 139) (.int 1)],[])]) (Y:=upd B1 139 (.int (top:Int))) (v:=131) (k:=.over) (args:=[.var 133]) (ifs:=[]) (L:=L) (H:=H) (xs:=ls) (enc:=PV.str) (up:=false) (test:=fun _=>true) (out:=fun x=>.lst (z1a ((List.range' 1 top).map fun t=>z8c x.cps.toList t))) (z2c rfl) l5 (fun _ _=>rfl)
   fun x hx _=>by
    have k2:=z0i (z1y (S:=sem mp2 (z0f mp2 (lv+1)) 37) (elt:=.call 29 [.var 131,.var 81]) (Y:=upd (upd B1 139 (.int (top:Int))) 131 (.str x)) (v:=81) (k:=.range) (args:=[.int 1,.bin .add (.var 139) (.int 1)]) (ifs:=[]) (L:=Lup false L H) (H:=H) (xs:=List.range' 1 top) (enc:=fun(t:Nat)=>PV.int (t:Int)) (up:=false) (test:=fun _=>true) (out:=fun t=>.int ((z8c x.cps.toList t:Nat):Int))
     (y4s (a:=1) (b:=top+1) rfl (z0g (z0a rfl) rfl (z2l H top 1)) (by decide) (AA (CK top11) (by decide))) (by rw [GC];exact AA top11 (by decide)) (fun _ _=>rfl) fun t ht _=>z1k (z2j (z0a rfl) (z0a rfl)) (w4h (AA (O.ok x hx).len (by decide)) (hcol x hx t ht).1 (hcol x hx t ht).2))
    rw [z0k] at k2
    unfold z1a
    rw [AW];exact k2
  rw [z0k] at k
  exact z0i k
 let Y2:=upd (upd B1 139 (.int (top:Int))) 91 (.lst (ls.map fun x=>.lst (z1a ((List.range' 1 top).map fun t=>z8c x.cps.toList t))))
 have k3:=z6y (S:=sem mp2 (z0f mp2 (lv+1)) 38) (Y:=Y2) (L:=L) (H:=H) (elt:=.tup [.var 20,.var 135]) (a:=20) (b:=135) (k:=.range) (k2:=.range) (args:=[.int 5]) (args2:=[.bin .add (.var 20) (.int 1),.int 5]) (ifs2:=[])
  (xs:=List.range 5) (enc:=fun(w:Nat)=>PV.int (w:Int)) (fun i=>List.range' (i+1) (5 - (i+1))) (enc2:=fun _ (w:Nat)=>PV.int (w:Int)) (fun _ _=>true) (fun i j=>z1u (i,j)) rfl (fun i hi=>j9d rfl (AN.mp hi)) (fun _ _ _ _=>rfl) (fun i hi j hj _=>z1r (z2j (z0a rfl) (z0a rfl))) (k2f _ _)
 have eb:((List.range 5).flatMap fun i=>((List.range' (i+1) (5 - (i+1))).filter fun _=>true).map fun j=>z1u (i,j))=q4e.map z1u:=by
  unfold q4e
  rw [EM]
  refine AT (fun f=>(List.range 5).flatMap f) (funext fun i=>?_)
  rw [z0k,AW];rfl
 rw [eb] at k3
 let Y3:=upd Y2 99 (.lst (q4e.map z1u))
 have b5:∀ p,p∈q4e->p.1<5/\p.2<5:=by decide
 have eat:∀ (k' i k:Nat) (Y:z0n) (m:Nat),i<5->k<top->Y 91=some (.lst (ls.map fun x=>.lst (z1a ((List.range' 1 top).map fun t=>z8c x.cps.toList t))))->Y k'=some (.int (i:Int))->Y 31=some (.int (k:Int))->(sem mp2 (z0f mp2 (lv+1)) (m+3)).ev Y (.idx (.idx (.var 91) (.var k')) (.var 31)) L H=some (.int ((z8c (ls.getD i y6s).cps.toList (k+1):Nat):Int),H):=fun k' i k Y m hi hk h91 hk' h31=>
  z0t (z0t (z0a h91) (z0a hk') (by rw [BC,(O.at hi).1];rfl)) (z0a h31) (q0o (by rw [BC,List.getElem?_range' hk,Nat.one_mul,Nat.add_comm 1 k];rfl))
 have t4:(sem mp2 (z0f mp2 (lv+1)) 39).ev Y3 (.comp (.tup [.var 20,.var 135]) [(.tup [20,135],.over,[.var 99],[.cmp .eq (.comp (.var 31) [(.one 31,.range,[.var 139],[.cmp .ge (.idx (.idx (.var 91) (.var 20)) (.var 31)) (.idx (.idx (.var 91) (.var 135)) (.var 31))])]) (.lst [])])]) L H=some (.lst ((q4e.filter (j2h ls top)).map z1u),H):=by
  refine z0i (j6l (xs:=q4e) (e1:=fun p=>.int (p.1:Int)) (e2:=fun p=>.int (p.2:Int)) (up:=false) (test:=j2h ls top) (out:=z1u) (z2c rfl) (by decide) (fun p hp=>z3e (z4f rfl (z0l (q:=.lst []) (z0i (z1y (xs:=List.range top) (enc:=fun(t:Nat)=>PV.int (t:Int)) (up:=false) (test:=fun k=>decide (z8c (ls.getD p.2 y6s).cps.toList (k+1)<=z8c (ls.getD p.1 y6s).cps.toList (k+1))) (out:=fun(t:Nat)=>PV.int (t:Int))
   (z1q (z1l (z0a rfl)) (y8d (AA top11 (by decide)))) (by rw [DY];exact AA top11 (by decide)) (fun k hk=>z3e (z4f rfl (z0l (eat 20 p.1 k _ _ (b5 p hp).1 (AN.mp hk) rfl rfl rfl) (eat 135 p.2 k _ _ (b5 p hp).2 (AN.mp hk) rfl rfl rfl) (q8u _ _ _ _ _ _)) rfl)) fun k _ _=>z0a rfl)) (z1s z5p) (y2s _ _ _ _ _)) rfl)) fun p hp _=>z1r (z2j (z0a rfl) (z0a rfl)))
 unfold y2w
 rw [ht]
 exact z0x (Y:=B1) k7i rfl (z0d t1 (z0d t2 (z0d (z0i k3) (z4r t4))))
end
noncomputable def z7z(ns:List Int):List Ln:=([10,1,12,7]++ns.take 10).map x6p
theorem q4g(ns:List Int):Ups (z7z ns):=fun t ht=>by
 obtain⟨x,_,rfl⟩:=AX.mp ht
 have:=k8h _ (k8g x).1
 exact⟨this.2.2,this.2.1⟩
theorem j2i(ns:List Int):(z7z ns).length<=14:=by
 unfold z7z
 rw [AJ,AE]
 exact DQ (FD 10 ns) 4
section
variable {H:z0b} {Y:z0n} {ns:List Int} {b i j n:Nat} {ls:List Ln}
theorem w9g(h:Y 82=some (.lst (ns.map .int))):(sem mp2 C1 39).ev Y (.prim .sum [.comp (.bin .fdiv (.var 84) (.int 20)) [(.one 84,.over,[.slice (.var 82) none (some (.int 10))],[])]]) Lz H=some (.int (z6w ns),H):=by
 have key:=z1y (S:=sem mp2 C1 37) (elt:=.bin .fdiv (.var 84) (.int 20)) (Y:=Y) (v:=84) (k:=.over) (args:=[.slice (.var 82) none (some (.int 10))]) (ifs:=[]) (L:=Lz) (H:=H)
  (xs:=ns.take 10) (enc:=PV.int) (up:=false) (test:=fun _=>true) (out:=fun x=>PV.int (x.fdiv 20))
  (z1q (z1l (z6u (k:=((10:Nat):Int)) (z0a h) rfl (z9i H _ (by decide)))) (by rw [<- List.map_take];rfl))
  (AA (FD 10 ns) (by decide)) (fun x _=>rfl) fun x _ _=>z0g (z0a rfl) rfl (y4t H x (by decide) (by decide))
 rw [z0k,show(ns.take 10).map (fun x=>PV.int (x.fdiv 20))=((ns.take 10).map fun x=>x.fdiv 20).map PV.int from(AW (f:=fun x:Int=>x.fdiv 20) (g:=PV.int)).symm] at key
 exact z0u (z1l (z0i key)) (x3d _ _ _)
theorem w9h(h:Y 83=some (.int (z6w ns))):(sem mp2 C1 39).ev Y (.bin .mod (.bin .add (.int 7) (.var 83)) (.int 28)) Lz H=some (.int ((y8h ns:Nat):Int),H):=by
 have e1:(7+z6w ns).fmod 28=((y8h ns:Nat):Int):=by
  unfold y8h
  rw [EP _ (by decide),Int.toNat_of_nonneg (Int.emod_nonneg (7+z6w ns) (by decide:(28:Int)≠0))]
 exact z0g (z0g rfl (z0a h) (add_int H _ _)) rfl ((y4u H _ (by decide)).trans (AT (fun z=>some (PV.int z)) e1))
theorem w9i(h82:Y 82=some (.lst (ns.map .int)))(h85:Y 85=some (.lst (prs.map z1u))):(sem mp2 C1 39).ev Y (.comp (.bin .add (.idx (.var 85) (.bin .mod (.var 84) (.int 10))) (.tup [.cmp .eq (.bin .mod (.bin .fdiv (.var 84) (.int 10)) (.int 2)) (.int 1)])) [(.one 84,.over,[.bin .add (.lst [.int 10,.int 1,.int 12,.int 7]) (.slice (.var 82) none (some (.int 10)))],[])]) Lz H=some (.lst ((z7z ns).map z9h),H):=by
 have hl:([10,1,12,7]++ns.take 10).length<=z2n:=by
  rw [AE]
  exact AA (DQ (FD 10 ns) 4) (by decide)
 have hcat:y6q .add H (.lst [.int 10,.int 1,.int 12,.int 7]) (.lst ((ns.map .int).take 10))=some (.lst (([10,1,12,7]++ns.take 10).map .int)):=by
  rw [<- List.map_take,z7r _ _ _ (by rw [<- AJ (f:=PV.int),BH] at hl;exact hl)]
  rfl
 have key:=z1y (S:=sem mp2 C1 38) (elt:=.bin .add (.idx (.var 85) (.bin .mod (.var 84) (.int 10))) (.tup [.cmp .eq (.bin .mod (.bin .fdiv (.var 84) (.int 10)) (.int 2)) (.int 1)])) (Y:=Y) (v:=84) (k:=.over) (args:=[.bin .add (.lst [.int 10,.int 1,.int 12,.int 7]) (.slice (.var 82) none (some (.int 10)))]) (ifs:=[]) (L:=Lz) (H:=H)
  (xs:=[10,1,12,7]++ns.take 10) (enc:=PV.int) (up:=false) (test:=fun _=>true) (out:=fun x=>z9h (x6p x))
  (z1q (z1l (z0g rfl (z6u (k:=((10:Nat):Int)) (z0a h82) rfl (z9i H _ (by decide))) hcat)) rfl) hl (fun x _=>rfl)
  (fun x _ _=>by
   obtain⟨m1,m2⟩:=k8g x
   have hp:(prs.map z1u)[(x.fmod 10).toNat]?=some (z1u (prs.getD (x.fmod 10).toNat (0,1))):=by
    rw [BC,AI,AP (by exact m1)];rfl
   have z1:(sem mp2 C1 37).ev (upd Y 84 (.int x)) (.idx (.var 85) (.bin .mod (.var 84) (.int 10))) (Lup false Lz H) H=some (z1u (prs.getD (x.fmod 10).toNat (0,1)),H):=by
    refine z0t (z0a h85) ?_ hp
    rw [<- m2]
    exact z0g (z0a rfl) rfl (y4u H x (by decide))
   have z3:(sem mp2 C1 37).ev (upd Y 84 (.int x)) (.tup [.cmp .eq (.bin .mod (.bin .fdiv (.var 84) (.int 10)) (.int 2)) (.int 1)]) (Lup false Lz H) H=some (.tup [.bool ((x.fdiv 10).fmod 2==1)],H):=
    z1r (z1l (z0l (z0g (z0g (z0a rfl) rfl (y4t H x (by decide) (by decide))) rfl (y4u H _ (by decide))) rfl (eq_int _ _ _ _ _ _)))
   exact z0g z1 z3 rfl)
 rw [z0k] at key
 unfold z7z
 rw [AW]
 exact z0i key
theorem w9j(hb:b<28)(h45:Y 45=some (.int (b:Int))):(sem mp2 C1 39).ev Y (.prim .split [.pure (.call 6 [.bin .shl (.int 31) (.var 45)]),.str (Str.ofString ", ")]) Lz H=some (.lst ((W b).map .str),H):=by
 have h1:(sem mp2 C1 38).ev Y (.pure (.call 6 [.bin .shl (.int 31) (.var 45)])) Lz H=some (.str (z3s (31*2^b)),H):=w3w (lv:=18) (n:=36) hb (by decide) (z0g (p:=.int ((31:Nat):Int)) rfl (z0a h45) (q6p H (by decide) (AA (BO hb) (by decide))))
 have h2:=k8x (n:=37) h1 (AA (y8k hb (by decide:31<32)) (by decide))
 rw [y3l hb (by decide),k1e] at h2
 exact h2
theorem w9k(hb:b<28)(h45:Y 45=some (.int (b:Int)))(h55:Y 55=some (.lst ((W b).map .str))):(sem mp2 C1 39).ts Y (.cmp .ne (.var 55) (.call 19 [.var 45])) Lz H=some (false,H):=
 z4f rfl (z0l (z0a h55) (z1k (z1l (z0a h45)) (k1a 18 hb _ _)) (j7u mp2 C1 (k1f hb) (k1f hb) Lz H)) (by rw [AV rfl];rfl)
noncomputable def y7f(N:List (List Nat))(p:Nat):Nat:=((nb N p).map fun q=>2^q).sum
theorem w9l{N:List (List Nat)}(hb:b<28)(R:z4e N)(hM:∀ p,p<5->y7f N p<32)(h57:Y 57=some (z1b N))(h45:Y 45=some (.int (b:Int))) :
  (sem mp2 C1 39).ev Y (.comp (.pure (.call 6 [.bin .shl (.prim .sum [.comp (.bin .shl (.int 1) (.var 32)) [(.one 32,.over,[.var 68],[])]]) (.var 45)])) [(.one 68,.over,[.var 57],[])]) Lz H=some (.lst (z4c b (y7f N)),H):=by
 have eN:N.map (fun r=>PV.lst (z1a r))=(List.range 5).map fun p=>PV.lst (z1a (nb N p)):=by
  refine List.ext_getElem? fun p=>?_
  by_cases hp:p<5
  ·rw [R.row hp,BC,EB hp];rfl
  ·rw [CY (by rw [AJ,R.len];exact CH.mp hp),CY (by rw [AJ,DY];exact CH.mp hp)]
 refine(z0i (z1y (xs:=List.range 5) (enc:=fun p=>.lst (z1a (nb N p))) (up:=false) (test:=fun _=>true) (out:=fun p=>.str (z3s (y7f N p*2^b))) (z2c (h57.trans (AT (fun z=>some (PV.lst z)) eN))) (by decide) (fun _ _=>rfl) fun p hp _=>?_)).trans (by rw [z0k])
 have p5:=AN.mp hp
 obtain⟨_,r2,r3⟩:=R.get p5
 refine w3w (lv:=18) (n:=36) hb (hM p p5) ?_
 have key:=z1y (S:=sem mp2 C1 33) (elt:=.bin .shl (.int 1) (.var 32)) (Y:=upd Y 68 (.lst (z1a (nb N p)))) (v:=32) (k:=.over) (args:=[.var 68]) (ifs:=[]) (L:=⟨H.length,H.length⟩) (H:=H) (xs:=nb N p) (enc:=fun(q:Nat)=>PV.int (q:Int)) (up:=false) (test:=fun _=>true) (out:=fun q=>.int ((2^q:Nat):Int)) (z2c rfl) (AA r2 (by decide)) (fun _ _=>rfl)
  fun q hq _=>z0g rfl (z0a rfl) (y2j H (BP (r3 q hq) (by decide)))
 rw [z0k,show(nb N p).map (fun q=>PV.int ((2^q:Nat):Int))=z1a ((nb N p).map fun q=>2^q) from(AW (f:=fun q=>2^q) (g:=fun(n:Nat)=>PV.int (n:Int))).symm] at key
 exact z0g (z0u (z1l (z0i key)) (x3a _ _ _)) (z0a h45) (q6p H (BP (hM p p5) (by decide)) (AA (BO hb) (by decide)))
theorem w9m(hb:b<28)(hu:Ups ls)(hn:ls.length<=400)(A:At H i j (ls.map (lnT b)))(h118:Y 118=some (.inst 1 i)) :
  (sem mp2 C1 39).ev Y (.new 1 [.meth 88 (.var 118) []]) Lz H=some (.inst 1 (H.length+1),H++[.lst ((ls.map (lnT b)).map z4o)]++[.att [(30,.ref H.length)]]):=by
 have A0:=A.t hb hu (AA hn (by decide))
 have hl:(H++[z3a.lst ((ls.map (lnT b)).map z4o)]).length=H.length+1:=AE
 have hinit:=k0a 17 (L:=Lz) (H:=H++[.lst ((ls.map (lnT b)).map z4o)]++[.att []]) (i:=(H++[z3a.lst ((ls.map (lnT b)).map z4o)]).length) (r:=H.length) (hs:=ls.map (lnT b)) (q6a (z2r _ _)) (z2r _ _) (BM _) fun h hh=>by
  obtain⟨l,hl,rfl⟩:=AX.mp hh
  exact⟨(j7z hb (hu l hl) _).ok,(k1n (hu l hl)).1⟩
 rw [y0f] at hinit
 have:=q0c (n:=38) (Y:=Y) j6n (z1l (z4n (z0a h118) A0.a z5p j6p (j6w 18 A0))) hinit
 rw [hl] at this
 exact this
noncomputable def z2h(N:List (List Nat)):List Nat:=[4,3,2,1,0].flatMap fun c=>(List.range 5).filter fun u=>(nb N u).length==c
theorem w4i{N:List (List Nat)}(R:z4e N)(h57:Y 57=some (z1b N)) :
  (sem mp2 C1 39).ev Y (.comp (.var 58) [(.one 10,.over,[.tup [.int 4,.int 3,.int 2,.int 1,.int 0]],[]),(.one 58,.range,[.int 5],[.cmp .eq (.prim .len [.idx (.var 57) (.var 58)]) (.var 10)])]) Lz H=some (.lst (z1a (z2h N)),H):=by
 have e:([4,3,2,1,0].flatMap fun c=>((List.range 5).filter fun u=>(nb N u).length==c).map fun(u:Nat)=>PV.int (u:Int))=z1a (z2h N):=by
  unfold z1a z2h
  rw [EM]
 have key:=z6y (S:=sem mp2 C1 38) (Y:=Y) (L:=Lz) (H:=H) (elt:=.var 58) (a:=10) (b:=58) (k:=.over) (k2:=.range) (args:=[.tup [.int 4,.int 3,.int 2,.int 1,.int 0]]) (args2:=[.int 5]) (ifs2:=[.cmp .eq (.prim .len [.idx (.var 57) (.var 58)]) (.var 10)])
  (xs:=[4,3,2,1,0]) (enc:=fun(c:Nat)=>PV.int (c:Int)) (fun _=>List.range 5) (enc2:=fun _ (u:Nat)=>PV.int (u:Int)) (fun c u=>(nb N u).length==c) (fun _ (u:Nat)=>PV.int (u:Int)) rfl (fun _ _=>rfl)
  (fun c _ u hu=>z3e (z4f rfl (z0l (z0u (z1l (x4e R (AN.mp hu) h57 rfl)) (by rw [j7l,z2y])) (z0a rfl) ((eq_int _ _ _ _ _ _).trans (by rw [j7j]))) rfl)) (fun _ _ _ _ _=>z0a rfl)
  (AA (z7t _ 5 _ fun c _=>by rw [AJ];exact BZ _ _) (by decide))
 rw [e] at key
 exact z0i key
noncomputable def pcL:List Str:=[Str.ofString "  ",Str.ofString "\t",Str.ofString " \t"]
noncomputable def pcN(r:Int)(v:Nat):Nat:=(((v:Int)+(r.fdiv 28).fdiv (3^v)).fmod 3).toNat
noncomputable def j9y(r:Int)(v:Nat):Str:=pcL.getD (pcN r v) (Str.ofString "  ")
theorem x7f(r:Int)(v:Nat):((v:Int)+(r.fdiv 28).fdiv (3^v)).fmod 3=((pcN r v:Nat):Int)/\pcN r v<3:=by
 unfold pcN
 rw [EP _ (by decide)]
 have h1:=Int.emod_nonneg ((v:Int)+(r.fdiv 28).fdiv (3^v)) (by decide:(3:Int)≠0)
 have h2:=Int.emod_lt_of_pos ((v:Int)+(r.fdiv 28).fdiv (3^v)) (by decide:(0:Int)<3)
 lia
theorem j9f(r:Int)(v:Nat):pcL[pcN r v]?=some (j9y r v):=by
 unfold j9y
 rw [AI,AP (show pcN r v<pcL.length from(x7f r v).2)];rfl
theorem x4w(r:Int)(v:Nat):j9y r v∈pcL:=CB (j9f r v)
theorem w9n(H:z0b):∀ v:Nat,v<5->y6q .pow H (.int 3) (.int (v:Int))=some (.int (3^v:Int))
 | 0,_=>rfl
 | 1,_=>rfl
 | 2,_=>rfl
 | 3,_=>rfl
 | 4,_=>rfl
 | n+5,h=>absurd h (CH.mpr (CP 5 n))
theorem w4j{r:Int}(h83:Y 83=some (.int r)):(sem mp2 C1 39).ev Y (.comp (.idx (.tup [.str (Str.ofString "  "),.str (Str.ofString "\t"),.str (Str.ofString " \t")]) (.bin .mod (.bin .add (.var 32) (.bin .fdiv (.bin .fdiv (.var 83) (.int 28)) (.bin .pow (.int 3) (.var 32)))) (.int 3))) [(.one 32,.range,[.int 5],[])]) Lz H=some (.lst (j8u (j9y r)),H):=by
 refine(z0i (z1y (xs:=List.range 5) (enc:=fun(v:Nat)=>PV.int (v:Int)) (up:=false) (test:=fun _=>true) (out:=fun v=>.str (j9y r v)) rfl (by decide) (fun _ _=>rfl) fun v hv _=>?_)).trans (by rw [z0k])
 have v5:=AN.mp hv
 have hp:∀ v:Nat,v<5->(3^v:Int)≠0/\(3^v:Int).natAbs<1000000:=by decide
 refine z8s (k:=pcN r v) (l:=pcL.map .str) rfl ?_ (by rw [BC,j9f];rfl)
 exact z0g (z0g (z0a rfl) (z0g (z0g (z0a h83) rfl (y4t H r (by decide) (by decide))) (z0g rfl (z0a rfl) (w9n H v v5)) (y4t H _ (hp v v5).1 (hp v v5).2)) (add_int H _ _)) rfl ((y4u H _ (by decide)).trans (AT (fun z=>some (PV.int z)) (x7f r v).1))
end
noncomputable def swp(p:Nat×Nat):Nat×Nat:=(p.2,p.1)
noncomputable def z5d(ls:List Ln):List (Nat×Nat):=ls.map pq++ls.map fun l=>swp (pq l)
noncomputable def z6e(ties:List (Nat×Nat)):List (List Nat):=(List.range 5).map fun u=>(List.range 5).filter fun v=>decide ((u,v)∈ties)
theorem q4h(ties:List (Nat×Nat)):z4e (z6e ties):=⟨AJ _,fun r hr=>by
 obtain⟨u,_,rfl⟩:=AX.mp hr
 exact⟨AA (BZ _ _) (by decide),fun q hq=>AN.mp (BF.mp hq).1⟩⟩
noncomputable def cst(p:Nat×Nat):Int×Int:=((p.1:Int),(p.2:Int))
noncomputable def w4k(q:Int×Int):PV:=.tup [.int q.1,.int q.2]
noncomputable def j9g(l:List (Nat×Nat)):List (Int×Int):=(l.map cst).mergeSort z3o
noncomputable def k2i(S:List Pg)(bl:List (Nat×Nat)):List (Nat×Nat):=bl.map fun p=>((S.map fun l=>l.1).getD p.1 0,(S.map fun l=>l.1).getD p.2 0)
noncomputable def k2j(met ties:List (Nat×Nat)):Bool:=decide (j9g (met++met.map swp)=j9g ties)
theorem q4i:∀ l:List (Nat×Nat),pairsOf (l.map z1u)=some (l.map cst)
 | []=>rfl
 | p::l=>by
  show(pairsOf (l.map z1u)).map _=_
  rw [q4i l];rfl
theorem x7g{P:MP}{H:z0b}{l:List (Nat×Nat)}(h1:l.length≠1)(h2:l.length<64)(h3:∀ p,p∈l->p.1<5/\p.2<5):z4z P .sorted H [.lst (l.map z1u)]=some (.lst ((j9g l).map w4k)):=by
 have e:∀ n:Nat,n<5->z2o (n:Int)=true:=fun n h=>AH.mpr ⟨AV (EO n),AV (Int.ofNat_lt.mpr (BP h (by decide:5<1000)))⟩
 show(pairsOf (l.map z1u)).bind (fun ps=>if ps.length≠1/\ps.length<64/\(ps.all fun q=>z2o q.1&&z2o q.2)=true then some (PV.lst ((ps.mergeSort z3o).map w4k)) else none)=_
 rw [q4i l]
 refine AQ ⟨?_,?_,?_⟩
 ·rw [AJ];exact h1
 ·rw [AJ];exact h2
 ·refine BA.mpr fun q hq=>?_
  obtain⟨p,hp,rfl⟩:=AX.mp hq
  exact AH.mpr ⟨e _ (h3 p hp).1,e _ (h3 p hp).2⟩
theorem q6z:∀ v,v<5->List.range 5=List.range v++v::List.range' (v+1) (4 - v):=by decide
theorem q4j{S:List Pg}{p:Nat×Nat}(h:p∈z7y S):p.1<p.2/\p.2<5:=by
 obtain⟨i,hi,hp⟩:=CU.mp h
 obtain⟨j,hj,rfl⟩:=AX.mp hp
 exact r15 (BF.mp hj).1
section
variable {H:z0b} {Y:z0n} {b i j n:Nat} {ls:List Ln} {S:List Pg} {ps:List (Nat×Nat)}
theorem w4l(O:x4s b S)(A0:HAt H i j (S.map (lnP b)))(h90:Y 90=some (.inst 1 i)):(sem mp2 C1 39).ev Y (.pure (.call 27 [.pure (.meth 102 (.var 90) []),.pure (.meth 103 (.var 90) [])])) Lz H=some (.lst ((z7y S).map z1u),H):=by
 have k1:=fun L=>j8m (lv:=18) (n:=34) (L:=L) (k:=90) A0 h90
 have k2:=fun L=>q9k (lv:=18) (n:=34) (L:=L) (k:=90) A0 h90
 rw [q6w] at k1
 rw [show((S.map (lnP b)).map (·.2)).map PV.str=S.map fun l=>.str l.2.1 by rw [AW,AW];rfl] at k2
 exact z7p (L:=Lz) (z1k (z2j (k1 _) (k2 _)) (k2g (lv:=16) O (AM _) (AM _))) (AT (Option.map PV.lst) (k9m _ _ _))
theorem w4m(hb:b<28)(h55:Y 55=some (.lst ((W b).map .str))):(sem mp2 C1 39).ev Y (.comp (.prim .lower [.var 47]) [(.one 47,.over,[.var 55],[])]) Lz H=some (.lst ((List.range 5).map fun v=>.str (Txt.lower (wk (b+v)))),H):=
 (z0i (z1y (xs:=List.range 5) (enc:=fun v=>.str (wk (b+v))) (up:=false) (test:=fun _=>true) (out:=fun v=>.str (Txt.lower (wk (b+v)))) (z2c (h55.trans (by rw [w3p]))) (by decide) (fun _ _=>rfl)
  fun v hv _=>k3d (z0a rfl) (AA (z6m (b32 hb (AN.mp hv))).len (by decide)))).trans (by rw [z0k])
theorem w4n(O:x4s b S)(A0:HAt H i j (S.map (lnP b)))(h90:Y 90=some (.inst 1 i))(h142:Y 142=some (.lst ((List.range 5).map fun v=>.str (Txt.lower (wk (b+v)))))) :
  (sem mp2 C1 39).ev Y (.comp (.prim .index [.var 142,.prim .lower [.var 34]]) [(.one 34,.over,[.pure (.meth 102 (.var 90) [])],[])]) Lz H=some (.lst (z1a (S.map fun l=>l.1)),H):=by
 have k1:=j8m (lv:=18) (n:=35) (L:=Lz) (k:=90) A0 h90
 rw [q6w] at k1
 refine(z0i (z1y (xs:=S) (enc:=fun l=>.str (lnP b l).1) (up:=false) (test:=fun _=>true) (out:=fun l=>.int (l.1:Int)) (z1q (z1l k1) rfl) (AA (CM O.len) (by decide)) (fun _ _=>rfl) fun l hl _=>?_)).trans (by rw [z0k];unfold z1a;rw [AW];rfl)
 have l5:=O.lt l hl
 have w:=z6m (b32 O.b l5)
 have sp:=q6z _ l5
 refine z0u (z2j (z0a h142) (k3d (z0a rfl) (AA (y8b w) (by decide)))) ?_
 rw [show Txt.lower (lnP b l).1=Txt.lower (wk (b+l.1)) from y8a w]
 have hx:∀ v,v∈List.range l.1++l.1::List.range' (l.1+1) (4 - l.1)->v<5:=fun v hv=>AN.mp (sp▸hv)
 have k:=y6n (P:=mp2) (H:=H) (g:=fun v=>PV.str (Txt.lower (wk (b+v)))) (f:=fun v=>.str (Txt.lower (wk (b+v)))) (l:=l.1) (A:=List.range l.1) (R:=List.range' (l.1+1) (4 - l.1)) (fun v hv=>y8l (z6m (b32 O.b (hx v hv))).sokl) rfl (DC (Txt.lower (wk (b+l.1)))) fun v hv=>ES fun e=>DL (AN.mp hv) (EC (y2n (b32 O.b (BP (AN.mp hv) l5)) (b32 O.b l5) e))
 rw [<- sp,DY] at k
 exact k
theorem w4o(hS:S.length=5)(hp:∀ p,p∈ps->p.1<5/\p.2<5)(hn:ps.length<=100)(h143:Y 143=some (.lst (z1a (S.map fun l=>l.1))))(h136:Y 136=some (.lst (ps.map z1u))) :
  (sem mp2 C1 39).ev Y (.comp (.tup [.idx (.var 143) (.var 20),.idx (.var 143) (.var 135)]) [(.tup [20,135],.over,[.var 136],[])]) Lz H=some (.lst ((k2i S ps).map z1u),H):=by
 have hat:∀ i,i<5->(z1a (S.map fun l=>l.1))[i]?=some (.int (((S.map fun l=>l.1).getD i 0:Nat):Int)):=fun i hi=>q0o (by rw [AI,AP (by rw [AJ,hS];exact hi)];rfl)
 have k:=z0i (j6l (S:=sem mp2 C1 38) (elt:=.tup [.idx (.var 143) (.var 20),.idx (.var 143) (.var 135)]) (Y:=Y) (L:=Lz) (H:=H) (a:=20) (b:=135) (ifs:=[]) (xs:=ps) (e1:=fun p=>.int (p.1:Int)) (e2:=fun p=>.int (p.2:Int)) (up:=false) (test:=fun _=>true) (out:=fun p=>z1u ((S.map fun l=>l.1).getD p.1 0,(S.map fun l=>l.1).getD p.2 0)) (z2c h136) (AA hn (by decide)) (fun _ _=>rfl)
  fun p h _=>z1r (z2j (z0t (z0a h143) (z0a rfl) (hat _ (hp p h).1)) (z0t (z0a h143) (z0a rfl) (hat _ (hp p h).2))))
 rw [z0k] at k
 unfold k2i
 rw [AW]
 exact k
theorem w4p(hn:ls.length<=50)(h98:Y 98=some (.lst (ls.map z9h))):(sem mp2 C1 39).ev Y (.bin .add (.comp (.tup [.var 58,.var 32]) [(.tup [58,32,48],.over,[.var 98],[])]) (.comp (.tup [.var 32,.var 58]) [(.tup [58,32,48],.over,[.var 98],[])])) Lz H=some (.lst ((z5d ls).map z1u),H):=by
 have hl:ls.length<=z2n:=AA hn (by decide)
 have k1:=z0i (j6m (S:=sem mp2 C1 37) (elt:=.tup [.var 58,.var 32]) (Y:=Y) (L:=Lz) (H:=H) (a:=58) (b:=32) (c:=48) (ifs:=[]) (xs:=ls) (e1:=fun l=>.int (l.1:Int)) (e2:=fun l=>.int (l.2.1:Int)) (e3:=fun l=>.bool l.2.2) (up:=false) (test:=fun _=>true) (out:=fun l=>z1u (pq l)) (z2c h98) hl (fun _ _=>rfl) fun l _ _=>z1r (z2j (z0a rfl) (z0a rfl)))
 have k2:=z0i (j6m (S:=sem mp2 C1 37) (elt:=.tup [.var 32,.var 58]) (Y:=Y) (L:=Lz) (H:=H) (a:=58) (b:=32) (c:=48) (ifs:=[]) (xs:=ls) (e1:=fun l=>.int (l.1:Int)) (e2:=fun l=>.int (l.2.1:Int)) (e3:=fun l=>.bool l.2.2) (up:=false) (test:=fun _=>true) (out:=fun l=>z1u (swp (pq l))) (z2c h98) hl (fun _ _=>rfl) fun l _ _=>z1r (z2j (z0a rfl) (z0a rfl)))
 rw [z0k] at k1 k2
 refine z0g k1 k2 ((z7r H _ _ ?_).trans ?_)
 ·rw [AE,AJ,AJ];exact AA (BK hn hn) (by decide)
 ·unfold z5d
  rw [BH,AW,AW];rfl
theorem w4q(h63:Y 63=some (.lst (ps.map z1u))):(sem mp2 C1 39).ev Y (.comp (.comp (.var 32) [(.one 32,.range,[.int 5],[.cmp .in_ (.tup [.var 58,.var 32]) (.var 63)])]) [(.one 58,.range,[.int 5],[])]) Lz H=some (z1b (z6e ps),H):=by
 refine(z0i (z1y (xs:=List.range 5) (enc:=fun(u:Nat)=>PV.int (u:Int)) (up:=false) (test:=fun _=>true) (out:=fun u=>.lst (z1a ((List.range 5).filter fun v=>decide ((u,v)∈ps)))) rfl (by decide) (fun _ _=>rfl) fun u _ _=>?_)).trans (by rw [z0k];unfold z1b z6e;rw [AW];rfl)
 exact z0i (z1y (xs:=List.range 5) (enc:=fun(u:Nat)=>PV.int (u:Int)) (up:=false) (test:=fun v=>decide ((u,v)∈ps)) (out:=fun(v:Nat)=>PV.int (v:Int)) rfl (by decide) (fun v _=>z3e (z4f rfl (z0l (z1r (z2j (z0a rfl) (z0a rfl))) (z0a h63) (j7k _ _ _ _)) rfl)) fun v _ _=>z0a rfl)
theorem w4r{met ties:List (Nat×Nat)}(hm:met.length<=20)(ht:ties.length≠1)(ht2:ties.length<64)(m5:∀ p,p∈met->p.1<5/\p.2<5)(t5:∀ p,p∈ties->p.1<5/\p.2<5)(h69:Y 69=some (.lst (met.map z1u)))(h63:Y 63=some (.lst (ties.map z1u))) :
  (sem mp2 C1 39).ev Y (.cmp .eq (.prim .sorted [.bin .add (.var 69) (.comp (.tup [.var 62,.var 61]) [(.tup [61,62],.over,[.var 69],[])])]) (.prim .sorted [.var 63])) Lz H=some (.bool (k2j met ties),H):=by
 have k:=z0i (j6l (S:=sem mp2 C1 35) (elt:=.tup [.var 62,.var 61]) (Y:=Y) (L:=Lz) (H:=H) (a:=61) (b:=62) (ifs:=[]) (xs:=met) (e1:=fun p=>.int (p.1:Int)) (e2:=fun p=>.int (p.2:Int)) (up:=false) (test:=fun _=>true) (out:=fun p=>z1u (swp p)) (z2c h69) (AA hm (by decide)) (fun _ _=>rfl) fun p _ _=>z1r (z2j (z0a rfl) (z0a rfl)))
 rw [z0k] at k
 have c:y6q .add H (.lst (met.map z1u)) (.lst (met.map fun p=>z1u (swp p)))=some (.lst ((met++met.map swp).map z1u)):=(z7r H _ _ (by rw [AE,AJ,AJ];exact AA (BK hm hm) (by decide))).trans (by rw [BH,AW];rfl)
 refine z0l (z0u (z1l (z0g (z0a h69) k c)) (x7g ?_ ?_ ?_)) (z0u (z1l (z0a h63)) (x7g ht ht2 t5)) (z7x rfl (z9v (f:=fun l:List (Int×Int)=>PV.lst (l.map w4k)) (z5q (q0b (f:=PV.int) (g:=PV.int) j7g j7g)) (by decide) (fun _ _=>⟨trivial,trivial⟩) fun _ _=>⟨trivial,trivial⟩))
 ·rw [AE,AJ];lia
 ·rw [AE,AJ];lia
 ·intro p hp
  rcases BJ.mp hp with hp | hp
  ·exact m5 p hp
  ·obtain⟨q,hq,rfl⟩:=AX.mp hp
   exact⟨(m5 q hq).2,(m5 q hq).1⟩
end
theorem k9p:y3s z4o (fun h=>PyData.strOk h.1=true/\PyData.strOk h.2=true) 1:=q0b (f:=PV.str) (g:=PV.str) y6g y6g
theorem w4s(P:MP)(C:z0h){a b:HL}(ha:∀ h,h∈a->PyData.strOk h.1=true/\PyData.strOk h.2=true)(hb:∀ h,h∈b->PyData.strOk h.1=true/\PyData.strOk h.2=true)(L:Lim)(H:z0b):z9p P C .ne (.lst (a.map z4o)) (.lst (b.map z4o)) L H=some (.bool (!decide (a=b)),H):=
 z7x rfl (AT (Option.map (!·)) (z9v (f:=fun l:HL=>PV.lst (l.map z4o)) (z5q k9p) (by decide) ha hb))
theorem w9o(P:MP)(C:z0h){a:HL}(ha:∀ h,h∈a->PyData.strOk h.1=true/\PyData.strOk h.2=true)(L:Lim)(H:z0b):z9p P C .eq (.lst (a.map z4o)) (.lst []) L H=some (.bool (decide (a=[])),H):=
 z7x rfl (z9v (f:=fun l:HL=>PV.lst (l.map z4o)) (z5q k9p) (by decide) (a:=a) (b:=[]) ha fun h hh=>absurd hh BB)
theorem okT{b:Nat}(hb:b<28){ls:List Ln}(hu:Ups ls):∀ h,h∈ls.map (lnT b)->PyData.strOk h.1=true/\PyData.strOk h.2=true:=fun h hh=>by
 obtain⟨l,hl,rfl⟩:=AX.mp hh
 exact⟨(j7z hb (hu l hl) _).sok,(k1n (hu l hl)).2⟩
theorem k9q{w:Str}(h:k0c w)(g:Bool):PyData.strOk (dr g w)=true:=by
 induction g using Bool.casesOn
 ·exact h.sokl
 ·exact h.soku
theorem okP{b:Nat}{S:List Pg}(O:x4s b S):∀ h,h∈S.map (lnP b)->PyData.strOk h.1=true/\PyData.strOk h.2=true:=fun h hh=>by
 obtain⟨l,hl,rfl⟩:=AX.mp hh
 exact⟨k9q (z6m (b32 O.b (O.lt l hl))) _,(O.lead l hl).sok⟩
theorem q4k{c:Nat}:∀ {ws:List (List Nat)},c∈z6c ws->c=44\/c=32\/∃ w,w∈ws/\c∈w
 | [],h=>absurd h BB
 | [w],h=>.inr (.inr ⟨w,AC,h⟩)
 | w::v::ws,h=>by
  rcases BJ.mp (show c∈w++[44,32]++z6c (v::ws) from h) with h | h
  ·rcases BJ.mp h with h | h
   ·exact .inr (.inr ⟨w,AC,h⟩)
   ·rcases AR.mp h with e | h
    ·exact .inl e
    ·exact .inr (.inl (AL.mp h))
  ·rcases q4k h with e | e | ⟨x,hx,hc⟩
   ·exact .inl e
   ·exact .inr (.inl e)
   ·exact .inr (.inr ⟨x,AD _ hx,hc⟩)
theorem j2j{b m:Nat}(hb:b<28)(hm:m<32):PyData.strOk (z3s (m*2^b))=true:=DO.mpr fun c hc=>AV (by
 have h:=EU.mpr hc
 rw [z8u hb hm] at h
 unfold Txt.join at h
 rw [EQ,z8r] at h
 rcases q4k h with e | e | ⟨w,hw,hcw⟩
 ·rw [e];decide
 ·rw [e];decide
 ·obtain⟨t,ht,rfl⟩:=AX.mp hw
  exact AK (DO.mp (q3q hb m t ht) c (EU.mp hcw)))
theorem q4l{V Z:Type}(d:V)(f:V->Z)(l:List V):(List.range l.length).map (fun k=>f (l.getD k d))=l.map f:=by
 refine List.ext_getElem (by rw [AJ,AJ,DY]) fun k h1 h2=>?_
 rw [AJ] at h2
 rw [EK,EK,List.getElem_range,AI,AP h2];rfl
theorem q4m{V Z:Type}(d:V)(f:V->Z)(p:V->Bool)(l:List V):((List.range l.length).filter fun k=>p (l.getD k d)).map (fun k=>f (l.getD k d))=(l.filter p).map f:=by
 have e:=q4l d id l
 rw [List.map_id] at e
 have:=AT (fun z=>(z.filter p).map f) e
 rw [List.filter_map,AW] at this
 exact this
noncomputable abbrev l0:Ln:=(0,0,false)
theorem j9h{ls:List Ln}{k:Nat}(hk:k<ls.length):ls[k]?=some (ls.getD k l0)/\ls.getD k l0∈ls:=by
 have e:ls[k]?=some (ls.getD k l0):=by rw [AI,AP hk];rfl
 exact⟨e,CB e⟩
noncomputable def ovT(S:List Pg):List (Nat×Nat):=(List.range 5).flatMap fun i=>((List.range' (i+1) (5 - (i+1))).filter fun j=>(S.getD j (0,wk 0,false,[])).2.2.2.contains (S.getD i (0,wk 0,false,[])).1).map fun j=>(i,j)
section
variable {H:z0b} {Y:z0n} {b i j n:Nat} {ls:List Ln} {S:List Pg} {ps:List (Nat×Nat)} {N:List (List Nat)} {M:Nat->Nat}
theorem q0t{k:Nat}{hs:HL}(A0:HAt H i j hs)(hk:Y k=some (.inst 1 i)):(sem mp2 C1 (n+3)).ev Y (.pure (.meth 88 (.var k) [])) Lz H=some (.lst (hs.map z4o),H):=
 z7p (L:=Lz) (z4n (z0a hk) A0.a z5p j6p (j6w 18 A0)) (j6q (z1t (z2r _ _)) (z6b _ _))
theorem w4t{left:List Ln}{s:Bool}(hb:b<28)(R:z4e N)(hM:∀ p,p<5->M p<32)(hu:Ups left)(A0:HAt H i j (left.map (lnT b))){B:List (List Nat)}(RB:z4e B)
 (f1:y0h N (z3g M)=z8w B)(f2:decide (left=[])=z8w B)(f3:s=z8w B)
 (h87:Y 87=some (.lst (z4c b M)))(h55:Y 55=some (.lst ((W b).map .str)))(h57:Y 57=some (z1b N))(h73:Y 73=some (.inst 1 i))(h145:Y 145=some (.bool s))(h144:Y 144=some (z1b B)) :
  (sem mp2 C1 39).ts Y (.cmp .ne (.lst [.call 20 [.var 87,.var 55,.var 57],.cmp .eq (.pure (.meth 88 (.var 73) [])) (.lst []),.var 145]) (.bin .mul (.lst [.call 18 [.var 144]]) (.int 3))) Lz H=some (false,H):=by
 have k1:=z1k (P:=mp2) (n:=35) (Y:=Y) (L:=Lz) (z5j (z0a h87) (z2j (z0a h55) (z0a h57))) (j8k (lv:=18) (L:=Lz) (H:=H) hb R hM)
 have k2:=z0l (P:=mp2) (n:=35) (o:=.eq) (q0t (n:=32) A0 h73) (z1s (n:=34) z5p) (w9o mp2 C1 (okT hb hu) Lz H)
 rw [show decide (left.map (lnT b)=[])=decide (left=[]) from FF.mpr FZ,f2] at k2
 rw [f1] at k1
 rw [f3] at h145
 have k3:=z1k (P:=mp2) (n:=34) (Y:=Y) (L:=Lz) (z1l (z0a h144)) (k8s (lv:=18) (L:=Lz) (H:=H) RB)
 have c:∀ x:Bool,z9p mp2 C1 .ne (.lst [.bool x,.bool x,.bool x]) (.lst [.bool x,.bool x,.bool x]) Lz H=some (.bool false,H):=fun x=>by
  induction x using Bool.casesOn<;>rfl
 exact z4f rfl (z0l (z1s (z5j k1 (z2j k2 (z0a h145)))) (z0g (z1s (z1l k3)) rfl (show w1y H (.lst [.bool (z8w B)]) (.int 3)=some (.lst [.bool (z8w B),.bool (z8w B),.bool (z8w B)]) from rfl)) (c _)) rfl
theorem w4u(hb:b<28)(hu:Ups ls)(hn:ls.length<=50)(h98:Y 98=some (.lst (ls.map z9h)))(h55:Y 55=some (.lst ((W b).map .str))):(sem mp2 C1 39).ev Y (.comp (.bin .add (.bin .add (.idx (.var 55) (.var 58)) (.str (Str.ofString ", "))) (.idx (.var 55) (.var 32))) [(.tup [58,32,48],.over,[.var 98],[])]) Lz H=some (.lst (ls.map fun l=>.str (tl b l.1 l.2.1)),H):=by
 have k1:=z0i (j6m (S:=sem mp2 C1 38) (elt:=.bin .add (.bin .add (.idx (.var 55) (.var 58)) (.str (Str.ofString ", "))) (.idx (.var 55) (.var 32))) (Y:=Y) (L:=Lz) (H:=H) (a:=58) (b:=32) (c:=48) (ifs:=[]) (xs:=ls) (e1:=fun l=>.int (l.1:Int)) (e2:=fun l=>.int (l.2.1:Int)) (e3:=fun l=>.bool l.2.2) (up:=false) (test:=fun _=>true) (out:=fun l=>.str (tl b l.1 l.2.1)) (z2c h98) (AA hn (by decide)) (fun _ _=>rfl) fun l hl _=>by
  have u:=hu l hl
  have a1:=BP u.1 u.2
  have p1:=y2q (b32 hb a1)
  have p2:=y2q (b32 hb u.2)
  have hs:z5u.length=2:=rfl
  have e:tl b l.1 l.2.1=(wk (b+l.1)++z5u)++wk (b+l.2.1):=(k1l hb u.1 u.2).trans (y2p (by rw [z6x,z2t,z2t];rfl))
  rw [e]
  refine z0g (z0g (z0t (z0a h55) (z0a rfl) (q6g a1)) rfl ((AT (y6q .add H (.str (wk (b+l.1)))) (AT PV.str y6j)).trans (add_str H ?_))) (z0t (z0a h55) (z0a rfl) (q6g u.2)) (add_str H ?_)
  ·exact AA (BK p1.2 (CM hs)) (by decide)
  ·rw [z6v];exact AA (BK (BK p1.2 (CM hs)) p2.2) (by decide))
 rw [z0k] at k1
 exact k1
theorem k9r{k x:Nat}{v:PV}(hk:k<ls.length)(h98:Y 98=some (.lst (ls.map z9h)))(h31:Y 31=some (.int (k:Int)))(hv:[PV.int ((ls.getD k l0).1:Int),.int ((ls.getD k l0).2.1:Int),.bool (ls.getD k l0).2.2][x]?=some v):(sem mp2 C1 (n+3)).ev Y (.idx (.idx (.var 98) (.var 31)) (.int (x:Int))) Lz H=some (v,H):=
 z8s (z0t (z0a h98) (z0a h31) (by rw [BC,(j9h hk).1];rfl)) rfl hv
theorem j9i(hn:ls.length<=50)(h98:Y 98=some (.lst (ls.map z9h))):z8z (sem mp2 C1 (n+2)) Y .range [.prim .len [.var 98]] Lz H=some ((z1a (List.range ls.length),false),H):=
 z1q (z1l (z0u (z1l (z0a h98)) ((j7l _ _ _).trans (by rw [AJ])))) (y8d (AA hn (by decide)))
theorem w4v(hb:b<28)(hu:Ups ls)(hn:ls.length<=50)(h98:Y 98=some (.lst (ls.map z9h)))(h146:Y 146=some (.lst (ls.map fun l=>.str (tl b l.1 l.2.1)))) :
  (sem mp2 C1 39).ev Y (.comp (.tup [.ite (.idx (.idx (.var 98) (.var 31)) (.int 2)) (.prim .upper [.idx (.var 146) (.var 31)]) (.prim .lower [.idx (.var 146) (.var 31)]),.bin .add (.idx (.str (Str.ofString "01234")) (.idx (.idx (.var 98) (.var 31)) (.int 0))) (.idx (.str (Str.ofString "01234")) (.idx (.idx (.var 98) (.var 31)) (.int 1)))]) [(.one 31,.range,[.prim .len [.var 98]],[])]) Lz H=some (.lst ((ls.map (lnT b)).map z4o),H):=by
 refine(z0i (z1y (xs:=List.range ls.length) (enc:=fun(k:Nat)=>PV.int (k:Int)) (up:=false) (test:=fun _=>true) (out:=fun k=>z4o (lnT b (ls.getD k l0))) (j9i hn h98) (by rw [DY];exact AA hn (by decide)) (fun _ _=>rfl) fun k hk _=>?_)).trans (by rw [z0k,q4l l0 (fun l=>z4o (lnT b l)),AW];rfl)
 have kl:=AN.mp hk
 obtain⟨e,m⟩:=j9h kl
 have u:=hu _ m
 have a1:=BP u.1 u.2
 exact z1r (z2j (q6s (z4f rfl (k9r (x:=2) kl h98 rfl rfl) rfl) (z0t (z0a h146) (z0a rfl) (by rw [BC,e];rfl)) (AA (k1m hb u).len (by decide))) (w7x (k9r (x:=0) kl h98 rfl rfl) (k9r (x:=1) kl h98 rfl rfl) a1 u.2))
end
theorem x4x:Str.ofString "0x0"=q6o:=by decide +kernel
section
variable {H:z0b} {Y:z0n} {b i j n:Nat} {ls:List Ln} {S:List Pg} {ps:List (Nat×Nat)} {N:List (List Nat)} {M:Nat->Nat}
theorem w4w{P:MP}{C:z0h}{L:Lim}{a e:ME}(h1:(sem P C n).ts Y a L H=some (false,H))(h2:(sem P C n).ts Y e L H=some (false,H)):(sem P C (n+1)).ts Y (.orE [a,e]) L H=some (false,H):=z0c h1 (z0c h2 rfl)
theorem w4x(hb:b<28)(hu:Ups ls)(A0:HAt H i j (ls.map (lnT b)))(hM:∀ p,p<5->M p<32)(h118:Y 118=some (.inst 1 i))(h97:Y 97=some (.lst ((ls.map (lnT b)).map z4o)))(h87:Y 87=some (.lst (z4c b M)))(h144:Y 144=some (z1b (z3g M)))(h55:Y 55=some (.lst ((W b).map .str))) :
  (sem mp2 C1 39).ts Y (.orE [.cmp .ne (.pure (.meth 88 (.var 118) [])) (.var 97),.cmp .ne (.var 87) (.comp (.ite (.cmp .ne (.var 68) (.lst [])) (.prim .join [.str (Str.ofString ", "),.comp (.idx (.var 55) (.var 32)) [(.one 32,.over,[.var 68],[])]]) (.str (Str.ofString "0x0"))) [(.one 68,.over,[.var 144],[])])]) Lz H=some (false,H):=by
 have k1:(sem mp2 C1 38).ts Y (.cmp .ne (.pure (.meth 88 (.var 118) [])) (.var 97)) Lz H=some (false,H):=z4f rfl (z0l (q0t (n:=33) A0 h118) (z0a h97) (w4s mp2 C1 (okT hb hu) (okT hb hu) Lz H)) (by rw [AV rfl];rfl)
 have k2:(sem mp2 C1 36).ev Y (.comp (.ite (.cmp .ne (.var 68) (.lst [])) (.prim .join [.str (Str.ofString ", "),.comp (.idx (.var 55) (.var 32)) [(.one 32,.over,[.var 68],[])]]) (.str (Str.ofString "0x0"))) [(.one 68,.over,[.var 144],[])]) Lz H=some (.lst (z4c b M),H):=by
  refine(z0i (z1y (xs:=List.range 5) (enc:=fun p=>.lst (z1a (z2b (M p)))) (up:=false) (test:=fun _=>true) (out:=fun p=>.str (z3s (M p*2^b))) (z2c (h144.trans (AT (fun z=>some (PV.lst z)) (AW (f:=fun p=>z2b (M p)) (g:=fun r=>PV.lst (z1a r)) (l:=List.range 5))))) (by decide) (fun _ _=>rfl) fun p hp _=>?_)).trans (by rw [z0k])
  have hm:=hM p (AN.mp hp)
  rw [z8u hb hm]
  refine z6j (t:=!(z2b (M p)).isEmpty) (z4f rfl (z0l (z0a rfl) (z1s z5p) (q0i _ _ _ _ _)) rfl) ?_
  unfold z2d
  by_cases h0:M p=0
  ·rw [AQ h0,h0,q0a]
   exact AT (fun z=>some (PV.str z,H)) x4x
  ·have hne:=j7t _ hm h0
   have hE:(z2b (M p)).isEmpty=false:=by
    induction h:z2b (M p) using List.casesOn with
    | nil=>exact absurd h hne
    | cons=>rfl
   rw [AS h0,hE]
   have key:=z1y (S:=sem mp2 C1 32) (elt:=.idx (.var 55) (.var 32)) (Y:=upd Y 68 (.lst (z1a (z2b (M p))))) (v:=32) (k:=.over) (args:=[.var 68]) (ifs:=[]) (L:=Lz) (H:=H) (xs:=z2b (M p)) (enc:=fun(q:Nat)=>PV.int (q:Int)) (up:=false) (test:=fun _=>true) (out:=fun q=>.str (wk (b+q))) (z2c rfl) (AA (z5r _) (by decide)) (fun _ _=>rfl)
    fun q hq _=>z0t (z0a h55) (z0a rfl) (q6g (z8t _ q hq))
   rw [z0k,show(z2b (M p)).map (fun q=>PV.str (wk (b+q)))=(z3x b (z2b (M p))).map .str from(AW (f:=fun q=>wk (b+q)) (g:=PV.str)).symm] at key
   refine z0u (z2j rfl (z0i key)) ((j1y ?_).trans (by rw [y6j]))
   refine q3j (AA (BK (y2o hb (z8t _)) (AM _)) ?_)
   rw [y6j,show(z3x b (z2b (M p))).length=(z2b (M p)).length from AJ ..]
   exact AA (BK (CI (AM 100) (z5r _)) (CI (z5r _) (AM 2))) (by decide)
 have ok:∀ x,x∈(List.range 5).map (fun p=>z3s (M p*2^b))->PyData.strOk x=true:=fun x hx=>by
  obtain⟨p,hp,rfl⟩:=AX.mp hx
  exact j2j hb (hM p (AN.mp hp))
 have c:=j7u mp2 C1 ok ok Lz H
 rw [AW,AV rfl] at c
 exact w4w k1 (z4f rfl (z0l (z0a h87) k2 c) rfl)
theorem w4y{held:List Nat}{left:List Ln}(hb:b<28)(hu:Ups ls)(hn:ls.length<=50)(A0:HAt H i j (left.map (lnT b)))(hl:left=ls.filter fun l=>held.contains l.1&&held.contains l.2.1)(h73:Y 73=some (.inst 1 i))(h97:Y 97=some (.lst ((ls.map (lnT b)).map z4o)))(h98:Y 98=some (.lst (ls.map z9h)))(h66:Y 66=some (.lst (z1a held))) :
  (sem mp2 C1 39).ts Y (.cmp .ne (.pure (.meth 88 (.var 73) [])) (.comp (.idx (.var 97) (.var 31)) [(.one 31,.range,[.prim .len [.var 98]],[.andE [.cmp .in_ (.idx (.idx (.var 98) (.var 31)) (.int 0)) (.var 66),.cmp .in_ (.idx (.idx (.var 98) (.var 31)) (.int 1)) (.var 66)]])])) Lz H=some (false,H):=by
 have k2:(sem mp2 C1 37).ev Y (.comp (.idx (.var 97) (.var 31)) [(.one 31,.range,[.prim .len [.var 98]],[.andE [.cmp .in_ (.idx (.idx (.var 98) (.var 31)) (.int 0)) (.var 66),.cmp .in_ (.idx (.idx (.var 98) (.var 31)) (.int 1)) (.var 66)]])]) Lz H=some (.lst ((left.map (lnT b)).map z4o),H):=by
  refine(z0i (z1y (xs:=List.range ls.length) (enc:=fun(k:Nat)=>PV.int (k:Int)) (up:=false) (test:=fun k=>(held.contains (ls.getD k l0).1&&held.contains (ls.getD k l0).2.1)) (out:=fun k=>z4o (lnT b (ls.getD k l0))) (j9i hn h98) (by rw [DY];exact AA hn (by decide)) (fun k hk=>?_) fun k hk _=>?_)).trans (by rw [q4m l0 (fun l=>z4o (lnT b l)) (fun l=>held.contains l.1&&held.contains l.2.1),<- hl,AW];rfl)
  ·have kl:=AN.mp hk
   exact z3e (z7o (z7n (z4f rfl (z0l (k9r (x:=0) kl h98 rfl rfl) (z0a h66) (y1o _ _ _ _)) rfl) (z3e (z4f rfl (z0l (k9r (x:=1) kl h98 rfl rfl) (z0a h66) (y1o _ _ _ _)) rfl))))
  ·have kl:=AN.mp hk
   exact z0t (z0a h97) (z0a rfl) (by rw [BC,BC,(j9h kl).1];rfl)
 have hul:Ups left:=fun l h=>hu l (BF.mp (hl▸h)).1
 exact z4f rfl (z0l (q0t (n:=34) A0 h73) k2 (w4s mp2 C1 (okT hb hul) (okT hb hul) Lz H)) (by rw [AV rfl];rfl)
theorem w4z(O:x4s b S)(A0:HAt H i j (S.map (lnP b)))(h90:Y 90=some (.inst 1 i))(h59:Y 59=some (.lst (S.map z6n)))(h55:Y 55=some (.lst ((W b).map .str))) :
  (sem mp2 C1 39).ts Y (.cmp .ne (.pure (.meth 88 (.var 90) [])) (.comp (.tup [.ite (.var 48) (.prim .upper [.idx (.var 55) (.var 32)]) (.prim .lower [.idx (.var 55) (.var 32)]),.var 131]) [(.tup [32,131,48,132],.over,[.var 59],[])])) Lz H=some (false,H):=by
 have c:=z0i (z7m (S:=sem mp2 C1 36) (elt:=.tup [.ite (.var 48) (.prim .upper [.idx (.var 55) (.var 32)]) (.prim .lower [.idx (.var 55) (.var 32)]),.var 131]) (Y:=Y) (pat:=.tup [32,131,48,132]) (k:=.over) (args:=[.var 59]) (ifs:=[]) (L:=Lz) (H:=H) (up:=false) (xs:=S) (enc:=z6n) (out:=fun l=>z4o (lnP b l)) (test:=fun _=>true)
  (env:=fun m=>upd (upd (upd (upd (clear Y [32,131,48,132]) 32 (.int (m.1:Int))) 131 (.str m.2.1)) 48 (.bool m.2.2.1)) 132 (.lst (z1a m.2.2.2))) (z2c h59) (AA (CM O.len) (by decide)) (fun _ _=>rfl) (fun _ _=>rfl)
  fun m hm _=>z1r (z2j (q6s (z4f rfl (z0a rfl) rfl) (z0t (z0a h55) (z0a rfl) (q6g (O.lt m hm))) (AA (z6m (b32 O.b (O.lt m hm))).len (by decide))) (z0a rfl)))
 rw [z0k,show S.map (fun l=>z4o (lnP b l))=(S.map (lnP b)).map z4o from(AW (f:=lnP b) (g:=z4o)).symm] at c
 exact z4f rfl (z0l (q0t (n:=34) A0 h90) c (w4s mp2 C1 (okP O) (okP O) Lz H)) (by rw [AV rfl];rfl)
theorem w5a(P:MP)(C:z0h)(a b:List (Nat×Nat))(L:Lim)(H:z0b):z9p P C .ne (.lst (a.map z1u)) (.lst (b.map z1u)) L H=some (.bool (!decide (a=b)),H):=
 z7x rfl (AT (Option.map (!·)) (z9v (f:=fun l:List (Nat×Nat)=>PV.lst (l.map z1u)) (z5q x2z) (by decide) (fun _ _=>⟨trivial,trivial⟩) fun _ _=>⟨trivial,trivial⟩))
theorem w5b(P:MP)(C:z0h)(a b:List (Nat×Nat))(L:Lim)(H:z0b):z9p P C .eq (.lst (a.map z1u)) (.lst (b.map z1u)) L H=some (.bool (decide (a=b)),H):=
 z7x rfl (z9v (f:=fun l:List (Nat×Nat)=>PV.lst (l.map z1u)) (z5q x2z) (by decide) (fun _ _=>⟨trivial,trivial⟩) fun _ _=>⟨trivial,trivial⟩)
theorem w5c(O:x4s b S)(h59:Y 59=some (.lst (S.map z6n)))(h136:Y 136=some (.lst ((ovT S).map z1u))) :
  (sem mp2 C1 39).ts Y (.cmp .ne (.var 136) (.comp (.tup [.var 20,.var 135]) [(.one 20,.range,[.int 5],[]),(.one 135,.range,[.bin .add (.var 20) (.int 1),.int 5],[.cmp .in_ (.idx (.idx (.var 59) (.var 20)) (.int 0)) (.idx (.idx (.var 59) (.var 135)) (.int 3))])])) Lz H=some (false,H):=by
 have fld:∀ {k i x m:Nat} {Y:z0n} {v:PV},i<5->Y 59=some (.lst (S.map z6n))->Y k=some (.int (i:Int))->[PV.int ((S.getD i (0,wk 0,false,[])).1:Int),.str (S.getD i (0,wk 0,false,[])).2.1,.bool (S.getD i (0,wk 0,false,[])).2.2.1,.lst (z1a (S.getD i (0,wk 0,false,[])).2.2.2)][x]?=some v->(sem mp2 C1 (m+3)).ev Y (.idx (.idx (.var 59) (.var k)) (.int (x:Int))) Lz H=some (v,H):=fun hi h59 hk hv=>
  z8s (z0t (z0a h59) (z0a hk) (by rw [BC,(O.at hi).1];rfl)) rfl hv
 have key:=z6y (S:=sem mp2 C1 36) (Y:=Y) (L:=Lz) (H:=H) (elt:=.tup [.var 20,.var 135]) (a:=20) (b:=135) (k:=.range) (k2:=.range) (args:=[.int 5]) (args2:=[.bin .add (.var 20) (.int 1),.int 5]) (ifs2:=[.cmp .in_ (.idx (.idx (.var 59) (.var 20)) (.int 0)) (.idx (.idx (.var 59) (.var 135)) (.int 3))])
  (xs:=List.range 5) (enc:=fun(w:Nat)=>PV.int (w:Int)) (fun i=>List.range' (i+1) (5 - (i+1))) (enc2:=fun _ (w:Nat)=>PV.int (w:Int)) (fun i j=>(S.getD j (0,wk 0,false,[])).2.2.2.contains (S.getD i (0,wk 0,false,[])).1) (fun i j=>z1u (i,j)) rfl
  (fun i hi=>j9d rfl (AN.mp hi))
  (fun i hi j hj=>z3e (z4f rfl (z0l (fld (x:=0) (AN.mp hi) h59 rfl rfl) (fld (x:=3) (r15 hj).2 h59 rfl rfl) (y1o _ _ _ _)) rfl))
  (fun i hi j hj _=>z1r (z2j (z0a rfl) (z0a rfl))) (k2f _ _)
 have eb:((List.range 5).flatMap fun i=>((List.range' (i+1) (5 - (i+1))).filter fun j=>(S.getD j (0,wk 0,false,[])).2.2.2.contains (S.getD i (0,wk 0,false,[])).1).map fun j=>z1u (i,j))=(ovT S).map z1u:=by
  unfold ovT
  rw [EM]
  exact AT (fun f=>(List.range 5).flatMap f) (funext fun i=>(AW (f:=fun j=>(i,j)) (g:=z1u)).symm)
 rw [eb] at key
 exact z4f rfl (z0l (z0a h136) (z0i key) (w5a _ _ _ _ _ _)) (by rw [AV rfl];rfl)
theorem w5d(hS:S.length=5)(D:k3f (S.map fun l=>l.2.1))(hl:ps=y2w (S.map fun l=>l.2.1))(h59:Y 59=some (.lst (S.map z6n)))(h141:Y 141=some (.lst (ps.map z1u))) :
  (sem mp2 C1 39).ev Y (.cmp .eq (.var 141) (.call 30 [.comp (.idx (.var 60) (.int 1)) [(.one 60,.over,[.var 59],[])]])) Lz H=some (.bool true,H):=by
 have c:=z0i (z1y (S:=sem mp2 C1 36) (elt:=.idx (.var 60) (.int 1)) (Y:=Y) (v:=60) (k:=.over) (args:=[.var 59]) (ifs:=[]) (L:=Lz) (H:=H) (xs:=S) (enc:=z6n) (up:=false) (test:=fun _=>true) (out:=fun m=>.str m.2.1) (z2c h59) (AA (CM hS) (by decide)) (fun _ _=>rfl) fun m hm _=>j8w (j:=1) rfl rfl)
 rw [z0k,show S.map (fun m=>PV.str m.2.1)=(S.map fun l=>l.2.1).map .str from(AW (f:=fun l:Pg=>l.2.1) (g:=PV.str)).symm] at c
 refine z0l (z0a h141) (z1k (z1l c) (x4v (lv:=17) D)) ((w5b _ _ _ _ _ _).trans ?_)
 rw [AV hl]
end
theorem k9s{ts:List Ln}(h:Ups ts):∀ cur:List Ln,Ups cur->Ups (ts.foldl z7s cur)/\(ts.foldl z7s cur).length<=cur.length+ts.length:=by
 induction ts with
 | nil=>exact fun cur hc=>⟨hc,AM _⟩
 | cons t ts ih=>
  intro cur hc
  have t0:=h t AC
  obtain⟨a,b⟩:=ih (fun l hl=>h l (AD _ hl)) (z7s cur t) (y6k hc t0)
  refine⟨a,AA b (AA (CD (y6l cur t) _) (CM (BV _ _ _)))⟩
theorem q9t{ps:List (Nat×Nat)}{i:Nat}{p:Nat×Nat}:∀ {n j:Nat},p∈q9o ps i n j->p∈ps
 | 0,_,h=>absurd h BB
 | n+1,j,h=>by
  unfold q9o at h
  split at h
  ·rcases AR.mp h with e | h
   ·rw [e];exact AK ‹_›
   ·exact q9t h
  ·exact absurd h BB
theorem j2k{ps:List (Nat×Nat)}{p:Nat×Nat}(h:p∈z8y ps):p∈ps:=by
 obtain⟨i,_,h⟩:=CU.mp h
 exact q9t h
theorem y8r(ps:List (Nat×Nat)):(z8y ps).length<=20:=z7t _ 4 _ fun i _=>AA (q0r ps i _ _) (Nat.sub_le 4 i)
structure x7h(own:List Ln)(pc:Nat->Str)(S:List Pg):Prop where
 hM:∀ p,p<5->y7f (z2a own) p<32
 hB:z3g (y7f (z2a own))=z6e (z5d own)
 ord:y2t (z2h (z2a own)) pc
 nest:y0h (z2a own) (z6e (z5d own))=z8w (z6e (z5d own))
 empt:decide (q3x own=[])=z8w (z6e (z5d own))
 same:k2j (k2i S (z8y (z7y S))) (z5d own)=z8w (z6e (z5d own))
 left:q3x own=own.filter fun l=>(j8g (z5d own)).contains l.1&&(j8g (z5d own)).contains l.2.1
 pg:y7c (z2h (z2a own)) (z6e (z5d own)) pc 5=S
 blk:z8y (z7y S)=ovT S
 ld:k3f (S.map fun l=>l.2.1)
 les:z7y S=y2w (S.map fun l=>l.2.1)
theorem x4y(ns:List Int)(F:x7h (q0g (z7z ns)) (j9y (z6w ns)) (y7c (z2h (z2a (q0g (z7z ns)))) (z2a (q0g (z7z ns))) (j9y (z6w ns)) 5)):∃ H',z0f D2.mp 20 lawId2 [.lst (ns.map .int)] [] ⟨0,0⟩ []=some (.bool true,H'):=by
 have hb:=k0p ns
 have tok:=q4g ns
 have tl:=j2i ns
 obtain⟨hu,hn⟩:=k9s tok [] fun l hl=>absurd hl BB
 have hn:(q0g (z7z ns)).length<=14:=AA hn (AA (CM (DX _)) tl)
 have hu:Ups (q0g (z7z ns)):=hu
 have R:=y8o hu (AA hn (by decide))
 have cn:=w3y (lv:=15) (L:=Lz) (H:=[]) hb tok (AA tl (by decide)) (AM 0) (AM 0)
 have co:=fun H=>w4c (lv:=18) (L:=Lz) (H:=H) (ts:=z7z ns) (AA tl (by decide))
 have e1:=fun Y H=>w9h (ns:=ns) (Y:=Y) (H:=H)
 have e3:=fun Y H=>w9i (ns:=ns) (Y:=Y) (H:=H)
 generalize hts:z7z ns=ts at *
 generalize q0g ts=own at *
 generalize y8h ns=b at *
 obtain⟨hM,hB,ord,nest,empt,same,left,pg,blk,ld,les⟩:=F
 have I:∀ k,k<=5->y3u (z2h (z2a own)) k (y7c (z2h (z2a own)) (z2a own) (j9y (z6w ns)) k):=fun k=>by
  induction k with
  | zero=>exact fun _=>q9m _
  | succ k ih=>exact fun h=>by rw [y8p];exact(ih (DA h)).step ord h _
 have I5:=I 5 (AM 5)
 have lt5:=I5.lt ord
 generalize hS:y7c (z2h (z2a own)) (z2a own) (j9y (z6w ns)) 5=S at *
 have O:x4s b S:=⟨hb,I5.len,lt5,I5.lead⟩
 let ties:=z5d own
 let B:=z6e ties
 have RB:=q4h ties
 let A9:z0b:=j2q [] b own
 have A1:At A9 0 1 (own.map (lnT b)):=⟨rfl,rfl⟩
 let B0:z0b:=A9++[.lst ((own.map (lnT b)).map z4o)]++[.att [(30,.ref 2)]]
 have A2:At B0 3 2 (own.map (lnT b)):=⟨rfl,rfl⟩
 let B7:z0b:=stT B0 2 b (q3x own)
 let B3:z0b:=z8d B7 b S
 have hul:Ups (q3x own):=fun l h=>hu l (BF.mp (left▸h)).1
 have hnl:(q3x own).length<=14:=by rw [left];exact AA (BZ _ _) hn
 have A4:At B3 0 1 (own.map (lnT b)):=⟨rfl,rfl⟩
 have A4':At B3 3 2 ((q3x own).map (lnT b)):=⟨rfl,rfl⟩
 have H1:=A4.t hb hu (AA hn (by decide))
 have H3:=A4'.t hb hul (AA hnl (by decide))
 have HP:HAt B3 4 5 (S.map (lnP b)):=w1v hb lt5 (AA (CM O.len) (by decide))
 have m5:∀ p,p∈z8y (z7y S)->p.1<5/\p.2<5:=fun p hp=>by
  have:=q4j (j2k hp)
  exact⟨BP this.1 this.2,this.2⟩
 have met5:∀ p,p∈k2i S (z8y (z7y S))->p.1<5/\p.2<5:=fun p hp=>by
  obtain⟨q,hq,rfl⟩:=AX.mp hp
  have k:∀ i,i<5->(S.map fun l=>l.1).getD i 0<5:=fun i hi=>by
   have e:(S.map fun l=>l.1)[i]?=some ((S.map fun l=>l.1).getD i 0):=by rw [AI,AP (by rw [AJ,O.len];exact hi)];rfl
   obtain⟨l,hl,e⟩:=AX.mp (CB e)
   exact e▸lt5 l hl
  exact⟨k _ (m5 q hq).1,k _ (m5 q hq).2⟩
 have t5:∀ p,p∈z5d own->p.1<5/\p.2<5:=fun p hp=>by
  rcases BJ.mp hp with hp | hp
  ·obtain⟨l,hl,rfl⟩:=AX.mp hp
   exact⟨BP (hu l hl).1 (hu l hl).2,(hu l hl).2⟩
  ·obtain⟨l,hl,rfl⟩:=AX.mp hp
   exact⟨(hu l hl).2,BP (hu l hl).1 (hu l hl).2⟩
 have tlen:(z5d own).length=own.length+own.length:=by
  unfold z5d
  rw [AE,AJ,AJ]
 let Y12:z0n:=upd (upd (upd (upd (upd (upd (upd (upd (upd (upd (upd (upd (y3q 82 (.lst (ns.map .int))) 83 (.int (z6w ns))) 45 (.int (b:Int))) 85 (.lst (prs.map z1u))) 56 (.lst (ts.map z9h))) 55 (.lst ((W b).map .str))) 118 (.inst 1 0)) 57 (z1b (z2a own))) 87 (.lst (z4c b (y7f (z2a own))))) 73 (.inst 1 3)) 124 (.lst (z1a (z2h (z2a own))))) 125 (.lst (j8u (j9y (z6w ns))))) 90 (.inst 1 4)
 have h10:∀ Y:z0n,Y 73=some (.inst 1 3)->Y 45=some (.int (b:Int))->(sem mp2 C1 39).ev Y (.gc (.call 24 [.var 73,.var 45])) Lz B0=some (.none,B7):=fun Y h73 h45=>
  k7w (l:=[]) (by rw [CA];exact z1k (z2j (z0a h73) (z0a h45)) (j8r (lv:=16) hb A2 (BM _) hu (AA hn (by decide)))) List.length_set
 have half2:exs (sem mp2 C1 40).ex Y12 (x9m.body.drop 14) Lz B3=some (.ret (.bool true),B3):=by
  refine z0d (w4l (i:=4) (j:=5) O HP rfl) (z0d (x4t (lv:=18) (n:=36) (fun i h=>absurd (q4j h).2 (EX 5)) rfl) (z0d (w4m hb rfl) (z0d (w4n O HP rfl rfl) (z0d (w4o O.len m5 (AA (y8r _) (by decide)) rfl rfl)
   (z0d (z1k (z1l (z0a rfl)) (co _)) (z0d (w4p (AA hn (by decide)) rfl) (z0d (w4q rfl) (z0d (w4r (by unfold k2i;rw [AJ];exact y8r _) (by rw [tlen];lia) (by rw [tlen];lia) met5 t5 rfl rfl) ?_))))))))
  refine q3g (w4t hb R hM hul H3 RB (hB.symm▸nest) empt same rfl rfl rfl rfl rfl rfl) ?_
  refine z0d (w4u hb hu (AA hn (by decide)) rfl rfl) (z0d (w4v hb hu (AA hn (by decide)) rfl rfl) ?_)
  refine q3g (w4x hb hu H1 hM rfl rfl rfl (by rw [hB];rfl) rfl) ?_
  refine z0d (z1k (z1l (z0a rfl)) (k1t (lv:=17))) ?_
  refine q3g (w4y hb hu (AA hn (by decide)) H3 left rfl rfl rfl rfl) ?_
  refine z0d (z1k (z5j (z0a rfl) (z2j (z0a rfl) (z0a rfl))) (k2b (lv:=18) RB ord)) ?_
  rw [pg]
  refine q3g (w4z O HP rfl rfl rfl) (q3g (w5c O rfl (by rw [<- blk];rfl)) (z4r (w5d O.len ld les rfl rfl)))
 refine⟨B3,z0x (Y:=y3q 82 (.lst (ns.map .int))) k7j rfl ?_⟩
 refine z0d (w9g rfl) (z0d (e1 _ _ rfl) (z0d (v:=.lst (prs.map z1u)) rfl (z0d (e3 _ _ rfl rfl) (z0d (w9j hb rfl) (q3g (w9k hb rfl rfl) (z0d (z1k (z2j (z0a rfl) (z0a rfl)) cn) (z0d (j8n (lv:=18) (n:=34) (H:=A9) hb hu (AA hn (by decide)) A1 rfl)
  (z0d (w9l hb R hM rfl rfl) (z0d (w9m hb hu (AA hn (by decide)) A1 rfl) (j6s (h10 _ rfl rfl) (z0d (w4i R rfl) (z0d (w4j rfl) (z0d (z1k (z5j (z0a rfl) (z5j (z0a rfl) (z2j (z0a rfl) (z0a rfl)))) (k9d (lv:=15) (H:=B7) hb (BM _) (BM _) R ord)) ?_)))))))))))))
 rw [hS]
 exact half2
noncomputable def emp:Str:=⟨#[]⟩
noncomputable def k3g(B:List (List Nat))(gone:List Nat):List (List Nat):=(List.range 5).map fun u=>if gone.contains u then[] else(nb B u).filter fun v=>!gone.contains v
noncomputable def x4z(B:List (List Nat))(gone:List Nat):List Nat:=match y3m (k3g B gone) with
 | []=>gone
 | h::_=>h::gone
noncomputable def q7a(B:List (List Nat)):List Nat:=(List.range 5).foldl (fun g _=>x4z B g) []
noncomputable def w8a(B:List (List Nat))(out:Nat):List (List Nat):=(List.range 5).map fun u=>(z6s out).filter fun v=>(z6s out).contains u&&(nb B u).contains v
noncomputable def j9j(B:List (List Nat)):List Nat:=(List.range 6).foldl (fun h out=>if(j8f (w8a B out) (z6s out)).isEmpty then h++z6s out else h) []
noncomputable abbrev q4n(B:List (List Nat)):List Pg:=y7c (z2h B) B (fun _=>emp) 5
noncomputable def pgD:Pg:=(0,emp,false,[])
noncomputable def vN(T:List Pg)(i:Nat):Nat:=(T.getD i pgD).1
noncomputable def oN(T:List Pg)(i:Nat):List Nat:=(T.getD i pgD).2.2.2
noncomputable def dsc(T:List Pg)(i j:Nat):Bool:=(oN T j).contains (vN T i)
noncomputable def q7b(T:List Pg):Bool:=(List.range 5).all fun i=>(List.range' (i+1) (5 - (i+1))).all fun j=>
 if dsc T i j then(oN T i++[vN T i]).isPrefixOf (oN T j)&&(List.range' (i+1) (j - i)).all fun k=>dsc T i k
 else(List.range' (i+1) (j - i)).any fun k=>!dsc T i k&&(oN T k).isPrefixOf (oN T i)
noncomputable def k3h(T:List Pg):List (Nat×Nat):=(List.range 5).flatMap fun i=>((List.range' (i+1) (5 - (i+1))).filter fun j=>dsc T i j).map fun j=>(vN T i,vN T j)
noncomputable def q9u{V:Type}[BEq V]:List V->Bool
 | []=>true
 | x::l=>!l.contains x&&q9u l
noncomputable def z9k(B:List (List Nat)):Bool:=
 let free:=z8w B
 let E:=q7a B
 let held:=j9j B
 let ord:=z2h B
 let T:=q4n B
 let mt:=k3h T
 let m2:=mt++mt.map swp
 Nat.beq ord.length 5&&q9u ord&&ord.all (fun u=>Nat.blt u 5) &&
 (y0h B B==free) &&
 (((List.range 5).all fun u=>(nb (k3g B E) u).isEmpty)==free) &&
 ((List.range 5).all fun u=>(nb B u).all fun v=>(!E.contains u&&!E.contains v)==(held.contains u&&held.contains v)) &&
 q7b T&&T.all (fun l=>Nat.ble l.2.2.2.length 4)&&q9u m2 &&
 (((List.range 5).all fun u=>(List.range 5).all fun v=>m2.contains (u,v)==(nb B u).contains v)==free)
noncomputable def edg(a b c d e f g h i j:Bool)(p q:Nat):Bool:=match p,q with
 | 0,1=>a | 1,0=>a | 0,2=>b | 2,0=>b | 0,3=>c | 3,0=>c | 0,4=>d | 4,0=>d
 | 1,2=>e | 2,1=>e | 1,3=>f | 3,1=>f | 1,4=>g | 4,1=>g | 2,3=>h | 3,2=>h | 2,4=>i | 4,2=>i | 3,4=>j | 4,3=>j
 | _,_=>false
noncomputable def z3n(a b c d e f g h i j:Bool):List (List Nat):=(List.range 5).map fun p=>(List.range 5).filter (edg a b c d e f g h i j p)
structure Net(own:List Ln):Prop where
 ups:Ups own
 nd:(own.map pq).Nodup
theorem k9t{ts:List Ln}(h:Ups ts):Net (q0g ts):=by
 have key:∀ (ts cur:List Ln),Ups ts->Net cur->Net (ts.foldl z7s cur):=fun ts=>by
  induction ts with
  | nil=>exact fun _ _ h=>h
  | cons t ts ih=>
   intro cur hts hc
   refine ih _ (fun l hl=>hts l (AD _ hl)) ⟨y6k hc.ups (hts t AC),?_⟩
   unfold z7s
   by_cases e:(cur.any fun l=>pq l==pq t)=true
   ·rw [AQ e];exact hc.nd.sublist (List.filter_sublist.map _)
   ·rw [AS e,BH,DF]
    refine⟨hc.nd,DH.mpr ⟨BB,CX⟩,fun x hx y hy exy=>?_⟩
    obtain⟨l,hl,rfl⟩:=AX.mp hx
    rw [AL.mp hy] at exy
    exact e (DD.mpr ⟨l,hl,BE.mpr exy⟩)
 exact key ts [] h ⟨fun l hl=>absurd hl BB,CX⟩
theorem z7u{own:List Ln}{p q:Nat}:(p,q)∈z5d own↔q∈y6r own p:=by
 rw [z3m]
 unfold z5d
 rw [BJ,AX,AX]
 constructor
 ·rintro(⟨l,hl,e⟩ | ⟨l,hl,e⟩)
  ·exact⟨l,hl,.inl ⟨(AT Prod.fst e).symm,(AT Prod.snd e).symm⟩⟩
  ·exact⟨l,hl,.inr ⟨(AT Prod.fst e).symm,(AT Prod.snd e).symm⟩⟩
 ·rintro⟨l,hl,⟨a,b⟩ | ⟨a,b⟩⟩
  ·exact .inl ⟨l,hl,by rw [a,b];rfl⟩
  ·exact .inr ⟨l,hl,by rw [a,b];rfl⟩
theorem q7c{own:List Ln}{p q:Nat}(h:q∈y6r own p):p∈y6r own q:=by
 obtain⟨l,hl,h⟩:=z3m.mp h
 exact z3m.mpr ⟨l,hl,h.symm.imp (fun⟨a,b⟩=>⟨b,a⟩) fun⟨a,b⟩=>⟨b,a⟩⟩
theorem w5e{own:List Ln}(hu:Ups own){p q:Nat}(h:q∈y6r own p):p<5:=(y0i hu (q7c h)).1
section
variable {own:List Ln}
theorem y8s:∀ {ls:List Ln},Net ls->∀ p,(y6r ls p).Nodup
 | [],_,_=>CX
 | l::ls,n,p=>by
  have n':Net ls:=⟨fun m hm=>n.ups m (AD _ hm),(DH.mp n.nd).2⟩
  have u:=n.ups l AC
  have nl:=(DH.mp n.nd).1
  have hd:∀ q,q∈(if p=l.1 then[l.2.1] else[])++(if p=l.2.1 then[l.1] else[])->(p=l.1/\q=l.2.1)\/(p=l.2.1/\q=l.1):=fun q hq=>by
   have:=(z3m (ls:=[l]) (p:=p) (q:=q)).mp (by unfold y6r;rw [List.flatMap_cons,List.flatMap_nil,CA];exact hq)
   obtain⟨m,hm,h⟩:=this
   rw [AL.mp hm] at h;exact h
  show(((if p=l.1 then[l.2.1] else[])++(if p=l.2.1 then[l.1] else[]))++y6r ls p).Nodup
  refine DF.mpr ⟨?_,y8s n' p,fun q hq r hr e=>?_⟩
  ·by_cases a:p=l.1
   ·rw [AQ a,AS (fun b=>DL u.1 (a.symm.trans b))]
    exact DH.mpr ⟨BB,CX⟩
   ·rw [AS a,List.nil_append]
    split
    ·exact DH.mpr ⟨BB,CX⟩
    ·exact CX
  ·subst e
   obtain⟨m,hm,k⟩:=z3m.mp hr
   have um:=n'.ups m hm
   refine nl (AX.mpr ⟨m,hm,?_⟩)
   rcases hd q hq with⟨a,b⟩ | ⟨a,b⟩<;>rcases k with⟨c,d⟩ | ⟨c,d⟩
   ·exact Prod.ext (c.symm.trans a) (d.symm.trans b)
   ·exact absurd u.1 (CH.mpr (by rw [<- a,<- b,c,d];exact BO um.1))
   ·exact absurd u.1 (CH.mpr (by rw [<- a,<- b,c,d];exact BO um.1))
   ·exact Prod.ext (d.symm.trans b) (c.symm.trans a)
noncomputable abbrev bes(own:List Ln):List (List Nat):=z6e (z5d own)
theorem y0j{p:Nat}(hp:p<5):nb (z2a own) p=y6r own p:=y4v _ hp
theorem q9v{p:Nat}(hp:p<5):nb (bes own) p=(List.range 5).filter fun q=>decide ((p,q)∈z5d own):=y4v _ hp
theorem y0k(hu:Ups own){p q:Nat}(hp:p<5):q∈nb (bes own) p↔q∈y6r own p:=by
 rw [q9v hp,BF,AN,BY,z7u]
 exact⟨fun h=>h.2,fun h=>⟨(y0i hu h).1,h⟩⟩
theorem q9w(n:Net own){p:Nat}(hp:p<5):(y6r own p).Perm (nb (bes own) p):=
 (List.perm_ext_iff_of_nodup (y8s n p) (by rw [q9v hp];exact List.nodup_range.filter _)).mpr fun q=>(y0k n.ups hp).symm
theorem q9x(n:Net own){p:Nat}(hp:p<5):z2b (y7f (z2a own) p)=nb (bes own) p/\y7f (z2a own) p<32:=by
 unfold y7f
 rw [y0j hp,((q9w n hp).map _).sum_nat,q9v hp]
 exact k8k _
theorem k2k(n:Net own):z3g (y7f (z2a own))=bes own:=CG fun p hp=>((q9x n (AN.mp hp)).1).trans (q9v (AN.mp hp))
theorem j9k(n:Net own):z2h (z2a own)=z2h (bes own):=by
 unfold z2h
 refine AT (fun f=>[4,3,2,1,0].flatMap f) (funext fun c=>CQ fun u hu=>?_)
 have u5:=AN.mp hu
 rw [y0j u5,(q9w n u5).length_eq]
noncomputable abbrev q7d(N B:List (List Nat)):Prop:=∀ u,u<5->∀ v,v∈nb N u↔v∈nb B u
theorem x5a(hu:Ups own):q7d (z2a own) (bes own):=fun u h5 v=>by rw [y0j h5,y0k hu h5]
theorem q7d.contains{N B:List (List Nat)}(h:q7d N B){u:Nat}(hu:u<5)(v:Nat):(nb N u).contains v=(nb B u).contains v:=by
 rw [BN,CS,CS];exact h u hu v
theorem q9y{order:List Nat}{N B:List (List Nat)}(h:q7d N B)(ho:∀ u,u∈order->u<5)(pc:Nat->Str):∀ k,y7c order N pc k=y7c order B pc k
 | 0=>rfl
 | k+1=>by
  rw [y8p,y8p,q9y h ho pc k]
  refine q3z pc _ k fun u _=>h.contains ?_ u
  rw [AI]
  induction e:order[k]? using Option.casesOn with
  | none=>exact(by decide:0<5)
  | some x=>exact ho x (CB e)
theorem k2l{V:Type}{l m:List V}(h:∀ v,v∈l↔v∈m)(f:V->Bool):l.any f=m.any f:=by
 rw [BN,DD,DD]
 exact⟨fun⟨x,a,b⟩=>⟨x,(h x).mp a,b⟩,fun⟨x,a,b⟩=>⟨x,(h x).mpr a,b⟩⟩
theorem j9l{f g:Nat->Bool}(h:∀ u,u<5->f u=g u):(List.range 5).any f=(List.range 5).any g:=by
 rw [BN,DD,DD]
 exact⟨fun⟨x,a,b⟩=>⟨x,a,h x (AN.mp a)▸b⟩,fun⟨x,a,b⟩=>⟨x,a,h x (AN.mp a)▸b⟩⟩
theorem q4o{N B X:List (List Nat)}(h:q7d N B):y0h N X=y0h B X:=AT (!·) (j9l fun u hu=>k2l (h u hu) _)
theorem y6p{V:Type}{l m:List V}(h:∀ v,v∈l↔v∈m):l.isEmpty=m.isEmpty:=by
 rw [BN,FE,FE,DW,DW]
 exact⟨fun k v hv=>k v ((h v).mpr hv),fun k v hv=>k v ((h v).mp hv)⟩
theorem q7e{N B:List (List Nat)}(h:q7d N B)(h5:∀ u,u<5->∀ v,v∈nb N u->v<5):y3m N=y3m B:=CQ fun u hu=>by
 have u5:=AN.mp hu
 rw [y6p (h u u5)]
 refine AT (!(nb B u).isEmpty&&·) (y6p fun w=>?_)
 unfold x4f
 rw [CU,CU]
 constructor
 ·rintro⟨v,hv,hw⟩
  have⟨a,b⟩:=BF.mp hw
  exact⟨v,(h u u5 v).mp hv,BF.mpr ⟨(h v (h5 u u5 v hv) w).mp a,by rw [<- h.contains u5];exact b⟩⟩
 ·rintro⟨v,hv,hw⟩
  have hv':=(h u u5 v).mpr hv
  have⟨a,b⟩:=BF.mp hw
  exact⟨v,hv',BF.mpr ⟨(h v (h5 u u5 v hv') w).mpr a,by rw [h.contains u5];exact b⟩⟩
noncomputable def okG(gone:List Nat)(l:Ln):Bool:=!gone.contains l.1&&!gone.contains l.2.1
theorem q7f(hu:Ups own)(gone:List Nat):q7d (z2a (own.filter (okG gone))) (k3g (bes own) gone):=fun u h5 v=>by
 have e:nb (k3g (bes own) gone) u=if gone.contains u then[] else(nb (bes own) u).filter fun v=>!gone.contains v:=y4v _ h5
 rw [y0j h5,e,z3m]
 constructor
 ·rintro⟨l,hl,h⟩
  obtain⟨hl,ok⟩:=BF.mp hl
  have ok':gone.contains l.1=false/\gone.contains l.2.1=false:=by
   obtain⟨a,b⟩:=AH.mp ok
   exact⟨(DG _).mp a,(DG _).mp b⟩
  have m:v∈y6r own u:=z3m.mpr ⟨l,hl,h⟩
  have g:gone.contains u=false/\gone.contains v=false:=by
   rcases h with⟨a,b⟩ | ⟨a,b⟩
   ·rw [a,b];exact ok'
   ·rw [a,b];exact ok'.symm
  rw [g.1]
  exact BF.mpr ⟨(y0k hu h5).mpr m,by rw [g.2];rfl⟩
 ·intro h
  by_cases g:gone.contains u=true
  ·rw [AQ g] at h;exact absurd h BB
  ·rw [AS g] at h
   obtain⟨a,b⟩:=BF.mp h
   obtain⟨l,hl,k⟩:=z3m.mp ((y0k hu h5).mp a)
   have g':(!gone.contains u)=true:=by rw [ET.mpr g];rfl
   refine⟨l,BF.mpr ⟨hl,?_⟩,k⟩
   rcases k with⟨c,d⟩ | ⟨c,d⟩
   ·rw [c] at g';rw [d] at b;exact AH.mpr ⟨g',b⟩
   ·rw [c] at g';rw [d] at b;exact AH.mpr ⟨b,g'⟩
theorem j9m(hu:Ups own)(gone:List Nat):y3t (own.filter (okG gone))=own.filter (okG (x4z (bes own) gone)):=by
 have hu':Ups (own.filter (okG gone)):=fun l hl=>hu l (BF.mp hl).1
 have e:=q7e (q7f hu gone) fun u h5 v hv=>by
  rw [y0j h5] at hv
  exact(y0i hu' hv).1
 unfold y3t x4z
 rw [e]
 induction y3m (k3g (bes own) gone) using List.casesOn with
 | nil=>rfl
 | cons h t=>
  dsimp only
  rw [List.filter_filter]
  refine CQ fun l _=>?_
  unfold okG
  rw [List.contains_cons,List.contains_cons]
  cases l.1==h<;>cases l.2.1==h<;>cases gone.contains l.1<;>cases gone.contains l.2.1<;>rfl
theorem j9n(hu:Ups own):q3x own=own.filter (okG (q7a (bes own))):=by
 have key:∀ (os:List Nat) (gone:List Nat),os.foldl (fun c _=>y3t c) (own.filter (okG gone))=own.filter (okG (os.foldl (fun g _=>x4z (bes own) g) gone)):=fun os=>by
  induction os with
  | nil=>exact fun _=>rfl
  | cons o os ih=>intro gone;rw [CW,CW,j9m hu,ih]
 have:=key (List.range 5) []
 rw [show own.filter (okG [])=own from FC.mpr fun l _=>rfl] at this
 exact this
theorem x5b(hu:Ups own):j8g (z5d own)=j9j (bes own):=by
 have e:∀ out,k3e (z5d own) out=w8a (bes own) out:=fun out=>CG fun u h5=>CQ fun v hv=>by
  have u5:=AN.mp h5
  refine AT ((z6s out).contains u&&·) ?_
  rw [BN,BY,CS,z7u,y0k hu u5]
 unfold j8g j9j q3t
 exact AT (fun f=>(List.range 6).foldl f []) (funext fun h=>funext fun out=>by rw [e out])
theorem x5c(hu:Ups own):∃ a b c d e f g h i j:Bool,bes own=z3n a b c d e f g h i j:=by
 let A:Nat->Nat->Bool:=fun p q=>decide ((p,q)∈z5d own)
 have sy:∀ p q,A p q=A q p:=fun p q=>FF.mpr (by rw [z7u,z7u];exact⟨q7c,q7c⟩)
 have ir:∀ p,A p p=false:=fun p=>EA (by rw [z7u];exact fun h=>(y0i hu h).2 rfl)
 refine⟨A 0 1,A 0 2,A 0 3,A 0 4,A 1 2,A 1 3,A 1 4,A 2 3,A 2 4,A 3 4,CG fun p hp=>CQ fun q hq=>?_⟩
 show A p q=_
 match p,q,AN.mp hp,AN.mp hq with
 | 0,0,_,_=>exact ir 0
 | 0,1,_,_=>rfl
 | 0,2,_,_=>rfl
 | 0,3,_,_=>rfl
 | 0,4,_,_=>rfl
 | 1,0,_,_=>exact sy 1 0
 | 1,1,_,_=>exact ir 1
 | 1,2,_,_=>rfl
 | 1,3,_,_=>rfl
 | 1,4,_,_=>rfl
 | 2,0,_,_=>exact sy 2 0
 | 2,1,_,_=>exact sy 2 1
 | 2,2,_,_=>exact ir 2
 | 2,3,_,_=>rfl
 | 2,4,_,_=>rfl
 | 3,0,_,_=>exact sy 3 0
 | 3,1,_,_=>exact sy 3 1
 | 3,2,_,_=>exact sy 3 2
 | 3,3,_,_=>exact ir 3
 | 3,4,_,_=>rfl
 | 4,0,_,_=>exact sy 4 0
 | 4,1,_,_=>exact sy 4 1
 | 4,2,_,_=>exact sy 4 2
 | 4,3,_,_=>exact sy 4 3
 | 4,4,_,_=>exact ir 4
 | n+5,_,h,_=>exact absurd h (CH.mpr (CP 5 n))
 | 0,n+5,_,h=>exact absurd h (CH.mpr (CP 5 n))
 | 1,n+5,_,h=>exact absurd h (CH.mpr (CP 5 n))
 | 2,n+5,_,h=>exact absurd h (CH.mpr (CP 5 n))
 | 3,n+5,_,h=>exact absurd h (CH.mpr (CP 5 n))
 | 4,n+5,_,h=>exact absurd h (CH.mpr (CP 5 n))
end
theorem j9o(x:Str):emp++x=x:=y2p (by rw [z2t];rfl)
noncomputable def ldP(pc:Nat->Str)(path:List Nat):Str:=path.foldl (fun s u=>s++pc u) emp
noncomputable def z1p(l:Pg):Pg:=(l.1,emp,l.2.2.1,l.2.2.2)
noncomputable abbrev LdP(pc:Nat->Str)(S:List Pg):Prop:=∀ l,l∈S->l.2.1=ldP pc (l.2.2.2++[l.1])
theorem q9z(pc:Nat->Str)(p:List Nat)(v:Nat):ldP pc (p++[v])=ldP pc p++pc v:=DN
theorem x7i{pc:Nat->Str}{a v:Nat}:∀ {S:List Pg},LdP pc S->LdP pc (ins a (z2z pc v) S)/\(ins a (z2z pc v) S).map z1p=ins a (z2z (fun _=>emp) v) (S.map z1p)
 | [],h=>⟨h,rfl⟩
 | l::S,h=>by
  have hl:=h l AC
  have hS:LdP pc S:=fun m hm=>h m (AD _ hm)
  by_cases e:l.1=a
  ·have e1:ins a (z2z pc v) (l::S)=l::z2z pc v l::S.map gr:=AQ e
   have e2:ins a (z2z (fun _=>emp) v) ((l::S).map z1p)=z1p l::z2z (fun _=>emp) v (z1p l)::(S.map z1p).map gr:=AQ e
   rw [e1,e2]
   refine⟨fun m hm=>?_,?_⟩
   ·rcases AR.mp hm with hm | hm
    ·rw [hm];exact hl
    ·rcases AR.mp hm with hm | hm
     ·rw [hm]
      show l.2.1++pc v=ldP pc ((l.2.2.2++[l.1])++[v])
      rw [q9z,hl]
     ·obtain⟨m',hm',rfl⟩:=AX.mp hm
      exact hS m' hm'
   ·rw [BL,BL,AW,AW,show z2z (fun _=>emp) v (z1p l)=z1p (z2z pc v l) from AT (fun z=>((v,z,false,l.2.2.2++[l.1]):Pg)) (j9o emp)]
    rfl
  ·obtain⟨i1,i2⟩:=x7i (a:=a) (v:=v) hS
   have e1:ins a (z2z pc v) (l::S)=l::ins a (z2z pc v) S:=AS e
   have e2:ins a (z2z (fun _=>emp) v) ((l::S).map z1p)=z1p l::ins a (z2z (fun _=>emp) v) (S.map z1p):=AS e
   rw [e1,e2]
   refine⟨fun m hm=>?_,?_⟩
   ·rcases AR.mp hm with hm | hm
    ·rw [hm];exact hl
    ·exact i1 m hm
   ·rw [BL,i2]
theorem k9u(order:List Nat)(B:List (List Nat))(pc:Nat->Str):∀ k,LdP pc (y7c order B pc k)/\(y7c order B pc k).map z1p=y7c order B (fun _=>emp) k
 | 0=>⟨fun l hl=>absurd hl BB,rfl⟩
 | k+1=>by
  obtain⟨i1,i2⟩:=k9u order B pc k
  rw [y8p,y8p,<- i2]
  unfold z5k
  induction (abv order B k).getLast? using Option.casesOn with
  | none=>
   refine⟨fun m hm=>?_,by rw [BH];rfl⟩
   rcases BJ.mp hm with hm | hm
   ·exact i1 m hm
   ·rw [AL.mp hm];exact(j9o _).symm
  | some a=>exact x7i i1
theorem x7j{pc:Nat->Str}:∀ (p:List Nat) (x:Str),∃ ys:List Nat,(p.foldl (fun s u=>s++pc u) x).cps.toList=x.cps.toList++ys
 | [],x=>⟨[],(CA _).symm⟩
 | u::p,x=>by
  obtain⟨ys,h⟩:=x7j p (x++pc u)
  exact⟨(pc u).cps.toList++ys,h.trans (by rw [z2t,AY])⟩
theorem k2m{pc:Nat->Str}(hp:∀ v,pc v∈pcL)(v:Nat):(pc v).cps.toList∈P3:=by
 have:∀ x,x∈pcL->x.cps.toList∈P3:=by decide +kernel
 exact this _ (hp v)
theorem k9v:∀ p,p∈P3->p≠[]/\Blk p:=fun p hp=>by
 rcases AR.mp hp with e | hp
 ·subst e;exact⟨DS _ _,fun c hc=>.inl (by rcases AR.mp hc with e | hc;exact e;exact AL.mp hc)⟩
 ·rcases AR.mp hp with e | hp
  ·subst e;exact⟨DS _ _,fun c hc=>.inr (AL.mp hc)⟩
  ·rw [AL.mp hp]
   exact⟨DS _ _,fun c hc=>by rcases AR.mp hc with e | hc;exact .inl e;exact .inr (AL.mp hc)⟩
theorem x7k{pc:Nat->Str}(hp:∀ v,pc v∈pcL)(path:List Nat):Blk (ldP pc path).cps.toList:=by
 have key:∀ (p:List Nat) (x:Str),Blk x.cps.toList->Blk (p.foldl (fun s u=>s++pc u) x).cps.toList:=fun p=>by
  induction p with
  | nil=>exact fun _ h=>h
  | cons u p ih=>
   exact fun x h=>ih (x++pc u) fun c hc=>by
    rw [z2t] at hc
    exact(BJ.mp hc).elim (h c) ((k9v _ (k2m hp u)).2 c)
 exact key path emp fun c hc=>absurd hc BB
noncomputable def x7l(x:Str):Bool:=let ps:=(Txt.split x y6s).map fun y=>y.length
 !ps.isEmpty&&ps.all (fun r=>Nat.ble r 10)&&Nat.ble ps.length 100&&ps.any fun r=>Nat.ble (z2m (ldS x)) r
noncomputable def w5f:Nat->Str->Bool
 | 0,_=>true
 | n+1,x=>pcL.all fun p=>x7l (x++p)&&w5f n (x++p)
theorem x5d:w5f 5 emp=true:=by decide +kernel
theorem j9p{pc:Nat->Str}(hp:∀ v,pc v∈pcL):∀ (n:Nat) (x:Str) (p:List Nat),w5f n x=true->p.length<=n->p≠[]->x7l (p.foldl (fun s u=>s++pc u) x)=true
 | _,_,[],_,_,h=>absurd rfl h
 | 0,_,u::p,_,h,_=>absurd h (Nat.not_succ_le_zero _)
 | n+1,x,u::p,h,hl,_=>by
  obtain⟨a,b⟩:=AH.mp (BA.mp h (pc u) (hp u))
  by_cases e:p=[]
  ·rw [e];exact a
  ·exact j9p hp n (x++pc u) p b (Nat.le_of_succ_le_succ hl) e
structure k9w(x:Str):Prop where
 ne:(Txt.split x y6s).map (fun y=>y.length)≠[]
 le:∀ r,r∈(Txt.split x y6s).map (fun y=>y.length)->r<=10
 few:((Txt.split x y6s).map (fun y=>y.length)).length<=100
 long:∃ r,r∈(Txt.split x y6s).map (fun y=>y.length)/\z2m (ldS x)<=r
theorem k9x{pc:Nat->Str}(hp:∀ v,pc v∈pcL){path:List Nat}(hl:path.length<=5)(hn:path≠[]):k9w (ldP pc path):=by
 have h:=j9p hp 5 emp path x5d hl hn
 obtain⟨h,d⟩:=AH.mp h
 obtain⟨h,c⟩:=AH.mp h
 obtain⟨a,b⟩:=AH.mp h
 obtain⟨r,hr,hl⟩:=DD.mp d
 refine⟨fun e=>?_,fun r hr=>CE (BA.mp b r hr),CE c,r,hr,CE hl⟩
 rw [show(Txt.split (path.foldl (fun s u=>s++pc u) emp) y6s).map (fun y=>y.length)=[] from e] at a
 exact absurd a (by decide)
theorem x7m{pc:Nat->Str}(hp:∀ v,pc v∈pcL)(x:Str):∀ {p:List Nat},p≠[]->∃ q ys,q∈P3/\(p.foldl (fun s u=>s++pc u) x).cps.toList=x.cps.toList++q++ys
 | [],h=>absurd rfl h
 | u::p,_=>by
  obtain⟨ys,h⟩:=x7j p (x++pc u)
  exact⟨(pc u).cps.toList,ys,k2m hp u,h.trans (by rw [z2t])⟩
theorem j9q(pc:Nat->Str)(p q:List Nat):ldP pc (p++q)=q.foldl (fun s u=>s++pc u) (ldP pc p):=DN
theorem y2x{V Z:Type}{f g:V->List Z}{l:List V}(h:∀ x,x∈l->f x=g x):l.flatMap f=l.flatMap g:=by
 rw [List.flatMap_def,List.flatMap_def,CG h]
theorem k9y{i j:Nat}(hij:i<j)(hj:j<5):j∈List.range' (i+1) (5 - (i+1)):=CR.mpr ⟨hij,by lia⟩
noncomputable abbrev pg0:Pg:=(0,wk 0,false,[])
structure y0l(pc:Nat->Str)(S:List Pg):Prop where
 len:S.length=5
 pcs:∀ v,pc v∈pcL
 ld:LdP pc S
 ov:x4m 4 S
 chk:q7b (S.map z1p)=true
noncomputable abbrev xL(S:List Pg)(i:Nat):Str:=(S.getD i pg0).2.1
structure w9p(pc:Nat->Str)(S:List Pg)(i:Nat):Prop where
 e:S[i]?=some (S.getD i pg0)
 m:S.getD i pg0∈S
 v:vN (S.map z1p) i=(S.getD i pg0).1
 o:oN (S.map z1p) i=(S.getD i pg0).2.2.2
 x:xL S i=ldP pc (oN (S.map z1p) i++[vN (S.map z1p) i])
section
variable {pc:Nat->Str} {S:List Pg} {i j:Nat}
theorem y0l.at(O:y0l pc S)(hi:i<5):w9p pc S i:=by
 have e:S[i]?=some (S.getD i pg0):=by rw [AI,AP (O.len.symm▸hi)];rfl
 have m:=CB e
 have t:(S.map z1p).getD i pgD=z1p (S.getD i pg0):=by rw [AI,BC,e];rfl
 have v:vN (S.map z1p) i=(S.getD i pg0).1:=(AT (fun l:Pg=>l.1) t :)
 have o:oN (S.map z1p) i=(S.getD i pg0).2.2.2:=(AT (fun l:Pg=>l.2.2.2) t :)
 exact⟨e,m,v,o,by rw [o,v];exact O.ld _ m⟩
theorem y0l.row(O:y0l pc S)(hij:i<j)(hj:j<5):(if dsc (S.map z1p) i j then(oN (S.map z1p) i++[vN (S.map z1p) i]).isPrefixOf (oN (S.map z1p) j)&&(List.range' (i+1) (j - i)).all fun k=>dsc (S.map z1p) i k
 else(List.range' (i+1) (j - i)).any fun k=>!dsc (S.map z1p) i k&&(oN (S.map z1p) k).isPrefixOf (oN (S.map z1p) i))=true:=BA.mp (BA.mp O.chk i (AN.mpr (BP hij hj))) j (k9y hij hj)
theorem k9z{k:Nat}(hij:i<j):k∈List.range' (i+1) (j - i)↔i<k/\k<=j:=by
 rw [CR]
 constructor
 ·exact fun⟨a,b⟩=>⟨a,by lia⟩
 ·exact fun⟨a,b⟩=>⟨a,by lia⟩
theorem y0l.yes(O:y0l pc S)(hij:i<j)(hj:j<5)(h:dsc (S.map z1p) i j=true):(∃ r,oN (S.map z1p) j=(oN (S.map z1p) i++[vN (S.map z1p) i])++r)/\∀ k,i<k->k<=j->dsc (S.map z1p) i k=true:=by
 have r:=O.row hij hj
 rw [AQ h] at r
 obtain⟨a,b⟩:=AH.mp r
 obtain⟨t,ht⟩:=List.isPrefixOf_iff_prefix.mp a
 exact⟨⟨t,ht.symm⟩,fun k h1 h2=>BA.mp b k ((k9z hij).mpr ⟨h1,h2⟩)⟩
theorem y0l.no(O:y0l pc S)(hij:i<j)(hj:j<5)(h:dsc (S.map z1p) i j=false):∃ k r,i<k/\k<=j/\dsc (S.map z1p) i k=false/\oN (S.map z1p) i=oN (S.map z1p) k++r:=by
 have r:=O.row hij hj
 rw [AS (ET.mp h)] at r
 obtain⟨k,hk,r⟩:=DD.mp r
 obtain⟨a,b⟩:=AH.mp r
 obtain⟨t,ht⟩:=List.isPrefixOf_iff_prefix.mp b
 obtain⟨h1,h2⟩:=(k9z hij).mp hk
 exact⟨k,t,h1,h2,(DG _).mp a,ht.symm⟩
theorem y0l.blk(O:y0l pc S)(hi:i<5):Blk (xL S i).cps.toList:=by rw [(O.at hi).x];exact x7k O.pcs _
theorem q7g{p:List Nat}{v:Nat}:p++[v]≠[]:=fun e=>DS v [] (List.append_eq_nil_iff.mp e).2
theorem y0l.up(O:y0l pc S)(hij:i<j)(hj:j<5)(h:dsc (S.map z1p) i j=true){t:Nat}(ht:1<=t):z8c (xL S i).cps.toList t<z8c (xL S j).cps.toList t:=by
 obtain⟨⟨r,hr⟩,_⟩:=O.yes hij hj h
 rw [(O.at (BP hij hj)).x,(O.at hj).x,hr,AY,j9q pc _ (r++[vN (S.map z1p) j])]
 obtain⟨q,ys,hq,e⟩:=x7m O.pcs (ldP pc (oN (S.map z1p) i++[vN (S.map z1p) i])) (q7g (p:=r) (v:=vN (S.map z1p) j))
 rw [e,AY]
 have q0:=(k9v q hq).1
 induction q using List.casesOn with
 | nil=>exact absurd rfl q0
 | cons c cs=>exact j9b ht _ _
theorem y0l.side(O:y0l pc S)(hij:i<j)(hj:j<5)(h:dsc (S.map z1p) i j=false):∃ k,i<k/\k<=j/\dsc (S.map z1p) i k=false/\∀ top,z2m (ldS (xL S k))<top->∃ t,1<=t/\t<=top/\z8c (xL S k).cps.toList t<=z8c (xL S i).cps.toList t:=by
 obtain⟨k,r,h1,h2,h3,hr⟩:=O.no hij hj h
 refine⟨k,h1,h2,h3,fun top=>?_⟩
 unfold ldS
 rw [(O.at (BP hij hj)).x,(O.at (BU h2 hj)).x,hr,AY,q9z,j9q pc _ (r++[vN (S.map z1p) i]),z2t]
 obtain⟨q,ys,hq,e⟩:=x7m O.pcs (ldP pc (oN (S.map z1p) k)) (q7g (p:=r) (v:=vN (S.map z1p) i))
 rw [e]
 exact x4r (x7k O.pcs _) hq (k2m O.pcs _)
theorem y0l.less(O:y0l pc S)(hij:i<j)(hj:j<5){top:Nat}(h1:z2m (ldS (xL S i))<top)(h2:z2m (ldS (xL S j))<top):q4d (ldS (xL S i)) (ldS (xL S j))=true↔∀ t,1<=t->t<=top->z8c (xL S i).cps.toList t<z8c (xL S j).cps.toList t:=
 x4q (O.blk (BP hij hj)) (O.blk hj) h1 h2
noncomputable abbrev w8b(S:List Pg)(i j:Nat):Nat:=max (z2m (ldS (xL S i))) (z2m (ldS (xL S j)))+1
theorem x7n:z2m (ldS (xL S i))<w8b S i j:=Nat.lt_succ_of_le (DZ _ _)
theorem j9r:z2m (ldS (xL S j))<w8b S i j:=Nat.lt_succ_of_le (EI _ _)
theorem y8t(hij:i<j)(hj:j<5):(i,j)∈z7y S↔q4d (ldS (xL S i)) (ldS (xL S j))=true:=by
 constructor
 ·intro h
  obtain⟨a,_,h⟩:=CU.mp h
  obtain⟨b,hb,e⟩:=AX.mp h
  have e1:a=i:=AT Prod.fst e
  have e2:b=j:=AT Prod.snd e
  subst e1;subst e2
  exact(BF.mp hb).2
 ·exact fun h=>CU.mpr ⟨i,AN.mpr (BP hij hj),AX.mpr ⟨j,BF.mpr ⟨k9y hij hj,h⟩,rfl⟩⟩
theorem y8u{ps:List (Nat×Nat)}{d:Nat->Bool}(h1:∀ j,i<j->j<5->d j=true->(i,j)∈ps/\∀ k,i<k->k<=j->d k=true)(h2:∀ j,i<j->j<5->d j=false->∃ k,i<k/\k<=j/\d k=false/\(i,k)∉ps) :
  ∀ n j,j+n=5->i<j->(∀ k,i<k->k<j->d k=true)->q9o ps i n j=((List.range' j n).filter d).map fun j=>(i,j)
 | 0,_,_,_,_=>rfl
 | n+1,j,hj,hi,hk=>by
  have j5:j<5:=hj▸Nat.lt_add_of_pos_right (Nat.succ_pos n)
  unfold q9o
  induction hd:d j using Bool.casesOn with
  | true=>
   rw [AQ (AV (h1 j hi j5 hd).1),List.range'_succ,List.filter_cons_of_pos hd,BL,y8u h1 h2 n (j+1) ((BV j 1 n).trans hj) (Nat.lt_succ_of_lt hi) fun k a b=>(h1 j hi j5 hd).2 k a (DM b)]
  | false=>
   obtain⟨k,k1,k2,k3,k4⟩:=h2 j hi j5 hd
   have ek:k=j:=Nat.le_antisymm k2 (CH.mp fun l=>Bool.noConfusion ((hk k k1 l).symm.trans k3))
   subst ek
   rw [AS (fun h=>k4 (AK h)),List.filter_eq_nil_iff.mpr]
   ·rfl
   ·intro m hm dm
    obtain⟨a,b⟩:=CR.mp hm
    exact Bool.noConfusion (((h1 m (BW k1 a) (hj▸b) dm).2 k k1 a).symm.trans hd)
theorem y0l.blocks(O:y0l pc S):z8y (z7y S)=ovT S:=by
 refine y2x fun i hi=>?_
 have i5:=AN.mp hi
 rw [Nat.succ_sub_succ 4 i,y8u (d:=dsc (S.map z1p) i) (fun j hij hj h=>⟨(y8t hij hj).mpr ((O.less hij hj x7n j9r).mpr fun t ht _=>O.up hij hj h ht),(O.yes hij hj h).2⟩) (fun j hij hj h=>?_) (4 - i) (i+1) (by lia) (DV i) fun k a b=>absurd a (CH.mpr (DM b))]
 ·refine AT (List.map _) (CQ fun j hj=>?_)
  have j5:j<5:=by have:=(CR.mp hj).2;lia
  unfold dsc
  rw [(O.at i5).v,(O.at j5).o]
 ·obtain⟨k,k1,k2,k3,k4⟩:=O.side hij hj h
  have k5:=BU k2 hj
  refine⟨k,k1,k2,k3,fun m=>?_⟩
  obtain⟨t,t1,t2,t3⟩:=k4 _ (j9r (i:=i))
  exact CH.mpr t3 ((O.less k1 k5 x7n j9r).mp ((y8t k1 k5).mp m) t t1 t2)
theorem j9s{ls:List Str}{top:Nat}:j2h ls top (i,j)=true↔∀ t,1<=t->t<=top->z8c (ls.getD i y6s).cps.toList t<z8c (ls.getD j y6s).cps.toList t:=by
 unfold j2h
 rw [FE,List.filter_eq_nil_iff]
 constructor
 ·intro h t h1 h2
  have:=h (t - 1) (AN.mpr (by lia))
  rw [BY,Nat.sub_add_cancel h1] at this
  exact Nat.not_le.mp this
 ·intro h k hk
  rw [BY]
  exact Nat.not_le.mpr (h (k+1) (CP 1 k) (AN.mp hk))
theorem y0l.spl(O:y0l pc S){l:Pg}(hl:l∈S):k9w l.2.1:=by
 rw [O.ld l hl]
 exact k9x O.pcs (by rw [AE];exact CK (O.ov l hl)) q7g
theorem y0l.long(O:y0l pc S)(hi:i<5):z2m (ldS (xL S i))<1+mxN (y7e (S.map fun l=>l.2.1)):=by
 have A:=O.at hi
 obtain⟨r,hr,h⟩:=(O.spl A.m).long
 have g:r<=mxN (y7e (S.map fun l=>l.2.1)):=k9n r (CU.mpr ⟨xL S i,CT A.m,hr⟩)
 exact BU h (BU g (Nat.lt_add_of_pos_left Nat.one_pos))
theorem y0l.xd(O:y0l pc S)(hi:i<5):(S.map fun l=>l.2.1).getD i y6s=xL S i:=by
 rw [AI,BC,(O.at hi).e];rfl
theorem y0l.les(O:y0l pc S):z7y S=y2w (S.map fun l=>l.2.1):=by
 unfold y2w q4e
 rw [List.filter_flatMap]
 refine y2x fun i hi=>?_
 have i5:=AN.mp hi
 rw [List.filter_map]
 refine AT (List.map _) (CQ fun j hj=>?_)
 obtain⟨a,b⟩:=r15 hj
 show _=j2h _ _ (i,j)
 rw [BN,j9s,O.xd i5,O.xd b]
 exact O.less a b (O.long i5) (O.long b)
theorem y0l.ldOk(O:y0l pc S)(h:∀ l,l∈S->z2s l.2.1 10):k3f (S.map fun l=>l.2.1):=by
 have m:∀ x,x∈S.map (fun l=>l.2.1)->∃ l,l∈S/\l.2.1=x:=fun x hx=>AX.mp hx
 refine⟨(AJ _).trans O.len,fun x hx=>?_,fun e=>?_,fun r hr=>?_,?_⟩
 ·obtain⟨l,hl,e⟩:=m x hx
  rw [<- e];exact h l hl
 ·have A:=O.at (by decide:0<5)
  exact(O.spl A.m).ne (List.flatMap_eq_nil_iff.mp e _ (CT A.m))
 ·obtain⟨x,hx,hr⟩:=CU.mp hr
  obtain⟨l,hl,e⟩:=m x hx
  exact(O.spl hl).le r (by rw [e];exact hr)
 ·refine AA (z7t _ 100 _ fun x hx=>?_) (by rw [AJ,O.len];decide)
  obtain⟨l,hl,e⟩:=m x hx
  rw [<- e];exact(O.spl hl).few
end
theorem w5g:∀ f g h i j:Bool,z9k (z3n false false false false false f g h i j)=true:=by decide +kernel
theorem w5h:∀ f g h i j:Bool,z9k (z3n true false false false false f g h i j)=true:=by decide +kernel
theorem w5i:∀ f g h i j:Bool,z9k (z3n false true false false false f g h i j)=true:=by decide +kernel
theorem w5j:∀ f g h i j:Bool,z9k (z3n true true false false false f g h i j)=true:=by decide +kernel
theorem w5k:∀ f g h i j:Bool,z9k (z3n false false true false false f g h i j)=true:=by decide +kernel
theorem w5l:∀ f g h i j:Bool,z9k (z3n true false true false false f g h i j)=true:=by decide +kernel
theorem w5m:∀ f g h i j:Bool,z9k (z3n false true true false false f g h i j)=true:=by decide +kernel
theorem w5n:∀ f g h i j:Bool,z9k (z3n true true true false false f g h i j)=true:=by decide +kernel
theorem w5o:∀ f g h i j:Bool,z9k (z3n false false false true false f g h i j)=true:=by decide +kernel
theorem w5p:∀ f g h i j:Bool,z9k (z3n true false false true false f g h i j)=true:=by decide +kernel
theorem w0a:∀ f g h i j:Bool,z9k (z3n false true false true false f g h i j)=true:=by decide +kernel
theorem w0b:∀ f g h i j:Bool,z9k (z3n true true false true false f g h i j)=true:=by decide +kernel
theorem w0c:∀ f g h i j:Bool,z9k (z3n false false true true false f g h i j)=true:=by decide +kernel
theorem w0d:∀ f g h i j:Bool,z9k (z3n true false true true false f g h i j)=true:=by decide +kernel
theorem w0e:∀ f g h i j:Bool,z9k (z3n false true true true false f g h i j)=true:=by decide +kernel
theorem w0f:∀ f g h i j:Bool,z9k (z3n true true true true false f g h i j)=true:=by decide +kernel
theorem w0g:∀ f g h i j:Bool,z9k (z3n false false false false true f g h i j)=true:=by decide +kernel
theorem w0h:∀ f g h i j:Bool,z9k (z3n true false false false true f g h i j)=true:=by decide +kernel
theorem w0i:∀ f g h i j:Bool,z9k (z3n false true false false true f g h i j)=true:=by decide +kernel
theorem w0j:∀ f g h i j:Bool,z9k (z3n true true false false true f g h i j)=true:=by decide +kernel
theorem w0k:∀ f g h i j:Bool,z9k (z3n false false true false true f g h i j)=true:=by decide +kernel
theorem w0l:∀ f g h i j:Bool,z9k (z3n true false true false true f g h i j)=true:=by decide +kernel
theorem w0m:∀ f g h i j:Bool,z9k (z3n false true true false true f g h i j)=true:=by decide +kernel
theorem w0n:∀ f g h i j:Bool,z9k (z3n true true true false true f g h i j)=true:=by decide +kernel
theorem w0o:∀ f g h i j:Bool,z9k (z3n false false false true true f g h i j)=true:=by decide +kernel
theorem w0p:∀ f g h i j:Bool,z9k (z3n true false false true true f g h i j)=true:=by decide +kernel
theorem w0q:∀ f g h i j:Bool,z9k (z3n false true false true true f g h i j)=true:=by decide +kernel
theorem w0r:∀ f g h i j:Bool,z9k (z3n true true false true true f g h i j)=true:=by decide +kernel
theorem w0s:∀ f g h i j:Bool,z9k (z3n false false true true true f g h i j)=true:=by decide +kernel
theorem w0t:∀ f g h i j:Bool,z9k (z3n true false true true true f g h i j)=true:=by decide +kernel
theorem w0u:∀ f g h i j:Bool,z9k (z3n false true true true true f g h i j)=true:=by decide +kernel
theorem w0v:∀ f g h i j:Bool,z9k (z3n true true true true true f g h i j)=true:=by decide +kernel
theorem k2n:∀ a b c d e f g h i j:Bool,z9k (z3n a b c d e f g h i j)=true:=fun a b c d e=>match a,b,c,d,e with
 | false,false,false,false,false=>w5g
 | true,false,false,false,false=>w5h
 | false,true,false,false,false=>w5i
 | true,true,false,false,false=>w5j
 | false,false,true,false,false=>w5k
 | true,false,true,false,false=>w5l
 | false,true,true,false,false=>w5m
 | true,true,true,false,false=>w5n
 | false,false,false,true,false=>w5o
 | true,false,false,true,false=>w5p
 | false,true,false,true,false=>w0a
 | true,true,false,true,false=>w0b
 | false,false,true,true,false=>w0c
 | true,false,true,true,false=>w0d
 | false,true,true,true,false=>w0e
 | true,true,true,true,false=>w0f
 | false,false,false,false,true=>w0g
 | true,false,false,false,true=>w0h
 | false,true,false,false,true=>w0i
 | true,true,false,false,true=>w0j
 | false,false,true,false,true=>w0k
 | true,false,true,false,true=>w0l
 | false,true,true,false,true=>w0m
 | true,true,true,false,true=>w0n
 | false,false,false,true,true=>w0o
 | true,false,false,true,true=>w0p
 | false,true,false,true,true=>w0q
 | true,true,false,true,true=>w0r
 | false,false,true,true,true=>w0s
 | true,false,true,true,true=>w0t
 | false,true,true,true,true=>w0u
 | true,true,true,true,true=>w0v
theorem q0u{V:Type}[BEq V][LawfulBEq V]:∀ {l:List V},q9u l=true->l.Nodup
 | [],_=>CX
 | x::l,h=>by
  obtain⟨a,b⟩:=AH.mp h
  exact DH.mpr ⟨fun m=>by rw [CS.mpr m] at a;exact Bool.noConfusion a,q0u b⟩
noncomputable abbrev m2T(T:List Pg):List (Nat×Nat):=k3h T++(k3h T).map swp
structure w0w(B:List (List Nat)):Prop where
 len:(z2h B).length=5
 nd:(z2h B).Nodup
 lt:∀ u,u∈z2h B->u<5
 nest:y0h B B=z8w B
 emp:((List.range 5).all fun u=>(nb (k3g B (q7a B)) u).isEmpty)=z8w B
 held:∀ u,u<5->∀ v,v∈nb B u->(!(q7a B).contains u&&!(q7a B).contains v)=((j9j B).contains u&&(j9j B).contains v)
 tree:q7b (q4n B)=true
 ov:x4m 4 (q4n B)
 nd2:(m2T (q4n B)).Nodup
 same:((List.range 5).all fun u=>(List.range 5).all fun v=>(m2T (q4n B)).contains (u,v)==(nb B u).contains v)=z8w B
theorem w0x{B:List (List Nat)}(h:z9k B=true):w0w B:=by
 obtain⟨h,x⟩:=AH.mp h
 obtain⟨h,nd2⟩:=AH.mp h
 obtain⟨h,ov⟩:=AH.mp h
 obtain⟨h,tree⟩:=AH.mp h
 obtain⟨h,held⟩:=AH.mp h
 obtain⟨h,emp⟩:=AH.mp h
 obtain⟨h,nest⟩:=AH.mp h
 obtain⟨h,lt⟩:=AH.mp h
 obtain⟨len,nd⟩:=AH.mp h
 exact⟨Nat.eq_of_beq_eq_true len,q0u nd,fun u hu=>CE (BA.mp lt u hu),BI nest,BI emp,fun u hu v hv=>BI (BA.mp (BA.mp held u (AN.mpr hu)) v hv),tree,fun l hl=>CE (BA.mp ov l hl),q0u nd2,BI x⟩
theorem k2o{a b:Nat×Nat}(h:cst a=cst b):a=b:=Prod.ext (Int.ofNat.inj (AT Prod.fst h)) (Int.ofNat.inj (AT Prod.snd h))
theorem k2p{a b:Int×Int}(h1:z3o a b=true)(h2:z3o b a=true):a=b:=by
 unfold z3o at h1 h2
 rw [BX,AH,BY,BE,BY] at h1 h2
 exact Prod.ext (by lia) (by lia)
theorem x5e{a b:List (Nat×Nat)}(ha:a.Nodup)(hb:b.Nodup):j9g a=j9g b↔∀ p,p∈a↔p∈b:=by
 have pa:=FW (a.map cst) z3o
 have pb:=FW (b.map cst) z3o
 have mm:∀ (l:List (Nat×Nat)) p,p∈l↔cst p∈l.map cst:=fun l p=>⟨CT,fun h=>by
  obtain⟨q,hq,e⟩:=AX.mp h
  exact k2o e▸hq⟩
 constructor
 ·intro e p
  rw [mm a,mm b,<- pa.mem_iff,<- pb.mem_iff]
  exact iff_of_eq (AT (cst p∈·) e)
 ·intro h
  have p:=((List.perm_ext_iff_of_nodup ha hb).mpr h).map cst
  exact List.Perm.eq_of_pairwise (le:=fun a b=>z3o a b=true) (fun _ _ _ _=>k2p) (List.pairwise_mergeSort z8k y2b _) (List.pairwise_mergeSort z8k y2b _) (pa.trans (p.trans pb.symm))
theorem k2q{own:List Ln}(n:Net own):(z5d own).Nodup:=by
 unfold z5d
 refine DF.mpr ⟨n.nd,?_,fun x hx y hy e=>?_⟩
 ·have:=n.nd
  unfold List.Nodup at this ⊢
  rw [List.pairwise_map] at this ⊢
  exact this.imp fun {a b} (h:pq a≠pq b) (e:swp (pq a)=swp (pq b))=>h (Prod.ext (AT Prod.snd e :) (AT Prod.fst e :))
 ·obtain⟨l,hl,rfl⟩:=AX.mp hx
  obtain⟨m,hm,rfl⟩:=AX.mp hy
  have a:=(n.ups l hl).1
  have b:=(n.ups m hm).1
  have e1:l.1=m.2.1:=AT Prod.fst e
  have e2:l.2.1=m.1:=AT Prod.snd e
  rw [e1,e2] at a
  exact Nat.lt_asymm a b
theorem x5f{pc:Nat->Str}{S:List Pg}(O:y0l pc S):k2i S (ovT S)=k3h (S.map z1p):=by
 unfold k2i ovT k3h
 rw [EM]
 refine y2x fun i hi=>?_
 have A:=O.at (AN.mp hi)
 have f:(List.range' (i+1) (5 - (i+1))).filter (fun j=>(S.getD j (0,wk 0,false,[])).2.2.2.contains (S.getD i (0,wk 0,false,[])).1)=(List.range' (i+1) (5 - (i+1))).filter (dsc (S.map z1p) i):=CQ fun j hj=>by
  unfold dsc
  rw [A.v,(O.at (r15 hj).2).o]
 have g:∀ {k},k<5->(S.map fun l=>l.1).getD k 0=vN (S.map z1p) k:=fun {k} hk=>by
  rw [AI,BC,(O.at hk).e,(O.at hk).v];rfl
 rw [f,AW]
 exact CG fun j hj=>Prod.ext (g (AN.mp hi)) (g (r15 (BF.mp hj).1).2)
theorem w0y{T:List Pg}(h:∀ i,i<5->vN T i<5){p:Nat×Nat}(hp:p∈m2T T):p.1<5/\p.2<5:=by
 have key:∀ p,p∈k3h T->p.1<5/\p.2<5:=fun p hp=>by
  obtain⟨i,hi,hp⟩:=CU.mp hp
  obtain⟨j,hj,rfl⟩:=AX.mp hp
  exact⟨h i (AN.mp hi),h j (r15 (BF.mp hj).1).2⟩
 rcases BJ.mp hp with hp | hp
 ·exact key p hp
 ·obtain⟨q,hq,rfl⟩:=AX.mp hp
  exact(key q hq).symm
theorem x5g{own:List Ln}(n:Net own){pc:Nat->Str}(hp:∀ v,pc v∈pcL):x7h own pc (y7c (z2h (z2a own)) (z2a own) pc 5):=by
 have C:w0w (bes own):=by
  obtain⟨a,b,c,d,e,f,g,h,i,j,hb⟩:=x5c n.ups
  rw [hb];exact w0x (k2n a b c d e f g h i j)
 have eo:z2h (z2a own)=z2h (bes own):=j9k n
 have me:=x5a n.ups
 have l2:∀ x,x∈pcL->z2s x 2:=fun x hx=>⟨by
  have:∀ x,x∈pcL->x.length<=2:=by decide +kernel
  exact this x hx,by
  have:∀ x,x∈pcL->∀ c,c∈x.cps.toList->c=32\/c=9:=by decide +kernel
  exact this x hx⟩
 have ord:y2t (z2h (z2a own)) pc:=by
  rw [eo];exact⟨C.len,C.nd,C.lt,fun v _=>l2 _ (hp v)⟩
 have I:∀ k,k<=5->y3u (z2h (z2a own)) k (y7c (z2h (z2a own)) (z2a own) pc k):=fun k=>by
  induction k with
  | zero=>exact fun _=>q9m _
  | succ k ih=>exact fun h=>by rw [y8p];exact(ih (DA h)).step ord h _
 have I5:=I 5 (AM 5)
 have pg:y7c (z2h (z2a own)) (z2a own) pc 5=y7c (z2h (z2a own)) (bes own) pc 5:=q9y me ord.lt pc 5
 obtain⟨ld,st⟩:=k9u (z2h (z2a own)) (bes own) pc 5
 rw [<- pg] at ld st
 have st:(y7c (z2h (z2a own)) (z2a own) pc 5).map z1p=q4n (bes own):=st.trans (by rw [eo])
 have lt5:=I5.lt ord
 generalize y7c (z2h (z2a own)) (z2a own) pc 5=S at *
 have O:y0l pc S:=⟨I5.len,hp,ld,fun l hl=>C.ov (z1p l) (st▸CT hl),st▸C.tree⟩
 refine⟨fun p h=>(q9x n h).2,k2k n,ord,(q4o me).trans C.nest,?_,?_,?_,pg.symm,O.blocks,O.ldOk I5.lead,O.les⟩
 ·show _=z8w (bes own)
  rw [<- C.emp,j9n n.ups,BN,BY,BA]
  constructor
  ·intro e u hu
   rw [FE,DW]
   intro v hv
   have u5:=AN.mp hu
   have:=(q7f n.ups (q7a (bes own)) u u5 v).mpr hv
   rw [e,y0j u5] at this
   exact absurd this BB
  ·intro h
   refine DW.mpr fun l hl=>?_
   have u:=n.ups l (BF.mp hl).1
   have u5:=BP u.1 u.2
   have m:=(q7f n.ups (q7a (bes own)) l.1 u5 l.2.1).mp (by rw [y0j u5];exact z3m.mpr ⟨l,hl,.inl ⟨rfl,rfl⟩⟩)
   rw [FE.mp (h l.1 (AN.mpr u5))] at m
   exact BB m
 ·show _=z8w (bes own)
  unfold k2j
  rw [<- C.same,O.blocks,x5f O,st,BN,BY,BA,x5e C.nd2 (k2q n)]
  have tb:∀ {u v},u<5->((u,v)∈z5d own↔v∈nb (bes own) u):=fun {u v} hu=>z7u.trans (y0k n.ups hu).symm
  constructor
  ·intro h u hu
   refine BA.mpr fun v hv=>BE.mpr ?_
   rw [BN,CS,CS]
   exact(h (u,v)).trans (tb (AN.mp hu))
  ·intro h p
   have k:p.1<5->p.2<5->(p∈m2T (q4n (bes own))↔p∈z5d own):=fun h1 h2=>by
    have:=BE.mp (BA.mp (h p.1 (AN.mpr h1)) p.2 (AN.mpr h2))
    rw [BN,CS,CS] at this
    exact this.trans (tb h1).symm
   have v5:∀ i,i<5->vN (q4n (bes own)) i<5:=fun i hi=>by
    rw [<- st,(O.at hi).v];exact lt5 _ (O.at hi).m
   constructor
   ·intro hm
    obtain⟨a,b⟩:=w0y v5 hm
    exact(k a b).mp hm
   ·intro hm
    have r:=z7u.mp hm
    exact(k (w5e n.ups r) (y0i n.ups r).1).mpr hm
 ·rw [j9n n.ups,x5b n.ups]
  refine CQ fun l hl=>?_
  have u:=n.ups l hl
  have u5:=BP u.1 u.2
  exact C.held l.1 u5 l.2.1 ((y0k n.ups u5).mpr (z3m.mpr ⟨l,hl,.inl ⟨rfl,rfl⟩⟩))
theorem law2_true(ns:List Int):∃ H',z0f D2.mp 20 lawId2 [.lst (ns.map .int)] [] ⟨0,0⟩ []=some (.bool true,H'):=x4y ns (x5g (k9t (q4g ns)) (x4w _))
end Mine
end
open PySem PySem.W PyProof.Rows
set_option maxHeartbeats 8000000
namespace Mine
noncomputable def pw:Program:=PySem.Challenge.pw_sh0057_02
noncomputable def vw:Program:=view PySem.Challenge.pw_sh0057_02 [28]
noncomputable def lz:List Str:=[("_sre":Str),"_wall","__name__","Whitespace","COMPILER_FLAG_NAMES","pretty_flags","_name_disallowed_re","_value_disallowed_re","Headers","_law_words","_law_title","_law_net","_law_own","_law_free","_law_nested","_law_far","_law_held","_law_near","_law_emptied","_law_page","_law_lines","_law_pairs","_law_blocks","_law_column","_law_lesser"]
noncomputable def xtB(s:Shared):Bool:=xlAt vw [] s&&recOk (RowW.records (OpenRow.toRowW PySem.Challenge.rw_sh0057_02.row)) s
noncomputable def w1w(p:Program)(w:World)(N:Nat)(sA:Shared):Option Shared:=
 match sA.heap.isNs mainGlobals&&sA.gens.size==0 with
 | true=>(PySem.W.Fast.tw14082659384304107361 PySem.W.Fast.tw14364793385576792824 p w sA.heap.objs.size (sA.heap.nsMap mainGlobals "__annotations__") N sA (topStub p)).bind fun sB=>match staticsOk (importedModules p.main.body) sA.heap sB.heap&&namesBound p sB.heap&&gensDone sB&&laidKept sA.heap sB.heap with
   | true=>some sB
   | false=>none
 | false=>none
theorem k2r(p:Program)(w:World)(N:Nat):topFrom treeTable p w N=w1w p w N:=by
 funext sA
 unfold topFrom w1w
 rw [PySem.W.Fast.te14082659384304107361,show treeTable=PySem.W.Fast.tw14364793385576792824 from PySem.W.Fast.te14364793385576792824]
 rfl
noncomputable def j0a(p:Program)(w:World)(N:Nat):Option Shared:=(importEnds treeTable (opening p) w N (start (opening p)).1 (start (opening p)).2).bind (PySem.W.Fast.tw14289696077712309145 p)
theorem j9t(p:Program)(w:World)(N:Nat):fencedOpening treeTable p w N=j0a p w N:=by
 unfold fencedOpening j0a
 rw [PySem.W.Fast.te14289696077712309145]
theorem x5h(p:Program)(w:World)(N:Nat):openEnds treeTable p w N=(j0a p w N).bind (w1w p w N):=by
 unfold openEnds
 rw [j9t,k2r]
noncomputable def j2l(w:World):Option Shared:=(j0a PySem.Challenge.rw_sh0057_02.row.prog w 4182).bind (w1w PySem.Challenge.rw_sh0057_02.row.prog w 4182)
noncomputable def eye(s:Shared):=PySem.W.Fast.tw4187177175401517315 vw lz (importedModules PySem.Challenge.rw_sh0057_02.row.prog.main.body) xtB true s
noncomputable def x5i:String:="special-get-raises"
theorem w0z(w:World):(j2l (w.withFollow x5i false)).map eye=some (openGood vw lz):=by kernel_rfl
theorem w1a(w:World):(j2l (w.withFollow x5i true)).map eye=some (openGood vw lz):=by kernel_rfl
theorem w5q(w:World):(j2l w).map eye=some (openGood vw lz):=byRow2 x5i (P:=fun w=>(j2l w).map eye=some (openGood vw lz)) w0z w1a w
theorem w1b(w:World):(j2l (w.withFollow x5i false)).map (q5w D2 lawId2 400)=some (true):=by kernel_rfl
theorem w1c(w:World):(j2l (w.withFollow x5i true)).map (q5w D2 lawId2 400)=some (true):=by kernel_rfl
theorem w5r(w:World):(j2l w).map (q5w D2 lawId2 400)=some (true):=byRow2 x5i (P:=fun w=>(j2l w).map (q5w D2 lawId2 400)=some (true)) w1b w1c w
theorem w1d(w:World):(j2l (w.withFollow x5i false)).map (j1o D2 400)=some (true):=by kernel_rfl
theorem w1e(w:World):(j2l (w.withFollow x5i true)).map (j1o D2 400)=some (true):=by kernel_rfl
theorem w5s(w:World):(j2l w).map (j1o D2 400)=some (true):=byRow2 x5i (P:=fun w=>(j2l w).map (j1o D2 400)=some (true)) w1d w1e w
theorem w5t:LeftO PySem.Challenge.rw_sh0057_02.row.prog vw lz xtB (fun s=>(q5w D2 lawId2 400 s,j1o D2 400 s)) (fun _=>(true,true)) 4182:=fun w=>by
 have h:=q8h (w5q w) (q8h (w5r w) (w5s w))
 unfold j2l eye at h
 rw [<- PySem.W.Fast.te4187177175401517315,<- x5h] at h
 exact h
theorem j9u:(defOf vw PySem.Challenge.rw_sh0057_02.row.name).isSome=true:=by kernel_rfl
noncomputable def dk:DefRec×List (Str×Expr):=(defOf vw PySem.Challenge.rw_sh0057_02.row.name).get j9u
theorem w1f:defOf vw PySem.Challenge.rw_sh0057_02.row.name=some (dk.1,dk.2):=(Option.some_get j9u).symm
theorem dk_name:dk.1.name=Str.ofString "law":=by kernel_rfl
theorem k2s:PySem.Challenge.rw_sh0057_02.row.prog.theDef PySem.Challenge.rw_sh0057_02.row.name=some (dk.1.params,dk.1.body,dk.1.scope):=by kernel_rfl
theorem w5u:kwWritten? dk.1.params.kwonlyargs dk.1.params.kw_defaults=some dk.2:=by kernel_rfl
theorem w5v:(chainsOk vw&&opensWell PySem.Challenge.rw_sh0057_02.row.prog&&(frees PySem.Challenge.rw_sh0057_02.row.toRowW&&PySem.Challenge.rw_sh0057_02.row.within.isEmpty))=true:=by kernel_rfl
theorem k2t:PySem.Challenge.rw_sh0057_02.row.prog.bare:=⟨by kernel_rfl,by kernel_rfl,by kernel_rfl,by kernel_rfl,by kernel_rfl,by decide +kernel⟩
theorem w9q:(!PySem.Challenge.rw_sh0057_02.row.writes || PySem.Challenge.rw_sh0057_02.row.records.isEmpty)=true:=by kernel_rfl
theorem said2:OpenLaw.wellSaid PySem.Challenge.rw_sh0057_02=true:=by kernel_rfl
theorem head2(k1:PySem.Challenge.rw_sh0057_02.row.wellSaid=true)(hw:PySem.Challenge.rw_sh0057_02.row.toRowW.promised)
 (call:WalkO vw lz (XL vw []) (fun _ h=>Seen D2 lawId2 h) PySem.Challenge.rw_sh0057_02.row.toRowW dk.1 dk.2 fun f vs=>PySem.call f vs):PySem.Challenge.rw_sh0057_02.row.Holds:=
 holds_open (YP:=fun _ h=>Seen D2 lawId2 h) w5t (fun w s e=>x9j (AT Prod.fst e) (AT Prod.snd e)) (fun w h h' S k=>S.keeps k) (fun s e=>xl_of s (AH.mp e).1) XL.keeps w1f k2s w5u (fun s e=>recFacts_of (AH.mp e).2) w9q k1 w5v k2t hw call
end Mine
theorem PySem.Challenge.cw_sh0057_02_holds : PySem.Challenge.rw_sh0057_02.Holds := by
 refine holds_law Mine.said2 fun said=>?_
 refine Mine.head2 (by assumption) ?hw ?hc
 case hw=>w_witness2
 case hc=>
  intro w sA sB mg mb G A3 fa o pm cd doc dV kV ho hd hcd hD hmg hg args vals as hpre hlay hrd hwl hlo
  obtain⟨K,KX,KC,KL⟩:=A3
  refine Ground.open G ?_
  intro T B D TE TW
  rw [Mine.dk_name] at hmg
  have hfa:=Option.some.inj ((mg_of KX T.g (n:=Str.ofString "law") (v:=.ref (Mine.D2.fA.getD Mine.lawId2 0)) KL).symm.trans hmg)
  have hfa':fa=Mine.D2.fA.getD Mine.lawId2 0:=(Value.ref.inj hfa).symm
  clear ho hd hcd hD hfa
  wrow_args hpre hlay hrd hwl hlo
  rename_i ns _ _ _ _ _ _ _ l vs _ hL _ hW _ hI _ hc _
  refine Mine.law_walks (lid:=Mine.lawId2) (D:=Mine.D2) (ns:=ns) KC KX T hL hW rfl hI ?len ⟨rfl,by decide,by decide⟩ hfa' (Mine.law2_true ns) ?fin
  case len=>omega
  case fin=>
   intro s' hk hos hgen
   refine GoodW.toG ⟨.inl ⟨.bool true,.bool true,[],rfl,fun _=>rfl,.bool _,?_,fun _=>⟨List.nodup_nil,fun a h=>(nomatch h)⟩⟩,hk,hos,by rw [hgen,hg]⟩
   kernel_rfl
