import PyProof.Rows.All
import Wide.All
import OpenK.AllK
import Wide.FinOn
import PySem.Challenge.RW_sh0057_02
set_option Elab.async false
set_option maxRecDepth 100000
set_option linter.all false
set_option genSizeOf false
set_option genSizeOfSpec false
set_option bootstrap.genMatcherCode false
section
open PySem PySem.W PyProof.Rows
namespace Mine
abbrev AA:=@Nat.le_trans
abbrev AB:=@wpAny_bind
abbrev AC:=@List.length_append
abbrev AD:=@List.mem_cons_self
abbrev AE:=@List.mem_cons_of_mem
abbrev AF:=@Option.some.inj
abbrev AG:=@Bool.and_eq_true_iff
abbrev AH:=@List.getD_eq_getElem?_getD
abbrev AI:=@List.length_map
abbrev AJ:=@wpAny_pure
abbrev AK:=@of_decide_eq_true
abbrev AL:=@Nat.le_refl
abbrev AM:=@List.mem_range
abbrev AN:=@List.getElem?_eq_getElem
abbrev AO:=@List.mem_singleton
abbrev AP:=@congrArg
abbrev AQ:=@List.mem_cons
abbrev AR:=@if_pos
abbrev AS:=@List.getElem?_eq_some_iff
abbrev AT:=@if_neg
abbrev AU:=@Heap.get?_push_of_some
abbrev AV:=@decide_eq_true
abbrev AW:=@List.append_assoc
abbrev AX:=@List.map_map
abbrev AY:=@List.mem_map
abbrev AZ:=@Nat.lt_of_le_of_lt
abbrev BA:=@List.all_eq_true
abbrev BB:=@List.not_mem_nil
abbrev BC:=@Nat.le_add_right
abbrev BD:=@List.getElem?_map
abbrev BE:=@beq_iff_eq
abbrev BF:=@List.map_append
abbrev BG:=@List.mem_filter
abbrev BH:=@List.length_cons
abbrev BI:=@Nat.add_right_comm
abbrev BJ:=@Heap.get?_push_size
abbrev BK:=@Nat.zero_le
abbrev BL:=@List.mem_append
abbrev BM:=@Nat.add_le_add
abbrev BN:=@Nat.lt_of_lt_of_le
abbrev BO:=@eq_of_beq
abbrev BP:=@List.map_cons
abbrev BQ:=@Nat.le_of_ble_eq_true
abbrev BR:=@Nat.le_of_lt
abbrev BS:=@Nat.lt_trans
abbrev BT:=@Bool.eq_iff_iff
abbrev BU:=@List.mem_append_right
abbrev BV:=@List.size_toArray
abbrev BW:=@wpAny_holding
abbrev BX:=@wpAny_standAt
abbrev BY:=@decide_eq_true_iff
abbrev BZ:=@Nat.add_le_add_right
abbrev CA:=@List.length_filter_le
abbrev CB:=@Nat.le_succ_of_le
abbrev CD:=@Bool.or_eq_true_iff
abbrev CE:=@List.mem_of_getElem?
abbrev CF:=@Nat.not_lt
abbrev CG:=@List.append_nil
abbrev CH:=@List.map_congr_left
abbrev CI:=@Nat.succ_le_succ
abbrev CJ:=@Nat.le_of_eq
abbrev CK:=@Nat.mul_le_mul
abbrev CL:=@Bool.false_ne_true
abbrev CM:=@Array.length_toList
abbrev CN:=@List.mem_append_left
abbrev CO:=@Nat.le_add_left
abbrev CP:=@Nat.le_of_lt_succ
abbrev CQ:=@List.filter_congr
abbrev CR:=@List.contains_iff_mem
abbrev CS:=@Nat.add_le_add_left
abbrev CT:=@List.mem_map_of_mem
abbrev CU:=@List.mem_range'_1
abbrev CV:=@Heap.lt_size
abbrev CW:=@Nat.add_sub_cancel_left
abbrev CX:=@List.mem_flatMap
abbrev CY:=@List.getElem?_append_right
abbrev CZ:=@wpAny_mono
abbrev DA:=@List.foldl_cons
abbrev DB:=@Nat.add_sub_cancel'
abbrev DC:=@List.getElem?_eq_none
abbrev DD:=@Nat.le_of_succ_le
abbrev DE:=@Nat.zero_add
abbrev DF:=@beq_self_eq_true
abbrev DG:=@List.any_eq_true
abbrev DH:=@List.getElem?_append_left
abbrev DI:=@List.nodup_append
abbrev DJ:=@Bool.not_eq_true'
abbrev DK:=@Nat.ne_of_lt
abbrev DL:=@List.nodup_cons
abbrev DM:=@Int.natAbs_natCast
abbrev DN:=@List.getElem?_set_ne
abbrev DO:=@Nat.ne_of_gt
abbrev DP:=@List.foldl_append
abbrev DQ:=@Array.all_eq_true_iff_forall_mem
abbrev DR:=@List.nodup_nil
abbrev DS:=@List.replicate_succ
abbrev DT:=@decide_eq_false
abbrev DU:=@List.getElem?_toArray
abbrev DV:=@List.cons_ne_nil
abbrev DW:=@Bool.false_eq_true
abbrev DX:=@List.lookup_cons
abbrev DY:=@Nat.lt_succ_self
abbrev DZ:=@Int.natCast_nonneg
abbrev EA:=@List.eq_nil_iff_forall_not_mem
abbrev EB:=@List.length_range
abbrev EC:=@Nat.le_max_left
abbrev ED:=@beq_false_of_ne
abbrev EE:=@List.getElem?_range
abbrev EF:=@Nat.add_left_cancel
abbrev EG:=@List.findSome?_cons
abbrev EH:=@List.getElem?_set_self
abbrev EI:=@Nat.le_max_right
abbrev EJ:=@List.getElem_map
abbrev EK:=@Bool.and_eq_true
abbrev EL:=@List.map_flatMap
abbrev EM:=@List.getElem?_take
abbrev EN:=@Int.fmod_eq_emod_of_nonneg
abbrev EO:=@StrLaws.glued_eq_join
abbrev EP:=@Nat.not_lt_zero
abbrev EQ:=@Int.le_trans
abbrev ER:=@Bool.eq_false_iff
abbrev ES:=@Array.mem_toList_iff
abbrev ET:=@Int.toNat_natCast
abbrev EU:=@List.range'_append_1
abbrev EV:=@Nat.lt_irrefl
abbrev EW:=@Array.getElem_mem_toList
abbrev EX:=@beq_eq_false_iff_ne
abbrev EY:=@wpAny_call_entry
abbrev EZ:=@List.isEmpty_iff
abbrev FA:=@List.filter_cons
abbrev FC:=@List.take_of_length_le
abbrev FD:=@pushCells_keeps
abbrev FE:=@List.forIn_cons
abbrev FF:=@List.sum_cons
abbrev FG:=@wpAny_newObj_type
abbrev FH:=@Array.getD_eq_getD_getElem?
abbrev FI:=@Array.perm_iff_toList_perm
abbrev FJ:=@Int.le_refl
abbrev FK:=@Nat.le_succ
abbrev FL:=@Prod.mk.inj
abbrev FM:=@Heap.size_push
abbrev FN:=@Nat.add_lt_add_of_lt_of_le
abbrev FO:=@decide_eq_decide
abbrev FP:=@List.pairwise_iff_getElem
abbrev FQ:=@Array.getElem?_eq_getElem
abbrev FR:=@List.drop_eq_getElem_cons
abbrev FS:=@List.mergeSort_perm
abbrev FT:=@Heap.SameBut.update
abbrev FU:=@List.filter_eq_self
abbrev FV:=@List.length_take_le
abbrev FW:=@List.drop_nil
abbrev FX:=@bne_iff_ne
abbrev FY:=@List.zip_cons_cons
abbrev FZ:=@List.length_range'
abbrev GA:=@sizeLine_eq
abbrev GB:=@List.take_append_of_le_length
abbrev GC:=@Option.map_some
abbrev GD:=@arm_eval_Call_Name'
abbrev GE:=@List.map_eq_nil_iff
end Mine
end
section
open PySem
namespace Mine
inductive PV where
 | none
 | bool(b:Bool)
 | int(i:Int)
 | str(s:Str)
 | tup(l:List PV)
 | lst(l:List PV)
 | ref(i:Nat)
 | inst(c:Nat)(i:Nat)
 | pat(b:Bool)
 | edict
 deriving Inhabited
inductive z2u where
 | lst(l:List PV)
 | att(l:List (Nat×PV))
 deriving Inhabited
inductive BOp where
 | add | sub | mul | fdiv | mod | shl | pow | band | bxor
inductive COp where
 | eq | ne | lt | le | gt | ge | in_ | nin
inductive q6a where
 | len | sum | max | sorted | int | hex | tuple
 | lower | upper | split | join | index | flagGet | search | lenSet
inductive z5w where
 | over | range | zip | items
inductive Pat where
 | one(k:Nat)
 | tup(ks:List Nat)
inductive ME where
 | none
 | bool(b:Bool)
 | int(i:Int)
 | str(s:Str)
 | dbg
 | var(k:Nat)
 | bin(o:BOp)(a b:ME)
 | neg(a:ME)
 | cmp(o:COp)(a b:ME)
 | isNone(ng:Bool)(a:ME)
 | isTy(ng:Bool)(t:Bool)(a:ME)
 | ite(c a b:ME)
 | idx(a i:ME)
 | slice(a:ME)(lo hi:Option ME)
 | tup(l:List ME)
 | lst(l:List ME)
 | mlst(l:List ME)
 | mcat(a b:ME)
 | mslice(a:ME)
 | pure(e:ME)
 | gc(e:ME)
 | comp(elt:ME)(gs:List (Pat×z5w×List ME×List ME))
 | call(f:Nat)(args:List ME)
 | new(c:Nat)(args:List ME)
 | newg(c:Nat)(args:List ME)
 | meth(m:Nat)(o:ME)(args:List ME)
 | methk(m:Nat)(o:ME)(args:List ME)(k:Nat)(e:ME)
 | attr(k:Nat)(o:ME)
 | gattr(k:Nat)
 | pat(b:Bool)
 | prim(p:q6a)(args:List ME)
 | notE(a:ME)
 | andE(l:List ME)
 | orE(l:List ME)
 | stuck
inductive MS where
 | ret(e:ME)
 | expr(e:ME)
 | assign(p:Pat)(e:ME)
 | assigns(ks:List Nat)(e:ME)
 | aug(o:BOp)(k:Nat)(e:ME)
 | setAttr(o:ME)(k:Nat)(e:ME)
 | setIdx(o i e:ME)
 | setAll(o e:ME)
 | delIdx(o i:ME)
 | append(o e:ME)
 | ifs(c:ME)(a b:List MS)
 | for_(p:Pat)(k:z5w)(src:List ME)(body orelse:List MS)
 | while_(c:ME)(body:List MS)
 | brk
 | stuck
noncomputable abbrev z0b:=List z2u
noncomputable abbrev z0l:=Nat->Option PV
inductive Fl where
 | next(Y:z0l)
 | brk(Y:z0l)
 | ret(v:PV)
structure Lim where
 b:Nat
 ab:Nat
noncomputable def M(V:Type):=Lim->z0b->Option (V×z0b)
namespace M
noncomputable def pure{V:Type}(a:V):M V:=fun _ H=>some (a,H)
noncomputable def fail{V:Type}:M V:=fun _ _=>Option.none
noncomputable def bind{V Z:Type}(m:M V)(f:V->M Z):M Z:=fun b H=>match m b H with
 | some (a,H')=>f a b H'
 | Option.none=>Option.none
noncomputable def ofOpt{V:Type}(o:Option V):M V:=fun _ H=>match o with
 | some a=>some (a,H)
 | Option.none=>Option.none
end M
noncomputable def upd(Y:z0l)(k:Nat)(v:PV):z0l:=fun j=>if j=k then some v else Y j
noncomputable def z4a(Y:z0l):List Nat->List PV->Option z0l
 | [],[]=>some Y
 | k::ks,v::vs=>z4a (upd Y k v) ks vs
 | _,_=>none
noncomputable def clear(Y:z0l)(ks:List Nat):z0l:=fun j=>if ks.contains j then none else Y j
noncomputable def z2k:Nat:=16777216
noncomputable def z1d(H:z0b)(i:Nat):Option (List PV):=match H[i]? with
 | some (.lst l)=>some l
 | _=>none
noncomputable def k2g(H:z0b):PV->Option (List PV)
 | .tup l=>some l
 | .lst l=>some l
 | .ref i=>z1d H i
 | _=>none
mutual
noncomputable def z1n:PV->Option PyData
 | .none=>some .none
 | .bool b=>some (.bool b)
 | .int i=>some (.int i)
 | .str s=>if PyData.strOk s then some (.str s) else none
 | .tup l=>(z0n l).map .tuple
 | .lst l=>(z0n l).map .list
 | .ref _=>none
 | .inst _ _=>none
 | .pat _=>none
 | .edict=>none
noncomputable def z0n:List PV->Option (List PyData)
 | []=>some []
 | p::ps=>(z1n p).bind fun d=>(z0n ps).map fun ds=>d::ds
end
noncomputable def w7i(H:z0b):PV->Option PV
 | .ref i=>(z1d H i).map .lst
 | v=>some v
noncomputable def small(i:Int):Bool:=decide (i.natAbs<2^64)
noncomputable def sz(l:List PV):Option (List PV):=if l.length<=z2k then some l else none
noncomputable def z5u(H:z0b):PV->Option (List PV)
 | .lst l=>some l
 | .ref i=>z1d H i
 | _=>none
noncomputable def one{V:Type}(l:List PV)(k:PV->Option V):Option V:=match l with
 | [a]=>k a
 | _=>none
noncomputable def two{V:Type}(l:List PV)(k:PV->PV->Option V):Option V:=match l with
 | [a,b]=>k a b
 | _=>none
noncomputable def j1d{V:Type}(p:PV)(k:Int->Option V):Option V:=match p with
 | .int i=>k i
 | _=>none
noncomputable def j1e{V:Type}(p:PV)(k:Str->Option V):Option V:=match p with
 | .str i=>k i
 | _=>none
noncomputable def w1a{V:Type}(p:PV)(k:List PV->Option V):Option V:=match p with
 | .tup i=>k i
 | _=>none
noncomputable def x4e{V:Type}(p:PV)(k:List PV->Option V):Option V:=match p with
 | .lst i=>k i
 | _=>none
noncomputable def w5a{V:Type}(p:PV)(k:Bool->Option V):Option V:=match p with
 | .pat i=>k i
 | _=>none
noncomputable def y8b{V:Type}(p q:PV)(k:Int->Int->Option V):Option V:=j1d p fun a=>j1d q fun b=>k a b
noncomputable def z5h:List PV->Option (List Int)
 | []=>some []
 | p::r=>j1d p fun i=>(z5h r).map (i::·)
noncomputable def z7v:List PV->Option (List Str)
 | []=>some []
 | p::r=>j1e p fun x=>(z7v r).map (x::·)
noncomputable def listMul(a:List PV):Nat->List PV
 | 0=>[]
 | n+1=>a++listMul a n
noncomputable def w5b(H:z0b)(p q:PV):Option PV:=(z5u H p).bind fun a=>(z5u H q).bind fun b=>(sz (a++b)).map .lst
noncomputable def w5c(H:z0b)(p q:PV):Option PV:=match p with
 | .int a=>j1d q fun b=>some (.int (a+b))
 | .str x=>j1e q fun y=>if x.length+y.length<=z2k then some (.str (x++y)) else none
 | .tup a=>w1a q fun b=>(sz (a++b)).map .tup
 | p=>w5b H p q
noncomputable def w1b(H:z0b)(p q:PV):Option PV:=j1d q fun n=>match p with
 | .int a=>if small a&&small n then some (.int (a*n)) else none
 | .str x=>if n.natAbs<=1000/\x.length<=1000 then some (.str (Txt.mul x n)) else none
 | p=>(z5u H p).bind fun a=>if n.natAbs<=1000/\a.length<=1000 then some (.lst (listMul a n.toNat)) else none
noncomputable def y5z(o:BOp)(H:z0b)(p q:PV):Option PV:=match o with
 | .add=>w5c H p q
 | .mul=>w1b H p q
 | .sub=>y8b p q fun a b=>some (.int (a - b))
 | .fdiv=>y8b p q fun a b=>if b≠0/\b.natAbs<1000000 then some (.int (a.fdiv b)) else none
 | .mod=>y8b p q fun a b=>if b≠0 then some (.int (a.fmod b)) else none
 | .shl=>y8b p q fun a b=>if 0<=b/\b<=1000000/\a.natAbs<2^64 then some (.int (a*2^b.toNat)) else none
 | .pow=>y8b p q fun a b=>if 0<=b/\b<=1000000/\a.natAbs<2^64 then some (.int (a^b.toNat)) else none
 | .band=>y8b p q fun a b=>some (.int (Builtin.bitAnd a b))
 | .bxor=>y8b p q fun a b=>some (.int (Builtin.bitXor a b))
noncomputable def x4f(o:BOp)(p q:PV):Option PV:=match o with
 | .add=>y8b p q fun a b=>some (.int (a+b))
 | .bxor=>y8b p q fun a b=>some (.int (Builtin.bitXor a b))
 | _=>none
noncomputable def eqD(p q:PV):Option Bool:=(z1n p).bind fun d=>(z1n q).bind fun e=>if d.depth<=30/\e.depth<=30 then some (PyData.eqv d e) else none
noncomputable def eqV(p q:PV):Option Bool:=match p with
 | .int a=>(match q with | .int b=>some (a==b) | q=>eqD (.int a) q)
 | .str a=>(match q with | .str b=>some (a==b) | q=>eqD (.str a) q)
 | .bool a=>(match q with | .bool b=>some (a==b) | q=>eqD (.bool a) q)
 | p=>eqD p q
noncomputable def inL(x:PV)(l:List PV):Option Bool:=(z0n l).bind fun ds=>(z1n x).bind fun d=>if d.depth<=30 then some (ds.any fun y=>PyData.eqv y d) else none
noncomputable def inV(x p:PV):Option Bool:=match p with
 | .lst l=>inL x l
 | .tup l=>inL x l
 | _=>none
noncomputable def w0c(o:COp)(p q:PV):Option Bool:=
 match o with
 | .eq=>eqV p q
 | .ne=>(eqV p q).map (!·)
 | .in_=>inV p q
 | .nin=>(inV p q).map (!·)
 | .lt=>y8b p q fun a b=>some (decide (a<b))
 | .le=>y8b p q fun a b=>some (decide (a<=b))
 | .gt=>y8b p q fun a b=>some (decide (b<a))
 | .ge=>y8b p q fun a b=>some (decide (b<=a))
noncomputable def z6r(n:Nat)(k:Int):Option Nat:=
 if 0<=k then(if k<n then some k.toNat else none) else(if 0<=k+n then some (k+n).toNat else none)
noncomputable def j1f(H:z0b)(p:PV)(k:Int):Option PV:=match p with
 | .str x=>if x.length<=1000000 then(z6r x.length k).bind fun j=>(x.cps[j]?).map fun c=>.str ⟨#[c]⟩ else none
 | p=>(k2g H p).bind fun l=>(z6r l.length k).bind fun j=>l[j]?
noncomputable def k1r{V:Type}(l:List V)(lo hi:Nat):List V:=(l.take hi).drop lo
noncomputable def x4g(k:Int):Option Nat:=if 0<=k/\k<=1000000 then some k.toNat else none
noncomputable def loK(lo:Option Int):Option Nat:=match lo with
 | some k=>x4g k
 | none=>some 0
noncomputable def hiK(hi:Option Int):Option (Option Nat):=match hi with
 | some k=>(x4g k).map some
 | none=>some none
noncomputable def w7j(H:z0b)(lo:Option Int)(a:Nat)(b:Option Nat)(p:PV):Option PV:=match p with
 | .tup l=>if lo.isNone then b.bind fun b=>if b<l.length then some (.tup (l.take b)) else none else none
 | .lst l=>some (.lst (k1r l a (b.getD l.length)))
 | .ref i=>(z1d H i).map fun l=>.lst (k1r l a (b.getD l.length))
 | _=>none
noncomputable def z7m(H:z0b)(p:PV)(lo hi:Option Int):Option PV:=(loK lo).bind fun a=>(hiK hi).bind fun b=>w7j H lo a b p
inductive w5d{V A8:Type}(o:Option V)(f:V->Option A8)(r:A8):Prop
 | mk (a:V) (h1:o=some a) (h2:f a=some r):w5d o f r
inductive w5e{V A8:Type}(o:Option V)(f:V->A8)(r:A8):Prop
 | mk (a:V) (h1:o=some a) (h2:f a=r):w5e o f r
theorem z1e{V A8:Type}{o:Option V}{f:V->Option A8}{r:A8}(h:o.bind f=some r):w5d o f r:=by
 cases o with
 | none=>contradiction
 | some a=>exact⟨a,rfl,h⟩
theorem z0z{V A8:Type}{o:Option V}{f:V->A8}{r:A8}(h:o.map f=some r):w5e o f r:=by
 cases o with
 | none=>contradiction
 | some a=>exact⟨a,rfl,AF h⟩
theorem z0o{V:Type}{c:Prop}[Decidable c]{x:Option V}{r:V}(h:(if c then x else none)=some r):c/\x=some r:=by
 by_cases q:c
 ·rw [AR q] at h;exact⟨q,h⟩
 ·rw [AT q] at h;contradiction
theorem one_inv{V:Type}{l:List PV}{k:PV->Option V}{r:V}(h:one l k=some r):∃ a,l=[a]/\k a=some r:=by
 match l,h with
 | [a],h=>exact⟨a,rfl,h⟩
theorem two_inv{V:Type}{l:List PV}{k:PV->PV->Option V}{r:V}(h:two l k=some r):∃ a b,l=[a,b]/\k a b=some r:=by
 match l,h with
 | [a,b],h=>exact⟨a,b,rfl,h⟩
section
variable {V:Type} {p q:PV} {r:V}
theorem z5x{k:Int->Option V}(h:j1d p k=some r):∃ i,p=.int i/\k i=some r:=by
 induction p using PV.casesOn<;>first | exact⟨_,rfl,h⟩ | contradiction
theorem z5b{k:Str->Option V}(h:j1e p k=some r):∃ i,p=.str i/\k i=some r:=by
 induction p using PV.casesOn<;>first | exact⟨_,rfl,h⟩ | contradiction
theorem j8u{k:List PV->Option V}(h:w1a p k=some r):∃ i,p=.tup i/\k i=some r:=by
 induction p using PV.casesOn<;>first | exact⟨_,rfl,h⟩ | contradiction
theorem z6s{k:List PV->Option V}(h:x4e p k=some r):∃ i,p=.lst i/\k i=some r:=by
 induction p using PV.casesOn<;>first | exact⟨_,rfl,h⟩ | contradiction
theorem j8v{k:Bool->Option V}(h:w5a p k=some r):∃ i,p=.pat i/\k i=some r:=by
 induction p using PV.casesOn<;>first | exact⟨_,rfl,h⟩ | contradiction
theorem y3c{k:Int->Int->Option V}(h:y8b p q k=some r):∃ i j,p=.int i/\q=.int j/\k i j=some r:=by
 obtain⟨i,e,h⟩:=z5x h
 obtain⟨j,e',h⟩:=z5x h
 exact⟨i,j,e,e',h⟩
end
theorem q0e{l r:List PV}(h:sz l=some r):l.length<=z2k/\l=r:=by
 obtain⟨h1,h2⟩:=z0o h
 exact⟨h1,AF h2⟩
theorem z3s{H:z0b}{i:Nat}{l:List PV}(h:z1d H i=some l):H[i]?=some (.lst l):=by
 unfold z1d at h
 split at h
 ·injection h with h;subst h;assumption
 ·contradiction
structure z4o where
 pos:List Nat
 dfl:List PV:=[]
 kwo:List Nat:=[]
 kwargs:Option Nat:=none
 body:List MS
structure MP where
 fn:Nat->Option z4o
 meth:Nat->Nat->Option Nat
 gattr:Nat->Option Str
 flags:List (Int×Str)
 okPat:Bool->Str->Bool
noncomputable def z9c(H:z0b):PV->Option Bool
 | .bool b=>some b
 | .int i=>some (i != 0)
 | .none=>some false
 | _=>none
noncomputable def pairsOf:List PV->Option (List (Int×Int))
 | []=>some []
 | .tup [.int a,.int b]::r=>(pairsOf r).map ((a,b)::·)
 | _::_=>none
noncomputable def y8c(x:Str):Option Int:=match x.cps.toList with
 | [c]=>if 48<=c/\c<=57 then some ((c:Int) - 48) else none
 | _=>none
noncomputable def y6o(S:Int->Bool):List Int->Nat
 | []=>0
 | i::r=>(if S i then 0 else 1)+y6o (fun k=>S k || decide (k=i)) r
noncomputable def w0d(l:List Int):Nat:=y6o (fun _=>false) l
noncomputable def z7w(d:PyData):List PyData->Option Nat
 | []=>none
 | x::r=>if PyData.eqv x d then some 0 else(z7w d r).map (·+1)
noncomputable def z3i(a b:Int×Int):Bool:=decide (a.1<b.1) || (a.1==b.1&&decide (a.2<=b.2))
noncomputable def z2m(i:Int):Bool:=decide (0<=i)&&decide (i<1000)
noncomputable def w5f(H:z0b)(p:PV):Option PV:=match p with
 | .str x=>if x.length<=1000000 then some (.int x.length) else none
 | p=>(k2g H p).map fun l=>.int l.length
noncomputable def w1c:List Int->Option PV
 | n::ns=>some (.int (ns.foldl (fun a b=>if b > a then b else a) n))
 | []=>none
noncomputable def w1d(args:List PV):Option PV:=match args with
 | [a]=>x4e a fun l=>(z5h l).bind w1c
 | [a,b]=>y8b a b fun a b=>some (.int (if b > a then b else a))
 | _=>none
noncomputable def k2h(l:List PV):Option PV:=(pairsOf l).bind fun ps=>if ps.length≠1/\ps.length<64/\(ps.all fun q=>z2m q.1&&z2m q.2)=true then some (.lst ((ps.mergeSort z3i).map fun q=>.tup [.int q.1,.int q.2])) else none
noncomputable def z4p(P:MP)(p:q6a)(H:z0b)(args:List PV):Option PV:=
 match p with
 | .len=>one args fun a=>w5f H a
 | .sum=>one args fun a=>x4e a fun l=>(z5h l).map fun ns=>.int ns.sum
 | .max=>w1d args
 | .sorted=>one args fun a=>x4e a k2h
 | .int=>one args fun a=>j1e a fun x=>(y8c x).map .int
 | .hex=>one args fun a=>j1d a fun i=>if i.natAbs<2^64 then some (.str (baseText "0x" 16 i)) else none
 | .tuple=>one args fun a=>(z5u H a).map .tup
 | .lower=>one args fun a=>j1e a fun x=>if x.length<=100000 then some (.str (Txt.lower x)) else none
 | .upper=>one args fun a=>j1e a fun x=>if x.length<=100000 then some (.str (Txt.upper x)) else none
 | .split=>two args fun a b=>j1e a fun x=>j1e b fun y=>if x.length<=100000/\y.length≠0 then some (.lst ((Txt.split x y).map .str)) else none
 | .join=>two args fun a b=>j1e a fun x=>(z5u H b).bind fun l=>(z7v l).bind fun ts=>if JoinOk x ts then some (.str (Txt.join x ts)) else none
 | .index=>two args fun a b=>x4e a fun l=>(z0n l).bind fun ds=>(z1n b).bind fun d=>if d.depth=0 then(z7w d ds).map fun(n:Nat)=>PV.int (n:Int) else none
 | .flagGet=>two args fun a d=>j1d a fun k=>some (match P.flags.lookup k with | some x=>.str x | none=>d)
 | .search=>two args fun a b=>w5a a fun t=>j1e b fun x=>if P.okPat t x then some .none else none
 | .lenSet=>none
mutual
noncomputable def y6c(n:Nat):PV->Bool
 | .ref i=>decide (i<n)
 | .inst _ i=>decide (i<n)
 | .tup l=>z0t n l
 | .lst l=>z0t n l
 | _=>true
noncomputable def z0t(n:Nat):List PV->Bool
 | []=>true
 | p::ps=>y6c n p&&z0t n ps
end
mutual
noncomputable def frz(n:Nat)(H:z0b):PV->Option PV
 | .ref i=>if i<n then some (.ref i) else(z1d H i).bind fun l=>if z0t n l then some (.lst l) else none
 | .inst c i=>if i<n then some (.inst c i) else none
 | .tup l=>(q8v n H l).map .tup
 | .lst l=>(q8v n H l).map .lst
 | p=>some p
noncomputable def q8v(n:Nat)(H:z0b):List PV->Option (List PV)
 | []=>some []
 | p::ps=>(frz n H p).bind fun q=>(q8v n H ps).map fun qs=>q::qs
end
noncomputable abbrev z0g:=Nat->List PV->List (Nat×PV)->M PV
noncomputable def z3p{V:Type}(f:ME->M V):List ME->M (List V)
 | []=>M.pure []
 | e::es=>(f e).bind fun a=>(z3p f es).bind fun as=>M.pure (a::as)
noncomputable def z4y(a b:Int):List PV:=(List.range (b - a).toNat).map fun(k:Nat)=>PV.int (a+(k:Int))
noncomputable def x6k(H:z0b)(p:PV):Option (List PV×Bool):=match p with
 | .lst l=>some (l,false)
 | .tup l=>some (l,false)
 | .str x=>some (x.cps.toList.map fun c=>.str ⟨#[c]⟩,false)
 | .ref i=>(z1d H i).map fun l=>(l,true)
 | _=>none
noncomputable def j1i(args:List PV):Option (List PV):=match args with
 | [b]=>j1d b fun b=>if b.natAbs<=1000000 then some (z4y 0 b) else none
 | [a,b]=>y8b a b fun a b=>if a.natAbs<=1000000/\b.natAbs<=1000000 then some (z4y a b) else none
 | _=>none
noncomputable def w5g(p:PV):Bool:=match p with
 | .edict=>true
 | _=>false
noncomputable def k1s(k:z5w)(H:z0b)(args:List PV):Option (List PV×Bool):=
 match k with
 | .over=>one args fun a=>x6k H a
 | .range=>(j1i args).map fun l=>(l,false)
 | .zip=>two args fun a b=>x4e a fun a=>x4e b fun b=>some ((a.zip b).map fun q=>.tup [q.1,q.2],false)
 | .items=>none
noncomputable def z1t(Y:z0l):Pat->PV->Option z0l
 | .one k,v=>some (upd Y k v)
 | .tup ks,.tup l=>z4a Y ks l
 | _,_=>none
noncomputable def z2r:Pat->List Nat
 | .one k=>[k]
 | .tup ks=>ks
structure z6q where
 ev:z0l->ME->M PV
 ts:z0l->ME->M Bool
 ex:z0l->MS->M Fl
noncomputable def M.raised{V:Type}(up:Bool)(m:M V):M V:=fun b H=>m (if up then⟨H.length,H.length⟩ else b) H
noncomputable def z4u(f:PV->M (List PV)):List PV->M (List PV)
 | []=>M.pure []
 | x::xs=>(f x).bind fun a=>(z4u f xs).bind fun as=>M.pure (a++as)
noncomputable def z8z(S:z6q)(Y:z0l)(k:z5w)(args:List ME):M (List PV×Bool):=
 (z3p (S.ev Y) args).bind fun vs=>fun b H=>match k1s k H vs with
  | some r=>some (r,H)
  | none=>none
noncomputable def y4c(f:ME->M Bool):List ME->M Bool
 | []=>M.pure true
 | c::cs=>(f c).bind fun ok=>if ok then y4c f cs else M.pure false
noncomputable def x6l(f:ME->M Bool):List ME->M Bool
 | []=>M.pure false
 | c::cs=>(f c).bind fun ok=>if ok then M.pure true else x6l f cs
noncomputable def z3b(S:z6q)(elt:ME)(Y:z0l)(pat:Pat)(ifs:List ME)(rest:List (Pat×z5w×List ME×List ME))(items:List PV):M (List PV):=
 z4u (fun v=>match z1t Y pat v with
  | none=>M.fail
  | some Y'=>(y4c (S.ts Y') ifs).bind fun ok=>if ok then
    (match rest with
     | []=>(S.ev Y' elt).bind fun r=>M.pure [r]
     | (pat',k,args,ifs')::rest'=>(z8z S Y' k args).bind fun r=>(z3b S elt Y' pat' ifs' rest' r.1).raised r.2)
   else M.pure []) items
termination_by structural rest
noncomputable def z9y(S:z6q)(elt:ME)(Y:z0l):List (Pat×z5w×List ME×List ME)->M (List PV)
 | []=>M.fail
 | (pat,k,args,ifs)::rest=>(z8z S Y k args).bind fun r=>
  ((z3b S elt (clear Y (z2r pat++rest.flatMap fun g=>z2r g.1)) pat ifs rest r.1).raised r.2).bind fun l=>
   if decide (l.length<=z2k) then M.pure l else M.fail
noncomputable def exs(ex:z0l->MS->M Fl):z0l->List MS->M Fl
 | Y,[]=>M.pure (.next Y)
 | Y,st::r=>(ex Y st).bind fun f=>match f with
  | .next Y'=>exs ex Y' r
  | f=>M.pure f
noncomputable def z3c(ex:z0l->MS->M Fl)(pat:Pat)(body orelse:List MS):z0l->List PV->M Fl
 | Y,[]=>exs ex Y orelse
 | Y,v::vs=>match z1t Y pat v with
  | none=>M.fail
  | some Y'=>(exs ex Y' body).bind fun f=>match f with
   | .next Y''=>z3c ex pat body orelse Y'' vs
   | .brk Y''=>M.pure (.next Y'')
   | .ret v=>M.pure (.ret v)
theorem j1j{ex:z0l->MS->M Fl}{pat:Pat}{body orelse:List MS}{Y:z0l}{v:PV}{vs:List PV}:z3c ex pat body orelse Y (v::vs)=(match z1t Y pat v with
  | none=>M.fail
  | some Y'=>(exs ex Y' body).bind fun f=>match f with
   | .next Y''=>z3c ex pat body orelse Y'' vs
   | .brk Y''=>M.pure (.next Y'')
   | .ret v=>M.pure (.ret v)):=rfl
noncomputable def y6p(S:z6q)(c:ME)(body:List MS):Nat->z0l->M Fl
 | 0,_=>M.fail
 | n+1,Y=>(S.ts Y c).bind fun ok=>if ok then
   (exs S.ex Y body).bind fun f=>match f with
    | .next Y'=>y6p S c body n Y'
    | .brk Y'=>M.pure (.next Y')
    | .ret v=>M.pure (.ret v)
  else M.pure (.next Y)
noncomputable def z4q(k:Nat)(v:PV):List (Nat×PV)->List (Nat×PV)
 | []=>[(k,v)]
 | (j,u)::r=>if j=k then(k,v)::r else(j,u)::z4q k v r
noncomputable def z9z(i:Nat)(l:List PV):M Unit:=fun b H=>if b.b<=i/\z0t 0 l=true then
  (match H[i]? with
   | some (.lst _)=>some ((),H.set i (.lst l))
   | _=>none)
 else none
noncomputable def j1k(i k:Nat)(v:PV):M Unit:=fun b H=>if b.ab<=i then
  (match H[i]? with
   | some (.att l)=>if(z4q k v l).length<=900 then some ((),H.set i (.att (z4q k v l))) else none
   | _=>none)
 else none
noncomputable def z7x(l:List PV):M PV:=fun _ H=>if z0t 0 l=true then some (.ref H.length,H++[.lst l]) else none
noncomputable def y4d:M Nat:=fun _ H=>some (H.length,H++[.att []])
noncomputable def y6d(i:Nat):M (List (Nat×PV)):=fun _ H=>match H[i]? with
 | some (.att l)=>some (l,H)
 | _=>none
noncomputable def y8d(i:Nat):M (List PV):=fun _ H=>match H[i]? with
 | some (.lst l)=>some (l,H)
 | _=>none
noncomputable def z4v:M z0b:=fun _ H=>some (H,H)
noncomputable def q8w(m:M PV):M PV:=fun _ H=>match m ⟨H.length,H.length⟩ H with
 | some (v,H')=>match frz H.length H' v with
  | some w=>some (w,H)
  | none=>none
 | none=>none
noncomputable def gcM(m:M PV):M PV:=fun b H=>match m ⟨b.b,H.length⟩ H with
 | some (v,H')=>match frz H.length H' v with
  | some w=>some (w,H'.take H.length)
  | none=>none
 | none=>none
noncomputable def z7y(n:Nat):List (Nat×PV)->Bool
 | []=>true
 | p::r=>y6c n p.2&&z7y n r
noncomputable def y2h(i:Nat)(m:M PV):M PV:=fun b H=>match m ⟨b.b,i⟩ H with
 | some (v,H')=>match H'[i]? with
  | some (.att l)=>if b.ab<=i/\i+1=H.length/\z7y H.length l=true/\isNone' v=true then some (.none,H'.take H.length) else none
  | _=>none
 | none=>none
where isNone':PV->Bool
 | .none=>true
 | _=>false
noncomputable def y4e:Nat:=0
noncomputable def y4f:Nat:=1
noncomputable def q6b:Nat:=2
noncomputable def y8e:Nat:=3
noncomputable def y3d:Nat:=4
noncomputable def j1l{V:Type}(p:PV)(k:Nat->Nat->M V):M V:=match p with
 | .inst c i=>k c i
 | _=>M.fail
noncomputable def w0e{V:Type}(p:PV)(k:Nat->M V):M V:=match p with
 | .ref i=>k i
 | _=>M.fail
noncomputable def y0a(P:MP)(C:z0g)(m:Nat)(o:PV)(args:List PV)(kw:List (Nat×PV)):M PV:=j1l o fun c _=>(M.ofOpt (P.meth c m)).bind fun f=>C f (o::args) kw
noncomputable def j8w{V:Type}(f:ME->M V):Option ME->M (Option V)
 | none=>M.pure none
 | some e=>(f e).bind fun a=>M.pure (some a)
noncomputable def y6e(p:PV):M Int:=M.ofOpt (j1d p some)
noncomputable def z9d(o:Option PV):M (Option Int):=match o with
 | none=>M.pure none
 | some p=>(y6e p).bind fun i=>M.pure (some i)
noncomputable def q3q(H:z0b)(t:Bool):PV->Option Bool
 | .str _=>some t
 | .lst _=>some (!t)
 | .ref i=>(z1d H i).map fun _=>!t
 | _=>none
noncomputable def z2v:PV->Bool
 | .none=>true
 | _=>false
noncomputable def q6c:PV->M Bool
 | .bool b=>M.pure b
 | _=>M.fail
noncomputable def x4h:PV->Bool
 | .inst _ _=>true
 | _=>false
noncomputable def w1e:COp->Bool
 | .in_=>true
 | _=>false
noncomputable def z9e(P:MP)(C:z0g)(o:COp)(p q:PV):M PV:=if w1e o&&x4h q then(y0a P C y4f q [p] []).bind fun r=>(q6c r).bind fun b=>M.pure (.bool b)
 else(M.ofOpt (w0c o p q)).bind fun r=>M.pure (.bool r)
noncomputable def j8r(P:MP)(C:z0g)(p q:PV):M PV:=match p with
 | .inst c i=>y0a P C q6b (.inst c i) [q] []
 | p=>(y6e q).bind fun k=>z4v.bind fun H=>M.ofOpt (j1f H p k)
noncomputable def j8x(k:Nat)(p:PV):M PV:=j1l p fun _ i=>(y6d i).bind fun l=>M.ofOpt (l.lookup k)
noncomputable def j8y(p:PV):M Unit:=w0e p fun j=>(y8d j).bind fun _=>M.pure ()
noncomputable def q3r(p:PV):M Unit:=j1l p fun _ i=>(y6d i).bind fun _=>M.pure ()
noncomputable def y3e(k:Nat)(p v:PV):M Unit:=j1l p fun _ i=>j1k i k v
noncomputable def y4g(P:MP)(C:z0g)(p q v:PV):M Unit:=match p with
 | .inst c i=>(y0a P C y8e (.inst c i) [q,v] []).bind fun _=>M.pure ()
 | .ref j=>(y6e q).bind fun k=>(y8d j).bind fun l=>(M.ofOpt (if 0<=k then z6r l.length k else none)).bind fun n=>z9z j (l.set n v)
 | _=>M.fail
noncomputable def y8f(p v:PV):M Unit:=w0e p fun j=>(M.ofOpt (x4e v some)).bind fun l=>(y8d j).bind fun l0=>(M.ofOpt (sz (l0++l))).bind fun _=>z9z j l
noncomputable def y8g(p v:PV):M Unit:=w0e p fun j=>(y8d j).bind fun l=>(M.ofOpt (sz (l++[v]))).bind fun l'=>z9z j l'
noncomputable def z1i(P:MP)(C:z0g)(S:z6q)(Y:z0l)(e:ME):M PV:=match e with
 | .none=>M.pure .none
 | .bool b=>M.pure (.bool b)
 | .int i=>M.pure (.int i)
 | .str s=>M.pure (.str s)
 | .dbg=>M.pure (.bool true)
 | .var k=>M.ofOpt (Y k)
 | .neg a=>(S.ev Y a).bind fun p=>(y6e p).bind fun i=>M.pure (.int (-i))
 | .bin o a b=>(S.ev Y a).bind fun p=>(S.ev Y b).bind fun q=>z4v.bind fun H=>M.ofOpt (y5z o H p q)
 | .cmp o a b=>(S.ev Y a).bind fun p=>(S.ev Y b).bind fun q=>z9e P C o p q
 | .isNone ng a=>(S.ev Y a).bind fun p=>M.pure (.bool (z2v p != ng))
 | .isTy ng t a=>(S.ev Y a).bind fun p=>z4v.bind fun H=>(M.ofOpt (q3q H t p)).bind fun r=>M.pure (.bool (r != ng))
 | .ite c a b=>(S.ts Y c).bind fun t=>if t then S.ev Y a else S.ev Y b
 | .idx a i=>(S.ev Y a).bind fun p=>(S.ev Y i).bind fun q=>j8r P C p q
 | .slice a lo hi=>(S.ev Y a).bind fun p=>(j8w (S.ev Y) lo).bind fun l=>(j8w (S.ev Y) hi).bind fun h=>(z9d l).bind fun l=>(z9d h).bind fun h=>
   z4v.bind fun H=>M.ofOpt (z7m H p l h)
 | .tup l=>(z3p (S.ev Y) l).bind fun vs=>M.pure (.tup vs)
 | .lst l=>(z3p (S.ev Y) l).bind fun vs=>M.pure (.lst vs)
 | .mlst l=>(z3p (S.ev Y) l).bind fun vs=>z7x vs
 | .mcat a b=>(S.ev Y a).bind fun p=>(S.ev Y b).bind fun q=>z4v.bind fun H=>(M.ofOpt (z5u H p)).bind fun x=>(M.ofOpt (z5u H q)).bind fun y=>(M.ofOpt (sz (x++y))).bind fun l=>z7x l
 | .mslice a=>(S.ev Y a).bind fun p=>z4v.bind fun H=>(M.ofOpt (z5u H p)).bind fun x=>z7x x
 | .pure e=>q8w (S.ev Y e)
 | .gc e=>gcM (S.ev Y e)
 | .comp elt gs=>(z9y S elt Y gs).bind fun l=>M.pure (.lst l)
 | .call f args=>(z3p (S.ev Y) args).bind fun vs=>C f vs []
 | .new c args=>(M.ofOpt (P.meth c y4e)).bind fun f=>(z3p (S.ev Y) args).bind fun vs=>y4d.bind fun i=>(C f (.inst c i::vs) []).bind fun r=>if z2v r then M.pure (.inst c i) else M.fail
 | .newg c args=>(M.ofOpt (P.meth c y4e)).bind fun f=>(z3p (S.ev Y) args).bind fun vs=>y4d.bind fun i=>(y2h i (C f (.inst c i::vs) [])).bind fun _=>M.pure (.inst c i)
 | .meth m o args=>(S.ev Y o).bind fun p=>(q3r p).bind fun _=>(z3p (S.ev Y) args).bind fun vs=>y0a P C m p vs []
 | .methk m o args k e=>(S.ev Y o).bind fun p=>(q3r p).bind fun _=>(z3p (S.ev Y) args).bind fun vs=>(S.ev Y e).bind fun v=>y0a P C m p vs [(k,v)]
 | .attr k o=>(S.ev Y o).bind fun p=>j8x k p
 | .gattr k=>(M.ofOpt (P.gattr k)).bind fun x=>M.pure (.str x)
 | .pat b=>M.pure (.pat b)
 | .prim p args=>(z3p (S.ev Y) args).bind fun vs=>z4v.bind fun H=>M.ofOpt (z4p P p H vs)
 | .notE _=>M.fail
 | .andE _=>M.fail
 | .orE _=>M.fail
 | .stuck=>M.fail
noncomputable def x4i(S:z6q)(Y:z0l)(e:ME):M Bool:=match e with
 | .notE a=>(S.ts Y a).bind fun t=>M.pure (!t)
 | .andE l=>y4c (S.ts Y) l
 | .orE l=>x6l (S.ts Y) l
 | e=>(S.ev Y e).bind fun p=>z4v.bind fun H=>M.ofOpt (z9c H p)
noncomputable def z4b(P:MP)(C:z0g)(S:z6q)(Y:z0l)(st:MS):M Fl:=match st with
 | .ret e=>(S.ev Y e).bind fun v=>M.pure (.ret v)
 | .expr e=>(S.ev Y e).bind fun _=>M.pure (.next Y)
 | .assign p e=>(S.ev Y e).bind fun v=>(M.ofOpt (z1t Y p v)).bind fun Y'=>M.pure (.next Y')
 | .assigns ks e=>(S.ev Y e).bind fun v=>M.pure (.next (ks.foldl (fun Y k=>upd Y k v) Y))
 | .aug o k e=>(M.ofOpt (Y k)).bind fun p=>(S.ev Y e).bind fun q=>z4v.bind fun H=>(M.ofOpt (x4f o p q)).bind fun r=>M.pure (.next (upd Y k r))
 | .setAttr o k e=>(S.ev Y e).bind fun v=>(S.ev Y o).bind fun p=>(y3e k p v).bind fun _=>M.pure (.next Y)
 | .setIdx o i e=>(S.ev Y e).bind fun v=>(S.ev Y o).bind fun p=>(S.ev Y i).bind fun q=>(y4g P C p q v).bind fun _=>M.pure (.next Y)
 | .setAll o e=>(S.ev Y e).bind fun v=>(S.ev Y o).bind fun p=>(y8f p v).bind fun _=>M.pure (.next Y)
 | .delIdx o i=>(S.ev Y o).bind fun p=>(S.ev Y i).bind fun q=>(y0a P C y3d p [q] []).bind fun _=>M.pure (.next Y)
 | .append o e=>(S.ev Y o).bind fun p=>(j8y p).bind fun _=>(S.ev Y e).bind fun v=>(y8g p v).bind fun _=>M.pure (.next Y)
 | .ifs c a b=>(S.ts Y c).bind fun t=>exs S.ex Y (if t then a else b)
 | .for_ p k src body orelse=>(z8z S Y k src).bind fun r=>(z3c S.ex p body orelse Y r.1).raised r.2
 | .while_ c body=>y6p S c body 40 Y
 | .brk=>M.pure (.brk Y)
 | .stuck=>M.fail
noncomputable def sem(P:MP)(C:z0g):Nat->z6q
 | 0=>⟨fun _ _=>M.fail,fun _ _=>M.fail,fun _ _=>M.fail⟩
 | n+1=>⟨z1i P C (sem P C n),x4i (sem P C n),z4b P C (sem P C n)⟩
noncomputable def w1f:Nat:=40
noncomputable def j1m(F:z4o):z0l:=match F.kwargs with
 | some k=>upd (fun _=>none) k .edict
 | none=>fun _=>none
noncomputable def q3s(F:z4o)(pos:List PV)(kw:List (Nat×PV)):Option z0l:=
 if kw.map (·.1)=F.kwo then(z4a (j1m F) F.kwo (kw.map (·.2))).bind fun Y=>
  if pos.length<=F.pos.length then z4a Y F.pos (pos++F.dfl.drop (F.dfl.length - (F.pos.length - pos.length))) else none
 else none
noncomputable def w0f:Fl->M PV
 | .ret v=>M.pure v
 | .next _=>M.pure .none
 | .brk _=>M.fail
noncomputable def z0h(P:MP):Nat->z0g
 | 0,_,_,_=>M.fail
 | lv+1,f,pos,kw=>(M.ofOpt (P.fn f)).bind fun F=>(M.ofOpt (q3s F pos kw)).bind fun Y=>(exs (sem P (z0h P lv) w1f).ex Y F.body).bind w0f
theorem z1v{c:Prop}[Decidable c]{k:c->Bool}(h:(if h:c then k h else false)=true):∃ hc,k hc=true:=by
 by_cases hc:c
 ·rw [dif_pos hc] at h;exact⟨hc,h⟩
 ·rw [dif_neg hc] at h;exact absurd h CL
theorem z0u{a b:Bool}(h:(a&&b)=true):a=true/\b=true:=AG.mp h
theorem z3z{a b c:Bool}(h:(a&&b&&c)=true):a=true/\b=true/\c=true:=⟨(z0u (z0u h).1).1,(z0u (z0u h).1).2,(z0u h).2⟩
theorem z5v{a b c d:Bool}(h:(a&&b&&c&&d)=true):a=true/\b=true/\c=true/\d=true:=⟨(z3z (z0u h).1).1,(z3z (z0u h).1).2.1,(z3z (z0u h).1).2.2,(z0u h).2⟩
theorem z5y{a b c d e:Bool}(h:(a&&b&&c&&d&&e)=true):a=true/\b=true/\c=true/\d=true/\e=true:=⟨(z5v (z0u h).1).1,(z5v (z0u h).1).2.1,(z5v (z0u h).1).2.2.1,(z5v (z0u h).1).2.2.2,(z0u h).2⟩
theorem ff{P:Prop}(h:false=true):P:=Bool.noConfusion h
theorem sn{V:Type}{a:V}{P:Prop}(h:Option.none=some a):P:=by contradiction
theorem lk{a b c:Nat}(h:a<=b)(k:Nat.ble b c=true):a<=c:=AA h (BQ k)
theorem mmm{a b c d:Nat}(h:a<=c)(k:b<=d):max a b<=max c d:=Nat.max_le.mpr ⟨AA h (EC c d),AA k (EI c d)⟩
theorem x4j{c b:Nat}(h:c<=b):c+(b - c+1)=b+1:=AP Nat.succ (DB h)
theorem i64{x:Int}(h:x.natAbs<=2000000):-9223372036854775808<=x/\x<9223372036854775808:=
 ⟨EQ (by decide:(-9223372036854775808:Int)<=-(2000000:Int)) (Int.neg_neg x▸Int.neg_le_neg (EQ (Int.natAbs_neg x▸Int.le_natAbs) (Int.ofNat_le.mpr h))),Int.lt_of_le_of_lt (EQ Int.le_natAbs (Int.ofNat_le.mpr h)) (by decide)⟩
theorem q0f:∀ x:Int,((x.toNat:Nat):Int).natAbs<=x.natAbs
 | .ofNat _=>AL _
 | .negSucc _=>BK _
theorem q0b{a:Bool}(h:(!a)=true):a=false:=by cases a;rfl;cases h
noncomputable def d0{V:Type}:List V->Bool
 | []=>true
 | _=>false
noncomputable def d1{V:Type}:List V->(V->Bool)->Bool
 | [a],k=>k a
 | _,_=>false
theorem k2i{V:Type}:∀ {l:List V},d0 l=true->l=[]
 | [],_=>rfl
 | _::_,h=>by cases h
theorem q6d{V:Type}:∀ {l:List V} {k:V->Bool},d1 l k=true->∃ a,l=[a]/\k a=true
 | [],_,h=>by cases h
 | [a],_,h=>⟨a,rfl,h⟩
 | _::_::_,_,h=>by cases h
noncomputable def dO{V:Type}:Option V->(V->Bool)->Bool
 | some a,k=>k a
 | none,_=>false
theorem z5i{V:Type}:∀ {l:Option V} {k:V->Bool},dO l k=true->∃ a,l=some a/\k a=true
 | none,_,h=>by cases h
 | some a,_,h=>⟨a,rfl,h⟩
theorem k1t{V:Type}{G:List V->Prop}{l:List V}(h:d0 l=true)(f:G []):G l:=by
 cases l with
 | nil=>exact f
 | cons a l=>cases h
theorem q6e{V:Type}{G:List V->Prop}{l:List V}{k:V->Bool}(h:d1 l k=true)(f:∀ a,k a=true->G [a]):G l:=by
 obtain⟨a,rfl,h⟩:=q6d h
 exact f a h
theorem w5h{V:Type}{G:Option V->Prop}{l:Option V}{k:V->Bool}(h:dO l k=true)(f:∀ a,k a=true->G (some a)):G l:=by
 obtain⟨a,rfl,h⟩:=z5i h
 exact f a h
theorem y2x{V:Type}[BEq V][LawfulBEq V]{G:V->Prop}{a b:V}(h:(a==b)=true)(f:G b):G a:=by
 rw [BO h];exact f
theorem z6t{V:Type}{G:Option V->Prop}{a:Option V}(h:a.isNone=true)(f:G none):G a:=by
 rw [Option.isNone_iff_eq_none.mp h];exact f
noncomputable def y1i(e:Expr)(k:PySem.BoolOp->List Expr->Bool):Bool:=if h:e.ctorIdx=0 then Expr.BoolOp.elim (motive_1:=fun _=>Bool) e h fun o l _=>k o l else false
theorem j1n{G:Expr->Prop}{e:Expr}{k:PySem.BoolOp->List Expr->Bool}(h:y1i e k=true)(kk:∀ o l p,k o l=true->G (Expr.BoolOp o l p)):G e:=by
 obtain⟨hi,h⟩:=z1v h
 exact Expr.BoolOp.elim (motive_1:=fun e=>∀ hi:e.ctorIdx=0,(Expr.BoolOp.elim (motive_1:=fun _=>Bool) e hi fun o l _=>k o l)=true->G e) e hi (fun o l p _ h=>kk o l p h) hi h
theorem y4h{e:Expr}{k:PySem.BoolOp->List Expr->Bool}(h:y1i e k=true):∃ o l p,e=Expr.BoolOp o l p/\k o l=true:=j1n (G:=fun e=>∃ o l p,e=Expr.BoolOp o l p/\k o l=true) h fun o l p h=>⟨o,l,p,rfl,h⟩
noncomputable def w1g(e:Expr)(k:Expr->Operator->Expr->Bool):Bool:=if h:e.ctorIdx=2 then Expr.BinOp.elim (motive_1:=fun _=>Bool) e h fun a o b _=>k a o b else false
theorem x4k{G:Expr->Prop}{e:Expr}{k:Expr->Operator->Expr->Bool}(h:w1g e k=true)(kk:∀ a o b p,k a o b=true->G (Expr.BinOp a o b p)):G e:=by
 obtain⟨hi,h⟩:=z1v h
 exact Expr.BinOp.elim (motive_1:=fun e=>∀ hi:e.ctorIdx=2,(Expr.BinOp.elim (motive_1:=fun _=>Bool) e hi fun a o b _=>k a o b)=true->G e) e hi (fun a o b p _ h=>kk a o b p h) hi h
noncomputable def dUn(e:Expr)(k:PySem.UnaryOp->Expr->Bool):Bool:=if h:e.ctorIdx=3 then Expr.UnaryOp.elim (motive_1:=fun _=>Bool) e h fun o a _=>k o a else false
theorem k2j{G:Expr->Prop}{e:Expr}{k:PySem.UnaryOp->Expr->Bool}(h:dUn e k=true)(kk:∀ o a p,k o a=true->G (Expr.UnaryOp o a p)):G e:=by
 obtain⟨hi,h⟩:=z1v h
 exact Expr.UnaryOp.elim (motive_1:=fun e=>∀ hi:e.ctorIdx=3,(Expr.UnaryOp.elim (motive_1:=fun _=>Bool) e hi fun o a _=>k o a)=true->G e) e hi (fun o a p _ h=>kk o a p h) hi h
theorem x6m{e:Expr}{k:PySem.UnaryOp->Expr->Bool}(h:dUn e k=true):∃ o a p,e=Expr.UnaryOp o a p/\k o a=true:=k2j (G:=fun e=>∃ o a p,e=Expr.UnaryOp o a p/\k o a=true) h fun o a p h=>⟨o,a,p,rfl,h⟩
noncomputable def dIf(e:Expr)(k:Expr->Expr->Expr->Bool):Bool:=if h:e.ctorIdx=5 then Expr.IfExp.elim (motive_1:=fun _=>Bool) e h fun c a b _=>k c a b else false
theorem w1h{G:Expr->Prop}{e:Expr}{k:Expr->Expr->Expr->Bool}(h:dIf e k=true)(kk:∀ c a b p,k c a b=true->G (Expr.IfExp c a b p)):G e:=by
 obtain⟨hi,h⟩:=z1v h
 exact Expr.IfExp.elim (motive_1:=fun e=>∀ hi:e.ctorIdx=5,(Expr.IfExp.elim (motive_1:=fun _=>Bool) e hi fun c a b _=>k c a b)=true->G e) e hi (fun c a b p _ h=>kk c a b p h) hi h
noncomputable def w7k(e:Expr)(k:List Expr->Nat->Bool):Bool:=if h:e.ctorIdx=7 then Expr.Set.elim (motive_1:=fun _=>Bool) e h fun l n _=>k l n else false
theorem w5i{G:Expr->Prop}{e:Expr}{k:List Expr->Nat->Bool}(h:w7k e k=true)(kk:∀ l n p,k l n=true->G (Expr.Set l n p)):G e:=by
 obtain⟨hi,h⟩:=z1v h
 exact Expr.Set.elim (motive_1:=fun e=>∀ hi:e.ctorIdx=7,(Expr.Set.elim (motive_1:=fun _=>Bool) e hi fun l n _=>k l n)=true->G e) e hi (fun l n p _ h=>kk l n p h) hi h
noncomputable def x6n(e:Expr)(k:Expr->List Comprehension->Scope->Bool):Bool:=if h:e.ctorIdx=8 then Expr.ListComp.elim (motive_1:=fun _=>Bool) e h fun a cs sc _=>k a cs sc else false
theorem j1o{G:Expr->Prop}{e:Expr}{k:Expr->List Comprehension->Scope->Bool}(h:x6n e k=true)(kk:∀ a cs sc p,k a cs sc=true->G (Expr.ListComp a cs sc p)):G e:=by
 obtain⟨hi,h⟩:=z1v h
 exact Expr.ListComp.elim (motive_1:=fun e=>∀ hi:e.ctorIdx=8,(Expr.ListComp.elim (motive_1:=fun _=>Bool) e hi fun a cs sc _=>k a cs sc)=true->G e) e hi (fun a cs sc p _ h=>kk a cs sc p h) hi h
theorem j1p{e:Expr}{k:Expr->List Comprehension->Scope->Bool}(h:x6n e k=true):∃ a cs sc p,e=Expr.ListComp a cs sc p/\k a cs sc=true:=j1o (G:=fun e=>∃ a cs sc p,e=Expr.ListComp a cs sc p/\k a cs sc=true) h fun a cs sc p h=>⟨a,cs,sc,p,rfl,h⟩
noncomputable def k2k(e:Expr)(k:Expr->List CmpOp->List Expr->Bool):Bool:=if h:e.ctorIdx=15 then Expr.Compare.elim (motive_1:=fun _=>Bool) e h fun a os bs _=>k a os bs else false
theorem j1q{G:Expr->Prop}{e:Expr}{k:Expr->List CmpOp->List Expr->Bool}(h:k2k e k=true)(kk:∀ a os bs p,k a os bs=true->G (Expr.Compare a os bs p)):G e:=by
 obtain⟨hi,h⟩:=z1v h
 exact Expr.Compare.elim (motive_1:=fun e=>∀ hi:e.ctorIdx=15,(Expr.Compare.elim (motive_1:=fun _=>Bool) e hi fun a os bs _=>k a os bs)=true->G e) e hi (fun a os bs p _ h=>kk a os bs p h) hi h
noncomputable def q8x(e:Expr)(k:Expr->List Expr->List Keyword->Pos->Bool):Bool:=if h:e.ctorIdx=16 then Expr.Call.elim (motive_1:=fun _=>Bool) e h fun f es ks p=>k f es ks p else false
theorem j1r{G:Expr->Prop}{e:Expr}{k:Expr->List Expr->List Keyword->Pos->Bool}(h:q8x e k=true)(kk:∀ f es ks p,k f es ks p=true->G (Expr.Call f es ks p)):G e:=by
 obtain⟨hi,h⟩:=z1v h
 exact Expr.Call.elim (motive_1:=fun e=>∀ hi:e.ctorIdx=16,(Expr.Call.elim (motive_1:=fun _=>Bool) e hi fun f es ks p=>k f es ks p)=true->G e) e hi (fun f es ks p _ h=>kk f es ks p h) hi h
theorem q0g{e:Expr}{k:Expr->List Expr->List Keyword->Pos->Bool}(h:q8x e k=true):∃ f es ks p,e=Expr.Call f es ks p/\k f es ks p=true:=j1r (G:=fun e=>∃ f es ks p,e=Expr.Call f es ks p/\k f es ks p=true) h fun f es ks p h=>⟨f,es,ks,p,rfl,h⟩
noncomputable def k1u(e:Expr)(k:Const->Bool):Bool:=if h:e.ctorIdx=19 then Expr.Constant.elim (motive_1:=fun _=>Bool) e h fun c _ _=>k c else false
theorem q0h{G:Expr->Prop}{e:Expr}{k:Const->Bool}(h:k1u e k=true)(kk:∀ c n p,k c=true->G (Expr.Constant c n p)):G e:=by
 obtain⟨hi,h⟩:=z1v h
 exact Expr.Constant.elim (motive_1:=fun e=>∀ hi:e.ctorIdx=19,(Expr.Constant.elim (motive_1:=fun _=>Bool) e hi fun c _ _=>k c)=true->G e) e hi (fun c n p _ h=>kk c n p h) hi h
noncomputable def q3t(e:Expr)(k:Expr->Str->Pos->Bool):Bool:=if h:e.ctorIdx=20 then Expr.Attribute.elim (motive_1:=fun _=>Bool) e h fun o x p=>k o x p else false
theorem y4i{G:Expr->Prop}{e:Expr}{k:Expr->Str->Pos->Bool}(h:q3t e k=true)(kk:∀ o x p,k o x p=true->G (Expr.Attribute o x p)):G e:=by
 obtain⟨hi,h⟩:=z1v h
 exact Expr.Attribute.elim (motive_1:=fun e=>∀ hi:e.ctorIdx=20,(Expr.Attribute.elim (motive_1:=fun _=>Bool) e hi fun o x p=>k o x p)=true->G e) e hi (fun o x p _ h=>kk o x p h) hi h
theorem j1s{e:Expr}{k:Expr->Str->Pos->Bool}(h:q3t e k=true):∃ o x p,e=Expr.Attribute o x p/\k o x p=true:=y4i (G:=fun e=>∃ o x p,e=Expr.Attribute o x p/\k o x p=true) h fun o x p h=>⟨o,x,p,rfl,h⟩
noncomputable def x6o(e:Expr)(k:Expr->Expr->Bool):Bool:=if h:e.ctorIdx=21 then Expr.Subscript.elim (motive_1:=fun _=>Bool) e h fun a i _=>k a i else false
theorem y6q{G:Expr->Prop}{e:Expr}{k:Expr->Expr->Bool}(h:x6o e k=true)(kk:∀ a i p,k a i=true->G (Expr.Subscript a i p)):G e:=by
 obtain⟨hi,h⟩:=z1v h
 exact Expr.Subscript.elim (motive_1:=fun e=>∀ hi:e.ctorIdx=21,(Expr.Subscript.elim (motive_1:=fun _=>Bool) e hi fun a i _=>k a i)=true->G e) e hi (fun a i p _ h=>kk a i p h) hi h
noncomputable def y8h(e:Expr)(k:Str->Bool):Bool:=if h:e.ctorIdx=23 then Expr.Name.elim (motive_1:=fun _=>Bool) e h fun x _=>k x else false
theorem y1j{G:Expr->Prop}{e:Expr}{k:Str->Bool}(h:y8h e k=true)(kk:∀ x p,k x=true->G (Expr.Name x p)):G e:=by
 obtain⟨hi,h⟩:=z1v h
 exact Expr.Name.elim (motive_1:=fun e=>∀ hi:e.ctorIdx=23,(Expr.Name.elim (motive_1:=fun _=>Bool) e hi fun x _=>k x)=true->G e) e hi (fun x p _ h=>kk x p h) hi h
theorem q0i{e:Expr}{k:Str->Bool}(h:y8h e k=true):∃ x p,e=Expr.Name x p/\k x=true:=y1j (G:=fun e=>∃ x p,e=Expr.Name x p/\k x=true) h fun x p h=>⟨x,p,rfl,h⟩
noncomputable def x6p(e:Expr)(k:List Expr->Bool):Bool:=if h:e.ctorIdx=24 then Expr.List.elim (motive_1:=fun _=>Bool) e h fun l _=>k l else false
theorem j1t{G:Expr->Prop}{e:Expr}{k:List Expr->Bool}(h:x6p e k=true)(kk:∀ l p,k l=true->G (Expr.List l p)):G e:=by
 obtain⟨hi,h⟩:=z1v h
 exact Expr.List.elim (motive_1:=fun e=>∀ hi:e.ctorIdx=24,(Expr.List.elim (motive_1:=fun _=>Bool) e hi fun l _=>k l)=true->G e) e hi (fun l p _ h=>kk l p h) hi h
noncomputable def x6q(e:Expr)(k:List Expr->Bool):Bool:=if h:e.ctorIdx=25 then Expr.Tuple.elim (motive_1:=fun _=>Bool) e h fun l _ _=>k l else false
theorem x4l{G:Expr->Prop}{e:Expr}{k:List Expr->Bool}(h:x6q e k=true)(kk:∀ l n p,k l=true->G (Expr.Tuple l n p)):G e:=by
 obtain⟨hi,h⟩:=z1v h
 exact Expr.Tuple.elim (motive_1:=fun e=>∀ hi:e.ctorIdx=25,(Expr.Tuple.elim (motive_1:=fun _=>Bool) e hi fun l _ _=>k l)=true->G e) e hi (fun l n p _ h=>kk l n p h) hi h
theorem y8i{e:Expr}{k:List Expr->Bool}(h:x6q e k=true):∃ l n p,e=Expr.Tuple l n p/\k l=true:=x4l (G:=fun e=>∃ l n p,e=Expr.Tuple l n p/\k l=true) h fun l n p h=>⟨l,n,p,rfl,h⟩
noncomputable def q6f(e:Expr)(k:Option Expr->Option Expr->Option Expr->Bool):Bool:=if h:e.ctorIdx=26 then Expr.Slice.elim (motive_1:=fun _=>Bool) e h fun a b c _=>k a b c else false
theorem y8j{G:Expr->Prop}{e:Expr}{k:Option Expr->Option Expr->Option Expr->Bool}(h:q6f e k=true)(kk:∀ a b c p,k a b c=true->G (Expr.Slice a b c p)):G e:=by
 obtain⟨hi,h⟩:=z1v h
 exact Expr.Slice.elim (motive_1:=fun e=>∀ hi:e.ctorIdx=26,(Expr.Slice.elim (motive_1:=fun _=>Bool) e hi fun a b c _=>k a b c)=true->G e) e hi (fun a b c p _ h=>kk a b c p h) hi h
noncomputable def w5j(e:Stmt)(k:Option Expr->Bool):Bool:=if h:e.ctorIdx=3 then Stmt.Return.elim (motive_2:=fun _=>Bool) e h fun v _=>k v else false
theorem k2l{G:Stmt->Prop}{e:Stmt}{k:Option Expr->Bool}(h:w5j e k=true)(kk:∀ v p,k v=true->G (Stmt.Return v p)):G e:=by
 obtain⟨hi,h⟩:=z1v h
 exact Stmt.Return.elim (motive_2:=fun e=>∀ hi:e.ctorIdx=3,(Stmt.Return.elim (motive_2:=fun _=>Bool) e hi fun v _=>k v)=true->G e) e hi (fun v p _ h=>kk v p h) hi h
noncomputable def w5k(e:Stmt)(k:List Expr->Bool):Bool:=if h:e.ctorIdx=4 then Stmt.Delete.elim (motive_2:=fun _=>Bool) e h fun l _=>k l else false
theorem k2m{G:Stmt->Prop}{e:Stmt}{k:List Expr->Bool}(h:w5k e k=true)(kk:∀ l p,k l=true->G (Stmt.Delete l p)):G e:=by
 obtain⟨hi,h⟩:=z1v h
 exact Stmt.Delete.elim (motive_2:=fun e=>∀ hi:e.ctorIdx=4,(Stmt.Delete.elim (motive_2:=fun _=>Bool) e hi fun l _=>k l)=true->G e) e hi (fun l p _ h=>kk l p h) hi h
noncomputable def k1v(e:Stmt)(k:List Expr->Expr->Bool):Bool:=if h:e.ctorIdx=5 then Stmt.Assign.elim (motive_2:=fun _=>Bool) e h fun l v _=>k l v else false
theorem q0j{G:Stmt->Prop}{e:Stmt}{k:List Expr->Expr->Bool}(h:k1v e k=true)(kk:∀ l v p,k l v=true->G (Stmt.Assign l v p)):G e:=by
 obtain⟨hi,h⟩:=z1v h
 exact Stmt.Assign.elim (motive_2:=fun e=>∀ hi:e.ctorIdx=5,(Stmt.Assign.elim (motive_2:=fun _=>Bool) e hi fun l v _=>k l v)=true->G e) e hi (fun l v p _ h=>kk l v p h) hi h
noncomputable def w5l(e:Stmt)(k:Expr->Operator->Expr->Bool):Bool:=if h:e.ctorIdx=7 then Stmt.AugAssign.elim (motive_2:=fun _=>Bool) e h fun t o v _=>k t o v else false
theorem k2n{G:Stmt->Prop}{e:Stmt}{k:Expr->Operator->Expr->Bool}(h:w5l e k=true)(kk:∀ t o v p,k t o v=true->G (Stmt.AugAssign t o v p)):G e:=by
 obtain⟨hi,h⟩:=z1v h
 exact Stmt.AugAssign.elim (motive_2:=fun e=>∀ hi:e.ctorIdx=7,(Stmt.AugAssign.elim (motive_2:=fun _=>Bool) e hi fun t o v _=>k t o v)=true->G e) e hi (fun t o v p _ h=>kk t o v p h) hi h
noncomputable def w5m(e:Stmt)(k:Expr->Expr->List Stmt->List Stmt->Bool):Bool:=if h:e.ctorIdx=9 then Stmt.For.elim (motive_2:=fun _=>Bool) e h fun t i b o _=>k t i b o else false
theorem k2o{G:Stmt->Prop}{e:Stmt}{k:Expr->Expr->List Stmt->List Stmt->Bool}(h:w5m e k=true)(kk:∀ t i b o p,k t i b o=true->G (Stmt.For t i b o p)):G e:=by
 obtain⟨hi,h⟩:=z1v h
 exact Stmt.For.elim (motive_2:=fun e=>∀ hi:e.ctorIdx=9,(Stmt.For.elim (motive_2:=fun _=>Bool) e hi fun t i b o _=>k t i b o)=true->G e) e hi (fun t i b o p _ h=>kk t i b o p h) hi h
noncomputable def x4m(e:Stmt)(k:Expr->List Stmt->List Stmt->Bool):Bool:=if h:e.ctorIdx=11 then Stmt.While.elim (motive_2:=fun _=>Bool) e h fun t b o _=>k t b o else false
theorem j8z{G:Stmt->Prop}{e:Stmt}{k:Expr->List Stmt->List Stmt->Bool}(h:x4m e k=true)(kk:∀ t b o p,k t b o=true->G (Stmt.While t b o p)):G e:=by
 obtain⟨hi,h⟩:=z1v h
 exact Stmt.While.elim (motive_2:=fun e=>∀ hi:e.ctorIdx=11,(Stmt.While.elim (motive_2:=fun _=>Bool) e hi fun t b o _=>k t b o)=true->G e) e hi (fun t b o p _ h=>kk t b o p h) hi h
noncomputable def sIf(e:Stmt)(k:Expr->List Stmt->List Stmt->Bool):Bool:=if h:e.ctorIdx=12 then Stmt.If.elim (motive_2:=fun _=>Bool) e h fun t a b _=>k t a b else false
theorem w1i{G:Stmt->Prop}{e:Stmt}{k:Expr->List Stmt->List Stmt->Bool}(h:sIf e k=true)(kk:∀ t a b p,k t a b=true->G (Stmt.If t a b p)):G e:=by
 obtain⟨hi,h⟩:=z1v h
 exact Stmt.If.elim (motive_2:=fun e=>∀ hi:e.ctorIdx=12,(Stmt.If.elim (motive_2:=fun _=>Bool) e hi fun t a b _=>k t a b)=true->G e) e hi (fun t a b p _ h=>kk t a b p h) hi h
noncomputable def x6r(e:Stmt)(k:Expr->Bool):Bool:=if h:e.ctorIdx=24 then Stmt.Expr.elim (motive_2:=fun _=>Bool) e h fun v _=>k v else false
theorem j1u{G:Stmt->Prop}{e:Stmt}{k:Expr->Bool}(h:x6r e k=true)(kk:∀ v p,k v=true->G (Stmt.Expr v p)):G e:=by
 obtain⟨hi,h⟩:=z1v h
 exact Stmt.Expr.elim (motive_2:=fun e=>∀ hi:e.ctorIdx=24,(Stmt.Expr.elim (motive_2:=fun _=>Bool) e hi fun v _=>k v)=true->G e) e hi (fun v p _ h=>kk v p h) hi h
end Mine
end
section
open PySem PySem.W PyProof.Rows
namespace Mine
noncomputable abbrev Fz:=Addr->Option Obj
noncomputable abbrev Bt:=Nat->Option Addr
structure z3x where
 P:MP
 nm:List Str
 gv:List (Str×Value)
 fA:Nat->Addr
 cA:Nat->Addr
 pA:Bool->Addr
 dA:Addr
 atts:List Nat
structure z2s extends t:z3x where
 K:Frag
 B:Heap
noncomputable def x4n(vs:List Value)(n:Nat):Obj:={ cls:=.type "tuple",data:=.seq vs.toArray n }
noncomputable def z5t(vs:List Value)(n:Nat):Obj:={ cls:=.type "list",data:=.seq vs.toArray n }
noncomputable def IsL(o:Obj)(vs:List Value):Prop:=o.cls=.type "list"/\∃ n,o.data=.seq vs.toArray n/\o.dict=none
noncomputable def IsT(o:Obj)(vs:List Value):Prop:=o.cls=.type "tuple"/\∃ n,o.data=.seq vs.toArray n
theorem y8k(vs:List Value)(n:Nat):IsL (z5t vs n) vs:=⟨rfl,n,rfl,rfl⟩
theorem j9a(vs:List Value)(n:Nat):IsT (x4n vs n) vs:=⟨rfl,n,rfl⟩
noncomputable def k1w(v:Option Value):Obj:={ cls:=.type "cell",data:=.cell v }
section
variable (I:z2s)
mutual
inductive Rel(g:Fz)(Z:Bt):Value->PV->Prop
 | none:Rel g Z .none .none
 | bool (b:Bool):Rel g Z (.bool b) (.bool b)
 | int (i:Int) (t:Tok):Rel g Z (.int i t) (.int i)
 | str (x:Str) (t:Tok):Rel g Z (.str x t) (.str x)
 | tup {a:Addr} {o:Obj} {vs:List Value} {ps:List PV}:g a=some o->IsT o vs->vs.length<=z2k->z0e g Z vs ps->Rel g Z (.ref a) (.tup ps)
 | lst {a:Addr} {o:Obj} {vs:List Value} {ps:List PV}:g a=some o->IsL o vs->vs.length<=z2k->z0e g Z vs ps->Rel g Z (.ref a) (.lst ps)
 | ref {i:Nat} {a:Addr}:Z i=some a->Rel g Z (.ref a) (.ref i)
 | inst {c i:Nat} {x d:Addr}:Z i=some d->g x=some (instObj (I.cA c) d)->Rel g Z (.ref x) (.inst c i)
 | pat (b:Bool):Rel g Z (.ref (I.pA b)) (.pat b)
 | edict {a:Addr} {n:Nat}:g a=some (dictOf [] n)->(a==sysModules)=false->Rel g Z (.ref a) .edict
inductive z0e(g:Fz)(Z:Bt):List Value->List PV->Prop
 | nil:z0e g Z [] []
 | cons {v:Value} {vs:List Value} {p:PV} {ps:List PV}:Rel g Z v p->z0e g Z vs ps->z0e g Z (v::vs) (p::ps)
end
variable {I}
theorem z0e.ind{g:Fz}{Z:Bt}{M:List Value->List PV->Prop}(nil:M [] [])(cons:∀ {v vs p ps},Rel I g Z v p->z0e I g Z vs ps->M vs ps->M (v::vs) (p::ps)){vs:List Value}{ps:List PV}(h:z0e I g Z vs ps):M vs ps:=
 z0e.rec (motive_1:=fun _ _ _=>True) (motive_2:=fun vs ps _=>M vs ps) trivial (fun _=>trivial) (fun _ _=>trivial) (fun _ _=>trivial) (fun _ _ _ _ _=>trivial) (fun _ _ _ _ _=>trivial) (fun _=>trivial) (fun _ _=>trivial) (fun _=>trivial) (fun _ _=>trivial) nil (fun h r _ ih=>cons h r ih) h
theorem Rel.mono{g g':Fz}{Z Z':Bt}(hg:∀ a o,g a=some o->g' a=some o)(hb:∀ i a,Z i=some a->Z' i=some a){v:Value}{p:PV}(h:Rel I g Z v p):Rel I g' Z' v p:=
 Rel.rec (motive_1:=fun v p _=>Rel I g' Z' v p) (motive_2:=fun vs ps _=>z0e I g' Z' vs ps) .none .bool .int .str (fun h q l _ ih=>.tup (hg _ _ h) q l ih) (fun h q l _ ih=>.lst (hg _ _ h) q l ih) (fun h=>.ref (hb _ _ h)) (fun h q=>.inst (hb _ _ h) (hg _ _ q)) .pat (fun h q=>.edict (hg _ _ h) q) .nil (fun _ _ a b=>.cons a b) h
theorem z0e.mono{g g':Fz}{Z Z':Bt}(hg:∀ a o,g a=some o->g' a=some o)(hb:∀ i a,Z i=some a->Z' i=some a){vs:List Value}{ps:List PV}(h:z0e I g Z vs ps):z0e I g' Z' vs ps:=
 z0e.ind .nil (fun h _ ih=>.cons (h.mono hg hb) ih) h
inductive k2p(I:z2s)(g:Fz)(Z:Bt)(Is:Obj->List Value->Prop)(v:Value)(ps:List PV):Prop
 | mk (a:Addr) (o:Obj) (vs:List Value) (h1:v=.ref a) (h2:g a=some o) (h3:Is o vs) (h4:vs.length<=z2k) (h5:z0e I g Z vs ps):k2p I g Z Is v ps
inductive w1j(I:z2s)(g:Fz)(Z:Bt)(v:Value)(c i:Nat):Prop
 | mk (x d:Addr) (h1:v=.ref x) (h2:Z i=some d) (h3:g x=some (instObj (I.cA c) d)):w1j I g Z v c i
noncomputable def w5n(I:z2s)(g:Fz)(Z:Bt)(v:Value)(p:PV):Prop:=match p with
 | .none=>v=.none
 | .bool b=>v=.bool b
 | .int k=>∃ t,v=.int k t
 | .str x=>∃ t,v=.str x t
 | .tup ps=>k2p I g Z IsT v ps
 | .lst ps=>k2p I g Z IsL v ps
 | .ref i=>∃ a,v=.ref a/\Z i=some a
 | .inst c i=>w1j I g Z v c i
 | .pat b=>v=.ref (I.pA b)
 | .edict=>∃ a n,v=.ref a/\g a=some (dictOf [] n)/\(a==sysModules)=false
section
variable {g:Fz} {Z:Bt} {v:Value} {i c:Nat} {ps:List PV}
theorem Rel.out{p:PV}(h:Rel I g Z v p):w5n I g Z v p:=
 Rel.casesOn (motive_1:=fun v p _=>w5n I g Z v p) h rfl (fun _=>rfl) (fun _ t=>⟨t,rfl⟩) (fun _ t=>⟨t,rfl⟩) (fun a b c d=>⟨_,_,_,rfl,a,b,c,d⟩) (fun a b c d=>⟨_,_,_,rfl,a,b,c,d⟩) (fun a=>⟨_,rfl,a⟩) (fun a b=>⟨_,_,rfl,a,b⟩) (fun _=>rfl) (fun a b=>⟨_,_,rfl,a,b⟩)
theorem Rel.int_inv{k:Int}(h:Rel I g Z v (.int k)):∃ t,v=.int k t:=h.out
theorem Rel.str_inv{x:Str}(h:Rel I g Z v (.str x)):∃ t,v=.str x t:=h.out
theorem Rel.bool_inv{b:Bool}(h:Rel I g Z v (.bool b)):v=.bool b:=h.out
theorem Rel.none_inv(h:Rel I g Z v .none):v=.none:=h.out
theorem Rel.tup_inv(h:Rel I g Z v (.tup ps)):k2p I g Z IsT v ps:=h.out
theorem Rel.lst_inv(h:Rel I g Z v (.lst ps)):k2p I g Z IsL v ps:=h.out
theorem Rel.ref_inv(h:Rel I g Z v (.ref i)):∃ a,v=.ref a/\Z i=some a:=h.out
theorem Rel.inst_inv(h:Rel I g Z v (.inst c i)):w1j I g Z v c i:=h.out
theorem Rel.pat_inv{b:Bool}(h:Rel I g Z v (.pat b)):v=.ref (I.pA b):=h.out
theorem Rel.edict_inv(h:Rel I g Z v .edict):∃ a n,v=.ref a/\g a=some (dictOf [] n)/\(a==sysModules)=false:=h.out
end
inductive z4c(I:z2s)(P:Params)(g:Fz)(Z:Bt):List DictEntry->List (Nat×PV)->Prop
 | nil:z4c I P g Z [] []
 | cons {k:Nat} {x:Str} {t:Tok} {v:Value} {p:PV} {es:List DictEntry} {l:List (Nat×PV)}:I.nm[k]?=some x->I.atts.contains k=true->Rel I g Z v p->z4c I P g Z es l ->
   z4c I P g Z (⟨PyData.keyHash P x,.str x t,v⟩::es) ((k,p)::l)
theorem z4c.mono{P:Params}{g g':Fz}{Z Z':Bt}(hg:∀ a o,g a=some o->g' a=some o)(hb:∀ i a,Z i=some a->Z' i=some a){es:List DictEntry}{l:List (Nat×PV)}(h:z4c I P g Z es l):z4c I P g' Z' es l:=by
 induction h with
 | nil=>exact .nil
 | cons h1 h0 h2 _ ih=>exact .cons h1 h0 (h2.mono hg hb) ih
noncomputable def y0b(I:z2s)(P:Params)(g:Fz)(Z:Bt)(h:Heap)(a:Addr):z2u->Prop
 | .lst l=>∃ o vs,h.get? a=some o/\IsL o vs/\vs.length<=z2k/\z0e I g Z vs l/\z0t 0 l=true
 | .att l=>∃ es n,h.get? a=some (dictOf es n)/\z4c I P g Z es l/\es.length<=900
structure SR(I:z2s)(P:Params)(g:Fz)(Z:Bt)(H:z0b)(h:Heap):Prop where
 base:∀ a o,I.B.get? a=some o->g a=some o
 sub:∀ a o,g a=some o->h.get? a=some o
 dom:∀ i,i<H.length->∃ a,Z i=some a
 lt:∀ i a,Z i=some a->i<H.length
 inj:∀ i j a,Z i=some a->Z j=some a->i=j
 off:∀ i a,Z i=some a->g a=none
 cell:∀ (i:Nat) (a:Addr) (c:z2u),Z i=some a->H[i]?=some c->y0b I P g Z h a c
noncomputable def z9a(L:Lim)(Z:Bt)(H:z0b)(a:Addr):Prop:=∀ i,Z i=some a->(∀ l,H[i]?=some (.lst l)->i<L.b)/\(∀ l,H[i]?=some (.att l)->i<L.ab)
noncomputable def z3n:z2u->z2u->Prop
 | .lst _,.lst _=>True
 | .att _,.att _=>True
 | _,_=>False
structure z1c(own:List Addr)(L:Lim)(g:Fz)(Z:Bt)(H:z0b)(s:Shared)(g':Fz)(Z':Bt)(H':z0b)(s':Shared):Prop where
 gle:∀ a o,g a=some o->g' a=some o
 gold:∀ a o,s.heap.get? a=some o->g' a=g a
 ble:∀ i a,Z i=some a->Z' i=some a
 bnew:∀ i a,Z i=none->Z' i=some a->s.heap.get? a=none
 kept:∀ a o,s.heap.get? a=some o->a∉own->z9a L Z H a->s'.heap.get? a=some o
 alive:∀ a o,s.heap.get? a=some o->∃ o',s'.heap.get? a=some o'
 len:H.length<=H'.length
 kinds:∀ (i:Nat) (c:z2u),H[i]?=some c->∃ c',H'[i]?=some c'/\z3n c c'
 lsts:∀ (i:Nat) (l:List PV),H[i]?=some (.lst l)->i<L.b->H'[i]?=some (.lst l)
 atts:∀ (i:Nat) (l:List (Nat×PV)),H[i]?=some (.att l)->i<L.ab->H'[i]?=some (.att l)
 rest:s'={ s with heap:=s'.heap,toks:=s'.toks }
theorem z3n.refl:∀ c:z2u,z3n c c
 | .lst _=>trivial
 | .att _=>trivial
theorem z3n.trans:∀ {a b c:z2u},z3n a b->z3n b c->z3n a c
 | .lst _,.lst _,.lst _,_,_=>trivial
 | .att _,.att _,.att _,_,_=>trivial
 | .lst _,.lst _,.att _,_,h=>h
 | .att _,.att _,.lst _,_,h=>h
variable {own own1 own2:List Addr} {L:Lim} {P:Params} {g gb gC:Fz} {Z Z1 Z2:Bt} {H Hb H2:z0b} {s sB sC:Shared}
theorem z1c.refl:z1c own L g Z H s g Z H s:=
 ⟨fun _ _ h=>h,fun _ _ _=>rfl,fun _ _ h=>h,fun _ _ h q=>(by rw [h] at q;contradiction),fun _ _ h _ _=>h,fun _ o h=>⟨o,h⟩,AL _,fun _ c h=>⟨c,h,z3n.refl c⟩,fun _ _ h _=>h,fun _ _ h _=>h,rfl⟩
theorem z9a.grow{a:Addr}{o:Obj}(R:SR I P g Z H s.heap)(G:z1c own L g Z H s gb Z1 Hb sB)(ha:s.heap.get? a=some o)(h:z9a L Z H a):z9a L Z1 Hb a:=by
 intro i hi
 cases hb:Z i with
 | none=>have:=G.bnew i a hb hi;rw [ha] at this;contradiction
 | some a'=>
  have e:=G.ble i a' hb
  rw [hi] at e;injection e with e;subst e
  have lt:=R.lt i a hb
  obtain⟨c,hc⟩:∃ c,H[i]?=some c:=⟨H[i],by simp [lt]⟩
  obtain⟨c',hc',hk⟩:=G.kinds i c hc
  refine⟨fun l hl=>?_,fun l hl=>?_⟩
  ·rw [hl] at hc';injection hc' with hc';subst hc'
   cases c with
   | lst l'=>exact(h i hb).1 l' hc
   | att l'=>exact hk.elim
  ·rw [hl] at hc';injection hc' with hc';subst hc'
   cases c with
   | att l'=>exact(h i hb).2 l' hc
   | lst l'=>exact hk.elim
theorem z1c.trans(R:SR I P g Z H s.heap)(a:z1c own L g Z H s gb Z1 Hb sB)(b:z1c own L gb Z1 Hb sB gC Z2 H2 sC):z1c own L g Z H s gC Z2 H2 sC where
 gle:=fun x o h=>b.gle x o (a.gle x o h)
 gold:=fun x o h=>by
  obtain⟨o',h'⟩:=a.alive x o h
  rw [b.gold x o' h',a.gold x o h]
 ble:=fun i x h=>b.ble i x (a.ble i x h)
 bnew:=fun i x h q=>by
  cases e:Z1 i with
  | some y=>
   have:=b.ble i y e
   rw [q] at this;injection this with this;subst this
   exact a.bnew i x h e
  | none=>
   have:=b.bnew i x e q
   cases hx:s.heap.get? x with
   | none=>rfl
   | some o=>obtain⟨o',h'⟩:=a.alive x o hx;rw [h'] at this;contradiction
 kept:=fun x o h n f=>b.kept x o (a.kept x o h n f) n (f.grow R a h)
 alive:=fun x o h=>by
  obtain⟨o',h'⟩:=a.alive x o h
  exact b.alive x o' h'
 len:=AA a.len b.len
 kinds:=fun i c h=>by
  obtain⟨c',h',k⟩:=a.kinds i c h
  obtain⟨c'',h'',k'⟩:=b.kinds i c' h'
  exact⟨c'',h'',k.trans k'⟩
 lsts:=fun i l h hi=>b.lsts i l (a.lsts i l h hi) hi
 atts:=fun i l h hi=>b.atts i l (a.atts i l h hi) hi
 rest:=by rw [b.rest,a.rest]
theorem z1c.own_le(hs:∀ a∈own1,a∈own2)(G:z1c own1 L g Z H s gb Z1 Hb sB):z1c own2 L g Z H s gb Z1 Hb sB:=
 { G with kept:=fun x o h n f=>G.kept x o h (fun m=>n (hs _ m)) f }
theorem z1c.leave(hn:∀ a∈own1,s.heap.get? a=none\/a∈own2)(G:z1c own1 L g Z H s gb Z1 Hb sB):z1c own2 L g Z H s gb Z1 Hb sB:=
 { G with kept:=fun x o h n f=>G.kept x o h (fun m=>(hn _ m).elim (fun e=>by rw [h] at e;contradiction) n) f }
theorem z1c.news{h':Heap}{tk:Nat}{g':Fz}(hk:∀ a o,s.heap.get? a=some o->h'.get? a=some o)(hg:∀ a o,g a=some o->g' a=some o)(hn:∀ a o,s.heap.get? a=some o->g' a=g a) :
  z1c own L g Z H s g' Z H { s with heap:=h',toks:=tk }:=
 ⟨hg,hn,fun _ _ h=>h,fun _ _ h q=>(by rw [h] at q;contradiction),fun _ _ h _ _=>hk _ _ h,fun _ o h=>⟨o,hk _ _ h⟩,AL _,fun _ c h=>⟨c,h,z3n.refl c⟩,fun _ _ h _=>h,fun _ _ h _=>h,rfl⟩
theorem z1c.keepAll{h':Heap}{tk:Nat}(hk:∀ a o,s.heap.get? a=some o->h'.get? a=some o):z1c own L g Z H s g Z H { s with heap:=h',toks:=tk }:=z1c.news hk (fun _ _ h=>h) (fun _ _ _=>rfl)
theorem y0b.mono{P:Params}{h h':Heap}{a:Addr}(hg:∀ a o,g a=some o->gb a=some o)(hb:∀ i a,Z i=some a->Z1 i=some a)(e:h'.get? a=h.get? a):∀ {c:z2u},y0b I P g Z h a c->y0b I P gb Z1 h' a c
 | .lst _,⟨o,vs,h1,h5,h2,h3,h4⟩=>⟨o,vs,e.trans h1,h5,h2,h3.mono hg hb,h4⟩
 | .att _,⟨es,n,h1,h2,h3⟩=>⟨es,n,e.trans h1,h2.mono hg hb,h3⟩
theorem y0b.there{P:Params}{h:Heap}{a:Addr}{c:z2u}(x:y0b I P g Z h a c):∃ o,h.get? a=some o:=by
 cases c with
 | lst l=>obtain⟨vs,n,h1,_⟩:=x;exact⟨_,h1⟩
 | att l=>obtain⟨vs,n,h1,_⟩:=x;exact⟨_,h1⟩
theorem SR.here(R:SR I P g Z H s.heap){i:Nat}{a:Addr}(hi:Z i=some a):∃ o,s.heap.get? a=some o:=by
 have lt:=R.lt i a hi
 exact(R.cell i a _ hi (AN lt)).there
theorem SR.news{h':Heap}{g':Fz}(R:SR I P g Z H s.heap)(hk:∀ a o,s.heap.get? a=some o->h'.get? a=some o)(hg:∀ a o,g a=some o->g' a=some o)
 (hn:∀ a o,s.heap.get? a=some o->g' a=g a)(hsub:∀ a o,g' a=some o->h'.get? a=some o):SR I P g' Z H h' where
 base:=fun a o h=>hg _ _ (R.base a o h)
 sub:=hsub
 dom:=R.dom
 lt:=R.lt
 inj:=R.inj
 off:=fun i a h=>by
  obtain⟨o,ho⟩:=R.here h
  rw [hn a o ho];exact R.off i a h
 cell:=fun i a c h hc=>by
  obtain⟨o,ho⟩:=R.here h
  exact(R.cell i a c h hc).mono hg (fun _ _ q=>q) (by rw [hk _ _ ho,ho])
theorem SR.keepAll{h':Heap}(R:SR I P g Z H s.heap)(hk:∀ a o,s.heap.get? a=some o->h'.get? a=some o):SR I P g Z H h':=
 R.news hk (fun _ _ h=>h) (fun _ _ _=>rfl) fun a o h=>hk _ _ (R.sub a o h)
noncomputable def y4j(g:Fz)(a:Addr)(o:Obj):Fz:=fun b=>if b=a then some o else g b
theorem z2w{a:Addr}{o:Obj}(hn:g a=none):∀ b x,g b=some x->y4j g a o b=some x:=fun b x h=>by
 unfold y4j
 by_cases e:b=a
 ·subst e;rw [hn] at h;contradiction
 ·rw [AT e];exact h
theorem z2i(g:Fz)(a:Addr)(o:Obj):y4j g a o a=some o:=by unfold y4j;rw [AR rfl]
theorem SR.gfree(R:SR I P g Z H s.heap){a:Addr}(h:s.heap.get? a=none):g a=none:=by
 cases e:g a with
 | none=>rfl
 | some o=>rw [R.sub a o e] at h;contradiction
theorem y3f{a:Addr}{o:Obj}(hn:s.heap.get? a=none):∀ b x,s.heap.get? b=some x->y4j g a o b=g b:=fun b x h=>by
 unfold y4j
 rw [AT (fun e=>by rw [e,hn] at h;contradiction)]
theorem z1c.add{h':Heap}{tk:Nat}{a:Addr}{o:Obj}(R:SR I P g Z H s.heap)(hk:∀ a o,s.heap.get? a=some o->h'.get? a=some o)(hn:s.heap.get? a=none) :
  z1c own L g Z H s (y4j g a o) Z H { s with heap:=h',toks:=tk }:=z1c.news hk (z2w (R.gfree hn)) (y3f hn)
theorem SR.add{h':Heap}{a:Addr}{o:Obj}(R:SR I P g Z H s.heap)(hk:∀ a o,s.heap.get? a=some o->h'.get? a=some o)(hn:s.heap.get? a=none)(ho:h'.get? a=some o):SR I P (y4j g a o) Z H h':=
 R.news hk (z2w (R.gfree hn)) (y3f hn) fun b x h=>by
  unfold y4j at h
  by_cases e:b=a
  ·subst e;rw [AR rfl] at h;injection h with h;subst h;exact ho
  ·rw [AT e] at h;exact hk _ _ (R.sub b x h)
noncomputable def q3n(Z:Bt)(i:Nat)(a:Addr):Bt:=fun j=>if j=i then some a else Z j
theorem y0c(Z:Bt)(i:Nat)(a:Addr):q3n Z i a i=some a:=by unfold q3n;rw [AR rfl]
theorem y1k{i:Nat}{a:Addr}(hn:Z i=none):∀ j b,Z j=some b->q3n Z i a j=some b:=fun j b h=>by
 unfold q3n
 by_cases e:j=i
 ·subst e;rw [hn] at h;contradiction
 ·rw [AT e];exact h
theorem SR.none_at(R:SR I P g Z H s.heap):Z H.length=none:=by
 cases e:Z H.length with
 | none=>rfl
 | some a=>exact absurd (R.lt _ _ e) (EV _)
theorem getElem?_snoc(H:z0b)(c:z2u)(i:Nat):(H++[c])[i]?=if i=H.length then some c else H[i]?:=by
 by_cases h:i=H.length
 ·subst h;simp
 ·rw [AT h]
  by_cases q:i<H.length
  ·rw [DH q]
  ·rw [DC (by simp;lia),DC (by lia)]
theorem SR.cellNew{h':Heap}{a:Addr}{c:z2u}(R:SR I P g Z H s.heap)(hk:∀ a o,s.heap.get? a=some o->h'.get? a=some o)(hn:s.heap.get? a=none)
 (hc:y0b I P g (q3n Z H.length a) h' a c):SR I P g (q3n Z H.length a) (H++[c]) h' where
 base:=R.base
 sub:=fun b o h=>hk _ _ (R.sub b o h)
 dom:=fun i hi=>by
  by_cases e:i=H.length
  ·subst e;exact⟨a,y0c ..⟩
  ·obtain⟨b,hb⟩:=R.dom i (by simp at hi;lia)
   exact⟨b,y1k R.none_at _ _ hb⟩
 lt:=fun i b h=>by
  unfold q3n at h
  by_cases e:i=H.length
  ·subst e;simp
  ·rw [AT e] at h;have:=R.lt i b h;simp;lia
 inj:=fun i j b hi hj=>by
  unfold q3n at hi hj
  by_cases e:i=H.length
  ·by_cases e':j=H.length
   ·rw [e,e']
   ·rw [AR e] at hi;rw [AT e'] at hj;injection hi with hi;subst hi
    obtain⟨o,ho⟩:=R.here hj;rw [hn] at ho;contradiction
  ·by_cases e':j=H.length
   ·rw [AT e] at hi;rw [AR e'] at hj;injection hj with hj;subst hj
    obtain⟨o,ho⟩:=R.here hi;rw [hn] at ho;contradiction
   ·rw [AT e] at hi;rw [AT e'] at hj;exact R.inj i j b hi hj
 off:=fun i b h=>by
  unfold q3n at h
  by_cases e:i=H.length
  ·rw [AR e] at h;injection h with h;subst h;exact R.gfree hn
  ·rw [AT e] at h;exact R.off i b h
 cell:=fun i b c' h hc'=>by
  rw [getElem?_snoc] at hc'
  unfold q3n at h
  by_cases e:i=H.length
  ·rw [AR e] at h hc';injection h with h;subst h;injection hc' with hc';subst hc';exact hc
  ·rw [AT e] at h hc'
   obtain⟨o,ho⟩:=R.here h
   exact(R.cell i b c' h hc').mono (fun _ _ q=>q) (y1k R.none_at) (by rw [hk _ _ ho,ho])
theorem z1c.cellNew{h':Heap}{tk:Nat}{a:Addr}{c:z2u}(R:SR I P g Z H s.heap)(hk:∀ a o,s.heap.get? a=some o->h'.get? a=some o)(hn:s.heap.get? a=none) :
  z1c own L g Z H s g (q3n Z H.length a) (H++[c]) { s with heap:=h',toks:=tk } where
 gle:=fun _ _ h=>h
 gold:=fun _ _ _=>rfl
 ble:=y1k R.none_at
 bnew:=fun i b h q=>by
  unfold q3n at q
  by_cases e:i=H.length
  ·rw [AR e] at q;injection q with q;subst q;exact hn
  ·rw [AT e,h] at q;contradiction
 kept:=fun _ _ h _ _=>hk _ _ h
 alive:=fun _ o h=>⟨o,hk _ _ h⟩
 len:=by simp
 kinds:=fun i c' h=>⟨c',by rw [DH (AS.mp h).1];exact h,z3n.refl _⟩
 lsts:=fun i l h _=>by rw [DH (AS.mp h).1];exact h
 atts:=fun i l h _=>by rw [DH (AS.mp h).1];exact h
 rest:=rfl
theorem SR.cellPut{h':Heap}{i:Nat}{a:Addr}{c:z2u}(R:SR I P g Z H s.heap)(hi:Z i=some a)(hs:∀ b o,b≠a->s.heap.get? b=some o->h'.get? b=some o)(hc:y0b I P g Z h' a c):SR I P g Z (H.set i c) h' where
 base:=R.base
 sub:=fun b o h=>hs _ _ (fun e=>by rw [e,R.off i a hi] at h;contradiction) (R.sub b o h)
 dom:=fun j hj=>R.dom j (by simpa using hj)
 lt:=fun j b h=>by simpa using R.lt j b h
 inj:=R.inj
 off:=R.off
 cell:=fun j b c' h hc'=>by
  by_cases e:j=i
  ·subst e
   rw [hi] at h;injection h with h;subst h
   rw [EH (R.lt _ _ hi)] at hc'
   injection hc' with hc';subst hc';exact hc
  ·rw [DN (Ne.symm e)] at hc'
   obtain⟨o,ho⟩:=R.here h
   exact(R.cell j b c' h hc').mono (fun _ _ q=>q) (fun _ _ q=>q) (by rw [hs _ _ (fun e'=>e (R.inj j i a (e'▸h) hi)) ho,ho])
theorem z1c.cellPut{h':Heap}{tk:Nat}{i:Nat}{a:Addr}{c B3:z2u}(R:SR I P g Z H s.heap)(hi:Z i=some a)(h0:H[i]?=some B3)(hk:z3n B3 c)(hb:(∀ l,B3=.lst l->L.b<=i)/\(∀ l,B3=.att l->L.ab<=i))
 (hs:∀ b o,b≠a->s.heap.get? b=some o->h'.get? b=some o)(ha:∃ o,h'.get? a=some o):z1c own L g Z H s g Z (H.set i c) { s with heap:=h',toks:=tk } where
 gle:=fun _ _ h=>h
 gold:=fun _ _ _=>rfl
 ble:=fun _ _ h=>h
 bnew:=fun _ _ h q=>by rw [h] at q;contradiction
 kept:=fun b o h _ f=>hs b o (fun e=>by
  subst e
  cases B3 with
  | lst l=>have:=(f i hi).1 l h0;have:=hb.1 l rfl;lia
  | att l=>have:=(f i hi).2 l h0;have:=hb.2 l rfl;lia) h
 alive:=fun b o h=>by
  by_cases e:b=a
  ·subst e;exact ha
  ·exact⟨o,hs b o e h⟩
 len:=by simp
 kinds:=fun j c' h=>by
  by_cases e:j=i
  ·subst e
   rw [h0] at h;injection h with h;subst h
   exact⟨c,by rw [EH (R.lt _ _ hi)],hk⟩
  ·exact⟨c',by rw [DN (Ne.symm e)];exact h,z3n.refl _⟩
 lsts:=fun j l h hj=>by
  by_cases e:j=i
  ·subst e
   rw [h0] at h;injection h with h;subst h
   have:=hb.1 l rfl;lia
  ·rw [DN (Ne.symm e)];exact h
 atts:=fun j l h hj=>by
  by_cases e:j=i
  ·subst e
   rw [h0] at h;injection h with h;subst h
   have:=hb.2 l rfl;lia
  ·rw [DN (Ne.symm e)];exact h
 rest:=rfl
end
inductive NsS(I:z2s)(env:Env)(Y:z0l)(g:Fz)(Z:Bt)(h:Heap):Prop
 | mk (m:Str->Option Value) (h1:h.Ns env.locals m) (h2:∀ (k:Nat) (x:Str) (p:PV),I.nm[k]?=some x->env.kindOf x=some .local->Y k=some p->∃ v,m x=some v/\Rel I g Z v p):NsS I env Y g Z h
inductive w5o(I:z2s)(env:Env)(Y:z0l)(g:Fz)(Z:Bt)(h:Heap)(x:Str):Prop
 | mk (c:Addr) (ov:Option Value) (h1:env.cells.lookup x=some c) (h2:h.get? c=some (k1w ov)) (h3:c≠env.locals) (h4:g c=none) (h5:∀ i,Z i≠some c) (h6:∀ (k:Nat) (p:PV),I.nm[k]?=some x->Y k=some p->∃ v,ov=some v/\Rel I g Z v p):w5o I env Y g Z h x
structure z0j(I:z2s)(own:List Addr)(env:Env)(Y:z0l)(g:Fz)(Z:Bt)(h:Heap):Prop where
 kind:env.scope.kind=.function
 glob:env.globals=mainGlobals
 bi:env.builtins=builtinsNs
 ns:NsS I env Y g Z h
 lg:g env.locals=none
 lb:∀ i,Z i≠some env.locals
 lown:env.locals∈own
 cells:∀ x,(env.kindOf x=some .cell\/env.kindOf x=some .free)->w5o I env Y g Z h x
 apart:∀ x y c,env.cells.lookup x=some c->env.cells.lookup y=some c->x=y
 code:kdsCode I.K env.code=true
 ownz:∀ a,a∈own->g a=none/\(∀ i,Z i≠some a)/\∃ o,h.get? a=some o
noncomputable def Mine.storeable(env:Env)(own:List Addr)(x:Str):Prop:=env.kindOf x=some .local\/∃ c,env.kindOf x=some .cell/\env.cells.lookup x=some c/\c∈own
section
variable {I:z2s} {own own':List Addr} {L:Lim} {w:World} {g gb gC:Fz} {Z Z1 Z2:Bt} {H Hb H2:z0b} {s sB sC:Shared} {env:Env} {Y:z0l} {A:Around} {prog:Program}
theorem z0j.locThere(O:z0j I own env Y g Z s.heap):∃ o,s.heap.get? env.locals=some o:=by
 obtain⟨m,⟨o,_,_,ho,_⟩,_⟩:=O.ns
 exact⟨o,ho⟩
theorem z0j.grow(O:z0j I own env Y g Z s.heap)(hg:∀ a o,g a=some o->gb a=some o)(ho:∀ a o,s.heap.get? a=some o->gb a=g a)(hb:∀ i a,Z i=some a->Z1 i=some a)
 (hn:∀ i a,Z i=none->Z1 i=some a->s.heap.get? a=none)(hk:∀ a o,s.heap.get? a=some o->g a=none->(∀ i,Z i≠some a)->sB.heap.get? a=some o):z0j I own env Y gb Z1 sB.heap where
 kind:=O.kind
 glob:=O.glob
 bi:=O.bi
 ns:=by
  obtain⟨m,⟨o,es,ep,h1,r⟩,h2⟩:=O.ns
  exact⟨m,⟨o,es,ep,hk _ _ h1 O.lg O.lb,r⟩,fun k x p a b c=>let ⟨v,e,q⟩:=h2 k x p a b c;⟨v,e,q.mono hg hb⟩⟩
 lg:=by obtain⟨o,h⟩:=O.locThere;rw [ho _ _ h];exact O.lg
 lb:=fun i e=>by
  obtain⟨o,h⟩:=O.locThere
  induction q:Z i using Option.casesOn with
  | none=>rw [hn i _ q e] at h;contradiction
  | some a=>rw [hb i a q] at e;injection e with e;subst e;exact O.lb i q
 lown:=O.lown
 cells:=fun x hx=>by
  obtain⟨c,ov,h1,h2,h3,h4,h5,h6⟩:=O.cells x hx
  refine⟨c,ov,h1,hk _ _ h2 h4 h5,h3,by rw [ho _ _ h2];exact h4,fun i e=>?_,fun k p a b=>let ⟨v,e,q⟩:=h6 k p a b;⟨v,e,q.mono hg hb⟩⟩
  induction q:Z i using Option.casesOn with
  | none=>rw [hn i _ q e] at h2;contradiction
  | some a=>rw [hb i a q] at e;injection e with e;subst e;exact h5 i q
 apart:=O.apart
 code:=O.code
 ownz:=fun a ha=>by
  obtain⟨h1,h2,o,h3⟩:=O.ownz a ha
  refine⟨by rw [ho _ _ h3];exact h1,fun i e=>?_,o,hk _ _ h3 h1 h2⟩
  induction q:Z i using Option.casesOn with
  | none=>rw [hn i _ q e] at h3;contradiction
  | some b=>rw [hb i b q] at e;injection e with e;subst e;exact h2 i q
theorem z0j.step(O:z0j I own env Y g Z s.heap)(G:z1c [] L g Z H s gb Z1 Hb sB):z0j I own env Y gb Z1 sB.heap:=
 O.grow G.gle G.gold G.ble G.bnew fun a o h _ hb=>G.kept a o h (by simp) fun i e=>(hb i e).elim
noncomputable def Go{V:Type}(I:z2s)(prog:Program)(w:World)(A:Around)(own:List Addr)(L:Lim)(g:Fz)(Z:Bt)(H:z0b)(t:Sem V)(H':z0b)(Post:Fz->Bt->Shared->V->Prop)(s:Shared):Prop:=
 ∀ (Q:V->Shared->Prop) (E:Value->Shared->Prop),(∀ a g' Z' s',z1c own L g Z H s g' Z' H' s'->SR I w.params g' Z' H' s'.heap->Post g' Z' s' a->Q a s')->wpAny (model prog w) A t Q E s
variable {V A8:Type} {t:Sem V} {f:V->Sem A8} {P1 P1':Fz->Bt->Shared->V->Prop} {P2:Fz->Bt->Shared->A8->Prop}
theorem Go.pure{a:V}(R:SR I w.params g Z H s.heap)(h:P1 g Z s a):Go I prog w A own L g Z H (Pure.pure a:Sem V) H P1 s:=
 fun Q E k=>AJ (k a g Z s .refl R h)
theorem Go.bind(R:SR I w.params g Z H s.heap)(h:Go I prog w A own L g Z H t Hb P1 s)
 (k:∀ a gb Z1 sB,z1c own L g Z H s gb Z1 Hb sB->SR I w.params gb Z1 Hb sB.heap->P1 gb Z1 sB a->Go I prog w A own L gb Z1 Hb (f a) H2 P2 sB):Go I prog w A own L g Z H (t>>=f) H2 P2 s:=
 fun Q E q=>AB (h _ _ fun a gb Z1 sB G Rb p=>k a gb Z1 sB G Rb p Q E fun b gC Z2 sC Gc Rc pC=>q b gC Z2 sC (G.trans R Gc) Rc pC)
theorem Go.mono(h:Go I prog w A own L g Z H t Hb P1 s)(k:∀ a gb Z1 sB,z1c own L g Z H s gb Z1 Hb sB->SR I w.params gb Z1 Hb sB.heap->P1 gb Z1 sB a->P1' gb Z1 sB a):Go I prog w A own L g Z H t Hb P1' s:=
 fun Q E q=>h Q E fun a gb Z1 sB G R p=>q a gb Z1 sB G R (k a gb Z1 sB G R p)
theorem Go.own_le(hs:∀ a∈own,a∈own')(h:Go I prog w A own L g Z H t Hb P1 s):Go I prog w A own' L g Z H t Hb P1 s:=
 fun Q E q=>h Q E fun a gb Z1 sB G R p=>q a gb Z1 sB (G.own_le hs) R p
theorem Go.holding{vs:List Value}(h:Go I prog w A own L g Z H t Hb P1 s):Go I prog w A own L g Z H (PySem.holding vs t) Hb P1 s:=
 fun Q E q=>BW (h Q E q)
theorem Go.standAt{pos:Pos}{f:Unit->Sem A8}(h:Go I prog w A own L g Z H (f ()) H2 P2 s):Go I prog w A own L g Z H (PySem.standAt pos>>=f) H2 P2 s:=
 fun Q E q=>AB (BX (h Q E q))
noncomputable def P.val(I:z2s)(p:PV):Fz->Bt->Shared->Value->Prop:=fun g Z _ v=>Rel I g Z v p
theorem Go.keepAll{t:Sem V}(R:SR I w.params g Z H s.heap)
 (h:∀ (Q:V->Shared->Prop) (E:Value->Shared->Prop),(∀ a h' tk,(∀ b o,s.heap.get? b=some o->h'.get? b=some o)->P1 g Z { s with heap:=h',toks:=tk } a->Q a { s with heap:=h',toks:=tk })->wpAny (model prog w) A t Q E s) :
  Go I prog w A own L g Z H t H P1 s:=
 fun Q E q=>h Q E fun a h' tk hk p=>q a g Z _ (.keepAll hk) (R.keepAll hk) p
theorem Go.tok{t:Sem V}(R:SR I w.params g Z H s.heap)(h:∀ (Q:V->Shared->Prop) (E:Value->Shared->Prop),(∀ a tk,P1 g Z { s with toks:=tk } a->Q a { s with toks:=tk })->wpAny (model prog w) A t Q E s) :
  Go I prog w A own L g Z H t H P1 s:=
 Go.keepAll R fun Q E q=>h Q E fun a tk p=>q a s.heap tk (fun _ _ e=>e) p
theorem Go.same{t:Sem V}(R:SR I w.params g Z H s.heap)(h:∀ (Q:V->Shared->Prop) (E:Value->Shared->Prop),(∀ a,P1 g Z s a->Q a s)->wpAny (model prog w) A t Q E s) :
  Go I prog w A own L g Z H t H P1 s:=
 fun Q E q=>h Q E fun a p=>q a g Z s .refl R p
theorem Go.fresh{t:Sem Value}{o:Obj}{p:PV}(R:SR I w.params g Z H s.heap)(hp:∀ a,Rel I (y4j g a o) Z (.ref a) p)
 (h:∀ (Q:Value->Shared->Prop) (E:Value->Shared->Prop),(∀ a h' tk,(∀ b o,s.heap.get? b=some o->h'.get? b=some o)->s.heap.get? a=none->h'.get? a=some o->Q (.ref a) { s with heap:=h',toks:=tk })->wpAny (model prog w) A t Q E s) :
  Go I prog w A own L g Z H t H (P.val I p) s:=
 fun Q E q=>h Q E fun a h' tk hk hn ho=>q _ _ Z _ (.add R hk hn) (R.add hk hn ho) (hp a)
theorem get?_size(h:Heap):h.get? h.objs.size=none:=by
 induction e:h.get? h.objs.size using Option.casesOn with
 | none=>rfl
 | some o=>exact absurd (CV e) (EV _)
theorem q3u{vs:List Value}{ps:List PV}(R:SR I w.params g Z H s.heap)(hr:z0e I g Z vs ps)(hl:vs.length<=z2k):Go I prog w A own L g Z H (newTuple vs) H (P.val I (.tup ps)) s:=by
 intro Q E q
 have hn:=get?_size s.heap
 refine FG ?_ (by show vs.toArray.size<=sizeLine;rw [BV];exact hl)
 have hk:∀ b o,s.heap.get? b=some o->(s.heap.push (x4n vs 0)).get? b=some o:=fun b o e=>AU _ e
 have ho:(s.heap.push (x4n vs 0)).get? s.heap.objs.size=some (x4n vs 0):=BJ _ rfl
 exact q _ _ Z _ (z1c.add (tk:=s.toks) R hk hn) (R.add hk hn ho) (.tup (z2i ..) (j9a _ _) hl (hr.mono (z2w (R.gfree hn)) fun _ _ e=>e))
theorem q8y{vs:List Value}{ps:List PV}(R:SR I w.params g Z H s.heap)(hr:z0e I g Z vs ps)(hl:vs.length<=z2k):Go I prog w A own L g Z H (newList vs) H (P.val I (.lst ps)) s:=by
 intro Q E q
 have hn:=get?_size s.heap
 refine FG ?_ (by show vs.toArray.size<=sizeLine;rw [BV];exact hl)
 have hk:∀ b o,s.heap.get? b=some o->(s.heap.push (z5t vs 0)).get? b=some o:=fun b o e=>AU _ e
 have ho:(s.heap.push (z5t vs 0)).get? s.heap.objs.size=some (z5t vs 0):=BJ _ rfl
 exact q _ _ Z _ (z1c.add (tk:=s.toks) R hk hn) (R.add hk hn ho) (.lst (z2i ..) (y8k _ _) hl (hr.mono (z2w (R.gfree hn)) fun _ _ e=>e))
theorem y6f{vs:List Value}{ps:List PV}(R:SR I w.params g Z H s.heap)(hr:z0e I g Z vs ps)(hl:vs.length<=z2k)(hf:z0t 0 ps=true) :
  Go I prog w A own L g Z H (newList vs) (H++[.lst ps]) (P.val I (.ref H.length)) s:=by
 intro Q E q
 have hn:=get?_size s.heap
 refine FG ?_ (by show vs.toArray.size<=sizeLine;rw [BV];exact hl)
 have hk:∀ b o,s.heap.get? b=some o->(s.heap.push (z5t vs 0)).get? b=some o:=fun b o e=>AU _ e
 have ho:(s.heap.push (z5t vs 0)).get? s.heap.objs.size=some (z5t vs 0):=BJ _ rfl
 exact q _ _ _ _ (z1c.cellNew (c:=.lst ps) (tk:=s.toks) R hk hn) (R.cellNew hk hn ⟨_,vs,ho,y8k _ _,hl,hr.mono (fun _ _ e=>e) (y1k R.none_at),hf⟩) (.ref (y0c ..))
theorem k2q{V:Type}{Q:V->Shared->Prop}{E:Value->Shared->Prop}{c:Prop}[Decidable c]{a b:Sem V}(hc:¬ c)(h:wpAny (model prog w) A b Q E s):wpAny (model prog w) A (if c then a else b) Q E s:=by rw [AT hc];exact h
theorem j9b{x:Str}{Q:Value->Shared->Prop}{E:Value->Shared->Prop}(hk:env.scope.kind=.function)(hl:env.kindOf x=some .local\/env.kindOf x=some .cell\/env.kindOf x=some .free)(hc:(x==("__classdict__":Str))=false)
 (h:∀ F:Option Value->Sem Value,(∀ v,F (some v)=pure v)->(env.kindOf x=some .local->wpAny (model prog w) A (nsGet env.locals x>>=F) Q E s)/\(env.kindOf x=some .cell\/env.kindOf x=some .free->wpAny (model prog w) A (cellOf env x>>=fun a=>cellGet a>>=F) Q E s)) :
  wpAny (model prog w) A (loadName env x) Q E s:=by
 unfold loadName
 refine k2q (by rw [hk];exact CL) ?_
 rw [show env.blockKind=.function by unfold Env.blockKind;rw [hk];rfl]
 rcases hl with hl | hl | hl
 ·rw [hl]
  exact(h _ fun v=>rfl).1 hl
 ·rw [hl]
  exact(h _ fun v=>rfl).2 (.inl hl)
 ·rw [hl]
  exact k2q (by rw [hc];exact CL) ((h _ fun v=>rfl).2 (.inr hl))
theorem y2i{x:Str}{k:Nat}{p:PV}(R:SR I w.params g Z H s.heap)(O:z0j I own' env Y g Z s.heap)(hn:I.nm[k]?=some x)(hv:Y k=some p)
 (hk:env.kindOf x=some .local\/env.kindOf x=some .cell\/env.kindOf x=some .free)(hc:(x==("__classdict__":Str))=false) :
  Go I prog w A own L g Z H (loadName env x) H (P.val I p) s:=by
 refine Go.same R fun Q E q=>j9b O.kind hk hc fun F hF=>⟨fun hk=>?_,fun hk=>?_⟩
 ·obtain⟨m,hm,h⟩:=O.ns
  obtain⟨v,e,r⟩:=h k x p hn hk hv
  refine AB (wpAny_nsGet hm ?_)
  rw [e,hF]
  exact AJ (q v r)
 ·obtain⟨c,ov,h1,h2,_,_,_,h6⟩:=O.cells x hk
  obtain⟨v,rfl,r⟩:=h6 k p hn hv
  unfold cellOf cellGet
  rw [h1]
  refine AB (AJ (AB (AB (wpAny_load h2 ?_))))
  refine AJ ?_
  rw [hF]
  exact AJ (q v r)
theorem k2r{x:Str}{k:Nat}{p:PV}{pos:Pos}(R:SR I w.params g Z H s.heap)(O:z0j I own' env Y g Z s.heap)(hn:I.nm[k]?=some x)(hv:Y k=some p)
 (hk:env.kindOf x=some .local\/env.kindOf x=some .cell\/env.kindOf x=some .free)(hd:(x==("__debug__":Str))=false)(hc:(x==("__classdict__":Str))=false) :
  Go I prog w A own L g Z H (eval (.Name x pos) env) H (P.val I p) s:=fun Q E q=>wpAny_Name (y2i R O hn hv hk hc Q E q) hd
end
section
variable {I:z2s} {own own':List Addr} {L:Lim} {w:World} {g gb gC:Fz} {Z Z1 Z2:Bt} {H Hb H2:z0b} {s sB sC:Shared} {env:Env} {Y:z0l} {A:Around} {prog:Program}
structure AOk(A:Around)(lv:Nat):Prop where
 handled:A.handled=none
 depth:A.depth+12*lv<=800
 units:A.units+200*lv<=9000
theorem z0e.length{vs:List Value}{ps:List PV}(h:z0e I g Z vs ps):vs.length=ps.length:=z0e.ind (M:=fun vs ps=>vs.length=ps.length) rfl (fun _ _ ih=>AP (·+1) ih) h
theorem z0e.append{vs ws:List Value}{ps qs:List PV}(h:z0e I g Z vs ps)(k:z0e I g Z ws qs):z0e I g Z (vs++ws) (ps++qs):=z0e.ind (M:=fun vs ps=>z0e I g Z (vs++ws) (ps++qs)) k (fun h _ ih=>.cons h ih) h
theorem z0e.get{vs:List Value}{ps:List PV}(h:z0e I g Z vs ps):∀ {j:Nat} {p:PV},ps[j]?=some p->∃ v,vs[j]?=some v/\Rel I g Z v p:=
 z0e.ind (M:=fun vs ps=>∀ {j:Nat} {p:PV},ps[j]?=some p->∃ v,vs[j]?=some v/\Rel I g Z v p) (fun h=>nomatch h) (fun {v vs p ps} a _ ih {j} q h=>by
  induction j using Nat.casesOn with
  | zero=>exact⟨v,rfl,AF h▸a⟩
  | succ j=>exact ih h) h
theorem z0e.take{vs:List Value}{ps:List PV}(h:z0e I g Z vs ps):∀ n:Nat,z0e I g Z (vs.take n) (ps.take n):=
 z0e.ind (M:=fun vs ps=>∀ n:Nat,z0e I g Z (vs.take n) (ps.take n)) (fun n=>by rw [List.take_nil,List.take_nil];exact .nil) (fun a _ ih n=>by
  induction n using Nat.casesOn with
  | zero=>exact .nil
  | succ n=>exact .cons a (ih n)) h
theorem z0e.drop{vs:List Value}{ps:List PV}(h:z0e I g Z vs ps):∀ n:Nat,z0e I g Z (vs.drop n) (ps.drop n):=
 z0e.ind (M:=fun vs ps=>∀ n:Nat,z0e I g Z (vs.drop n) (ps.drop n)) (fun n=>by rw [FW,FW];exact .nil) (fun a r ih n=>by
  induction n using Nat.casesOn with
  | zero=>exact .cons a r
  | succ n=>exact ih n) h
theorem z0e.set{vs:List Value}{ps:List PV}(h:z0e I g Z vs ps):∀ (n:Nat) {v:Value} {p:PV},Rel I g Z v p->z0e I g Z (vs.set n v) (ps.set n p):=
 z0e.ind (M:=fun vs ps=>∀ (n:Nat) {v:Value} {p:PV},Rel I g Z v p->z0e I g Z (vs.set n v) (ps.set n p)) (fun n _ _ _=>.nil) (fun a r ih n _ _ h=>by
  induction n using Nat.casesOn with
  | zero=>exact .cons h r
  | succ n=>exact .cons a (ih n h)) h
theorem z0e.one{v:Value}{p:PV}(h:Rel I g Z v p):z0e I g Z [v] [p]:=.cons h .nil
theorem z0e.listMul{vs:List Value}{ps:List PV}(h:z0e I g Z vs ps):∀ n,z0e I g Z ((List.replicate n vs).flatten) (Mine.listMul ps n)
 | 0=>.nil
 | n+1=>by
  rw [DS,List.flatten_cons]
  exact h.append (z0e.listMul h n)
theorem z9k(R:SR I w.params g Z H s.heap){i:Nat}{a:Addr}(hi:Z i=some a){l:List PV}(e:z1d H i=some l):∃ o vs,s.heap.get? a=some o/\IsL o vs/\vs.length<=z2k/\z0e I g Z vs l/\z0t 0 l=true:=R.cell i a _ hi (z3s e)
inductive k2s(I:z2s)(g:Fz)(Z:Bt)(h:Heap)(v:Value)(ps:List PV):Prop
 | mk (a:Addr) (o:Obj) (vs:List Value) (h1:v=.ref a) (h2:h.get? a=some o) (h3:IsL o vs) (h4:vs.length<=z2k) (h5:z0e I g Z vs ps):k2s I g Z h v ps
theorem Rel.listIn(R:SR I w.params g Z H s.heap){v:Value}{p:PV}(h:Rel I g Z v p){l:List PV}(e:z5u H p=some l):k2s I g Z s.heap v l:=by
 unfold z5u at e
 split at e
 ·injection e with e;subst e
  obtain⟨a,o,vs,e,h1,h2,h3,h4⟩:=h.lst_inv
  exact⟨a,o,vs,e,R.sub _ _ h1,h2,h3,h4⟩
 ·obtain⟨a,ea,hi⟩:=h.ref_inv
  obtain⟨o,vs,h1,h2,h3,h4,_⟩:=z9k R hi e
  exact⟨a,o,vs,ea,h1,h2,h3,h4⟩
 ·contradiction
theorem z0p{h:Heap}{a:Addr}{o:Obj}{vs:List Value}(e:h.get? a=some o)(q:IsL o vs):h.IsList a vs.toArray:=let ⟨a,n,b,_⟩:=q;⟨_,e,a,n,b⟩
theorem z3t{h:Heap}{a:Addr}{o:Obj}{vs:List Value}(e:h.get? a=some o)(q:IsT o vs):h.IsTuple a vs.toArray:=⟨_,e,q⟩
theorem q8z{o:Obj}{p:PV}{Q:Value->Shared->Prop}(R:SR I w.params g Z H s.heap)(hf:o.isFreed=false)(hp:g s.heap.objs.size=none->Rel I (y4j g s.heap.objs.size o) Z (.ref s.heap.objs.size) p)
 (q:∀ a g' Z' s',z1c own L g Z H s g' Z' H s'->SR I w.params g' Z' H s'.heap->P.val I p g' Z' s' a->Q a s'):Q (.ref s.heap.objs.size) { s with heap:=s.heap.push o }:=by
 have hn:=get?_size s.heap
 have hk:∀ b x,s.heap.get? b=some x->(s.heap.push o).get? b=some x:=fun b x e=>AU _ e
 have ho:(s.heap.push o).get? s.heap.objs.size=some o:=BJ _ hf
 exact q _ _ Z _ (z1c.add (tk:=s.toks) R hk hn) (R.add hk hn ho) (hp (R.gfree hn))
theorem Go.push{t:Sem Value}{o:Obj}{p:PV}(R:SR I w.params g Z H s.heap)(hf:o.isFreed=false)(hp:g s.heap.objs.size=none->Rel I (y4j g s.heap.objs.size o) Z (.ref s.heap.objs.size) p)
 (h:∀ (Q:Value->Shared->Prop) (E:Value->Shared->Prop),Q (.ref s.heap.objs.size) { s with heap:=s.heap.push o }->wpAny (model prog w) A t Q E s) :
  Go I prog w A own L g Z H t H (P.val I p) s:=fun Q E q=>h Q E (q8z R hf hp q)
theorem Go.pushCell{t:Sem Value}{o:Obj}{c:z2u}(R:SR I w.params g Z H s.heap)(hf:o.isFreed=false)(hc:∀ h':Heap,h'.get? s.heap.objs.size=some o->y0b I w.params g (q3n Z H.length s.heap.objs.size) h' s.heap.objs.size c)
 (h:∀ (Q:Value->Shared->Prop) (E:Value->Shared->Prop),Q (.ref s.heap.objs.size) { s with heap:=s.heap.push o }->wpAny (model prog w) A t Q E s) :
  Go I prog w A own L g Z H t (H++[c]) (P.val I (.ref H.length)) s:=by
 intro Q E q
 have hn:=get?_size s.heap
 have hk:∀ b x,s.heap.get? b=some x->(s.heap.push o).get? b=some x:=fun b x e=>AU _ e
 have ho:(s.heap.push o).get? s.heap.objs.size=some o:=BJ _ hf
 exact h Q E (q _ _ _ _ (z1c.cellNew (c:=c) (tk:=s.toks) R hk hn) (R.cellNew hk hn (hc _ ho)) (.ref (y0c ..)))
theorem q0k{a b:Addr}{oa ob:Obj}{vs ws:List Value}{Q:Value->Shared->Prop}{E:Value->Shared->Prop}(ha:s.heap.get? a=some oa)(qa:IsL oa vs)(hb:s.heap.get? b=some ob)(qb:IsL ob ws)(hl:vs.length+ws.length<=z2k)
 (h:Q (.ref s.heap.objs.size) { s with heap:=s.heap.push (z5t (vs++ws) 0) }):wpAny (model prog w) A (binaryOp .Add (.ref a) (.ref b)) Q E s:=by
 obtain⟨ca,da,ta,sa⟩:=oa
 obtain⟨cb,db,tb,sb⟩:=ob
 obtain⟨rfl,n,rfl,_⟩:=qa
 obtain⟨rfl,m,rfl,_⟩:=qb
 refine concat_meets ⟨_,ha,rfl⟩ ⟨_,hb,rfl⟩ noFill_list_add seq_list_add PySem.F.slot_list_add PySem.F.entry_list_add (PySem.F.args_list_add_2 _ _)
  (list_addW a b vs.toArray ws.toArray n m da db sa sb (by simpa [z2k,sizeLine] using hl)) ⟨ha,hb,?_⟩
 have e:vs.toArray++ws.toArray=(vs++ws).toArray:=by simp
 rw [e]
 exact h
theorem q9a{a b:Addr}{oa ob:Obj}{vs ws:List Value}{Q:Value->Shared->Prop}{E:Value->Shared->Prop}(ha:s.heap.get? a=some oa)(qa:IsT oa vs)(hb:s.heap.get? b=some ob)(qb:IsT ob ws)(hl:vs.length+ws.length<=z2k)
 (h0:vs=[]->Q (.ref b) s)(h1:ws=[]->Q (.ref a) s)(h:Q (.ref s.heap.objs.size) { s with heap:=s.heap.push (x4n (vs++ws) 0) }):wpAny (model prog w) A (binaryOp .Add (.ref a) (.ref b)) Q E s:=by
 obtain⟨ca,da,ta,sa⟩:=oa
 obtain⟨cb,db,tb,sb⟩:=ob
 obtain⟨rfl,n,rfl⟩:=qa
 obtain⟨rfl,m,rfl⟩:=qb
 by_cases hv:vs=[]
 ·exact concat_meets ⟨_,ha,rfl⟩ ⟨_,hb,rfl⟩ noFill_tuple_add seq_tuple_add PySem.F.slot_tuple_add PySem.F.entry_tuple_add (PySem.F.args_tuple_add_2 _ _)
   (tuple_addW0 a b vs.toArray ws.toArray n m da db sa sb (by simp [hv])) ⟨ha,hb,h0 hv⟩
 ·by_cases hw:ws=[]
  ·exact concat_meets ⟨_,ha,rfl⟩ ⟨_,hb,rfl⟩ noFill_tuple_add seq_tuple_add PySem.F.slot_tuple_add PySem.F.entry_tuple_add (PySem.F.args_tuple_add_2 _ _)
    (tuple_addW1 a b vs.toArray ws.toArray n m da db sa sb (by simpa using hv) (by simp [hw])) ⟨ha,hb,h1 hw⟩
  ·refine concat_meets ⟨_,ha,rfl⟩ ⟨_,hb,rfl⟩ noFill_tuple_add seq_tuple_add PySem.F.slot_tuple_add PySem.F.entry_tuple_add (PySem.F.args_tuple_add_2 _ _)
    (tuple_addW2 a b vs.toArray ws.toArray n m da db sa sb (by simpa using hv) (by simpa using hw) (by simpa [z2k,sizeLine] using hl)) ⟨ha,hb,?_⟩
   have e:vs.toArray++ws.toArray=(vs++ws).toArray:=by simp
   rw [e]
   exact h
theorem z7z(xs:List Value):∀ (n:Nat) (acc:Array Value),List.foldl (fun x1 x2=>x1++x2) acc (List.replicate n xs.toArray)=acc++((List.replicate n xs).flatten).toArray
 | 0,acc=>by simp
 | n+1,acc=>by
  rw [DS,DA,z7z xs n,DS,List.flatten_cons]
  simp [Array.append_assoc]
theorem z9f(xs:List Value):∀ n,((List.replicate n xs).flatten).length=n*xs.length
 | 0=>by simp
 | n+1=>by rw [DS,List.flatten_cons,AC,z9f xs n,Nat.succ_mul];omega
theorem q3v{a:Addr}{o:Obj}{vs:List Value}{x:Int}{u:Tok}{Q:Value->Shared->Prop}{E:Value->Shared->Prop}(ha:s.heap.get? a=some o)(qa:IsL o vs)(hx:x.natAbs<=1000)(hl:vs.length<=1000)
 (h:Q (.ref s.heap.objs.size) { s with heap:=s.heap.push (z5t ((List.replicate x.toNat vs).flatten) 0) }):wpAny (model prog w) A (binaryOp .Mult (.ref a) (.int x u)) Q E s:=by
 obtain⟨ca,da,ta,sa⟩:=o
 obtain⟨rfl,n,rfl,_⟩:=qa
 have hm:vs.length*x.toNat<=1000*1000:=CK hl (AA (q0f _) hx)
 refine wpAny_binaryOp_repeat_ref (T:="list") (U:="int") (by decide) ⟨_,ha,rfl⟩ (fun s'=>typeIs_int s' x u) noFill_list_mul F.fills_int_mul F.slot_int_rmul repeat_list F.slot_int_index.lookup
  (call_meets F.slot_int_rmul (typeIs_int s x u) F.entry_int_rmul (F.args_int_rmul_2 _ _) (lm_int_rmul_list_any x u a vs.toArray n da sa)
   ⟨ha,rfl,⟨_,ha,rfl⟩,call_meets F.slot_list_mul ⟨_,ha,rfl⟩ F.entry_list_mul (F.args_list_mul_2 _ _)
    (lm_list_mul_any a vs.toArray n da sa x u (by rw [show Builtin.List.listFitsIndex x=true from AG.mpr ⟨AV (i64 (lk hx rfl)).1,AV (i64 (lk hx rfl)).2⟩];decide) (by simp;omega) (by simp [Builtin.List.listTooLong,sizeLine];omega))
    ⟨ha,?_⟩⟩)
 rw [z7z]
 have e:(#[]:Array Value)++((List.replicate (if vs.toArray.isEmpty=true then 0 else x.toNat) vs).flatten).toArray=((List.replicate x.toNat vs).flatten).toArray:=by
  induction vs using List.casesOn with
  | nil=>simp
  | cons v vs=>simp
 rw [e]
 exact h
theorem w1k{x:Str}{n:Int}(hn:n.natAbs<=1000)(hx:x.length<=1000):MulOk x n:=by
 refine⟨by simp;omega,fun h1 _=>?_,fun h1 _=>?_⟩
 ·have:(2^63 - 1:Int) / n>=1000:=by
   have hp:0<n:=by omega
   exact(Int.le_ediv_iff_mul_le hp).mpr (by omega)
  omega
 ·have hm:x.length*n.toNat<=1000*1000:=CK hx (by omega)
  simp [Builtin.Str.tooLong,sizeLine];omega
noncomputable def BOp.op:BOp->Operator
 | .add=>.Add
 | .sub=>.Sub
 | .mul=>.Mult
 | .fdiv=>.FloorDiv
 | .mod=>.Mod
 | .shl=>.LShift
 | .pow=>.Pow
 | .band=>.BitAnd
 | .bxor=>.BitXor
theorem j1v{a b:Int}(ha:small a=true):IntMulOk a b:=by
 refine IntMulOk.of_left ?_
 have:a.natAbs<2^64:=AK ha
 unfold Builtin.Int.intBits
 split
 ·omega
 ·rename_i h
  have h0:a.natAbs≠0:=by
   intro e
   apply h
   simp [Int.natAbs_eq_zero.mp e]
  have:=(Nat.log2_lt h0).mpr this
  omega
end
section
variable {I:z2s} {own own':List Addr} {L:Lim} {w:World} {g gb gC:Fz} {Z Z1 Z2:Bt} {H Hb H2:z0b} {s sB sC:Shared} {env:Env} {Y:z0l} {A:Around} {prog:Program} {lv:Nat}
theorem z6b{op:Value->Value->Sem Value}{u v:Value}{p q r:PV}{k:Int->Int->Option PV}(hu:Rel I g Z u p)(hv:Rel I g Z v q)(e:y8b p q k=some r)
 (K:∀ a b t t',k a b=some r->Go I prog w A own L g Z H (op (.int a t) (.int b t')) H (P.val I r) s):Go I prog w A own L g Z H (op u v) H (P.val I r) s:=by
 obtain⟨a,b,rfl,rfl,e⟩:=y3c e
 obtain⟨t,rfl⟩:=hu.int_inv
 obtain⟨t',rfl⟩:=hv.int_inv
 exact K a b t t' e
theorem k2t{u v:Value}{p q r:PV}(R:SR I w.params g Z H s.heap)(hu:Rel I g Z u p)(hv:Rel I g Z v q)(e:w5b H p q=some r) :
  Go I prog w A own L g Z H (binaryOp .Add u v) H (P.val I r) s:=by
 obtain⟨a,ha,e⟩:=z1e e
 obtain⟨b,hb,e⟩:=z1e e
 obtain⟨c,hc,rfl⟩:=z0z e
 obtain⟨h,rfl⟩:=q0e hc
 obtain⟨x,ox,vs,rfl,h1,h4,h2,h3⟩:=hu.listIn R ha
 obtain⟨y,oy,ws,rfl,k1,k4,k2,k3⟩:=hv.listIn R hb
 have hl:vs.length+ws.length<=z2k:=by rw [h3.length,k3.length,<- AC];exact h
 intro Q E q
 exact q0k h1 h4 k1 k4 hl (q8z R rfl (fun hn=>.lst (z2i ..) (y8k _ _) (by rw [AC];exact hl) ((h3.append k3).mono (z2w hn) fun _ _ e=>e)) q)
theorem x6s{u v:Value}{a b:List PV}{r:PV}(R:SR I w.params g Z H s.heap)(hu:Rel I g Z u (.tup a))(hv:Rel I g Z v (.tup b))(e:(sz (a++b)).map .tup=some r) :
  Go I prog w A own L g Z H (binaryOp .Add u v) H (P.val I r) s:=by
 obtain⟨c,hc,rfl⟩:=z0z e
 obtain⟨h,rfl⟩:=q0e hc
 obtain⟨x,ox,vs,rfl,h1,h4,h2,h3⟩:=hu.tup_inv
 obtain⟨y,oy,ws,rfl,k1,k4,k2,k3⟩:=hv.tup_inv
 have hl:vs.length+ws.length<=z2k:=by rw [h3.length,k3.length,<- AC];exact h
 intro Q E q
 refine q9a (R.sub _ _ h1) h4 (R.sub _ _ k1) k4 hl (fun hv=>?_) (fun hw=>?_) ?_
 ·refine q _ g Z s .refl R ?_
  subst hv
  cases h3
  exact .tup k1 k4 k2 k3
 ·refine q _ g Z s .refl R ?_
  subst hw
  cases k3
  rw [CG]
  exact .tup h1 h4 h2 h3
 ·exact q8z R rfl (fun hn=>.tup (z2i ..) (j9a _ _) (by rw [AC];exact hl) ((h3.append k3).mono (z2w hn) fun _ _ e=>e)) q
theorem k2u{u v:Value}{p q r:PV}(R:SR I w.params g Z H s.heap)(hu:Rel I g Z u p)(hv:Rel I g Z v q)(e:w5c H p q=some r) :
  Go I prog w A own L g Z H (binaryOp .Add u v) H (P.val I r) s:=by
 induction p using PV.casesOn with
 | int a=>exact z6b (p:=.int a) hu hv (k:=fun a b=>some (.int (a+b))) e fun a b t t' e=>by injection e with e;subst e;exact Go.tok R fun Q E k=>PySem.P.add_int (k _ _ (.int _ _))
 | str x=>
  obtain⟨y,rfl,e⟩:=z5b (show j1e q _=some r from e)
  obtain⟨h,e⟩:=z0o e
  obtain⟨t,rfl⟩:=hu.str_inv
  obtain⟨t',rfl⟩:=hv.str_inv
  injection e with e;subst e
  exact Go.tok R fun Q E k=>PyProof.Rows.add_str (fun t' tk=>k _ _ (.str _ _)) h
 | tup a=>
  obtain⟨b,rfl,e⟩:=j8u (show w1a q _=some r from e)
  exact x6s R hu hv e
 | _=>exact k2t R hu hv e
theorem x6t{u:Value}{p r:PV}{n:Int}{t:Tok}(R:SR I w.params g Z H s.heap)(hu:Rel I g Z u p)(e:((z5u H p).bind fun a=>if n.natAbs<=1000/\a.length<=1000 then some (.lst (listMul a n.toNat)) else none)=some r) :
  Go I prog w A own L g Z H (binaryOp .Mult u (.int n t)) H (P.val I r) s:=by
 obtain⟨a,ha,e⟩:=z1e e
 obtain⟨h,e⟩:=z0o e
 injection e with e;subst e
 obtain⟨x,ox,vs,rfl,h1,h4,h2,h3⟩:=hu.listIn R ha
 intro Q E q
 have hl:vs.length<=1000:=by rw [h3.length];exact h.2
 refine q3v h1 h4 h.1 hl (q8z R rfl (fun hn=>.lst (z2i ..) (y8k _ _) ?_ ((h3.listMul n.toNat).mono (z2w hn) fun _ _ e=>e)) q)
 rw [z9f]
 exact AA (CK (show n.toNat<=1000 by have:=h.1;lia) hl) (by decide)
theorem k2v{u v:Value}{p q r:PV}(R:SR I w.params g Z H s.heap)(hu:Rel I g Z u p)(hv:Rel I g Z v q)(e:w1b H p q=some r) :
  Go I prog w A own L g Z H (binaryOp .Mult u v) H (P.val I r) s:=by
 obtain⟨n,rfl,e⟩:=z5x e
 obtain⟨t',rfl⟩:=hv.int_inv
 induction p using PV.casesOn with
 | int a=>
  obtain⟨h,e⟩:=z0o e
  obtain⟨t,rfl⟩:=hu.int_inv
  injection e with e;subst e
  exact Go.tok R fun Q E k=>PySem.P.mul_int (k _ _ (.int _ _)) (j1v (z0u h).1)
 | str x=>
  obtain⟨h,e⟩:=z0o e
  obtain⟨t,rfl⟩:=hu.str_inv
  injection e with e;subst e
  exact Go.tok R fun Q E k=>SB.mul (w1k h.1 h.2) (fun t' tk=>k _ _ (.str _ _))
 | _=>exact x6t R hu e
theorem k2w{o:BOp}{u v:Value}{p q r:PV}(R:SR I w.params g Z H s.heap)(hu:Rel I g Z u p)(hv:Rel I g Z v q)(e:y5z o H p q=some r) :
  Go I prog w A own L g Z H (binaryOp o.op u v) H (P.val I r) s:=by
 cases o with
 | add=>exact k2u R hu hv e
 | mul=>exact k2v R hu hv e
 | sub=>exact z6b hu hv e fun a b t t' e=>by injection e with e;subst e;exact Go.tok R fun Q E k=>PySem.P.sub_int (k _ _ (.int _ _))
 | fdiv=>
  refine z6b hu hv e fun a b t t' e=>?_
  obtain⟨h,e⟩:=z0o e
  injection e with e;subst e
  exact Go.tok R fun Q E k=>floordiv_int h.1 (k _ _ (.int _ _)) (Or.inl (PyProof.noPylong_small (BN h.2 (by decide))))
 | mod=>
  refine z6b hu hv e fun a b t t' e=>?_
  obtain⟨h,e⟩:=z0o e
  injection e with e;subst e
  exact Go.tok R fun Q E k=>mod_int' h (k _ _ (.int _ _))
 | shl=>
  refine z6b hu hv e fun a b t t' e=>?_
  obtain⟨h,e⟩:=z0o e
  injection e with e;subst e
  exact Go.tok R fun Q E k=>lshift_int_small h.1 h.2.1 h.2.2 (k _ _ (.int _ _))
 | pow=>
  refine z6b hu hv e fun a b t t' e=>?_
  obtain⟨h,e⟩:=z0o e
  injection e with e;subst e
  exact Go.tok R fun Q E k=>pow_int_small h.1 h.2.1 h.2.2 (k _ _ (.int _ _))
 | band=>exact z6b hu hv e fun a b t t' e=>by injection e with e;subst e;exact Go.tok R fun Q E k=>and_int (k _ _ (.int _ _))
 | bxor=>exact z6b hu hv e fun a b t t' e=>by injection e with e;subst e;exact Go.tok R fun Q E k=>xor_int (k _ _ (.int _ _))
theorem k2x{o:BOp}{u v:Value}{p q r:PV}(R:SR I w.params g Z H s.heap)(hu:Rel I g Z u p)(hv:Rel I g Z v q)(e:x4f o p q=some r) :
  Go I prog w A own L g Z H (inplaceOp o.op u v) H (P.val I r) s:=by
 cases o with
 | add=>exact z6b hu hv e fun a b t t' e=>by injection e with e;subst e;exact Go.tok R fun Q E k=>iadd_int (k _ _ (.int _ _))
 | bxor=>exact z6b hu hv e fun a b t t' e=>by injection e with e;subst e;exact Go.tok R fun Q E k=>ixor_int (k _ _ (.int _ _))
 | _=>contradiction
theorem Rel.reads(hs:∀ a o,g a=some o->s.heap.get? a=some o){v:Value}{p:PV}{d:PyData}(h:Rel I g Z v p):z1n p=some d->∃ as,Reads s.heap v d as:=
 Rel.rec (motive_1:=fun v p _=>∀ d,z1n p=some d->∃ as,Reads s.heap v d as) (motive_2:=fun vs ps _=>∀ ds,z0n ps=some ds->∃ as,ReadsAll s.heap vs ds as)
  (fun _ e=>AF e▸⟨_,.none⟩) (fun b _ e=>AF e▸⟨_,.bool b⟩) (fun i t _ e=>AF e▸⟨_,.int i t⟩) (fun x t d e=>AF (z0o (show(if PyData.strOk x then some (PyData.str x) else Option.none)=some d from e)).2▸⟨_,.str x t⟩)
  (fun {a o vs ps} h c l _ ih d e=>by
   obtain⟨ds,q,rfl⟩:=z0z (show(z0n ps).map PyData.tuple=some d from e)
   obtain⟨as,x⟩:=ih ds q
   obtain⟨c1,n,c2⟩:=c
   exact⟨_,.tuple (hs _ _ h) c1 c2 x⟩)
  (fun {a o vs ps} h c l _ ih d e=>by
   obtain⟨ds,q,rfl⟩:=z0z (show(z0n ps).map PyData.list=some d from e)
   obtain⟨as,x⟩:=ih ds q
   obtain⟨c1,n,c2,_⟩:=c
   exact⟨_,.list (hs _ _ h) c1 c2 x⟩)
  (fun _ _ e=>nomatch e) (fun _ _ _ e=>nomatch e) (fun _ _ e=>nomatch e) (fun _ _ _ e=>nomatch e)
  (fun _ e=>AF e▸⟨_,.nil⟩)
  (fun {v vs p ps} _ _ ih1 ih2 ds e=>by
   obtain⟨d,h1,e⟩:=z1e (show((z1n p).bind fun d=>(z0n ps).map fun ds=>d::ds)=some ds from e)
   obtain⟨es,h2,rfl⟩:=z0z e
   obtain⟨as,x⟩:=ih1 d h1
   obtain⟨bs,y⟩:=ih2 es h2
   exact⟨_,.cons x y⟩) h d
theorem z0e.reads(hs:∀ a o,g a=some o->s.heap.get? a=some o){vs:List Value}{ps:List PV}{ds:List PyData}(h:z0e I g Z vs ps)(e:z0n ps=some ds):∃ as,ReadsAll s.heap vs ds as:=
 z0e.ind (M:=fun vs ps=>∀ ds,z0n ps=some ds->∃ as,ReadsAll s.heap vs ds as) (fun _ e=>AF e▸⟨_,.nil⟩) (fun {v vs p ps} h _ ih ds e=>by
  obtain⟨d,h1,e⟩:=z1e (show((z1n p).bind fun d=>(z0n ps).map fun ds=>d::ds)=some ds from e)
  obtain⟨es,h2,rfl⟩:=z0z e
  obtain⟨as,x⟩:=h.reads hs h1
  obtain⟨bs,y⟩:=ih es h2
  exact⟨_,.cons x y⟩) h ds e
theorem y4k:(∀ p d,z1n p=some d->d.canLay0=true)/\(∀ ps ds,z0n ps=some ds->PyData.canLayAll0 ds=true):=
 have str:∀ x d,z1n (.str x)=some d->d.canLay0=true:=fun x d e=>by
  obtain⟨h,e⟩:=z0o (show(if PyData.strOk x then some (PyData.str x) else none)=some d from e)
  injection e with e;subst e
  exact h
 have tup:∀ l,(∀ ds,z0n l=some ds->PyData.canLayAll0 ds=true)->∀ d,z1n (.tup l)=some d->d.canLay0=true:=fun l ih d e=>by
  obtain⟨ds,q,rfl⟩:=z0z (show(z0n l).map PyData.tuple=some d from e)
  exact ih ds q
 have lst:∀ l,(∀ ds,z0n l=some ds->PyData.canLayAll0 ds=true)->∀ d,z1n (.lst l)=some d->d.canLay0=true:=fun l ih d e=>by
  obtain⟨ds,q,rfl⟩:=z0z (show(z0n l).map PyData.list=some d from e)
  exact ih ds q
 have nil:∀ ds,z0n []=some ds->PyData.canLayAll0 ds=true:=fun ds e=>AF e▸rfl
 have cons:∀ p ps,(∀ d,z1n p=some d->d.canLay0=true)->(∀ ds,z0n ps=some ds->PyData.canLayAll0 ds=true)->∀ ds,z0n (p::ps)=some ds->PyData.canLayAll0 ds=true:=fun p ps ih1 ih2 ds e=>by
  obtain⟨d,h1,e⟩:=z1e (show((z1n p).bind fun d=>(z0n ps).map fun ds=>d::ds)=some ds from e)
  obtain⟨es,h2,rfl⟩:=z0z e
  exact AG.mpr ⟨ih1 d h1,ih2 es h2⟩
 ⟨PV.rec (motive_1:=fun p=>∀ d,z1n p=some d->d.canLay0=true) (motive_2:=fun ps=>∀ ds,z0n ps=some ds->PyData.canLayAll0 ds=true) (fun _ e=>AF e▸rfl) (fun _ _ e=>AF e▸rfl) (fun _ _ e=>AF e▸rfl) str tup lst (fun _ _ e=>nomatch e) (fun _ _ _ e=>nomatch e) (fun _ _ e=>nomatch e) (fun _ e=>nomatch e) nil cons,
 PV.rec_1 (motive_1:=fun p=>∀ d,z1n p=some d->d.canLay0=true) (motive_2:=fun ps=>∀ ds,z0n ps=some ds->PyData.canLayAll0 ds=true) (fun _ e=>AF e▸rfl) (fun _ _ e=>AF e▸rfl) (fun _ _ e=>AF e▸rfl) str tup lst (fun _ _ e=>nomatch e) (fun _ _ _ e=>nomatch e) (fun _ _ e=>nomatch e) (fun _ e=>nomatch e) nil cons⟩
theorem z2n{p:PV}{d:PyData}(h:z1n p=some d):d.canLay0=true:=y4k.1 p d h
theorem z3j{ps:List PV}{ds:List PyData}(h:z0n ps=some ds):PyData.canLayAll0 ds=true:=y4k.2 ps ds h
theorem AOk.lt{n:Nat}(hA:AOk A lv)(h:n<=64):A.units+n<cLine:=by have:=hA.units;simp only [cLine];lia
theorem q6g{u v:Value}{p q:PV}{r:Bool}(R:SR I w.params g Z H s.heap)(hA:AOk A lv)(hu:Rel I g Z u p)(hv:Rel I g Z v q)(e:eqD p q=some r) :
  Go I prog w A own L g Z H (compareOp .Eq u v) H (P.val I (.bool r)) s/\Go I prog w A own L g Z H (compareOp .NotEq u v) H (P.val I (.bool (!r))) s:=by
 obtain⟨d,h1,e⟩:=z1e e
 obtain⟨d',h2,e⟩:=z1e e
 obtain⟨hd,e⟩:=z0o e
 injection e with e;subst e
 have hun:A.units+64<cLine:=hA.lt (by decide)
 obtain⟨as,x⟩:=hu.reads R.sub h1
 obtain⟨bs,y⟩:=hv.reads R.sub h2
 have sh:∀ {p:PV} {d:PyData},z1n p=some d->d.depth<=30->SeqAt.shaped d=true:=fun {p d} h hd=>by
  show(d.canLay0&&_)=true
  rw [z2n h]
  exact AV (by lia)
 exact⟨Go.same R fun Q E k=>eq_dataH x y (sh h1 hd.1) (sh h2 hd.2) hun (k _ (.bool _)),Go.same R fun Q E k=>ne_dataH x y (sh h1 hd.1) (sh h2 hd.2) hun (k _ (.bool _))⟩
theorem k2y{u v:Value}{p q:PV}{r:Bool}(R:SR I w.params g Z H s.heap)(hA:AOk A lv)(hu:Rel I g Z u p)(hv:Rel I g Z v q)(e:eqV p q=some r) :
  Go I prog w A own L g Z H (compareOp .Eq u v) H (P.val I (.bool r)) s/\Go I prog w A own L g Z H (compareOp .NotEq u v) H (P.val I (.bool (!r))) s:=by
 induction p using PV.casesOn with
 | int a=>
  induction q using PV.casesOn with
  | int b=>
   obtain⟨t,rfl⟩:=hu.int_inv
   obtain⟨t',rfl⟩:=hv.int_inv
   injection e with e;subst e
   exact⟨Go.same R fun Q E k=>PySem.P.eq_int (k _ (.bool _)),Go.same R fun Q E k=>PySem.P.ne_int (k _ (.bool _))⟩
  | _=>exact q6g R hA hu hv e
 | str a=>
  induction q using PV.casesOn with
  | str b=>
   obtain⟨t,rfl⟩:=hu.str_inv
   obtain⟨t',rfl⟩:=hv.str_inv
   injection e with e;subst e
   exact⟨Go.same R fun Q E k=>PyProof.Rows.eq_str (k _ (.bool _)),Go.same R fun Q E k=>PyProof.Rows.ne_str (k _ (.bool _))⟩
  | _=>exact q6g R hA hu hv e
 | bool a=>
  cases q with
  | bool b=>
   obtain rfl:=hu.bool_inv
   obtain rfl:=hv.bool_inv
   injection e with e;subst e
   exact⟨Go.same R fun Q E k=>PyProof.Rows.eq_bool (k _ (.bool _)),Go.same R fun Q E k=>PyProof.Rows.ne_bool (k _ (.bool _))⟩
  | _=>exact q6g R hA hu hv e
 | _=>exact q6g R hA hu hv e
theorem j1w{p:PV}{l:List PV}{r:Bool}(e:inL p l=some r):∃ ds d,z0n l=some ds/\z1n p=some d/\d.depth<=30/\(ds.any fun y=>PyData.eqv y d)=r:=by
 obtain⟨ds,h1,e⟩:=z1e e
 obtain⟨d,h2,e⟩:=z1e e
 obtain⟨hd,e⟩:=z0o e
 exact⟨ds,d,h1,h2,hd,AF e⟩
theorem y3g{d:PyData}{n:Nat}(hA:AOk A lv)(hd:d.depth<=30):A.units+1+min n d.depth<cLine:=
 Nat.add_assoc ..▸hA.lt (AA (CS (AA (Nat.min_le_right _ _) hd) 1) (by decide))
theorem k2z{u v:Value}{p q:PV}{r:Bool}(R:SR I w.params g Z H s.heap)(hA:AOk A lv)(hu:Rel I g Z u p)(hv:Rel I g Z v q)(e:inV p q=some r) :
  Go I prog w A own L g Z H (compareOp .In u v) H (P.val I (.bool r)) s/\Go I prog w A own L g Z H (compareOp .NotIn u v) H (P.val I (.bool (!r))) s:=by
 induction q using PV.casesOn with
 | lst l=>
  obtain⟨ds,d,h1,h2,hd,rfl⟩:=j1w e
  have h3:z1n (.lst l)=some (.list ds):=by show(z0n l).map _=_;rw [h1];rfl
  obtain⟨as,x⟩:=hv.reads R.sub h3
  obtain⟨bs,y⟩:=hu.reads R.sub h2
  exact⟨Go.same R fun Q E k=>SeqAt.in_list_reads x y (z3j h1) (z2n h2) (y3g hA hd) (k _ (.bool _)),Go.same R fun Q E k=>SeqAt.notIn_list_reads x y (z3j h1) (z2n h2) (y3g hA hd) (k _ (.bool _))⟩
 | tup l=>
  obtain⟨ds,d,h1,h2,hd,rfl⟩:=j1w e
  have h3:z1n (.tup l)=some (.tuple ds):=by show(z0n l).map _=_;rw [h1];rfl
  obtain⟨as,x⟩:=hv.reads R.sub h3
  obtain⟨bs,y⟩:=hu.reads R.sub h2
  exact⟨Go.same R fun Q E k=>SeqAt.in_tuple_reads x y (z3j h1) (z2n h2) (y3g hA hd) (k _ (.bool _)),Go.same R fun Q E k=>SeqAt.notIn_tuple_reads x y (z3j h1) (z2n h2) (y3g hA hd) (k _ (.bool _))⟩
 | _=>contradiction
noncomputable def COp.op:COp->CmpOp
 | .eq=>.Eq
 | .ne=>.NotEq
 | .lt=>.Lt
 | .le=>.LtE
 | .gt=>.Gt
 | .ge=>.GtE
 | .in_=>.In
 | .nin=>.NotIn
theorem y8l{op:Value->Value->Sem Value}{u v:Value}{p q:PV}{r:Bool}{k:Int->Int->Bool}(hu:Rel I g Z u p)(hv:Rel I g Z v q)(e:(y8b p q fun a b=>some (k a b))=some r)
 (K:∀ a b t t',Go I prog w A own L g Z H (op (.int a t) (.int b t')) H (P.val I (.bool (k a b))) s):Go I prog w A own L g Z H (op u v) H (P.val I (.bool r)) s:=by
 obtain⟨a,b,rfl,rfl,e⟩:=y3c e
 obtain⟨t,rfl⟩:=hu.int_inv
 obtain⟨t',rfl⟩:=hv.int_inv
 injection e with e;subst e
 exact K a b t t'
theorem k3a{o:COp}{u v:Value}{p q:PV}{r:Bool}(R:SR I w.params g Z H s.heap)(hA:AOk A lv)(hu:Rel I g Z u p)(hv:Rel I g Z v q)(e:w0c o p q=some r) :
  Go I prog w A own L g Z H (compareOp o.op u v) H (P.val I (.bool r)) s:=by
 cases o with
 | eq=>exact(k2y R hA hu hv e).1
 | ne=>obtain⟨b,h,rfl⟩:=z0z e;exact(k2y R hA hu hv h).2
 | in_=>exact(k2z R hA hu hv e).1
 | nin=>obtain⟨b,h,rfl⟩:=z0z e;exact(k2z R hA hu hv h).2
 | lt=>exact y8l hu hv e fun a b t t'=>Go.same R fun Q E k=>PySem.P.lt_int (k _ (.bool _))
 | le=>exact y8l hu hv e fun a b t t'=>Go.same R fun Q E k=>PySem.P.le_int (k _ (.bool _))
 | gt=>exact y8l hu hv e fun a b t t'=>Go.same R fun Q E k=>PySem.P.gt_int (k _ (.bool _))
 | ge=>exact y8l hu hv e fun a b t t'=>Go.same R fun Q E k=>PySem.P.ge_int (k _ (.bool _))
theorem j9c{v:Value}{p:PV}{r:Bool}(R:SR I w.params g Z H s.heap)(hv:Rel I g Z v p)(e:z9c H p=some r) :
  Go I prog w A own L g Z H (truthy v) H (fun _ _ _ b=>b=r) s:=by
 cases p with
 | bool b=>obtain rfl:=hv.bool_inv;injection e with e;subst e;exact Go.same R fun Q E k=>AJ (k _ rfl)
 | int i=>obtain⟨t,rfl⟩:=hv.int_inv;injection e with e;subst e;exact Go.same R fun Q E k=>PySem.P.truthy_int (k _ rfl)
 | none=>obtain rfl:=hv.none_inv;injection e with e;subst e;exact Go.same R fun Q E k=>AJ (k _ rfl)
 | _=>contradiction
theorem x6u{ng:Bool}{v:Value}{p:PV}(R:SR I w.params g Z H s.heap)(hv:Rel I g Z v p) :
  Go I prog w A own L g Z H (compareOp (if ng then .IsNot else .Is) v .none) H (P.val I (.bool (z2v p != ng))) s:=by
 have e:(v==Value.none)=z2v p:=by cases hv<;>rfl
 induction ng using Bool.casesOn with
 | true=>
  refine Go.same R fun Q E k=>isnot_none_gen ?_
  rw [e];have:=k _ (.bool (z2v p != true));cases h:z2v p<;>simpa [h] using this
 | false=>
  refine Go.same R fun Q E k=>is_none_gen ?_
  rw [e];have:=k _ (.bool (z2v p != false));cases h:z2v p<;>simpa [h] using this
end
section
variable {I:z2s} {own own':List Addr} {L:Lim} {w:World} {g gb gC:Fz} {Z Z1 Z2:Bt} {H Hb H2:z0b} {s sB sC:Shared} {env:Env} {Y:z0l} {A:Around} {prog:Program} {lv:Nat}
theorem y3h{n:Nat}{k:Int}{j:Nat}(h:z6r n k=some j):j<n/\seqIndex? k n=some j/\(if k<0 then(j:Int)=k+n else(j:Int)=k):=by
 unfold z6r at h
 split at h
 ·rename_i h0
  split at h
  ·rename_i h1
   injection h with h;subst h
   have hk:¬ k<0:=by lia
   refine⟨by lia,?_,by rw [AT hk];lia⟩
   simp [seqIndex?,hk,h0,h1]
  ·contradiction
 ·rename_i h0
  split at h
  ·rename_i h1
   injection h with h;subst h
   have hk:k<0:=by lia
   have h2:k+(n:Int)<n:=by lia
   refine⟨by lia,?_,by rw [AR hk];lia⟩
   simp [seqIndex?,hk,h1,h2]
  ·contradiction
noncomputable def z6u(e:Expr):Bool:=e.ctorIdx==26
theorem z5j{slice:Expr}{o i:Value}(h:z6u slice=false):subscripted slice false o i=operate [o,i] (getItem o i):=by
 cases slice<;>first | rfl | contradiction
theorem j1x{value slice:Expr}{a:Addr}{o:Obj}{vs:List Value}{l:List PV}{r:PV}{k:Int}{t:Tok}{j:Nat}(R:SR I w.params g Z H s.heap)(hsl:z6u slice=false)(ha:s.heap.get? a=some o)(qa:IsL o vs)(hlen:vs.length<=z2k)(hr:z0e I g Z vs l)
 (hj:z6r l.length k=some j)(e:l[j]?=some r):Go I prog w A own L g Z H (subscriptTail value slice (.ref a) (.int k t)) H (P.val I r) s:=by
 obtain⟨h1,h2,h3⟩:=y3h hj
 obtain⟨v,hv,rv⟩:=hr.get e
 have hll:vs.toArray.size=l.length:=List.size_toArray.trans hr.length
 have hlen':l.length<=16777216:=hr.length▸hlen
 have hv':vs.toArray[j]?=some v:=by rw [DU];exact hv
 refine Go.same R fun Q E q=>tail_any (z0p ha qa).typeIs slot_list_getitem.lookup ?_ (z5j hsl)
 by_cases hk:k<0
 ·rw [AR hk] at h3
  exact wpAny_getItem_list_neg (x:=v) (z0p ha qa) hk (by lia) (by lia) (by rw [hll,<- h3];exact hv') (q _ rv)
 ·rw [AT hk] at h3
  exact wpAny_getItem_list (x:=v) (z0p ha qa) (by lia) (by lia) (by rw [<- h3];exact hv') (q _ rv)
theorem k3b{value slice:Expr}{u:Value}{p r:PV}{k:Int}{t:Tok}(R:SR I w.params g Z H s.heap)(hsl:z6u slice=false)(hu:Rel I g Z u p)(e:j1f H p k=some r) :
  Go I prog w A own L g Z H (subscriptTail value slice u (.int k t)) H (P.val I r) s:=by
 cases p with
 | str x=>
  obtain⟨hx,e⟩:=z0o e
  obtain⟨j,hj,e⟩:=z1e e
  obtain⟨c,hc,rfl⟩:=z0z e
  obtain⟨t',rfl⟩:=hu.str_inv
  obtain⟨h1,h2,h3⟩:=y3h hj
  refine Go.tok R fun Q E q=>?_
  have hb:(decide (k < -(2^63:Int)) || decide (k>=2^63))=false:=by
   rw [Bool.or_eq_false_iff]
   constructor
   ·exact DT (by split at h3<;>lia)
   ·exact DT (by split at h3<;>lia)
  exact tail_any (typeIs_str s x _) F.slot_str_getitem.lookup (PySem.P.getItem_str hb (by rw [h2];exact hc) (q _ _ (.str _ _))) (z5j hsl)
 | tup l=>
  obtain⟨j,hj,e⟩:=z1e (show((z6r l.length k).bind fun j=>l[j]?)=some r from e)
  obtain⟨h1,h2,h3⟩:=y3h hj
  obtain⟨a,o,vs,rfl,g1,g4,g2,g3⟩:=hu.tup_inv
  obtain⟨v,hv,rv⟩:=g3.get e
  have hlen':l.length<=16777216:=g3.length▸g2
  refine Go.same R fun Q E q=>tail_any (z3t (R.sub _ _ g1) g4).typeIs slot_tuple_getitem.lookup ?_ (z5j hsl)
  exact getItem_tuple (x:=v) (j:=j) (z3t (R.sub _ _ g1) g4) (by split at h3<;>lia) (by split at h3<;>lia) (by rw [BV,g3.length];exact h2) (by rw [DU];exact hv) (q _ rv)
 | lst l=>
  obtain⟨j,hj,e⟩:=z1e (show((z6r l.length k).bind fun j=>l[j]?)=some r from e)
  obtain⟨a,o,vs,rfl,g1,g4,g2,g3⟩:=hu.lst_inv
  exact j1x R hsl (R.sub _ _ g1) g4 g2 g3 hj e
 | ref i=>
  obtain⟨l',hl,e⟩:=z1e e
  obtain⟨j,hj,e⟩:=z1e e
  obtain⟨a,rfl,hi⟩:=hu.ref_inv
  obtain⟨o,vs,c1,c4,c2,c3,_⟩:=R.cell _ _ _ hi (z3s hl)
  exact j1x R hsl c1 c4 c2 c3 hj e
 | _=>contradiction
theorem z4k{lo hi:Option Expr}{pos:Pos}{o i:Value}:subscripted (.Slice lo hi none pos) false o i=operate [i,o] (getItem o i):=rfl
theorem k3c{V:Type}(l:List V)(a b:Nat):(l.drop (min a l.length)).take (min b l.length - min a l.length)=(l.take b).drop a:=by
 rw [List.drop_take]
 rcases Nat.le_total a l.length with h | h
 ·rw [Nat.min_eq_left h]
  rcases Nat.le_total b l.length with q | q
  ·rw [Nat.min_eq_left q]
  ·rw [Nat.min_eq_right q,FC (by simp),FC (by simp;lia)]
 ·rw [Nat.min_eq_right h,List.drop_of_length_le h,List.drop_of_length_le (AL _)]
  simp
theorem y8m{k:Int}{a:Nat}(h:x4g k=some a):k=(a:Int):=by
 obtain⟨h1,h2⟩:=z0o h
 injection h2 with h2;subst h2
 lia
theorem j9d(vs:List Value){lo hi:Option Int}{a:Nat}{b:Option Nat}(ha:loK lo=some a)(hb:hiK hi=some b):slicePick vs.toArray lo hi none=(k1r vs a (b.getD vs.length)).toArray:=by
 rw [slicePick_plain]
 congr 1
 have hlo:lo.elim 0 (clipAt vs.toArray.size)=min a vs.length:=by
  cases lo with
  | none=>injection ha with ha;subst ha;exact(Nat.zero_min _).symm
  | some k=>
   obtain rfl:=y8m (show x4g k=some a from ha)
   show clipAt vs.toArray.size (a:Int)=_
   rw [clipAt_nat,BV]
 have hhi:hi.elim vs.toArray.size (clipAt vs.toArray.size)=min (b.getD vs.length) vs.length:=by
  cases hi with
  | none=>injection hb with hb;subst hb;rw [Option.elim,BV];exact(Nat.min_self _).symm
  | some k=>
   obtain⟨c,hc,rfl⟩:=z0z (show(x4g k).map some=some b from hb)
   obtain rfl:=y8m hc
   show clipAt vs.toArray.size (c:Int)=_
   rw [clipAt_nat,BV];rfl
 rw [hlo,hhi]
 exact k3c vs _ _
theorem q3w(b n:Nat)(hb:b<=n):Builtin.Slice.sliceAdjust none (some (b:Int)) 1 (n:Int)=(0,(b:Int)):=by
 unfold Builtin.Slice.sliceAdjust
 have h1:¬ ((1:Int)<0):=by lia
 have h2:¬ ((b:Int)<0):=by lia
 simp only [h1,h2,if_false]
 congr 1
 lia
theorem q3x(b:Nat):Builtin.Slice.slicePlaces 0 (b:Int) 1=b:=by
 unfold Builtin.Slice.slicePlaces
 have h1:(1:Int) > 0:=by lia
 simp only [h1,if_true,Int.ediv_one]
 split<;>lia
theorem q0l{sl:Addr}{b n:Nat}{u:Tok}{Q:Int×Int×Nat->Shared->Prop}{E:Value->Shared->Prop}(hs:s.heap.IsSliceOf sl .none (.int b u) .none)(hb:b<=n)(h:Q (0,1,b) s) :
  wpAny (model prog w) A (Builtin.Slice.sliceApplied (.ref sl) (pure (n:Int))) Q E s:=by
 obtain⟨os,hos,hcs,hds⟩:=id hs
 unfold Builtin.Slice.sliceApplied Builtin.Slice.sliceFields
 refine AB (AB (wpAny_field hos hds (x:=.none) rfl (AB (wpAny_field hos hds (x:=.int b u) rfl (AB (wpAny_field hos hds (x:=.none) rfl (AJ ?_)))))))
 refine AB (slicePart_none ?_)
 show wpAny _ _ (if((1:Int)==0)=true then _ else _) _ _ s
 rw [AT (by decide)]
 refine AB (slicePart_none (AB (slicePart_int (AB (AJ ?_)))))
 show wpAny _ _ (match Builtin.Slice.sliceAdjust none (some (b:Int)) 1 (n:Int) with | (lo,hi)=>pure (lo,(1:Int),Builtin.Slice.slicePlaces lo hi 1)) _ _ s
 rw [q3w b n hb]
 show wpAny _ _ (pure ((0:Int),(1:Int),Builtin.Slice.slicePlaces (0:Int) (b:Int) 1)) _ _ s
 rw [q3x b]
 exact AJ h
theorem j1y(xs:Array Value)(b:Nat)(hb:b<=xs.size):((List.range b).filterMap fun(k:Nat)=>xs[((0:Int)+(k:Int)*1).toNat]?).toArray=(xs.toList.take b).toArray:=by
 congr 1
 have e:(fun(k:Nat)=>xs[((0:Int)+(k:Int)*1).toNat]?)=fun k=>xs[k]?:=by
  funext k
  have:((0:Int)+(k:Int)*1).toNat=k:=by lia
  rw [this]
 rw [e]
 apply List.ext_getElem?
 intro i
 have:∀ (m:Nat),m<=xs.size->(List.range m).filterMap (fun k=>xs[k]?)=xs.toList.take m:=by
  intro m
  induction m with
  | zero=>intro _;simp
  | succ m ih=>
   intro hm
   rw [List.range_succ,List.filterMap_append,ih (by lia)]
   have hx:xs[m]?=some xs[m]:=by simp [show m<xs.size by lia]
   rw [List.take_add_one]
   simp [hx,show m<xs.size by lia]
 rw [this b hb]
theorem q9b{t sl:Addr}{items:Array Value}{b:Nat}{u:Tok}{Q:Value->Shared->Prop}{E:Value->Shared->Prop}(ht:IsTup s.heap t items)(hs:s.heap.IsSliceOf sl .none (.int b u) .none)(hb:b<items.size)
 (h:Q (.ref s.heap.objs.size) { s with heap:=s.heap.push { cls:=.type "tuple",data:=.seq (items.toList.take b).toArray } })
 (hsz:items.size<=sizeLine):wpAny (model prog w) A (getItem (.ref t) (.ref sl)) Q E s:=by
 have hdrop:sizeOk (.seq (items.toList.take b).toArray):=by
  show(items.toList.take b).toArray.size<=sizeLine
  rw [BV,List.length_take,CM]
  lia
 obtain⟨os,hos,hcs,hds⟩:=id hs
 have hTs:s.TypeIs (.ref sl) "slice":=⟨os,hos,hcs⟩
 unfold getItem
 refine BW (AB (wpAny_sequenceKey ht.typeIs (by decide) ?_))
 refine AB (wpAny_callSpecial?_slot (name:=Str.ofString "__getitem__") ht.typeIs slot_tuple_getitem
  (EY slot_tuple_getitem ht.typeIs entry_tuple_getitem ?_ (args_tuple_getitem _ _)))
 show wpAny _ _ (Builtin.Tuple.tupleItemsOf (.ref t)>>=_) _ _ s
 refine AB (tupleItemsOf_ ht ?_)
 refine AB (wpAny_typeOf hTs ?_)
 rw [AR (by decide)]
 refine AB (q0l hs (BR hb) ?_)
 have hno:¬ (((0:Int)==0&&(1:Int)==1&&b==items.size)=true):=by
  have:(b==items.size)=false:=by rw [EX];lia
  rw [this];simp
 show wpAny _ _ (if((0:Int)==0&&(1:Int)==1&&b==items.size)=true then _ else _) _ _ s
 rw [AT hno,j1y items b (BR hb)]
 exact AB (m:=Builtin.Tuple.tupleExact _) (FG (AJ ⟨_,rfl,AJ h⟩) hdrop)
inductive j9e:Value->Option Int->Prop
 | none:j9e .none none
 | int (i:Int) (t:Tok):j9e (.int i t) (some i)
theorem j9e.is:∀ {v:Value} {o:Option Int},j9e v o->IsPart v o
 | _,_,.none=>.none
 | _,_,.int i t=>.int i t
theorem q0m{value:Expr}{lo' hi':Option Expr}{pos:Pos}{vl vu:Value}{lo hi:Option Int}{sl x:Addr}{o:Obj}{vs:List Value}{l:List PV}{a:Nat}{b:Option Nat}(R:SR I w.params g Z H s.heap)(hs:s.heap.IsSliceOf sl vl vu .none)(pl:j9e vl lo)(pu:j9e vu hi)
 (ha:loK lo=some a)(hb:hiK hi=some b)(hx:s.heap.get? x=some o)(qx:IsL o vs)(hl:vs.length<=z2k)(hr:z0e I g Z vs l) :
  Go I prog w A own L g Z H (subscriptTail value (.Slice lo' hi' none pos) (.ref x) (.ref sl)) H (P.val I (.lst (k1r l a (b.getD l.length)))) s:=by
 intro Q E q
 refine tail_any (z0p hx qx).typeIs slot_list_getitem.lookup ?_ z4k
 refine wpAny_getItem_list_slice (z0p hx qx) hs pl.is pu.is .none (fun h=>nomatch h) ?_ (AA (CJ BV) hl)
 rw [j9d vs ha hb]
 refine q8z (o:=z5t (k1r vs a (b.getD vs.length)) 0) R rfl (fun hn=>.lst (z2i ..) (y8k _ _) ?_ ?_) q
 ·unfold k1r;rw [List.length_drop,List.length_take];exact AA (Nat.sub_le _ _) (AA (Nat.min_le_right _ _) hl)
 ·rw [<- hr.length];exact((hr.take _).drop _).mono (z2w hn) fun _ _ e=>e
theorem j9f{value:Expr}{lo' hi':Option Expr}{pos:Pos}{u vl vu:Value}{p r:PV}{lo hi:Option Int}{sl:Addr}(R:SR I w.params g Z H s.heap)(hs:s.heap.IsSliceOf sl vl vu .none)(pl:j9e vl lo)(pu:j9e vu hi)
 (hu:Rel I g Z u p)(e:z7m H p lo hi=some r) :
  Go I prog w A own L g Z H (subscriptTail value (.Slice lo' hi' none pos) u (.ref sl)) H (P.val I r) s:=by
 obtain⟨a,ha,e⟩:=z1e e
 obtain⟨b,hb,e⟩:=z1e e
 cases p with
 | tup l=>
  obtain⟨h0,e⟩:=z0o e
  obtain⟨c,rfl,e⟩:=z1e e
  obtain⟨hk,e⟩:=z0o e
  injection e with e;subst e
  cases lo with
  | some _=>contradiction
  | none=>
   cases pl
   cases hi with
   | none=>contradiction
   | some i=>
    obtain⟨c',hc,e⟩:=z0z (show(x4g i).map some=some (some c) from hb)
    cases e
    obtain rfl:=y8m hc
    cases pu
    rename_i tk
    obtain⟨x,n,vs,rfl,g1,g4,g2,g3⟩:=hu.tup_inv
    intro Q E q
    refine tail_any (z3t (R.sub _ _ g1) g4).typeIs slot_tuple_getitem.lookup ?_ z4k
    refine q9b (b:=c) (u:=tk) (z3t (R.sub _ _ g1) g4) hs (by rw [BV,g3.length];exact hk) ?_ (AA (CJ BV) g2)
    refine q8z (o:=x4n (vs.take c) 0) R rfl (fun hn=>.tup (z2i ..) (j9a _ _) ?_ ?_) q
    ·rw [List.length_take];exact AA (Nat.min_le_right _ _) g2
    ·exact(g3.take _).mono (z2w hn) fun _ _ e=>e
 | lst l=>
  injection e with e;subst e
  obtain⟨x,n,vs,rfl,g1,g4,g2,g3⟩:=hu.lst_inv
  exact q0m R hs pl pu ha hb (R.sub _ _ g1) g4 g2 g3
 | ref i=>
  obtain⟨l,hc,rfl⟩:=z0z e
  obtain⟨x,rfl,hi⟩:=hu.ref_inv
  obtain⟨o,vs,c1,c4,c2,c3,_⟩:=R.cell _ _ _ hi (z3s hc)
  exact q0m R hs pl pu ha hb c1 c4 c2 c3
 | _=>contradiction
theorem j1z{value:Expr}{pos:Pos}{u:Value}{p:PV}{l:List PV}{sl:Addr}(R:SR I w.params g Z H s.heap)(hs:s.heap.IsSliceOf sl .none .none .none)
 (hu:Rel I g Z u p)(e:z5u H p=some l)(hf:z0t 0 l=true) :
  Go I prog w A own L g Z H (subscriptTail value (.Slice none none none pos) u (.ref sl)) (H++[.lst l]) (P.val I (.ref H.length)) s:=by
 obtain⟨x,o,vs,rfl,h1,h4,h2,h3⟩:=hu.listIn R e
 refine Go.pushCell (o:=z5t vs 0) R rfl (fun h' ho=>⟨_,vs,ho,y8k _ _,h2,h3.mono (fun _ _ e=>e) (y1k R.none_at),hf⟩) fun Q E q=>?_
 refine tail_any (z0p h1 h4).typeIs slot_list_getitem.lookup ?_ z4k
 refine wpAny_getItem_list_slice (z0p h1 h4) hs .none .none .none (by simp) ?_ (by simpa [z2k,sizeLine] using h2)
 rw [slicePick_all]
 exact q
end
section
variable {I:z2s} {own own':List Addr} {L:Lim} {w:World} {g gb gC:Fz} {Z Z1 Z2:Bt} {H Hb H2:z0b} {s sB sC:Shared} {env:Env} {Y:z0l} {A:Around} {prog:Program} {lv:Nat}
theorem y6r{l:List PV}{vs:List Value}{ns:List Int}(h:z0e I g Z vs l)(e:z5h l=some ns):IntsAre vs ns:=
 z0e.ind (M:=fun vs l=>∀ ns,z5h l=some ns->IntsAre vs ns) (fun _ e=>AF e▸.nil) (fun {v vs p ps} h _ ih ns e=>by
  obtain⟨i,rfl,e⟩:=z5x (show j1d p (fun i=>(z5h ps).map (i::·))=some ns from e)
  obtain⟨is,q,rfl⟩:=z0z e
  obtain⟨t,rfl⟩:=h.int_inv
  exact .cons _ _ (ih is q)) h ns e
theorem q9c{l:List PV}{vs:List Value}{ts:List Str}(h:z0e I g Z vs l)(e:z7v l=some ts):∃ xs:List (Str×Tok),vs=strValues xs/\xs.map (·.1)=ts:=
 z0e.ind (M:=fun vs l=>∀ ts,z7v l=some ts->∃ xs:List (Str×Tok),vs=strValues xs/\xs.map (·.1)=ts) (fun _ e=>AF e▸⟨[],rfl,rfl⟩) (fun {v vs p ps} h _ ih ts e=>by
  obtain⟨x,rfl,e⟩:=z5b (show j1e p (fun x=>(z7v ps).map (x::·))=some ts from e)
  obtain⟨xs,q,rfl⟩:=z0z e
  obtain⟨t,rfl⟩:=h.str_inv
  obtain⟨ys,rfl,rfl⟩:=ih xs q
  exact⟨(x,t)::ys,rfl,rfl⟩) h ts e
theorem y0d:∀ (xs:List (Str×Tok)),z0e I g Z (strValues xs) ((xs.map (·.1)).map .str)
 | []=>.nil
 | x::xs=>.cons (.str _ _) (y0d xs)
theorem q0n{vs:List Value}(h:vs.length<=z2k):((vs.toArray.size:Nat):Int)<2^63:=by
 rw [BV];simp only [z2k] at h;lia
theorem j2a{a:Addr}{o:Obj}{vs:List Value}{l:List PV}(R:SR I w.params g Z H s.heap)(ha:s.heap.get? a=some o)(qa:IsL o vs)(hl:vs.length<=z2k)(hr:z0e I g Z vs l) :
  Go I prog w A own L g Z H (call (.builtin "len") [.ref a]) H (P.val I (.int l.length)) s:=by
 have e:vs.toArray.size=l.length:=List.size_toArray.trans hr.length
 refine Go.tok R fun Q E q=>PySem.Calls.call_len_list (z0p ha qa) (q0n hl) ?_
 rw [e]
 exact q _ _ (.int _ _)
theorem k3d{u:Value}{p r:PV}(R:SR I w.params g Z H s.heap)(hu:Rel I g Z u p)(e:w5f H p=some r) :
  Go I prog w A own L g Z H (call (.builtin "len") [u]) H (P.val I r) s:=by
 induction p using PV.casesOn with
 | str x=>
  obtain⟨h,e⟩:=z0o e
  obtain⟨t,rfl⟩:=hu.str_inv
  injection e with e;subst e
  exact Go.tok R fun Q E q=>PySem.P.len_str (by lia) (q _ _ (.int _ _))
 | tup l=>
  injection e with e;subst e
  obtain⟨a,o,vs,rfl,g1,g4,g2,g3⟩:=hu.tup_inv
  have e:vs.toArray.size=l.length:=List.size_toArray.trans g3.length
  refine Go.tok R fun Q E q=>len_tuple (z3t (R.sub _ _ g1) g4) (q0n g2) ?_
  rw [e]
  exact q _ _ (.int _ _)
 | lst l=>
  injection e with e;subst e
  obtain⟨a,o,vs,rfl,g1,g4,g2,g3⟩:=hu.lst_inv
  exact j2a R (R.sub _ _ g1) g4 g2 g3
 | ref i=>
  obtain⟨l,hl,rfl⟩:=z0z e
  obtain⟨a,rfl,hi⟩:=hu.ref_inv
  obtain⟨o,vs,c1,c4,c2,c3,_⟩:=R.cell _ _ _ hi (z3s hl)
  exact j2a R c1 c4 c2 c3
 | _=>contradiction
theorem k3e{u:Value}{l:List PV}{ns:List Int}(R:SR I w.params g Z H s.heap)(hA:AOk A lv)(hu:Rel I g Z u (.lst l))(e:z5h l=some ns) :
  Go I prog w A own L g Z H (call (.builtin "sum") [u]) H (P.val I (.int ns.sum)) s:=by
 obtain⟨a,o,vs,rfl,g1,g4,g2,g3⟩:=hu.lst_inv
 have hi:=y6r g3 e
 obtain⟨xs,hx⟩:=hi.allInts.items
 have hl:s.heap.IsList a (intItems xs):=hx▸z0p (R.sub _ _ g1) g4
 refine Go.keepAll R fun Q E q=>sum_intListG hA.handled hl fun h' tk t' hk=>?_
 have hn:xs.toList.map (·.1)=ns:=by
  have h1:=hi.numsOf
  have h2:vs=(intItems xs).toList:=by rw [<- hx]
  rw [h2,nums_intItems] at h1
  exact h1
 have hs:preSum (numAt xs) xs.size=ns.sum:=by
  rw [preSum_eq,hn,FC (by rw [<- hn];simp)]
 rw [hs]
 exact q _ _ _ hk (.int _ _)
theorem x6v{u v:Value}{a b:Int}(R:SR I w.params g Z H s.heap)(hA:AOk A lv)(hu:Rel I g Z u (.int a))(hv:Rel I g Z v (.int b)) :
  Go I prog w A own L g Z H (call (.builtin "max") [u,v]) H (P.val I (.int (if b > a then b else a))) s:=by
 obtain⟨t,rfl⟩:=hu.int_inv
 obtain⟨t',rfl⟩:=hv.int_inv
 refine Go.keepAll R fun Q E q=>max_two_ints hA.handled fun h' tk hk=>?_
 refine q _ h' tk hk ?_
 split
 ·exact .int _ _
 ·exact .int _ _
theorem y2j:∀ (k fuel n:Nat) (ds:List Char),n<16^(k+1)->k<fuel->(Nat.toDigitsCore 16 fuel n ds).length<=k+1+ds.length
 | k,0,n,ds,_,h=>absurd h (EP _)
 | 0,f+1,n,ds,hn,_=>by
  unfold Nat.toDigitsCore
  have:n / 16=0:=Nat.div_eq_of_lt (by simpa using hn)
  simp only [this];simp;lia
 | k+1,f+1,n,ds,hn,h=>by
  unfold Nat.toDigitsCore
  simp only
  split
  ·simp;lia
  ·have:=y2j k f (n / 16) (Nat.digitChar (n % 16)::ds) (by
    rw [Nat.div_lt_iff_lt_mul (by decide)];rw [Nat.pow_succ] at hn;exact hn) (by lia)
   simp at this ⊢;lia
theorem j9g{i:Int}(h:i.natAbs<2^64):(baseText "0x" 16 i).length<=sizeLine:=by
 have h1:(Nat.toDigits 16 i.natAbs).length<=64:=by
  unfold Nat.toDigits
  by_cases q:15<i.natAbs+1
  ·have:=y2j 15 (i.natAbs+1) i.natAbs [] ‹_› q
   simp at this;exact lk ‹_› rfl
  ·have:=digitsCore_len 16 (i.natAbs+1) i.natAbs []
   simp at this;lia
 unfold baseText
 have ha:∀ a b:Str,(a++b).length=a.length+b.length:=fun a b=>by
  show(a.cps++b.cps).size=_
  simp [Str.length]
 rw [ha,ha]
 have h2:(Str.ofString (if i<0 then "-" else "")).length<=1:=by split<;>decide
 have h3:(Str.ofString "0x").length=2:=by decide
 have h4:(Str.ofString (String.ofList (Nat.toDigits 16 i.natAbs))).length=(Nat.toDigits 16 i.natAbs).length:=by
  rw [Str.ofString_eq_toList];simp [Str.length]
 rw [h3,h4]
 simp only [sizeLine];lia
theorem k3f{u:Value}{i:Int}(R:SR I w.params g Z H s.heap)(hu:Rel I g Z u (.int i))(h:i.natAbs<2^64):Go I prog w A own L g Z H (call (.builtin "hex") [u]) H (P.val I (.str (baseText "0x" 16 i))) s:=by
 obtain⟨t,rfl⟩:=hu.int_inv
 exact Go.tok R fun Q E q=>PySem.P.hex_of_int (q _ _ (.str _ _)) (j9g h)
theorem j9h{u:Value}{p:PV}{l:List PV}(R:SR I w.params g Z H s.heap)(hu:Rel I g Z u p)(e:z5u H p=some l) :
  Go I prog w A own L g Z H (call (.type "tuple") [u]) H (P.val I (.tup l)) s:=by
 obtain⟨a,o,vs,rfl,h1,h4,h2,h3⟩:=hu.listIn R e
 intro Q E q
 refine call_tuple_list (z0p h1 h4) (fun h' hk=>?_) (by simpa [z2k,sizeLine] using h2)
 have R':=R.keepAll (s:=s) hk
 have hn:=get?_size h'
 have hk2:∀ b x,s.heap.get? b=some x->(h'.push (x4n vs 0)).get? b=some x:=fun b x e=>AU _ (hk b x e)
 have hn':s.heap.get? h'.objs.size=none:=by
  induction e:s.heap.get? h'.objs.size using Option.casesOn with
  | none=>rfl
  | some o=>rw [hk _ _ e] at hn;contradiction
 exact q _ _ Z _ (z1c.add (a:=h'.objs.size) (o:=x4n vs 0) (tk:=s.toks) R hk2 hn') (R.add hk2 hn' (BJ _ rfl)) (.tup (z2i ..) (j9a _ _) h2 (h3.mono (z2w (R.gfree hn')) fun _ _ e=>e))
theorem j9i{u:Value}{x:Str}(R:SR I w.params g Z H s.heap)(hu:Rel I g Z u (.str x))(h:x.length<=100000):Go I prog w A own L g Z H (call (.builtin "str.lower") [u]) H (P.val I (.str (Txt.lower x))) s:=by
 obtain⟨t,rfl⟩:=hu.str_inv
 exact Go.tok R fun Q E q=>SCL.lower (lk ‹_› rfl) fun _=>q _ _ (.str _ _)
theorem j9j{u:Value}{x:Str}(R:SR I w.params g Z H s.heap)(hu:Rel I g Z u (.str x))(h:x.length<=100000):Go I prog w A own L g Z H (call (.builtin "str.upper") [u]) H (P.val I (.str (Txt.upper x))) s:=by
 obtain⟨t,rfl⟩:=hu.str_inv
 exact Go.tok R fun Q E q=>SCL.upper (by lia) fun _=>q _ _ (.str _ _)
theorem q0o(x:Str)(y:Str)(h:x.length<=100000):(Builtin.Str.partsBetween x (Builtin.Str.occurrences x y 0 x.length (x.length+1)) y.length).length<=200000:=by
 rw [length_partsBetween]
 have:=StrLaws.occ_length_le x y 0 x.length (x.length+1)
 lia
theorem j2b(x y:Str)(h:x.length<=100000):(Txt.split x y).length<=200000:=by
 unfold Txt.split
 split
 ·simp
 ·split
  ·simp
  ·exact q0o x y h
theorem j9k{u v:Value}{x y:Str}(R:SR I w.params g Z H s.heap)(hu:Rel I g Z u (.str x))(hv:Rel I g Z v (.str y))(h:x.length<=100000)(hy:y.length≠0) :
  Go I prog w A own L g Z H (call (.builtin "str.split") [u,v]) H (P.val I (.lst ((Txt.split x y).map .str))) s:=by
 obtain⟨t,rfl⟩:=hu.str_inv
 obtain⟨t',rfl⟩:=hv.str_inv
 intro Q E q
 have hy':(y.length==0)=false:=by simpa using hy
 have fin:∀ (l:List (Str×Tok)) (tk:Nat),l.map (·.1)=Txt.split x y->Q (.ref s.heap.objs.size) { s with heap:=s.heap.push (z5t (strValues l) 0),toks:=tk }:=fun l tk hl=>by
  have hn:=get?_size s.heap
  have hk:∀ b x,s.heap.get? b=some x->(s.heap.push (z5t (strValues l) 0)).get? b=some x:=fun b x e=>AU _ e
  refine q _ _ Z _ (z1c.add (a:=s.heap.objs.size) (o:=z5t (strValues l) 0) R hk hn) (R.add hk hn (BJ _ rfl)) (.lst (z2i ..) (y8k _ _) ?_ (hl▸y0d l))
  have:=j2b x y h
  rw [<- hl] at this
  simp only [strValues,AI,z2k] at this ⊢;exact lk ‹_› rfl
 cases h1:(decide (x.length<y.length) || decide (Builtin.Str.strKind x<Builtin.Str.strKind y))
 ·cases hf:(Builtin.Str.occurrences x y 0 x.length (x.length+1)).isEmpty
  ·refine call_meets F.slot_str_split (typeIs_str _ _ _) F.entry_str_split (F.args_str_split_2 _ _) (meets_str_split_sep x y t t' h1 hy' hf (by simp only [sizeLine];exact lk ‹_› rfl) (AA (q0o x y h) (by decide))) ?_
   show wants Q E _ { s with toks:=_,heap:=s.heap.push { cls:=.type "list",data:=.seq (strsFrom s.toks (Builtin.Str.partsBetween x (Builtin.Str.occurrences x y 0 x.length (x.length+1)) y.length)).toArray } }
   rw [strsFrom_eq]
   exact fin _ _ ((numbered_texts _ _).trans ((AT (ne_true_of_eq_false h1)).trans (AT (ne_true_of_eq_false hf))).symm)
  ·exact call_meets F.slot_str_split (typeIs_str _ _ _) F.entry_str_split (F.args_str_split_2 _ _) (meets_str_split_not_found x y t t' h1 hy' hf)
    (fin [(x,t)] _ ((AT (ne_true_of_eq_false h1)).trans (AR hf)).symm)
 ·exact call_meets F.slot_str_split (typeIs_str _ _ _) F.entry_str_split (F.args_str_split_2 _ _) (meets_str_split_cannot_occur x y t t' h1)
   (fin [(x,t)] _ (AR h1).symm)
theorem x6w{u v:Value}{x:Str}{p:PV}{l:List PV}{ts:List Str}(R:SR I w.params g Z H s.heap)(hu:Rel I g Z u (.str x))(hv:Rel I g Z v p)(e:z5u H p=some l)(ht:z7v l=some ts)(hok:JoinOk x ts=true) :
  Go I prog w A own L g Z H (call (.builtin "str.join") [u,v]) H (P.val I (.str (Txt.join x ts))) s:=by
 obtain⟨t,rfl⟩:=hu.str_inv
 obtain⟨a,o,vs,rfl,h1,h4,h2,h3⟩:=hv.listIn R e
 obtain⟨xs,rfl,rfl⟩:=q9c h3 ht
 exact Go.tok R fun Q E q=>SC.join (z0p h1 h4) rfl hok fun t' k=>q _ _ (.str _ _)
theorem y4l{d:PyData}:∀ {ds:List PyData} {n:Nat},z7w d ds=some n->n<ds.length/\(∀ y,ds[n]?=some y->PyData.eqv y d=true)/\∀ m y,m<n->ds[m]?=some y->PyData.eqv y d=false
 | [],_,e=>by contradiction
 | x::r,n,e=>by
  have e:(if PyData.eqv x d=true then some 0 else(z7w d r).map (·+1))=some n:=e
  by_cases h:PyData.eqv x d=true
  ·rw [AR h] at e
   injection e with e;subst e
   exact⟨by simp,fun y hy=>by simp at hy;subst hy;exact h,fun m y hm=>absurd hm (EP _)⟩
  ·rw [AT h] at e
   induction q:z7w d r using Option.casesOn with
   | none=>rw [q] at e;contradiction
   | some k=>
    rw [q] at e;injection e with e;subst e
    obtain⟨h1,h2,h3⟩:=y4l q
    refine⟨by simp;exact h1,fun y hy=>h2 y (by simpa using hy),fun m y hm hy=>?_⟩
    induction m using Nat.casesOn with
    | zero=>simp at hy;subst hy;simpa using h
    | succ m=>exact h3 m y (by simp at hm;lia) (by simpa using hy)
theorem q0p(hs:∀ a o,g a=some o->s.heap.get? a=some o){vs:List Value}{l:List PV}{ds:List PyData}(h:z0e I g Z vs l)(e:z0n l=some ds):∀ j (hj:j<vs.length),ds[j]?=some (SeqAt.readOf s.heap vs[j]):=
 z0e.ind (M:=fun vs l=>∀ ds,z0n l=some ds->∀ j (hj:j<vs.length),ds[j]?=some (SeqAt.readOf s.heap vs[j])) (fun _ _ j hj=>absurd hj (EP _)) (fun {v vs p ps} h _ ih ds e j hj=>by
  obtain⟨d,h1,e⟩:=z1e (show((z1n p).bind fun d=>(z0n ps).map fun ds=>d::ds)=some ds from e)
  obtain⟨es,h2,rfl⟩:=z0z e
  induction j using Nat.casesOn with
  | zero=>
   obtain⟨as,x⟩:=h.reads hs h1
   exact AP some (SeqAt.readOf_eq (z2n h1) x).symm
  | succ j=>exact ih es h2 j (Nat.lt_of_succ_lt_succ hj)) h ds e
theorem y4m:∀ {l:List PV} {ds:List PyData},z0n l=some ds->l.length=ds.length
 | [],ds,e=>AF e▸rfl
 | p::l,ds,e=>by
  obtain⟨d,h1,e⟩:=z1e (show((z1n p).bind fun d=>(z0n l).map fun ds=>d::ds)=some ds from e)
  obtain⟨es,h2,rfl⟩:=z0z e
  exact AP (·+1) (y4m h2)
theorem j9l{u v:Value}{p:PV}{l:List PV}{ds:List PyData}{d:PyData}{n:Nat}(R:SR I w.params g Z H s.heap)(hA:AOk A lv)(hu:Rel I g Z u (.lst l))(hv:Rel I g Z v p)
 (h1:z0n l=some ds)(h2:z1n p=some d)(hd:d.depth=0)(h3:z7w d ds=some n) :
  Go I prog w A own L g Z H (call (.builtin "list.index") [u,v]) H (P.val I (.int n)) s:=by
 have hun:=hA.units
 obtain⟨a,o,vs,rfl,g1,g4,g2,g3⟩:=hu.lst_inv
 obtain⟨as,x⟩:=g3.reads R.sub h1
 obtain⟨bs,y⟩:=hv.reads R.sub h2
 obtain⟨i1,i2,i3⟩:=y4l h3
 have hlen:vs.length=ds.length:=g3.length.trans (y4m h1)
 have ho:=R.sub _ _ g1
 obtain⟨cls,dd,data,sl⟩:=o
 obtain⟨rfl,k,rfl,_⟩:=g4
 have hj:n<vs.length:=by lia
 simp only [z2k] at g2
 refine Go.tok R fun Q E q=>call_meets PySem.F.slot_list_index ⟨_,ho,rfl⟩ PySem.F.entry_list_index (PySem.F.args_list_index_2 _ _)
  (SeqAt.list_indexAt a vs.toArray k dd sl v (fun z=>PyData.eqv (SeqAt.readOf s.heap z) d) n (by simpa using hj) (by lia) ?_ ?_) ⟨ho,?_,q _ _ (.int _ _)⟩
 ·have:=q0p R.sub g3 h1 n hj
  simpa using i2 _ this
 ·intro m hm hlt
  have hm':m<vs.length:=by simpa using hm
  have:=q0p R.sub g3 h1 m hm'
  simpa using i3 m _ hlt this
 ·exact SeqAt.items_eqAt (by simpa using x) y (z3j h1) (z2n h2) (by rw [hd];simp only [cLine];lia)
end
noncomputable def KOk(n:Nat)(key:Nat->Int){V:Type}:KasT V->(V->Prop)->Prop
 | .ret a,Q=>Q a
 | .ask i j k,Q=>i<n/\j<n/\KOk n key (k (decide (key i<key j))) Q
section
variable {n:Nat} {key:Nat->Int} {V A8:Type}
theorem KOk.bind{Q:A8->Prop}{f:V->KasT A8}:∀ {t:KasT V},KOk n key t (fun a=>KOk n key (f a) Q)->KOk n key (t.bind f) Q
 | .ret _,h=>h
 | .ask _ _ _,h=>⟨h.1,h.2.1,KOk.bind h.2.2⟩
theorem KOk.wp{cmp:Nat->Nat->(Bool->Shared->Prop)->Shared->Prop}{s:Shared}(hc:∀ i j (C:Bool->Shared->Prop),i<n->j<n->C (decide (key i<key j)) s->cmp i j C s){Q:V->Shared->Prop}:∀ {t:KasT V},KOk n key t (fun a=>Q a s)->t.kasWp cmp Q s
 | .ret _,h=>h
 | .ask i j k,h=>hc i j _ h.1 h.2.1 (KOk.wp hc h.2.2)
theorem KOk.mono{Q Q':V->Prop}(hq:∀ a,Q a->Q' a):∀ {t:KasT V},KOk n key t Q->KOk n key t Q'
 | .ret _,h=>hq _ h
 | .ask _ _ _,h=>⟨h.1,h.2.1,KOk.mono hq h.2.2⟩
noncomputable def PB(n:Nat)(p:Array Nat):Prop:=p.Perm (List.range n).toArray
theorem PB.size{p:Array Nat}(h:PB n p):p.size=n:=by have:=h.size_eq;simpa using this
theorem PB.lt{p:Array Nat}(h:PB n p){i:Nat}(hi:i<n):p.getD i 0<n:=by
 have hi':i<p.size:=by rw [h.size];exact hi
 have e:p.getD i 0=p[i]:=by simp [Array.getD,hi']
 rw [e]
 have hm:p[i]∈(List.range n).toArray.toList:=(FI.mp h).mem_iff.mp (by simp)
 simpa using hm
theorem PB.trans{p q:Array Nat}(h:PB n p)(hq:q.Perm p):PB n q:=Array.Perm.trans hq h
noncomputable def kk(key:Nat->Int)(p:Array Nat)(i:Nat):Int:=key (p.getD i 0)
noncomputable def Srt(key:Nat->Int)(p:Array Nat)(k:Nat):Prop:=∀ i j,i<=j->j<k->kk key p i<=kk key p j
noncomputable def k3g(key:Nat->Int)(p:Array Nat)(k:Nat):Prop:=∀ i j,i<=j->j<k->kk key p j<=kk key p i
theorem q3y{xs:Array Nat}{i:Nat}{o:Option Nat}(h:xs[i]?=o):kk key xs i=key (o.getD 0):=by
 subst h;exact AP key FH
theorem x6x{c:Prop}[Decidable c]{a b:Option Nat}:key ((if c then a else b).getD 0)=if c then key (a.getD 0) else key (b.getD 0):=apply_ite (fun o=>key (Option.getD o 0)) c a b
theorem j2c{xs:Array Nat}{src d:Nat}(hs:src<xs.size)(hd:d<=src)(k:Nat) :
  kk key (bubble xs src d) k=if k=src - d then kk key xs src else if src - d<k/\k<=src then kk key xs (k - 1) else kk key xs k:=by
 rw [q3y (getElem?_bubble hs d hd k),x6x (key:=key),x6x (key:=key),<- q3y (key:=key) rfl,<- q3y (key:=key) rfl,<- q3y (key:=key) rfl]
theorem j2d{xs:Array Nat}{i j:Nat}(hj:j<=xs.size)(k:Nat) :
  kk key (kas_rev xs i j) k=if i<=k/\k<j then kk key xs (i+j - 1 - k) else kk key xs k:=by
 refine(q3y (getElem?_mirror_all (i:=i) hj k)).trans ?_
 rw [x6x (key:=key),<- q3y (key:=key) rfl,<- q3y (key:=key) rfl]
theorem z8a{xs:Array Nat}{i j:Nat}(hj:j<=xs.size)(heq:∀ k,i<=k->k<j->kk key xs k=kk key xs (j - 1))(k:Nat) :
  kk key (kas_rev xs i j) k=kk key xs k:=by
 rw [j2d hj]
 by_cases h:i<=k/\k<j
 ·rw [AR h,heq _ (Nat.le_sub_of_add_le (Nat.le_sub_one_of_lt (Nat.add_lt_add_left h.2 i))) (AZ (Nat.sub_le_sub_left h.1 _) (by rw [Nat.sub_right_comm,CW];exact Nat.sub_one_lt_of_le (AZ (BK _) h.2) (AL _))),heq k h.1 h.2]
 ·exact AT h
theorem x6y{p:Array Nat}(hp:PB n p){Q:Nat->Prop}:∀ (f m:Nat),1<=m->m+f<=n->Srt key p m ->
  (∀ r,m<=r->r<=m+f->Srt key p r->(r=m+f\/kk key p r<kk key p (r - 1))->Q r)->KOk n key (kas_asc p f m) Q
 | 0,m,h1,h2,hs,h=>h m (AL _) (by lia) hs (.inl rfl)
 | f+1,m,h1,h2,hs,h=>by
  refine⟨hp.lt (by lia),hp.lt (by lia),?_⟩
  dsimp only
  by_cases hl:kk key p m<kk key p (m - 1)
  ·have e:decide (key (p.getD m 0)<key (p.getD (m - 1) 0))=true:=AV hl
   rw [AR e]
   exact h m (AL _) (by lia) hs (.inr hl)
  ·have e:¬ decide (key (p.getD m 0)<key (p.getD (m - 1) 0))=true:=fun e=>hl (AK e)
   rw [AT e]
   refine x6y hp f (m+1) (by lia) (by lia) (fun i j hij hj=>?_) fun r a b c d=>h r (by lia) (by lia) c (by rcases d with d | d;exact .inl (by lia);exact .inr d)
   by_cases hjx:j<m
   ·exact hs i j hij hjx
   ·have hj':j=m:=by lia
    subst hj'
    by_cases hi':i=j
    ·subst hi';exact FJ _
    ·exact EQ (hs i (j - 1) (by lia) (by lia)) (Int.not_lt.mp hl)
theorem j2e{Q:Array Nat×Nat×Nat->Prop}:∀ (f:Nat) (p:Array Nat) (m q:Nat),PB n p->1<=m->m+f<=n->k3g key p m->q+1<=m->(∀ i,m - (q+1)<=i->i<m->kk key p i=kk key p (m - 1)) ->
  (∀ p' m' q',PB n p'->m<=m'->m'<=m+f->k3g key p' m'->q'+1<=m'->(∀ i,m' - (q'+1)<=i->i<m'->kk key p' i=kk key p' (m' - 1))->Q (p',m',q'))->KOk n key (kas_desc f p m q) Q
 | 0,p,m,q,hp,h1,h2,hs,hq,he,h=>h p m q hp (AL _) (by lia) hs hq he
 | f+1,p,m,q,hp,h1,h2,hs,hq,he,h=>by
  refine⟨hp.lt (by lia),hp.lt (by lia),?_⟩
  dsimp only
  by_cases hl:kk key p m<kk key p (m - 1)
  ·have e:decide (key (p.getD m 0)<key (p.getD (m - 1) 0))=true:=AV hl
   rw [AR e]
   have step1:∀ xs:Array Nat,(∀ k,kk key xs k=kk key p k)->k3g key xs (m+1):=by
    intro xs hk i j hij hj
    rw [hk,hk]
    by_cases hjx:j<m
    ·exact hs i j hij hjx
    ·have hj':j=m:=by lia
     subst hj'
     by_cases hi':i=j
     ·subst hi';exact FJ _
     ·exact EQ (Int.le_of_lt hl) (hs i (j - 1) (by lia) (by lia))
   have go:∀ xs:Array Nat,PB n xs->(∀ k,kk key xs k=kk key p k)->KOk n key (kas_desc f xs (m+1) 0) Q:=fun xs hx hk=>
    j2e f xs (m+1) 0 hx (by lia) (by lia) (step1 xs hk) (by lia) (fun i a b=>by congr 1;lia) fun p' m' q' a b c d e' g=>h p' m' q' a (by lia) (by lia) d e' g
   by_cases hq0:q > 0
   ·rw [AR hq0]
    exact go _ (hp.trans (mirror_perm _ _ _ _)) (z8a (by rw [hp.size];lia) he)
   ·rw [AT hq0]
    exact go p hp fun _=>rfl
  ·have e:¬ decide (key (p.getD m 0)<key (p.getD (m - 1) 0))=true:=fun e=>hl (AK e)
   rw [AT e]
   refine⟨hp.lt (by lia),hp.lt (by lia),?_⟩
   dsimp only
   by_cases hg:kk key p (m - 1)<kk key p m
   ·have e2:decide (key (p.getD (m - 1) 0)<key (p.getD m 0))=true:=AV hg
    rw [AR e2]
    exact h p m q hp (AL _) (by lia) hs hq he
   ·have e2:¬ decide (key (p.getD (m - 1) 0)<key (p.getD m 0))=true:=fun e=>hg (AK e)
    rw [AT e2]
    have heqx:kk key p m=kk key p (m - 1):=by lia
    refine j2e f p (m+1) (q+1) hp (by lia) (by lia) (fun i j hij hj=>?_) (by lia) (fun i a b=>?_) fun p' m' q' a b c d e' g=>h p' m' q' a (by lia) (by lia) d e' g
    ·by_cases hjx:j<m
     ·exact hs i j hij hjx
     ·have hj':j=m:=by lia
      subst hj'
      by_cases hi':i=j
      ·subst hi';exact FJ _
      ·rw [heqx];exact hs i (j - 1) (by lia) (by lia)
    ·rw [show m+1 - 1=m by lia]
     by_cases hix:i=m
     ·subst hix;rfl
     ·rw [heqx];exact he i (by lia) (by lia)
theorem j2f{p:Array Nat}{m:Nat}{Q:Nat×Array Nat->Prop}(hp:PB n p)(h1:1<=m)(h2:m<=n)(hs:k3g key p m)(h:∀ r p',PB n p'->1<=r->r<=n->Srt key p' r->Q (r,p')):KOk n key (kas_tail3 m n p) Q:=by
 have hp':PB n (kas_rev p 0 m):=hp.trans (mirror_perm _ _ _ _)
 refine KOk.bind (x6y hp' _ _ h1 (by lia) (fun i j hij hj=>?_) fun r a b c _=>h r _ hp' (by lia) (by lia) c)
 have hsz:m<=p.size:=by rw [hp.size];exact h2
 rw [j2d hsz,j2d hsz,AR ⟨BK _,AZ hij hj⟩,AR ⟨BK _,hj⟩]
 exact hs _ _ (Nat.sub_le_sub_left hij _) (AZ (Nat.sub_le _ _) (by rw [DE];exact Nat.sub_one_lt_of_le h1 (AL m)))
theorem y6s{p:Array Nat}{m:Nat}{Q:Nat×Array Nat->Prop}(hp:PB n p)(h2:m+1<=n)(hs:k3g key p (m+1))(h:∀ r p',PB n p'->1<=r->r<=n->Srt key p' r->Q (r,p')):KOk n key (kas_descPart m n p) Q:=by
 refine KOk.bind (j2e _ p (m+1) 0 hp (by lia) (by lia) hs (by lia) (fun i a b=>by congr 1;lia) fun p' m' q' a b c d e' g=>?_)
 dsimp only
 have hsz:m'<=p'.size:=by rw [a.size];lia
 by_cases hq:q' > 0
 ·rw [AR hq]
  refine j2f (a.trans (mirror_perm _ _ _ _)) (by lia) (by lia) (fun i j hij hj=>?_) h
  rw [z8a hsz g,z8a hsz g]
  exact d i j hij hj
 ·rw [AT hq]
  exact j2f a (by lia) (by lia) d h
theorem x6z{p:Array Nat}{Q:Nat×Array Nat->Prop}(hp:PB n p)(h1:1<=n)(h:∀ r p',PB n p'->1<=r->r<=n->Srt key p' r->Q (r,p')):KOk n key (kas_count n p) Q:=by
 refine KOk.bind (x6y hp (n - 1) 1 (AL 1) (by lia) (fun i j hij hj=>by
  have:i=j:=by lia
  subst this
  exact FJ _) fun m a b c d=>?_)
 by_cases hm:m=n
 ·rw [AR (by simpa using hm)]
  exact h m p hp a (by lia) c
 ·rw [AT (by simpa using hm)]
  have hlt:kk key p m<kk key p (m - 1):=d.resolve_left (by lia)
  by_cases hgt:m > 1
  ·rw [AR hgt]
   refine⟨hp.lt (by lia),hp.lt (by lia),?_⟩
   dsimp only
   by_cases hr:kk key p 0<kk key p (m - 1)
   ·have e:decide (key (p.getD 0 0)<key (p.getD (m - 1) 0))=true:=AV hr
    rw [AR e]
    exact h m p hp a (by lia) c
   ·have e:¬ decide (key (p.getD 0 0)<key (p.getD (m - 1) 0))=true:=fun e=>hr (AK e)
    rw [AT e]
    have hsz:m<=p.size:=by rw [hp.size];lia
    have hall:∀ k,0<=k->k<m->kk key p k=kk key p (m - 1):=by
     intro k _ hk
     have a1:=c 0 k (by lia) hk
     have a2:=c k (m - 1) (by lia) (by lia)
     lia
    refine y6s (hp.trans (mirror_perm _ _ _ _)) (by lia) (fun i j hij hj=>?_) h
    rw [z8a hsz hall,z8a hsz hall]
    by_cases hjn:j<m
    ·rw [hall i (by lia) (by lia),hall j (by lia) hjn];exact FJ _
    ·have hj':j=m:=by lia
     subst hj'
     by_cases hi':i=j
     ·subst hi';exact FJ _
     ·rw [hall i (by lia) (by lia)];exact Int.le_of_lt hlt
  ·rw [AT hgt]
   have hn1:m=1:=by lia
   subst hn1
   refine y6s hp (by lia) (fun i j hij hj=>?_) h
   by_cases hi':i=j
   ·subst hi';exact FJ _
   ·have hi0:i=0:=by lia
    have hj1:j=1:=by lia
    subst hi0;subst hj1
    exact Int.le_of_lt hlt
theorem k3h{l r:Nat}(h:l<r):l<=(l+r) / 2/\(l+r) / 2<r:=by lia
theorem q3z{p:Array Nat}{k:Nat}{Q:Nat->Prop}(hp:PB n p)(hk:k<n)(hs:Srt key p k)
 (h:∀ l,l<=k->(∀ i,i<l->kk key p i<=kk key p k)->(∀ i,l<=i->i<k->kk key p k<kk key p i)->Q l):∀ (f l r:Nat),l<=r->r<=k->r - l<=f ->
   (∀ i,i<l->kk key p i<=kk key p k)->(∀ i,r<=i->i<k->kk key p k<kk key p i)->KOk n key (kas_place p k f l r) Q
 | 0,l,r,h1,h2,h3,hlo,hhi=>by
  have:l=r:=Nat.le_antisymm h1 (Nat.sub_eq_zero_iff_le.mp (Nat.le_zero.mp h3))
  subst this
  exact h l h2 hlo hhi
 | f+1,l,r,h1,h2,h3,hlo,hhi=>by
  unfold kas_place
  by_cases hge:l>=r
  ·rw [AR hge]
   have:l=r:=Nat.le_antisymm h1 hge
   subst this
   exact h l h2 hlo hhi
  ·rw [AT hge]
   obtain⟨m1,m2⟩:=k3h (Nat.not_le.mp hge)
   have m3:=AA (BR m2) h2
   refine⟨hp.lt hk,hp.lt (AZ m3 hk),?_⟩
   dsimp only
   by_cases hl:kk key p k<kk key p ((l+r) / 2)
   ·have e:decide (key (p.getD k 0)<key (p.getD ((l+r) / 2) 0))=true:=AV hl
    rw [AR e]
    exact q3z hp hk hs h f l ((l+r) / 2) m1 m3 (CP (BN (Nat.sub_lt_sub_right m1 m2) h3)) hlo fun i a b=>Int.lt_of_lt_of_le hl (hs _ _ a b)
   ·have e:¬ decide (key (p.getD k 0)<key (p.getD ((l+r) / 2) 0))=true:=fun e=>hl (AK e)
    rw [AT e]
    exact q3z hp hk hs h f ((l+r) / 2+1) r m2 h2 (CP (BN (Nat.sub_lt_sub_left (AZ m1 m2) (Nat.lt_succ_of_le m1)) h3)) (fun i a=>EQ (hs i ((l+r) / 2) (CP a) (BN m2 h2)) (Int.not_lt.mp hl)) hhi
theorem k3i{Q:Array Nat->Prop}(h:∀ p,PB n p->Srt key p n->Q p):∀ (f:Nat) (p:Array Nat) (k:Nat),PB n p->k+f=n->Srt key p k->KOk n key (kas_bin f p k) Q
 | 0,p,k,hp,hk,hs=>by
  have:k=n:=hk
  subst this
  exact h p hp hs
 | f+1,p,k,hp,hk,hs=>by
  have hkn:k<n:=hk▸Nat.lt_add_of_pos_right (Nat.succ_pos f)
  refine KOk.bind (q3z hp hkn hs (fun l hl hlo hhi=>?_) k 0 k (BK _) (AL _) (Nat.sub_le _ _) (fun i a=>absurd a (EP _)) fun i a b=>absurd b (CF.mpr a))
  have hks:k<p.size:=by rw [hp.size];exact hkn
  have kb:=fun x=>j2c (key:=key) hks (Nat.sub_le k l) x
  rw [Nat.sub_sub_self hl] at kb
  have v1:∀ x,x<l->kk key (bubble p k (k - l)) x=kk key p x:=fun x hx=>by rw [kb,AT (DK hx),AT fun h=>Nat.lt_asymm hx h.1]
  have v2:kk key (bubble p k (k - l)) l=kk key p k:=by rw [kb,AR rfl]
  have v3:∀ x,l<x->x<=k->kk key (bubble p k (k - l)) x=kk key p (x - 1):=fun x hx hk=>by rw [kb,AT (DO hx),AR ⟨hx,hk⟩]
  refine k3i h f _ (k+1) (hp.trans (bubble_perm _ _ _)) ((Nat.succ_add_eq_add_succ k f).trans hk) fun i j hij hj=>?_
  have hj':=CP hj
  have jk:l<j->j - 1<k:=fun h=>Nat.sub_one_lt_of_le (AZ (BK _) h) hj'
  rcases Nat.lt_trichotomy i l with hi | hi | hi
  ·rw [v1 i hi]
   rcases Nat.lt_trichotomy j l with h | h | h
   ·rw [v1 j h];exact hs i j hij (BN h hl)
   ·rw [h,v2];exact hlo i hi
   ·rw [v3 j h hj'];exact hs i (j - 1) (Nat.le_sub_one_of_lt (BS hi h)) (jk h)
  ·subst hi
   rw [v2]
   by_cases h:i=j
   ·rw [<- h,v2];exact FJ _
   ·have h:=Nat.lt_of_le_of_ne hij h
    rw [v3 j h hj'];exact Int.le_of_lt (hhi (j - 1) (Nat.le_sub_one_of_lt h) (jk h))
  ·have h:=BN hi hij
   rw [v3 i hi (AA hij hj'),v3 j h hj']
   exact hs (i - 1) (j - 1) (Nat.sub_le_sub_right hij 1) (jk h)
theorem k3j(h1:1<=n):KOk n key (kas_sort n) (fun p=>PB n p/\Srt key p n):=by
 unfold kas_sort
 refine KOk.bind (x6z (Array.Perm.refl _) h1 fun r p a b c d=>?_)
 dsimp only
 by_cases hr:r<n
 ·rw [AR hr,show max r 1=r by lia]
  exact k3i (fun p x y=>⟨x,y⟩) _ p r a (by lia) d
 ·rw [AT hr]
  have:r=n:=by lia
  subst this
  exact⟨a,d⟩
end
end Mine
end
section
open PySem PySem.W PyProof.Rows PySem.NumText
namespace Mine
section
variable {I:z2s} {own own':List Addr} {L:Lim} {w:World} {g gb gC:Fz} {Z Z1 Z2:Bt} {H Hb H2:z0b} {s sB sC:Shared} {env:Env} {Y:z0l} {A:Around} {prog:Program} {lv:Nat}
theorem q4a{x:Str}{i:Int}(h:y8c x=some i):∃ c:Nat,x.cps.toList=[c]/\48<=c/\c<=57/\i=(c:Int) - 48:=by
 unfold y8c at h
 split at h
 ·rename_i c hc
  obtain⟨h1,h2⟩:=z0o h
  exact⟨c,hc,h1.1,h1.2,(AF h2).symm⟩
 ·cases h
theorem k3k{u:Value}{x:Str}{i:Int}(R:SR I w.params g Z H s.heap)(hu:Rel I g Z u (.str x))(h:y8c x=some i):Go I prog w A own L g Z H (call (.type "int") [u]) H (P.val I (.int i)) s:=by
 obtain⟨t,rfl⟩:=hu.str_inv
 obtain⟨c,hc,h1,h2,rfl⟩:=q4a h
 have hl:x.length=1:=by
  show x.cps.size=1
  rw [<- CM,hc];rfl
 have hd:AllDigits x.cps.toList:=by
  rw [hc]
  intro d hd
  obtain rfl:=AO.mp hd
  exact⟨h1,h2⟩
 have e:PySem.intText? x=some ((c:Int) - 48):=by
  rw [intText_digits hd (by rw [hc];exact DV _ _) (by rw [hl];decide),hc]
  show some (((0*10+(c - 48):Nat)):Int)=_
  congr 1
  lia
 exact Go.tok R fun Q E q=>KIN.call_text e (by rw [hl];decide) (q _ _ (.int _ _))
theorem q0q:∀ (ns:List Int) (n:Int),(ns.foldl (fun a b=>if b > a then b else a) n∈n::ns)/\∀ a,a∈n::ns->a<=ns.foldl (fun a b=>if b > a then b else a) n
 | [],n=>⟨AO.mpr rfl,fun a h=>Int.le_of_eq (AO.mp h)⟩
 | b::ns,n=>by
  obtain⟨h1,h2⟩:=q0q ns (if b > n then b else n)
  rw [DA]
  refine⟨?_,fun a ha=>?_⟩
  ·rcases AQ.mp h1 with h | h
   ·rw [h];split
    ·exact AE _ AD
    ·exact AD
   ·exact AE _ (AE _ h)
  ·rcases AQ.mp ha with h | h
   ·refine EQ ?_ (h2 _ AD)
    rw [h];split<;>lia
   ·rcases AQ.mp h with h | h
    ·refine EQ ?_ (h2 _ AD)
     rw [h];split<;>lia
    ·exact h2 _ (AE _ h)
theorem x7a{u:Value}{l:List PV}{ns:List Int}{r:PV}(R:SR I w.params g Z H s.heap)(hA:AOk A lv)(hu:Rel I g Z u (.lst l))(e:z5h l=some ns)(hr:w1c ns=some r) :
  Go I prog w A own L g Z H (call (.builtin "max") [u]) H (P.val I r) s:=by
 obtain⟨a,o,vs,rfl,g1,g4,g2,g3⟩:=hu.lst_inv
 cases ns with
 | nil=>cases hr
 | cons n ns=>
  cases hr
  have hi:=y6r g3 e
  obtain⟨xs,hx⟩:=hi.allInts.items
  have hl:s.heap.IsList a (intItems xs):=hx▸z0p (R.sub _ _ g1) g4
  have hns:n::ns=xs.toList.map (·.1):=by rw [<- hi.numsOf,<- nums_intItems,<- hx]
  have hsz:0<xs.size:=by
   have:=AP List.length hns
   rw [AI,BH] at this
   rw [<- CM]
   lia
  refine Go.keepAll R fun Q E q=>max_intList hA.handled hl hsz fun v h' tk hv hk=>?_
  obtain⟨t,rfl⟩:=intItems_at hv
  obtain⟨h1,h2⟩:=argBest_gt (numAt xs) (xs.size - 1)
  obtain⟨m1,m2⟩:=q0q ns n
  have hM:numAt xs (argBest (fun i j=>decide (numAt xs i > numAt xs j)) (xs.size - 1))=ns.foldl (fun a b=>if b > a then b else a) n:=by
   apply Int.le_antisymm
   ·refine m2 _ ?_
    rw [hns,numAt_eq]
    exact PySem.getD_mem (by rw [AI,CM];lia)
   ·rw [hns] at m1
    obtain⟨j,hj,e⟩:=mem_getD m1
    rw [AI,CM] at hj
    rw [<- e,<- numAt_eq]
    exact h2 j (by lia)
  rw [hM]
  exact q _ h' tk hk (.int _ _)
noncomputable def y6t(h:Heap)(v:Value)(q:Int×Int):Prop:=∃ T o t u n,v=.ref T/\h.get? T=some o/\o.cls=.type "tuple"/\o.data=.seq #[.int q.1 t,.int q.2 u] n
theorem q0r:∀ {l:List PV} {ps:List (Int×Int)},pairsOf l=some ps->l=ps.map fun q=>.tup [.int q.1,.int q.2]
 | [],_,h=>by cases h;rfl
 | p::l,ps,h=>by
  cases p with
  | tup t=>
   match t,h with
   | [.int a,.int b],h=>
    obtain⟨qs,h1,rfl⟩:=z0z (show(Mine.pairsOf l).map ((a,b)::·)=some ps from h)
    rw [q0r h1];rfl
  | _=>cases h
theorem j9m{v:Value}{q:Int×Int}(R:SR I w.params g Z H s.heap)(h:Rel I g Z v (.tup [.int q.1,.int q.2])):y6t s.heap v q:=by
 obtain⟨a,o,vs,rfl,g1,g4,g2,g3⟩:=h.tup_inv
 cases g3 with
 | cons x r=>
  cases r with
  | cons y r=>
   cases r
   obtain⟨t,rfl⟩:=x.int_inv
   obtain⟨u,rfl⟩:=y.int_inv
   obtain⟨c,n,d⟩:=g4
   exact⟨a,o,t,u,n,rfl,R.sub _ _ g1,c,d⟩
noncomputable def q3o(q:Int×Int):Int:=q.1*1000+q.2
theorem x7b{h:Heap}{v v':Value}{q q':Int×Int}{C:Bool->Shared->Prop}{E:Value->Shared->Prop}(h1:y6t s.heap v q)(h2:y6t s.heap v' q')(m1:(z2m q.1&&z2m q.2)=true)(m2:(z2m q'.1&&z2m q'.2)=true)
 (k:C (decide (q3o q<q3o q')) s):wpAny (model prog w) A (keyLt' (tuples' true) v v') C E s:=by
 obtain⟨x,y⟩:=q
 obtain⟨x',y'⟩:=q'
 obtain⟨T,o,t,u,n,rfl,a1,a2,a3⟩:=h1
 obtain⟨T',o',t',u',n',rfl,b1,b2,b3⟩:=h2
 dsimp only at *
 have mid:∀ {i:Int},z2m i=true->0<=i/\i<1000:=fun h=>⟨AK (z0u h).1,AK (z0u h).2⟩
 have hy:=mid (z0u m1).2
 have hy':=mid (z0u m2).2
 unfold q3o at k
 dsimp only at k
 refine kat_lt a1 a3 b1 b3 (kat_cons (wpAny_eqBool_int ?_))
 by_cases hx:x=x'
 ·subst hx
  rw [DF]
  refine kat_yes (kat_cons (wpAny_eqBool_int ?_))
  by_cases hyy:y=y'
  ·subst hyy
   rw [DF]
   rw [DT (Int.lt_irrefl _)] at k
   exact kat_yes (kat_nil k)
  ·rw [EX.mpr hyy]
   refine kat_no (kat_one _ _ (PySem.P.lt_int ?_))
   show C (decide (y<y')) s
   rwa [show decide (y<y')=decide (x*1000+y<x*1000+y') by congr 1;exact propext (by lia)]
 ·rw [EX.mpr hx]
  refine kat_no (oneLt_int ?_)
  rwa [show decide (x<x')=decide (x*1000+y<x'*1000+y') by congr 1;exact propext (by lia)]
theorem q6h:∀ {vs:List Value} {ps:List (Int×Int)},vs.length=ps.length->(∀ (i:Nat) (q:Int×Int),ps[i]?=some q->∃ v,vs[i]?=some v/\y6t s.heap v q)->∃ fs,KatTups s.heap vs fs/\fs.length=vs.length/\∀ v,v∈fs->∃ i t,v=Value.int i t
 | [],[],_,_=>⟨[],KatTups.nil,rfl,fun v h=>(nomatch h)⟩
 | [],_::_,h,_=>(nomatch h)
 | _::_,[],h,_=>(nomatch h)
 | v::vs,q::ps,h,hp=>by
  obtain⟨v',e,T,o,t,u,n,rfl,h1,h2,h3⟩:=hp 0 q rfl
  cases e
  obtain⟨fs,k1,k2,k3⟩:=q6h (vs:=vs) (ps:=ps) (Nat.succ.inj h) fun i q e=>hp (i+1) q e
  refine⟨.int q.1 t::fs,KatTups.cons h1 h2 h3 rfl k1,AP Nat.succ k2,fun v hv=>?_⟩
  rcases AQ.mp hv with rfl | hv
  ·exact⟨_,_,rfl⟩
  ·exact k3 v hv
theorem y4n{a:Addr}{vs:List Value}{ps:List (Int×Int)}{n:Nat}{P:PySem.Fin->Shared->Prop}{E:Value->Shared->Prop}(ho:s.heap.get? a=some (seqObj "list" vs.toArray n))(h2:2<=vs.length)(h64:vs.length<64)(hl:vs.length=ps.length)
 (hp:∀ (i:Nat) (q:Int×Int),ps[i]?=some q->∃ v,vs[i]?=some v/\v≠.ref a/\y6t s.heap v q)(hm:∀ q,q∈ps->(z2m q.1&&z2m q.2)=true)
 (h:∀ p:Array Nat,PB vs.length p->Srt (fun i=>q3o (ps.getD i (0,0))) p vs.length->P (.done (.ret .none)) { s with heap:=sortedHeap s.heap a vs (p.toList.map fun i=>vs.getD i Value.none).toArray }) :
  wpAny (model prog w) A (Builtin.«list.sort» ⟨[.ref a],[]⟩) P E s:=by
 rw [list_sort_plain]
 have ha:a<s.heap.objs.size:=CV ho
 have hsz:vs.toArray.size=vs.length:=BV
 have hline:∀ m,m<=vs.length->m<=sizeLine:=fun m hm=>by rw [GA];lia
 refine AB (listItems_at ho rfl ?_)
 refine AB (listUpdate_at ho rfl ?_ (hline _ (CJ hsz)) (BK _))
 obtain⟨e1,ho1⟩:∃ e1,(s.heap.update a (Obj.mapSeq fun _=>#[])).get? a=some (seqObj "list" #[] e1):=⟨_,get?_update_seq ho (fun _=>#[])⟩
 refine AB (seqEpoch_at ho1 rfl ?_)
 refine AB (wpAny_newTuple ?_ (hline _ (AL _)))
 refine AB (wpAny_newList ?_ (BK _))
 refine BW ?_
 have keep:∀ b o,b≠a->s.heap.get? b=some o->(((s.heap.update a (Obj.mapSeq fun _=>#[])).push (seqObj "tuple" vs.toArray 0)).push (seqObj "list" #[] 0)).get? b=some o:=fun b o hne e=>
  AU _ (AU _ ((Heap.get?_update_ne _ _ _ _ hne).trans e))
 have ho6:(((s.heap.update a (Obj.mapSeq fun _=>#[])).push (seqObj "tuple" vs.toArray 0)).push (seqObj "list" #[] 0)).get? a=some (seqObj "list" #[] e1):=AU _ (AU _ ho1)
 show wpAny (model prog w) A _ P E { s with heap:=((s.heap.update a (Obj.mapSeq fun _=>#[])).push (seqObj "tuple" vs.toArray 0)).push (seqObj "list" #[] 0) }
 dsimp only
 have hp':∀ (i:Nat) (q:Int×Int),ps[i]?=some q->∃ v,vs[i]?=some v/\y6t (((s.heap.update a (Obj.mapSeq fun _=>#[])).push (seqObj "tuple" vs.toArray 0)).push (seqObj "list" #[] 0)) v q:=fun i q e=>by
  obtain⟨v,e1,hne,T,o,t,u,m,rfl,b1,b2,b3⟩:=hp i q e
  exact⟨_,e1,T,o,t,u,m,rfl,keep _ _ (fun e=>hne (by rw [e])) b1,b2,b3⟩
 have hn2:¬ vs.toArray.size<2:=by rw [hsz];lia
 rw [AT hn2,AT hn2]
 obtain⟨fs,k1,k2,k3⟩:=q6h (s:={ s with heap:=((s.heap.update a (Obj.mapSeq fun _=>#[])).push (seqObj "tuple" vs.toArray 0)).push (seqObj "list" #[] 0) }) hl hp'
 refine AB (kat_kind (T:=.type "int") k1 (by lia) (fun v hv=>?_) rfl ?_)
 ·obtain⟨i,t,rfl⟩:=k3 v hv
  exact .now
 refine AB (CZ (kat_run (A:=A) (E:=E) (Q:=fun st' s'=>∃ p:Array Nat,PB vs.length p/\Srt (fun i=>q3o (ps.getD i (0,0))) p vs.length/\arrOf st'=p.map (kas_item (vs.toArray.zip vs.toArray))/\failedOf st'=none/\s'=_)
  (G:=fun p s'=>PB vs.length p/\Srt (fun i=>q3o (ps.getD i (0,0))) p vs.length/\s'={ s with heap:=((s.heap.update a (Obj.mapSeq fun _=>#[])).push (seqObj "tuple" vs.toArray 0)).push (seqObj "list" #[] 0) })
  rfl h2 h64 (fun p' st' s' a1 a2 a3 a4=>⟨p',a4.1,a4.2.1,a2,a3,a4.2.2⟩) (KOk.wp (key:=fun i=>q3o (ps.getD i (0,0))) (n:=vs.length) (fun i j C hi hj hC=>?_) (KOk.mono (fun p hp=>⟨hp.1,hp.2,rfl⟩) (k3j (by lia))))) ?_ fun _ _ e=>e)
 ·obtain⟨q,hq⟩:∃ q,ps[i]?=some q:=⟨_,AN (hl▸hi)⟩
  obtain⟨q',hq'⟩:∃ q,ps[j]?=some q:=⟨_,AN (hl▸hj)⟩
  obtain⟨v,e1,p1⟩:=hp' i q hq
  obtain⟨v',e2,p2⟩:=hp' j q' hq'
  show wpAny _ _ (keyLt' (tuples' true) (vs.getD i Value.none) (vs.getD j Value.none)) C _ _
  rw [AH,AH,e1,e2]
  refine x7b (h:=s.heap) p1 p2 (hm _ (CE hq)) (hm _ (CE hq')) ?_
  rw [AH,AH,hq,hq'] at hC
  exact hC
 rintro⟨⟨⟩,st'⟩ s' ⟨p,b1,b2,b3,b4,rfl⟩
 dsimp only
 rw [kat_snds rfl b3]
 refine AB (seqEpoch_at ho6 rfl ?_)
 refine AB (listUpdate_at ho6 rfl ?_ (BK _) (CB (hline _ (by rw [BV,AI,CM,b1.size];exact AL _))))
 rw [b4]
 simp only [bne_self_eq_false,DW,if_false]
 exact AJ (h p b1 b2)
theorem x7c{a b:Int×Int}(ha:(z2m a.1&&z2m a.2)=true)(hb:(z2m b.1&&z2m b.2)=true)(h:q3o a=q3o b):a=b:=by
 obtain⟨x,y⟩:=a
 obtain⟨x',y'⟩:=b
 have mid:∀ {i:Int},z2m i=true->0<=i/\i<1000:=fun h=>⟨AK (z0u h).1,AK (z0u h).2⟩
 have h1:=mid (z0u ha).2
 have h2:=mid (z0u hb).2
 unfold q3o at h
 dsimp only at h h1 h2
 have e1:x=x':=by lia
 have e2:y=y':=by lia
 rw [e1,e2]
theorem k3l{a b:Int×Int}(ha:(z2m a.1&&z2m a.2)=true)(hb:(z2m b.1&&z2m b.2)=true)(h:z3i a b=true):q3o a<=q3o b:=by
 obtain⟨x,y⟩:=a
 obtain⟨x',y'⟩:=b
 have mid:∀ {i:Int},z2m i=true->0<=i/\i<1000:=fun h=>⟨AK (z0u h).1,AK (z0u h).2⟩
 have h1:=mid (z0u ha).2
 have h2:=mid (z0u hb).2
 unfold q3o
 dsimp only at h1 h2 ⊢
 rcases CD.mp h with h | h
 ·have:=AK h
  dsimp only at this
  lia
 ·have e1:=BO (z0u h).1
  have e2:=AK (z0u h).2
  dsimp only at e1 e2
  lia
theorem y1l(a b:Int×Int):(z3i a b || z3i b a)=true:=by
 unfold z3i
 by_cases h1:a.1<b.1
 ·rw [AV h1];rfl
 ·by_cases h2:b.1<a.1
  ·rw [AV h2,Bool.true_or,Bool.or_true]
  ·have e:a.1=b.1:=by lia
   rw [e,DF,Bool.true_and,Bool.true_and]
   by_cases h3:a.2<=b.2
   ·rw [AV h3,Bool.or_true,Bool.true_or]
   ·rw [AV (show b.2<=a.2 by lia),Bool.or_true,Bool.or_true]
theorem z8b(a b c:Int×Int)(h1:z3i a b=true)(h2:z3i b c=true):z3i a c=true:=by
 have key:∀ {a b:Int×Int},z3i a b=true↔a.1<b.1\/(a.1=b.1/\a.2<=b.2):=fun {a b}=>by
  unfold z3i
  rw [CD,AG,BY,BE,BY]
 rw [key] at h1 h2 ⊢
 rcases h1 with p | ⟨p,p'⟩<;>rcases h2 with q | ⟨q,q'⟩
 ·exact .inl (Int.lt_trans p q)
 ·exact .inl (q▸p)
 ·exact .inl (p▸q)
 ·exact .inr ⟨p.trans q,EQ p' q'⟩
theorem j2g{ps:List (Int×Int)}{p:Array Nat}(hm:∀ q,q∈ps->(z2m q.1&&z2m q.2)=true)(hp:PB ps.length p)(hs:Srt (fun i=>q3o (ps.getD i (0,0))) p ps.length) :
  (p.toList.map fun i=>ps.getD i (0,0))=ps.mergeSort z3i:=by
 have hperm:(p.toList.map fun i=>ps.getD i (0,0)).Perm ps:=by
  have h1:p.toList.Perm (List.range ps.length):=FI.mp hp
  refine(h1.map _).trans ?_
  have:((List.range ps.length).map fun i=>ps.getD i (0,0))=ps:=by
   apply List.ext_getElem
   ·rw [AI,EB]
   ·intro i h1 h2
    rw [EJ,List.getElem_range,AH,AN h2];rfl
  rw [this]
 have hperm2:=FS ps z3i
 refine List.Perm.eq_of_pairwise (le:=fun a b=>q3o a<=q3o b) (fun a b ha hb h1 h2=>x7c (hm a (hperm.mem_iff.mp ha)) (hm b (hperm2.mem_iff.mp hb)) (Int.le_antisymm h1 h2)) ?_ ?_ (hperm.trans hperm2.symm)
 ·rw [FP]
  intro i j hi hj hij
  rw [AI,CM,hp.size] at hi hj
  have:=hs i j (BR hij) hj
  unfold kk at this
  rw [EJ,EJ]
  have gd:∀ {k:Nat} (hk:k<p.toList.length),p.getD k 0=p.toList[k]:=fun {k} hk=>by
   have hk':k<p.size:=by rwa [CM] at hk
   rw [FH,FQ hk'];rfl
  rwa [gd,gd] at this
 ·refine List.Pairwise.imp_of_mem (fun {a b} ha hb h=>k3l (hm a (hperm2.mem_iff.mp ha)) (hm b (hperm2.mem_iff.mp hb)) h) (List.pairwise_mergeSort z8b y1l ps)
theorem q6i{vs:List Value}{l:List PV}(r:z0e I g Z vs l):∀ (js:List Nat),(∀ j,j∈js->j<l.length)->z0e I g Z (js.map fun i=>vs.getD i .none) (js.map fun i=>l.getD i .none)
 | [],_=>.nil
 | j::js,h=>by
  obtain⟨v,e1,e2⟩:=r.get (AN (h j AD))
  refine .cons ?_ (q6i r js fun k hk=>h k (AE _ hk))
  show Rel I g Z (vs.getD j .none) (l.getD j .none)
  rw [AH,AH,e1,AN (h j AD)]
  exact e2
theorem j2h{u:Value}{l:List PV}{r:PV}(R:SR I w.params g Z H s.heap)(hu:Rel I g Z u (.lst l))(e:k2h l=some r):Go I prog w A own L g Z H (call (.builtin "sorted") [u]) H (P.val I r) s:=by
 obtain⟨ps,hps,e⟩:=z1e e
 obtain⟨⟨hn1,h64,hall⟩,e⟩:=z0o e
 cases e
 obtain⟨a,o,vs,rfl,g1,g4,g2,g3⟩:=hu.lst_inv
 have hl:=q0r hps
 have hlen:vs.length=ps.length:=by rw [g3.length,hl,AI]
 have hm:∀ q,q∈ps->(z2m q.1&&z2m q.2)=true:=fun q hq=>BA.mp hall q hq
 have hL:=z0p (R.sub _ _ g1) g4
 have hnone:s.heap.get? (s.heap.objs.size+1)=none:=by
  cases e:s.heap.get? (s.heap.objs.size+1) with
  | none=>rfl
  | some o=>exact absurd (CV e) (CF.mpr (FK _))
 intro Q E q
 have fin:∀ out:List Value,out.length<=z2k->z0e I g Z out ((ps.mergeSort z3i).map fun q=>.tup [.int q.1,.int q.2])->Q (.ref (s.heap.objs.size+1)) { s with heap:=sortedAll s.heap vs out.toArray }:=fun out ho hr=>by
  obtain⟨ep,he⟩:=sortedAll_at s.heap vs out.toArray
  have hk:∀ b x,s.heap.get? b=some x->(sortedAll s.heap vs out.toArray).get? b=some x:=fun b x e=>sortedAll_old e
  exact q _ _ Z _ (z1c.add (a:=s.heap.objs.size+1) (o:=seqObj "list" out.toArray ep) (tk:=s.toks) R hk hnone) (R.add hk hnone he)
   (.lst (z2i ..) ⟨rfl,ep,rfl,rfl⟩ ho (hr.mono (z2w (R.gfree hnone)) fun _ _ e=>e))
 by_cases h2:2<=ps.length
 ·refine Calls.call_function_entry kind_sorted plain_sorted entry_sorted (args_sorted1 _) ?_
  unfold Builtin.«sorted»
  refine AB (m:=checkCount "sorted" 1 1 _) (AJ ?_)
  have hline:vs.length<=sizeLine:=by rw [GA];lia
  refine AB (collect_list hL ?_ hline)
  refine AB (wpAny_newList ?_ hline)
  have hsz:((s.heap.push (seqObj "list" #[] 0)).update s.heap.objs.size (Obj.mapSeq (·++vs.toArray))).objs.size=s.heap.objs.size+1:=by rw [Heap.size_update,size_push']
  have hoL:(((s.heap.push (seqObj "list" #[] 0)).update s.heap.objs.size (Obj.mapSeq (·++vs.toArray))).push (seqObj "list" vs.toArray 0)).get? (s.heap.objs.size+1)=some (seqObj "list" vs.toArray 0):=by
   rw [<- hsz];exact BJ _ rfl
  have keep:∀ b o,s.heap.get? b=some o->(((s.heap.push (seqObj "list" #[] 0)).update s.heap.objs.size (Obj.mapSeq (·++vs.toArray))).push (seqObj "list" vs.toArray 0)).get? b=some o:=fun b o q=>
   AU _ ((Heap.get?_update_ne _ _ _ _ (DK (CV q))).trans (AU _ q))
  show wpAny _ _ _ _ _ { s with heap:=((s.heap.push (seqObj "list" #[] 0)).update s.heap.objs.size (Obj.mapSeq (·++vs.toArray))).push (seqObj "list" vs.toArray 0) }
  rw [hsz]
  refine AB (BW (EY slot_list_sort ⟨_,hoL,rfl⟩ entry_list_sort (y4n hoL (hlen▸h2) (hlen▸h64) hlen (fun i qq hi=>?_) hm fun p b1 b2=>⟨_,rfl,?_⟩) (args_list_sort _)))
  ·have hli:l[i]?=some (.tup [.int qq.1,.int qq.2]):=by rw [hl,BD,hi];rfl
   obtain⟨v,e1,e2⟩:=g3.get hli
   obtain⟨T,o,t,u,m,rfl,c1,c2,c3⟩:=j9m R e2
   exact⟨_,e1,(fun e=>by cases e;rw [hnone] at c1;cases c1),T,o,t,u,m,rfl,keep _ _ c1,c2,c3⟩
  ·refine AJ ⟨_,rfl,?_⟩
   rw [hlen] at b1 b2
   refine fin (p.toList.map fun i=>vs.getD i .none) (by rw [AI,CM,b1.size];exact AA (BR h64) (by decide)) ?_
   rw [<- j2g hm b1 b2,AX]
   have hlt:∀ j,j∈p.toList->j<l.length:=fun j hj=>by
    rw [hl,AI]
    exact AM.mp ((FI.mp b1).mem_iff.mp hj)
   have:=q6i g3 p.toList hlt
   rwa [show(p.toList.map fun i=>l.getD i .none)=p.toList.map ((fun q:Int×Int=>PV.tup [.int q.1,.int q.2])∘fun i=>ps.getD i (0,0)) from CH fun j hj=>by
    have h:=hlt j hj
    rw [hl,AI] at h
    show l.getD j .none=PV.tup [.int (ps.getD j (0,0)).1,.int (ps.getD j (0,0)).2]
    rw [hl,AH,AH,BD,AN h];rfl] at this
 ·have h0:ps=[]:=by
   cases ps with
   | nil=>rfl
   | cons qq ps=>exact absurd (show 2<=(qq::ps).length by have:=BH (a:=qq) (as:=ps);lia) h2
  subst h0
  have hv:vs=[]:=List.length_eq_zero_iff.mp hlen
  subst hv
  refine sorted_ints hL IntsAre.nil (by decide) fun out ns' i1 i2 i3=>?_
  have hns:ns'=[]:=i2.eq_nil
  subst hns
  have ho:out.toList=[]:=by
   have:=i1.length
   exact List.length_eq_zero_iff.mp this
  have:=fin out.toList (by rw [ho];exact BK _) (by rw [ho,(FS [] z3i).eq_nil];exact .nil)
  rwa [Array.toArray_toList] at this
end
end Mine
end
section
open PySem PySem.W PyProof.Rows
namespace Mine
section
variable {I:z2s} {own own':List Addr} {L:Lim} {w:World} {g gb gC:Fz} {Z Z1 Z2:Bt} {H Hb H2:z0b} {s sB sC:Shared} {env:Env} {Y Y':z0l} {A:Around} {prog:Program} {lv:Nat}
theorem SR.off_(R:SR I w.params g Z H s.heap){h':Heap}(W:Addr->Prop)(hg:∀ a,W a->g a=none)(hb:∀ a i,W a->Z i≠some a)(hk:∀ a o,¬ W a->s.heap.get? a=some o->h'.get? a=some o):SR I w.params g Z H h' where
 base:=R.base
 sub:=fun a o e=>hk a o (fun x=>by rw [hg a x] at e;contradiction) (R.sub a o e)
 dom:=R.dom
 lt:=R.lt
 inj:=R.inj
 off:=R.off
 cell:=fun i a c hi hc=>by
  obtain⟨o,ho⟩:=R.here hi
  exact(R.cell i a c hi hc).mono (fun _ _ q=>q) (fun _ _ q=>q) (by rw [hk a o (fun x=>hb a i x hi) ho,ho])
theorem z1c.touch(G:z1c own L g Z H s gb Z1 Hb sB){h':Heap}{tk:Nat}(W:Addr->Prop)(hw:∀ a o,W a->s.heap.get? a=some o->a∈own)(hk:∀ a o,¬ W a->sB.heap.get? a=some o->h'.get? a=some o)
 (ha:∀ a o,W a->sB.heap.get? a=some o->∃ o',h'.get? a=some o'):z1c own L g Z H s gb Z1 Hb { sB with heap:=h',toks:=tk }:=
 { G with
  kept:=fun a o h n f=>hk a o (fun x=>n (hw a o x h)) (G.kept a o h n f)
  alive:=fun a o h=>by
   obtain⟨o',h1⟩:=G.alive a o h
   by_cases x:W a
   ·exact ha a o' x h1
   ·exact⟨o',hk a o' x h1⟩
  rest:=by rw [G.rest] }
theorem q0s(hn:I.nm.Nodup){j k:Nat}{x:Str}(h1:I.nm[j]?=some x)(h2:I.nm[k]?=some x):j=k:=by
 obtain⟨l1,e1⟩:=AS.mp h1
 obtain⟨l2,e2⟩:=AS.mp h2
 have hp:=FP.mp hn
 rcases Nat.lt_trichotomy j k with h | h | h
 ·exact absurd (e1.trans e2.symm) (hp j k l1 l2 h)
 ·exact h
 ·exact absurd (e2.trans e1.symm) (hp k j l2 l1 h)
theorem y2k{x:Str}{k:Nat}{v:Value}{p:PV}(hnd:I.nm.Nodup)(R:SR I w.params g Z H s.heap)(O:z0j I own env Y g Z s.heap)(hn:I.nm[k]?=some x)(hs:Mine.storeable env own x)(hv:Rel I g Z v p) :
  Go I prog w A own L g Z H (storeName env x v) H (fun g' Z' s' _=>z0j I own env (upd Y k p) g' Z' s'.heap/\g'=g/\Z'=Z) s:=by
 intro Q E q
 obtain⟨m,hm,hmk⟩:=O.ns
 obtain⟨oL,hoL⟩:=O.locThere
 rcases hs with hl | ⟨c,hc,hcl,hco⟩
 ·refine wpAny_storeName_local hl hm (fun h' hn' hs'=>?_) (by simp [O.kind])
  have hk:∀ a o,a≠env.locals->s.heap.get? a=some o->h'.get? a=some o:=fun a o h e=>(hs'.2 a h).trans e
  have R':SR I w.params g Z H h':=R.off_ (fun a=>a=env.locals) (fun a e=>e▸O.lg) (fun a i e=>e▸O.lb i) fun a o h e=>hk a o h e
  refine q () g Z { s with heap:=h',toks:=s.toks+1 } (z1c.touch .refl (fun a=>a=env.locals) (fun a o e _=>e▸O.lown) hk (fun a o e _=>?_)) R' ⟨?_,rfl,rfl⟩
  ·subst e;obtain⟨o',_,_,ho',_⟩:=hn';exact⟨o',ho'⟩
  ·exact {
    kind:=O.kind,glob:=O.glob,bi:=O.bi,lg:=O.lg,lb:=O.lb,lown:=O.lown,apart:=O.apart,code:=O.code
    ownz:=fun a ha=>by
     obtain⟨h1,h2,o,h3⟩:=O.ownz a ha
     refine⟨h1,h2,?_⟩
     by_cases e:a=env.locals
     ·subst e;obtain⟨o',_,_,ho',_⟩:=hn';exact⟨o',ho'⟩
     ·exact⟨o,hk _ _ e h3⟩
    ns:=⟨_,hn',fun j y r h1 h2 h3=>by
     unfold upd at h3
     by_cases e:j=k
     ·subst e
      rw [AR rfl] at h3;injection h3 with h3;subst h3
      rw [hn] at h1;injection h1 with h1;subst h1
      exact⟨v,AR rfl,hv⟩
     ·rw [AT e] at h3
      obtain⟨u,hu,ru⟩:=hmk j y r h1 h2 h3
      refine⟨u,?_,ru⟩
      rw [AT (fun e':y=x=>e (q0s hnd h1 (e'▸hn)))]
      exact hu⟩
    cells:=fun y hy=>by
     obtain⟨c,ov,h1,h2,h3,h4,h5,h6⟩:=O.cells y hy
     refine⟨c,ov,h1,hk _ _ h3 h2,h3,h4,h5,fun j r a b=>?_⟩
     unfold upd at b
     by_cases e:j=k
     ·subst e
      rw [hn] at a;injection a with a;subst a
      rw [hl] at hy
      rcases hy with hy | hy<;>contradiction
     ·rw [AT e] at b;exact h6 j r a b }
 ·obtain⟨c',ov,h1,h2,h3,h4,h5,h6⟩:=O.cells x (.inl hc)
  rw [hcl] at h1;injection h1 with h1;subst h1
  unfold storeName
  have e1:(env.kindOf x==some NameKind.globalImplicit)=false:=by rw [hc];rfl
  have e2:(env.scope.kind==ScopeKind.class)=false:=by rw [O.kind];rfl
  simp only [e1,hc,e2,Bool.false_and,DW,if_false]
  unfold cellOf
  rw [hcl]
  refine AB (AJ ?_)
  unfold cellSet
  refine AB (wpAny_load h2 ?_)
  show wpAny _ _ (update c fun o=>{ o with data:=.cell (some v) }) _ _ s
  refine wpAny_update h2 ?_
  have hup:(s.heap.update c fun o=>{ o with data:=.cell (some v) }).get? c=some (k1w (some v)):=Heap.get?_update_self _ h2 rfl
  have hk:∀ a o,a≠c->s.heap.get? a=some o->(s.heap.update c fun o=>{ o with data:=.cell (some v) }).get? a=some o:=fun a o h e=>(Heap.get?_update_ne _ _ _ _ h).trans e
  generalize s.heap.update c (fun o=>{ o with data:=.cell (some v) })=h' at hup hk ⊢
  have R':SR I w.params g Z H h':=R.off_ (fun a=>a=c) (fun a e=>e▸h4) (fun a i e=>e▸h5 i) fun a o h e=>hk a o h e
  refine q () g Z { s with heap:=h' } (z1c.touch (tk:=s.toks) .refl (fun a=>a=c) (fun a o e _=>e▸hco) hk (fun a o e _=>⟨_,e▸hup⟩)) R' ⟨?_,rfl,rfl⟩
  exact {
   kind:=O.kind,glob:=O.glob,bi:=O.bi,lg:=O.lg,lb:=O.lb,lown:=O.lown,apart:=O.apart,code:=O.code
   ownz:=fun a ha=>by
    obtain⟨h1,h2,o,h3⟩:=O.ownz a ha
    refine⟨h1,h2,?_⟩
    by_cases e:a=c
    ·exact⟨_,e▸hup⟩
    ·exact⟨o,hk _ _ e h3⟩
   ns:=by
    obtain⟨o,es,ep,a1,a2⟩:=hm
    refine⟨m,⟨o,es,ep,hk _ _ (Ne.symm h3) a1,a2⟩,fun j y r b1 b2 b3=>?_⟩
    unfold upd at b3
    by_cases e:j=k
    ·subst e
     rw [hn] at b1;injection b1 with b1;subst b1
     rw [hc] at b2;contradiction
    ·rw [AT e] at b3;exact hmk j y r b1 b2 b3
   cells:=fun y hy=>by
    obtain⟨c',ov',k1,k2,k3,k4,k5,k6⟩:=O.cells y hy
    by_cases e:c'=c
    ·subst e
     have hxy:=O.apart _ _ _ k1 hcl
     subst hxy
     refine⟨c',some v,k1,hup,k3,k4,k5,fun j r a b=>?_⟩
     unfold upd at b
     have:j=k:=q0s hnd a hn
     rw [AR this] at b;injection b with b;subst b
     exact⟨v,rfl,hv⟩
    ·refine⟨c',ov',k1,hk _ _ e k2,k3,k4,k5,fun j r a b=>?_⟩
     unfold upd at b
     by_cases e2:j=k
     ·subst e2
      rw [hn] at a;injection a with a;subst a
      rw [k1] at hcl;injection hcl with hcl;subst hcl
      exact absurd rfl e
     ·rw [AT e2] at b;exact k6 j r a b }
theorem y0e{x:Str}{k:Nat}{v:Value}{p:PV}(hnd:I.nm.Nodup)(R:SR I w.params g Z H s.heap)(O:z0j I own env Y g Z s.heap)(hn:I.nm[k]?=some x)(hs:Mine.storeable env own x)(hv:Rel I g Z v p) :
  Go I prog w A own L g Z H (bindName env x v) H (fun g' Z' s' _=>z0j I own env (upd Y k p) g' Z' s'.heap/\g'=g/\Z'=Z) s:=
 fun Q E q=>wpAny_bindName (y2k hnd R O hn hs hv Q E q)
noncomputable def z6v(I:z3x)(ok:Str->Bool)(e:Expr)(k:Nat):Bool:=y8h e fun x=>I.nm[k]?==some x&&ok x
noncomputable def z4d(I:z3x)(ok:Str->Bool):List Expr->List Nat->Bool
 | [],[]=>true
 | e::es,k::ks=>z6v I ok e k&&z4d I ok es ks
 | _,_=>false
noncomputable def z5k(I:z3x)(ok:Str->Bool)(e:Expr)(p:Pat):Bool:=match p with
 | .one k=>z6v I ok e k
 | .tup ks=>x6q e fun es=>z4d I ok es ks
theorem z2x{I:z3x}{ok:Str->Bool}{e:Expr}{k:Nat}(h:z6v I ok e k=true):∃ x pos,e=.Name x pos/\I.nm[k]?=some x/\ok x=true:=by
 obtain⟨x,p,h1,h2⟩:=q0i h
 exact⟨x,p,h1,BO (z0u h2).1,(z0u h2).2⟩
noncomputable def y6u(I:z2s)(own:List Addr)(env:Env)(Y:z0l)(g:Fz)(Z:Bt):Fz->Bt->Shared->Unit->Prop:=
 fun g' Z' s' _=>z0j I own env Y g' Z' s'.heap/\(∀ a o,g a=some o->g' a=some o)/\∀ i a,Z i=some a->Z' i=some a
theorem y0f{Y Y':z0l}{k:Nat}{ks:List Nat}{ps:List PV}(h:z4a Y (k::ks) ps=some Y'):∃ v vs,ps=v::vs/\z4a (upd Y k v) ks vs=some Y':=by
 induction ps using List.casesOn with
 | nil=>exact sn h
 | cons v vs=>exact⟨v,vs,rfl,h⟩
theorem q6j{Y Y':z0l}{ps:List PV}(h:z4a Y [] ps=some Y'):ps=[]/\Y=Y':=by
 induction ps using List.casesOn with
 | nil=>exact⟨rfl,AF h⟩
 | cons v vs=>exact sn h
theorem q6k{ok:Str->Bool}(hnd:I.nm.Nodup)(hok:∀ x,ok x=true->Mine.storeable env own x):∀ {es:List Expr} {ks:List Nat} {vs:List Value} {ps:List PV} {Y Y':z0l} {g:Fz} {Z:Bt} {s:Shared},
  z4d I.t ok es ks=true->SR I w.params g Z H s.heap->z0j I own env Y g Z s.heap->z0e I g Z vs ps->z4a Y ks ps=some Y' ->
  Go I prog w A own L g Z H (assignInOrder ((assignEach es env).map (·.2)) vs) H (y6u I own env Y' g Z) s
 | [],ks,vs,ps,Y,Y',g,Z,s,hc,R,O,hr,hu=>by
  induction ks using List.casesOn with
  | cons _ _=>contradiction
  | nil=>
   induction ps using List.casesOn with
   | cons _ _=>contradiction
   | nil=>
    cases hr
    obtain rfl:Y=Y':=AF hu
    exact Go.pure R ⟨O,fun _ _ h=>h,fun _ _ h=>h⟩
 | e::es,ks,vs,ps,Y,Y',g,Z,s,hc,R,O,hr,hu=>by
  induction ks using List.casesOn with
  | nil=>contradiction
  | cons k ks=>
   obtain⟨h1,h2⟩:=AG.mp hc
   obtain⟨x,pos,rfl,hx,hxo⟩:=z2x h1
   induction ps using List.casesOn with
   | nil=>contradiction
   | cons p ps=>
    cases hr with
    | cons hv hr=>
     rename_i v vs
     show Go I prog w A own L g Z H (PySem.holding vs (PySem.standAt pos>>=fun _=>bindName env x v)>>=fun _=>assignInOrder ((assignEach es env).map (·.2)) vs) H _ s
     refine Go.bind R (Go.holding (Go.standAt (y0e hnd R O hx (hok x hxo) hv))) fun _ gb Z1 sB G Rb q=>?_
     obtain⟨Ob,rfl,rfl⟩:=q
     exact q6k hnd hok h2 Rb Ob hr hu
theorem z7n{I:z3x}(env:Env){ok:Str->Bool}:∀ {es:List Expr} {ks:List Nat},z4d I ok es ks=true->(assignEach es env).length=es.length/\(assignEach es env).findIdx? (·.1)=none/\es.length=ks.length
 | [],ks,h=>by
  induction ks using List.casesOn with
  | nil=>exact⟨rfl,rfl,rfl⟩
  | cons _ _=>contradiction
 | e::es,ks,h=>by
  induction ks using List.casesOn with
  | nil=>contradiction
  | cons k ks=>
   obtain⟨h1,h2⟩:=AG.mp h
   obtain⟨x,pos,rfl,_,_⟩:=z2x h1
   obtain⟨a,b,c⟩:=z7n env h2
   refine⟨by show(_::assignEach es env).length=_;simp [a],?_,by simp [c]⟩
   show List.findIdx? _ ((false,_)::assignEach es env)=none
   rw [List.findIdx?_cons]
   simp [b]
theorem y4o{ks:List Nat}{p:PV}{Y Y':z0l}(h:z1t Y (.tup ks) p=some Y'):∃ l,p=.tup l/\z4a Y ks l=some Y':=by
 induction p using PV.casesOn<;>first | exact⟨_,rfl,h⟩ | contradiction
theorem y1m:∀ {ks:List Nat} {ps:List PV} {Y Y':z0l},z4a Y ks ps=some Y'->ks.length=ps.length
 | [],[],_,_,_=>rfl
 | [],_::_,_,_,h=>by contradiction
 | _::_,[],_,_,h=>by contradiction
 | k::ks,p::ps,_,_,h=>by simp [y1m (ks:=ks) (ps:=ps) h]
theorem y0g{ok:Str->Bool}{t:Expr}{pt:Pat}{v:Value}{p:PV}(hnd:I.nm.Nodup)(hok:∀ x,ok x=true->Mine.storeable env own x)(hA:AOk A lv)(hc:z5k I.t ok t pt=true)(R:SR I w.params g Z H s.heap)(O:z0j I own env Y g Z s.heap)
 (hv:Rel I g Z v p)(hb:z1t Y pt p=some Y'):Go I prog w A own L g Z H (assign t env v) H (y6u I own env Y' g Z) s:=by
 cases pt with
 | one k=>
  obtain⟨x,pos,rfl,h1,h2⟩:=z2x (show z6v I.t ok t k=true from hc)
  injection hb with hb;subst hb
  show Go I prog w A own L g Z H (PySem.standAt pos>>=fun _=>bindName env x v) H _ s
  refine(Go.standAt (y0e hnd R O h1 (hok x h2) hv)).mono fun _ gb Z1 sB G Rb q=>?_
  obtain⟨Ob,rfl,rfl⟩:=q
  exact⟨Ob,fun _ _ h=>h,fun _ _ h=>h⟩
 | tup ks=>
  obtain⟨es,k,pos,rfl,hc⟩:=y8i (show x6q t (fun es=>z4d I.t ok es ks)=true from hc)
  obtain⟨l,rfl,hb⟩:=y4o hb
  obtain⟨a,o,vs,rfl,g1,g4,g2,g3⟩:=hv.tup_inv
  obtain⟨e1,e2,e3⟩:=z7n env hc
  have e4:=y1m hb
  have e5:=g3.length
  intro Q E q
  show wpAny (model prog w) A (PySem.standAt pos>>=fun _=>unpack (.ref a) (assignEach es env)) Q E s
  refine AB (BX (wpAny_unpack_tuple hA.handled (z3t (R.sub _ _ g1) g4) (by rw [e1,e3,e4,<- e5];simp) e2 fun h' he=>?_))
  have hk:∀ b o,s.heap.get? b=some o->h'.get? b=some o:=fun b o e=>he b o (DK (CV e)) e
  have R':SR I w.params g Z H h':=R.keepAll hk
  have G':z1c own L g Z H s g Z H { s with heap:=h' }:=z1c.keepAll (tk:=s.toks) hk
  have O':z0j I own env Y g Z h':=(O.step (z1c.keepAll (L:=L) (H:=H) (tk:=s.toks) hk):z0j I own env Y g Z _)
  exact q6k (s:={ s with heap:=h' }) hnd hok hc R' O' g3 hb Q E fun a gb Z1 sB G Rb p=>q a gb Z1 sB (G'.trans R G) Rb p
end
noncomputable def y3i(prog:Program)(w:World)(A:Around)(tgt:Expr)(A7:Addr)(N:Shared->Prop)(K E:Value->Shared->Prop):Option Value->Shared->Prop
 | none,sB=>N sB
 | some v,sB=>wpAny (model prog w) A (letOwnedTupleGo tgt (.ref A7) v) (fun _ sC=>K v sC) E sB
structure y2l(prog:Program)(w:World)(A:Around)(zp:Bool)(A7:Addr)(fp wr:List Addr)(n:Nat)(Pi:Nat->Value->Prop)(Pt:Nat->List Value->Prop)(St:Nat->Heap->Prop):Prop where
 sub:∀ b,b∈wr->b∈fp
 frame:∀ i h h',St i h->(∀ b,b∈fp->∀ o,h.get? b=some o->h'.get? b=some o)->St i h'
 item:∀ i (s:Shared) (tgt:Expr) (N:Shared->Prop) (K E:Value->Shared->Prop),(zp=true->tgt.ctorIdx=25)->i<n->St i s.heap ->
  (∀ v h' tk,Pi i v->St (i+1) h'->(∀ b o,b∉wr->s.heap.get? b=some o->h'.get? b=some o)->K v { s with heap:=h',toks:=tk }) ->
  (∀ T o vs h' tk,Pt i vs->s.heap.get? T=none->h'.get? T=some o->IsT o vs->St (i+1) h'->(∀ b o,b∉wr->s.heap.get? b=some o->h'.get? b=some o)->K (.ref T) { s with heap:=h',toks:=tk }) ->
  wpAny (model prog w) A (pyNext (.ref A7)) (y3i prog w A tgt A7 N K E) E s
 done:∀ (s:Shared) (tgt:Expr) (N:Shared->Prop) (K E:Value->Shared->Prop),St n s.heap ->
  (∀ h' tk,(∀ b o,b∉wr->s.heap.get? b=some o->h'.get? b=some o)->N { s with heap:=h',toks:=tk })->wpAny (model prog w) A (pyNext (.ref A7)) (y3i prog w A tgt A7 N K E) E s
 self:∀ i (s:Shared) (Q:Value->Shared->Prop) (E:Value->Shared->Prop),St i s.heap->Q (.ref A7) s->wpAny (model prog w) A (pyIter (.ref A7)) Q E s
 alive:∀ i (h:Heap),St i h->∀ b,b∈wr->∃ o,h.get? b=some o
inductive x4o(prog:Program)(w:World)(A:Around)(I:z2s)(zp:Bool)(own:List Addr)(L:Lim)(g:Fz)(Z:Bt)(H:z0b)(items:List PV)(s0:Heap)(it:Value)(h:Heap):Prop
 | mk (A7:Addr) (fp wr:List Addr) (Pi:Nat->Value->Prop) (Pt:Nat->List Value->Prop) (St:Nat->Heap->Prop) (h1:it=.ref A7) (h2:y2l prog w A zp A7 fp wr items.length Pi Pt St) (h3:St 0 h) (h4:∀ i v,Pi i v->∃ p,items[i]?=some p/\Rel I g Z v p) (h5:∀ i vs,Pt i vs->∃ ps,items[i]?=some (.tup ps)/\z0e I g Z vs ps/\vs.length<=z2k)
  (h6:∀ b,b∈fp->(∃ o,h.get? b=some o)/\b∉own/\z9a L Z H b) (h7:∀ b,b∈wr->g b=none/\(∀ i,Z i≠some b)/\s0.get? b=none):x4o prog w A I zp own L g Z H items s0 it h
noncomputable def Lim.up(L:Lim)(up:Bool)(H:z0b):Lim:=if up then⟨H.length,H.length⟩ else L
section
variable {I:z2s} {own own':List Addr} {L:Lim} {w:World} {g gb gC:Fz} {Z Z1 Z2:Bt} {H Hb H2:z0b} {s sB sC:Shared} {env:Env} {Y Y':z0l} {A:Around} {prog:Program} {lv:Nat}
theorem z2o{a:Addr}(h:∀ i,Z i≠some a):z9a L Z H a:=fun i e=>(h i e).elim
theorem y8n{L:Lim}(R:SR I w.params g Z H s.heap)(a:Addr):z9a ⟨H.length,H.length⟩ Z H a:=fun i e=>⟨fun _ _=>R.lt i a e,fun _ _=>R.lt i a e⟩
theorem SR.not_frozen_cell(R:SR I w.params g Z H s.heap){a:Addr}{o:Obj}(h:g a=some o):∀ i,Z i≠some a:=fun i e=>by rw [R.off i a e] at h;contradiction
theorem z0e.getP{vs:List Value}{ps:List PV}{i:Nat}{v:Value}(r:z0e I g Z vs ps)(h:vs[i]?=some v):∃ p,ps[i]?=some p/\Rel I g Z v p:=by
 have hlt:i<ps.length:=r.length▸(AS.mp h).1
 obtain⟨v',e1,e2⟩:=r.get (AN hlt)
 cases h.symm.trans e1
 exact⟨_,AN hlt,e2⟩
noncomputable def y3j(n:String):Bool:=(["enumerate","zip","dict_itemiterator","dict_reverseitemiterator","odict_iterator","itertools.zip_longest","itertools.pairwise"]:List String).contains n
theorem y6g{tgt:Expr}{A7:Addr}{v:Value}{o:Obj}{n:String}{Q:Unit->Shared->Prop}{E:Value->Shared->Prop}(ho:s.heap.get? A7=some o)(hc:o.cls=.type n)(hn:y3j n=false)(hq:Q () s) :
  wpAny (model prog w) A (letOwnedTupleGo tgt (.ref A7) v) Q E s:=by
 have key:∀ a:Addr,wpAny (model prog w) A (letOwnedTupleGo (.Tuple [] 0 default) (.ref A7) (.ref a)) Q E s:=fun a=>by
  refine AB (m:=load A7) (wpAny_load ho ?_)
  rw [hc]
  cases hd:o.data<;>first | exact AJ hq | skip
  unfold y3j at hn
  show wpAny _ _ (if(_&&_)=true then _ else _) _ _ _
  rw [hn,Bool.false_and]
  exact AJ hq
 have k2:wpAny (model prog w) A (letOwnedTupleGo (.Tuple [] 0 default) (.ref A7) v) Q E s:=by induction v using Value.casesOn<;>first | exact AJ hq | exact key _
 have k3:wpAny (model prog w) A (pure ()) Q E s:=AJ hq
 clear key ho hc hn hq
 induction tgt using Expr.casesOn<;>first | exact k3 | exact k2
theorem y2l.of{A7:Addr}{fp:List Addr}{n:Nat}{P:Nat->Value->Prop}{St:Nat->Heap->Prop}(hT:∀ i (h:Heap),St i h->∃ o n,h.get? A7=some o/\o.cls=.type n/\y3j n=false)(W:Walks prog w A A7 fp [A7] n P St) :
  y2l prog w A false A7 fp [A7] n P (fun _ _=>False) St where
 sub:=W.sub
 frame:=W.frame
 item:=fun i s tgt N K E _ hi st k _=>W.item i s _ E hi st fun v h' tk hv hst hk=>by
  obtain⟨o,m,h1,h2,h3⟩:=hT _ _ hst
  exact y6g (s:={ s with heap:=h',toks:=tk }) h1 h2 h3 (k v h' tk hv hst hk)
 done:=fun s tgt N K E st k=>W.done s _ E st fun h' tk hk=>k h' tk hk
 self:=W.self
 alive:=fun i h st b hb=>by
  obtain⟨o,m,h1,_⟩:=hT i h st
  exact⟨o,AO.mp hb▸h1⟩
theorem y0h{items:List PV}{oI:Obj}{fp:List Addr}{P:Nat->Value->Prop}{St:Nat->Heap->Prop}(R:SR I w.params g Z H s.heap)
 (hz:∀ a,a∈own->∃ o,s.heap.get? a=some o)
 (hf:oI.isFreed=false)(hT:∀ i (h:Heap),St i h->∃ o n,h.get? s.heap.objs.size=some o/\o.cls=.type n/\y3j n=false)
 (W:Walks prog w A s.heap.objs.size fp [s.heap.objs.size] items.length P St)(hst:St 0 (s.heap.push oI))(hP:∀ i v,P i v->∃ p,items[i]?=some p/\Rel I g Z v p)
 (hfp:∀ b,b∈fp->b≠s.heap.objs.size->(∃ o,s.heap.get? b=some o)/\b∉own/\z9a L Z H b):x4o prog w A I false own L g Z H items s.heap (.ref s.heap.objs.size) (s.heap.push oI):=by
 have hnone:=get?_size s.heap
 have hnb:∀ i,Z i≠some s.heap.objs.size:=fun i e=>by obtain⟨o,ho⟩:=R.here e;rw [hnone] at ho;contradiction
 refine⟨s.heap.objs.size,fp,[s.heap.objs.size],P,_,St,rfl,y2l.of hT W,hst,hP,fun i vs h=>h.elim,fun b hb=>?_,fun b hb=>?_⟩
 ·by_cases e:b=s.heap.objs.size
  ·subst e
   exact⟨⟨oI,BJ _ hf⟩,(fun m=>by obtain⟨o,ho⟩:=hz _ m;rw [hnone] at ho;contradiction),z2o hnb⟩
  ·obtain⟨⟨o,ho⟩,h2,h3⟩:=hfp b hb e
   exact⟨⟨o,AU _ ho⟩,h2,h3⟩
 ·rw [AO.mp hb]
  exact⟨R.gfree hnone,hnb,hnone⟩
theorem q0t{a:Addr}{o:Obj}{vs:List Value}{items:List PV}(R:SR I w.params g Z H s.heap)(hA:A.handled=none)(hz:∀ a,a∈own->∃ o,s.heap.get? a=some o)(ha:s.heap.get? a=some o)(qa:IsL o vs)(hr:z0e I g Z vs items)(hno:a∉own)(hfx:z9a L Z H a)
 {Q:Value->Shared->Prop}{E:Value->Shared->Prop}(q:∀ it oI tk,oI.isFreed=false->x4o prog w A I false own L g Z H items s.heap it (s.heap.push oI)->Q it { s with heap:=s.heap.push oI,toks:=tk }):wpAny (model prog w) A (pyIter (.ref a)) Q E s:=by
 have hne:a≠s.heap.objs.size:=DK (CV ha)
 refine wpAny_pyIter_list (z0p ha qa) (q _ _ s.toks rfl ?_)
 have W:=Walks.list (prog:=prog) (w:=w) hA s.heap.objs.size a hne vs.toArray
 rw [List.size_toArray.trans hr.length] at W
 refine y0h R hz rfl (fun i h st=>let ⟨o,h1,h2,_⟩:=st.1;⟨o,_,h1,h2,by decide⟩) W ⟨⟨_,BJ _ rfl,rfl,rfl⟩,(z0p ha qa).push _⟩ (fun i v hv=>hr.getP (DU▸hv)) fun b hb hne'=>?_
 rcases AQ.mp hb with h | h
 ·exact(hne' h).elim
 ·obtain rfl:=AO.mp h
  exact⟨⟨o,ha⟩,hno,hfx⟩
theorem q4b{u:Value}{p:PV}{items:List PV}{up:Bool}(R:SR I w.params g Z H s.heap)(hA:A.handled=none)(hz:∀ a,a∈own->g a=none/\(∀ i,Z i≠some a)/\∃ o,s.heap.get? a=some o)(hu:Rel I g Z u p)(e:x6k H p=some (items,up))
 {Q:Value->Shared->Prop}{E:Value->Shared->Prop}(q:∀ it oI tk,oI.isFreed=false->x4o prog w A I false own (L.up up H) g Z H items s.heap it (s.heap.push oI)->Q it { s with heap:=s.heap.push oI,toks:=tk }) :
  wpAny (model prog w) A (pyIter u) Q E s:=by
 have hz':∀ a,a∈own->∃ o,s.heap.get? a=some o:=fun a h=>(hz a h).2.2
 induction p using PV.casesOn with
 | lst l=>
  injection e with e;injection e with eB eC;subst eB;subst eC
  obtain⟨a,o,vs,rfl,g1,g4,g2,g3⟩:=hu.lst_inv
  exact q0t R hA hz' (R.sub _ _ g1) g4 g3 (fun m=>by rw [(hz _ m).1] at g1;contradiction) (z2o (R.not_frozen_cell g1)) q
 | tup l=>
  injection e with e;injection e with eB eC;subst eB;subst eC
  obtain⟨a,o,vs,rfl,g1,g4,g2,g3⟩:=hu.tup_inv
  have ha:=R.sub _ _ g1
  have hne:a≠s.heap.objs.size:=DK (CV ha)
  refine wpAny_pyIter_tuple (z3t ha g4) (q _ _ s.toks rfl ?_)
  have W:=Walks.tuple (prog:=prog) (w:=w) hA s.heap.objs.size a hne vs.toArray
  rw [List.size_toArray.trans g3.length] at W
  refine y0h R hz' rfl (fun i h st=>let ⟨o,h1,h2,_⟩:=st.1;⟨o,_,h1,h2,by decide⟩) W ⟨⟨_,BJ _ rfl,rfl,rfl⟩,⟨o,AU _ ha,g4⟩⟩ (fun i v hv=>g3.getP (DU▸hv)) fun b hb hne'=>?_
  rcases AQ.mp hb with h | h
  ·exact(hne' h).elim
  ·obtain rfl:=AO.mp h
   exact⟨⟨o,ha⟩,(fun m=>by rw [(hz _ m).1] at g1;contradiction),z2o (R.not_frozen_cell g1)⟩
 | str x=>
  injection e with e;injection e with eB eC;subst eB;subst eC
  obtain⟨t,rfl⟩:=hu.str_inv
  have hP:∀ i v,SignAt x i v->∃ p,(x.cps.toList.map fun c=>PV.str ⟨#[c]⟩)[i]?=some p/\Rel I g Z v p:=fun i v hv=>by
   obtain⟨c,u,hc,rfl⟩:=hv
   exact⟨.str ⟨#[c]⟩,by rw [BD,Array.getElem?_toList,hc];rfl,.str _ _⟩
  have hfp:∀ b,b∈[s.heap.objs.size]->b≠s.heap.objs.size->(∃ o,s.heap.get? b=some o)/\b∉own/\z9a (L.up false H) Z H b:=fun b hb hn=>absurd (AO.mp hb) hn
  have hlen:x.cps.size=(x.cps.toList.map fun c=>PV.str ⟨#[c]⟩).length:=by rw [AI,CM]
  cases ha:x.cps.all (·<128)
  ·refine wpAny_pyIter_wide ha (q _ _ s.toks rfl ?_)
   have W:=Walks.strWide (prog:=prog) (w:=w) hA s.heap.objs.size x t
   rw [hlen] at W
   exact y0h R hz' rfl (fun i h st=>let ⟨o,h1,h2,_⟩:=st;⟨o,_,h1,h2,by decide⟩) W ⟨_,BJ _ rfl,rfl,rfl⟩ hP hfp
  ·refine wpAny_pyIter_ascii ha (q _ _ s.toks rfl ?_)
   have W:=Walks.strAscii (prog:=prog) (w:=w) hA s.heap.objs.size x t
   rw [hlen] at W
   exact y0h R hz' rfl (fun i h st=>let ⟨o,h1,h2,_⟩:=st;⟨o,_,h1,h2,by decide⟩) W ⟨_,BJ _ rfl,rfl,rfl⟩ hP hfp
 | ref i=>
  obtain⟨l,hl,e⟩:=z0z e
  cases e
  obtain⟨a,rfl,hi⟩:=hu.ref_inv
  obtain⟨o,vs,c1,c4,c2,c3,_⟩:=R.cell _ _ _ hi (z3s hl)
  exact q0t R hA hz' c1 c4 c3 (fun m=>(hz _ m).2.1 _ hi) (y8n (L:=L) R _) q
 | _=>contradiction
theorem q9d{a b:Int}{i:Nat}(h:i<(b - a).toNat):(z4y a b)[i]?=some (.int (a+i)):=by
 unfold z4y
 rw [BD,EE h];rfl
theorem y1n(a b:Int):(z4y a b).length=(b - a).toNat:=by unfold z4y;simp
theorem y4p{x:Int}(h:x.natAbs<=2000000):Builtin.Range.rangeFitsLong x=true:=
 AG.mpr ⟨AV (i64 h).1,AV (i64 h).2⟩
theorem q4c{a b:Int}(ha:a.natAbs<=1000000)(hb:b.natAbs<=1000000):Builtin.Range.small a b 1=true:=by
 unfold Builtin.Range.small
 have h2:Builtin.Range.rangeFitsLong b=true:=y4p (AA hb (by decide))
 rw [rangeSize_nat,Int.sub_self,Int.add_zero,y4p (x:=a) (AA ha (by decide)),h2,y4p (x:=(((b - a).toNat:Nat):Int)) (AA (AA (m:=(b - a).natAbs) (q0f _) (Int.natAbs_sub_le b a)) (BM hb ha))]
 show(true&&true&&_&&true&&(_ || true))=true
 rw [Bool.or_true]
 rfl
theorem q0u{a b:Int}{t u v:Tok}{r:Addr}{items:List PV}(R:SR I w.params g Z H s.heap)(hA:A.handled=none)(hz:∀ a,a∈own->g a=none/\(∀ i,Z i≠some a)/\∃ o,s.heap.get? a=some o)
 (hr:IsRange s.heap r a b 1 t u v)(ha:a.natAbs<=1000000)(hb:b.natAbs<=1000000)(hi:items=z4y a b)
 {Q:Value->Shared->Prop}{E:Value->Shared->Prop}(q:∀ it oI tk,oI.isFreed=false->x4o prog w A I false own L g Z H items s.heap it (s.heap.push oI)->Q it { s with heap:=s.heap.push oI,toks:=tk }) :
  wpAny (model prog w) A (pyIter (.ref r)) Q E s:=by
 subst hi
 refine wpAny_pyIter_range hr (q4c ha hb) (q _ _ s.toks rfl ?_)
 have W:=(Walks.range (prog:=prog) (w:=w) hA s.heap.objs.size a 1 (b - a).toNat).bound
 rw [<- y1n a b] at W
 refine y0h R (fun a h=>(hz a h).2.2) rfl (fun i h st=>⟨_,_,st,rfl,by decide⟩) W ?_ (fun i v hv=>?_) fun b hb hn=>absurd (AO.mp hb) hn
 ·rw [rangeSize_nat,y1n]
  show IsRangeIter _ _ _ _ _
  have:=BJ (h:=s.heap) (o:={ cls:=.type "range_iterator",data:=.fields #[rawInt a,rawInt (((b - a).toNat:Nat):Int),rawInt 1] }) rfl
  simpa [IsRangeIter] using this
 ·obtain⟨hi,t,rfl⟩:=hv
  rw [y1n] at hi
  exact⟨_,q9d hi,by rw [Int.mul_one];exact .int _ _⟩
end
noncomputable abbrev Sc:=List (Str×NameKind)
noncomputable def q6l(sc:Sc)(x:Str):Bool:=(sc.lookup x==some .local || sc.lookup x==some .cell || sc.lookup x==some .free)&&!(x==("__debug__":Str))&&!(x==("__classdict__":Str))
noncomputable def q0v(I:z3x)(sc:Sc)(x:Str)(v:Value):Bool:=sc.lookup x==some .globalImplicit&&I.gv.lookup x==some v&&!(x==("__debug__":Str))
noncomputable def z1k(sc:Sc)(x:Str):Bool:=sc.lookup x==some .local || sc.lookup x==some .cell
noncomputable def z1l(e:Expr):Bool:=q8x e fun f es ks _=>f.ctorIdx==23&&d0 es&&d0 ks
noncomputable def y4q(e:Expr):Bool:=e.ctorIdx==7
noncomputable def z8c(e:Expr):Bool:=e.ctorIdx==22
noncomputable def z0y(I:z3x)(sc:Sc)(e:Expr)(v:Value):Bool:=y8h e fun x=>q0v I sc x v
noncomputable def q0w:q6a->Option Value
 | .len=>some (.builtin "len")
 | .sum=>some (.builtin "sum")
 | .max=>some (.builtin "max")
 | .sorted=>some (.builtin "sorted")
 | .int=>some (.type "int")
 | .hex=>some (.builtin "hex")
 | .tuple=>some (.type "tuple")
 | _=>none
noncomputable def y3k:q6a->Option String
 | .lower=>some "lower"
 | .upper=>some "upper"
 | .split=>some "split"
 | .join=>some "join"
 | .index=>some "index"
 | _=>none
noncomputable def y8o(e:Expr):Bool:=if e.ctorIdx==15 then k2k e fun _ os bs=>d1 os (fun _=>d1 bs fun r=>!y4q r) else !(e.ctorIdx==0)&&!(e.ctorIdx==5)&&!(e.ctorIdx==3&&dUn e fun o _=>o==.Not)
noncomputable def w1l:DisplayRoad->Bool
 | .oneByOne=>true
 | _=>false
noncomputable def z4j(sc inner:Sc):Sc:=inner.map fun nk=>if nk.2==.free&&sc.lookup nk.1==some .cell then(nk.1,.cell) else nk
noncomputable def z2j{V A8:Type}(f:V->A8->Bool):List V->List A8->Bool
 | [],[]=>true
 | a::as,b::bs=>f a b&&z2j f as bs
 | _,_=>false
noncomputable def q9e:z5w->Bool
 | .zip=>true
 | _=>false
noncomputable def y0i(e:Expr)(k:Expr->List Expr->Pos->Bool):Bool:=q8x e fun f es ks cp=>d0 ks&&k f es cp
noncomputable def y4r(e:Expr)(k:Expr->Str->List Expr->List Keyword->Bool):Bool:=q8x e fun f es ks cp=>q3t f fun o x ap=>ap.endLine==cp.line&&!z1l o&&k o x es ks
noncomputable def y1o(I:z3x)(cE:Expr->ME->Bool)(sc:Sc)(iter:Expr)(k:z5w)(args:List ME):Bool:=!y4q iter&&match k with
 | .over=>d1 args fun m=>cE iter m
 | .range=>y0i iter fun f es _=>z0y I sc f (.type "range")&&z2j cE es args
 | .zip=>y0i iter fun f es _=>z0y I sc f (.type "zip")&&z2j cE es args
 | .items=>false
noncomputable def j2i(I:z3x)(cE:Expr->ME->Bool)(cT:Expr->ME->Bool)(sc:Sc)(ok:Str->Bool)(c:Comprehension)(gn:Pat×z5w×List ME×List ME):Bool:=
 z5k I ok c.target gn.1&&c.is_async==0&&z2j cT c.ifs gn.2.2.2&&(!q9e gn.2.1 || c.target.ctorIdx==25)
noncomputable def y3l(I:z3x)(cE cT:Expr->ME->Bool)(sc:Sc)(ok:Str->Bool):List Comprehension->List (Pat×z5w×List ME×List ME)->Bool
 | [],[]=>true
 | c::cs,gn::gs=>j2i I cE cT sc ok c gn&&y1o I cE sc c.iter gn.2.1 gn.2.2.1&&y3l I cE cT sc ok cs gs
 | _,_=>false
noncomputable def y4s(cE:Expr->ME->Bool):Option Expr->Option ME->Bool
 | none,none=>true
 | some e,some m=>cE e m
 | _,_=>false
noncomputable def q6m(I:z3x)(gs:List (Pat×z5w×List ME×List ME))(x:Str):Bool:=gs.any fun gn=>(z2r gn.1).any fun k=>I.nm[k]?==some x
noncomputable def y0j(I:z3x)(sc:Sc)(inner:Scope)(gs:List (Pat×z5w×List ME×List ME)):Bool:=
 inner.kind==.function&&(inner.names.all fun nk=>inner.names.lookup nk.1==some nk.2)&&decide ((gs.flatMap fun gn=>z2r gn.1).Nodup)&&inner.names.all (fun nk=>match nk.2 with
  | .local=>(nk.1==(".0":Str)&&!I.nm.contains (".0":Str)) || q6m I gs nk.1
  | .cell=>q6m I gs nk.1
  | .free=>sc.lookup nk.1==some .cell || sc.lookup nk.1==some .free
  | .globalImplicit=>true
  | .globalExplicit=>false)
noncomputable def x7d(inner:Scope)(x:Str):Bool:=inner.names.lookup x==some .local || inner.names.lookup x==some .cell
noncomputable def q0x(I:z3x)(cE cT:Sc->Expr->ME->Bool)(sc sc':Sc)(ok:Str->Bool):List Comprehension->List (Pat×z5w×List ME×List ME)->Bool
 | c::cs,gn::gs=>j2i I (cE sc') (cT sc') sc' ok c gn&&y1o I (cE sc) sc c.iter gn.2.1 gn.2.2.1&&y3l I (cE sc') (cT sc') sc' ok cs gs
 | _,_=>false
noncomputable def q4d(l:List ME)(k:ME->List ME->Bool):Bool:=match l with
 | o::r=>k o r
 | []=>false
noncomputable def y8p(I:z3x)(c:Expr->ME->Bool)(sc:Sc)(e:Expr)(p:q6a)(args:List ME):Bool:=match q0w p with
 | some v=>y0i e fun f es _=>z0y I sc f v&&decide (es.length<20)&&z2j c es args
 | none=>(match y3k p with
  | some nmx=>q4d args fun o r=>y4r e fun o' x es ks=>d0 ks&&x==Str.ofString nmx&&decide (es.length<20)&&c o' o&&z2j c es r
  | none=>(match p with
   | .flagGet=>q8x e fun f es ks cp=>q3t f fun d x ap=>ap.endLine==cp.line&&d0 ks&&x==("get":Str)&&z0y I sc d (.ref I.dA)&&es.length==2&&z2j c es args
   | .search=>q4d args fun o r=>y4r e fun o' x es ks=>d0 ks&&x==("search":Str)&&es.length==1&&c o' o&&z2j c es r
   | _=>false))
noncomputable def q6n(I:z3x)(cE cT:Sc->Expr->ME->Bool)(sc:Sc)(e:Expr)(m:ME):Bool:=match m with
  | .none=>k1u e fun c=>c==.none
  | .bool b=>k1u e fun c=>c==.bool b
  | .int i=>k1u e fun c=>c==.int i
  | .str x=>k1u e fun c=>c==.str x
  | .dbg=>y8h e fun x=>x==("__debug__":Str)
  | .var k=>y8h e fun x=>I.nm[k]?==some x&&q6l sc x
  | .neg a=>dUn e fun o a'=>o==.USub&&cE sc a' a
  | .bin o a b=>w1g e fun a' o' b'=>o'==o.op&&cE sc a' a&&cE sc b' b
  | .cmp o a b=>k2k e fun a' os bs=>d1 os fun o'=>d1 bs fun b'=>o'==o.op&&!y4q b'&&cE sc a' a&&cE sc b' b
  | .isNone ng a=>k2k e fun a' os bs=>d1 os fun o'=>d1 bs fun b'=>o'==(if ng then .IsNot else .Is)&&k1u b' (fun c=>c==.none)&&cE sc a' a
  | .isTy ng t a=>k2k e fun l os bs=>d1 os fun o'=>d1 bs fun ty=>y0i l fun f es _=>d1 es fun a'=>o'==(if ng then .IsNot else .Is)&&z0y I sc f (.type "type")&&z0y I sc ty (.type (if t then "str" else "list"))&&cE sc a' a
  | .ite c a b=>dIf e fun c' a' b'=>cT sc c' c&&cE sc a' a&&cE sc b' b
  | .idx a i=>x6o e fun a' i'=>!z6u i'&&cE sc a' a&&cE sc i' i
  | .slice a lo hi=>x6o e fun a' i'=>q6f i' fun lo' hi' st=>st.isNone&&cE sc a' a&&y4s (cE sc) lo' lo&&y4s (cE sc) hi' hi
  | .tup l=>x6q e fun es=>decide (es.length<1000)&&z2j (cE sc) es l
  | .lst l=>x6p e fun es=>decide (es.length<1000)&&z2j (cE sc) es l
  | .mlst l=>x6p e fun es=>decide (es.length<1000)&&z2j (cE sc) es l
  | .mcat a b=>w1g e fun a' o' b'=>o'==.Add&&cE sc a' a&&cE sc b' b
  | .mslice a=>x6o e fun a' i'=>q6f i' fun lo' hi' st=>lo'.isNone&&hi'.isNone&&st.isNone&&cE sc a' a
  | .pure a=>cE sc e a
  | .gc a=>cE sc e a
  | .comp elt gs=>x6n e fun elt' cs inner=>y0j I sc inner gs&&q0x I cE cT sc (z4j sc inner.names) (x7d inner) cs gs&&cE (z4j sc inner.names) elt' elt
  | .call f args=>y0i e fun fe es _=>z0y I sc fe (.ref (I.fA f))&&(I.P.fn f).isSome&&decide (es.length<20)&&z2j (cE sc) es args
  | .new c args=>y0i e fun fe es _=>z0y I sc fe (.ref (I.cA c))&&decide (es.length<20)&&z2j (cE sc) es args
  | .newg c args=>y0i e fun fe es _=>z0y I sc fe (.ref (I.cA c))&&decide (es.length<20)&&z2j (cE sc) es args
  | .meth k o args=>y4r e fun o' x es ks=>d0 ks&&I.nm[k]?==some x&&decide (es.length<20)&&cE sc o' o&&z2j (cE sc) es args
  | .methk k o args kk ke=>y4r e fun o' x es ks=>d1 ks fun kw=>dO kw.arg fun kn=>(I.nm[k]?==some x&&decide (es.length<20)&&cE sc o' o&&z2j (cE sc) es args)&&I.nm[kk]?==some kn&&cE sc kw.value ke
  | .attr k o=>q3t e fun o' x _=>I.nm[k]?==some x&&I.atts.contains k&&!z1l o'&&cE sc o' o
  | .gattr k=>q3t e fun o' x _=>y8h o' fun c=>q0v I sc c (.ref (I.cA 0))&&I.nm[k]?==some x
  | .pat b=>y8h e fun x=>q0v I sc x (.ref (I.pA b))
  | .prim p args=>y8p I (cE sc) sc e p args
  | .notE _=>false
  | .andE _=>false
  | .orE _=>false
  | .stuck=>true
noncomputable def x4p(I:z3x)(cE cT:Sc->Expr->ME->Bool)(sc:Sc)(e:Expr)(m:ME):Bool:=!z8c e&&q6n I cE cT sc e m
noncomputable def k3m(cE cT:Sc->Expr->ME->Bool)(sc:Sc)(e:Expr)(m:ME):Bool:=match m with
 | .notE a=>dUn e fun o a'=>o==.Not&&cT sc a' a
 | .andE l=>y1i e fun o vs=>o==.And&&z2j (cT sc) vs l
 | .orE l=>y1i e fun o vs=>o==.Or&&z2j (cT sc) vs l
 | m=>y8o e&&cE sc e m
noncomputable def q4e(I:z3x):Nat->(Sc->Expr->ME->Bool)×(Sc->Expr->ME->Bool)
 | 0=>(fun _ _ _=>false,fun _ _ _=>false)
 | n+1=>(x4p I (q4e I n).1 (q4e I n).2,k3m (x4p I (q4e I n).1 (q4e I n).2) (q4e I n).2)
noncomputable def z0m(I:z3x)(n:Nat):Sc->Expr->ME->Bool:=(q4e I n).1
noncomputable def z6c(I:z3x)(n:Nat):Sc->Expr->ME->Bool:=(q4e I n).2
noncomputable def z3k(sc:Sc)(e t:Expr):Bool:=t.ctorIdx==23&&(e.ctorIdx==8&&match t,e with
 | .Name x pos,.ListComp _ _ s _=>sc.lookup x==some .local&&pos.line==e.pos.line&&!(s.names.any fun(n,k)=>n==x&&(k==.local || k==.cell))
 | _,_=>false)
noncomputable def j2j(x:ME):Bool:=x.ctorIdx==21
noncomputable def y3m(I:z3x)(ok:Str->Bool):List Expr->List Nat->Bool
 | [],[]=>true
 | e::es,k::ks=>z6v I ok e k&&y3m I ok es ks
 | _,_=>false
noncomputable def d2{V:Type}:List V->(V->V->Bool)->Bool
 | [a,b],k=>k a b
 | _,_=>false
theorem x4q{V:Type}{l:List V}{k:V->V->Bool}(h:d2 l k=true):∃ a b,l=[a,b]/\k a b=true:=by
 rcases l with _ | ⟨a,_ | ⟨b,_ | ⟨c,l⟩⟩⟩<;>first | exact ff h | exact⟨a,b,rfl,h⟩
noncomputable def d3{V:Type}:List V->(V->V->V->Bool)->Bool
 | [a,b,c],k=>k a b c
 | _,_=>false
theorem k3n{V:Type}{l:List V}{k:V->V->V->Bool}(h:d3 l k=true):∃ a b c,l=[a,b,c]/\k a b c=true:=by
 rcases l with _ | ⟨a,_ | ⟨b,_ | ⟨c,_ | ⟨d,l⟩⟩⟩⟩<;>first | exact ff h | exact⟨a,b,c,rfl,h⟩
noncomputable def y3n:Pat->Bool
 | .one _=>true
 | .tup ks=>d2 ks (fun a b=>a != b) || d3 ks fun a b c=>a != b&&(a != c&&b != c)
noncomputable def j2k(e:Expr):Bool:=e.ctorIdx==8 || e.ctorIdx==9 || e.ctorIdx==10
theorem q0y{I:z3x}{ok:Str->Bool}{t:Expr}{pt:Pat}(h:z5k I ok t pt=true):z8c t=false:=by
 cases pt with
 | one k=>obtain⟨x,p,rfl,_⟩:=z2x (show z6v I ok t k=true from h);rfl
 | tup ks=>obtain⟨es,n,p,rfl,_⟩:=y8i (show x6q t (fun es=>z4d I ok es ks)=true from h);rfl
noncomputable def z2y(e:Expr):Bool:=e.ctorIdx==9 || e.ctorIdx==10
noncomputable def j2l(e:Expr):List Expr:=match e with
 | .Tuple l _ _=>l
 | _=>[]
noncomputable def y6v(sc:Sc)(ts:List Expr):List Str:=ts.filterMap fun
 | .Name id pos=>if sc.lookup id==some .local&&pos.line==(ts.head?.map (·.pos.line)).getD 0 then some id else none
 | _=>none
noncomputable def j2m(sc:Sc)(ts vs:List Expr):Option (Option (List Str)):=
 if !(ts.length==2 || ts.length==3) || vs.length != ts.length then some none
 else if vs.any fun | .Starred ..=>true | _=>false then some none
 else if(y6v sc ts).length != ts.length || (y6v sc ts).eraseDups.length !=(y6v sc ts).length then some none
 else if vs.all (foldedForSure 8) then some none
 else if vs.all (constantsAlone 8) then none
 else some (some (y6v sc ts))
noncomputable def y4t(sc:Sc)(t e:Expr):Option (Option (List Str)):=if t.ctorIdx==25 then(if e.ctorIdx==25 then j2m sc (j2l t) (j2l e) else some none) else some none
noncomputable def x4r(r:Option (Option (List Str)))(p:Pat):Bool:=match r with
 | some none=>true
 | some (some _)=>y3n p
 | none=>false
noncomputable def k3o(I:z3x)(cE cT:Expr->ME->Bool)(sc:Sc)(cS:Stmt->MS->Bool)(st:Stmt)(m:MS):Bool:=match m with
 | .ret e=>w5j st fun v=>dO v fun e'=>cE e' e
 | .expr e=>x6r st fun e'=>!j2k e'&&cE e' e
 | .assign p e=>k1v st fun l e'=>d1 l fun t=>z5k I (z1k sc) t p&&cE e' e&&!z2y e'&&(!z3k sc e' t || j2j e)&&x4r (y4t sc t e') p
 | .assigns ks e=>k1v st fun l e'=>decide (2<=l.length)&&y3m I (z1k sc) l ks&&cE e' e
 | .aug o k e=>w5l st fun t o' e'=>y8h t fun x=>o'==o.op&&I.nm[k]?==some x&&q6l sc x&&z1k sc x&&cE e' e
 | .setAttr o k e=>k1v st fun l e'=>d1 l fun t=>q3t t fun o' x _=>!z2y e'&&I.nm[k]?==some x&&I.atts.contains k&&cE o' o&&cE e' e
 | .setIdx o i e=>k1v st fun l e'=>d1 l fun t=>x6o t fun o' i'=>!z2y e'&&!z6u i'&&cE o' o&&cE i' i&&cE e' e
 | .setAll o e=>k1v st fun l e'=>d1 l fun t=>x6o t fun o' i'=>q6f i' fun a b c=>(a.isNone&&b.isNone&&c.isNone)&&!z2y e'&&cE o' o&&cE e' e
 | .delIdx o i=>w5k st fun l=>d1 l fun t=>x6o t fun o' i'=>!z6u i'&&cE o' o&&cE i' i
 | .append o e=>x6r st fun v=>y4r v fun o' x es ks=>d0 ks&&d1 es fun e'=>x==("append":Str)&&cE o' o&&cE e' e
 | .ifs c a b=>sIf st fun t a' b'=>cT t c&&z2j cS a' a&&z2j cS b' b
 | .for_ p k src body orelse=>w5m st fun t it b' o'=>z5k I (z1k sc) t p&&y1o I cE sc it k src&&z2j cS b' body&&z2j cS o' orelse&&!q9e k
 | .while_ c body=>x4m st fun t b' o'=>d0 o'&&cT t c&&z2j cS b' body
 | .brk=>st.ctorIdx==26
 | .stuck=>true
noncomputable def y0k(I:z3x):Nat->Sc->Stmt->MS->Bool
 | 0=>fun _ _ _=>false
 | n+1=>fun sc=>k3o I (z0m I n sc) (z6c I n sc) sc (y0k I n sc)
structure k1x(A:Around)(lv:Nat):Prop where
 handled:A.handled=none
 depth:A.depth+12*lv<=806
 units:A.units+200*lv<=9100
theorem AOk.s{A:Around}{lv:Nat}(h:AOk A lv):k1x A lv:=⟨h.handled,by have:=h.depth;lia,by have:=h.units;lia⟩
structure z0r(I:z2s):Prop where
 nd:I.nm.Nodup
 kin:I.K.In I.B
 glob:∃ mg mb,I.B.Ns mainGlobals mg/\I.B.Ns builtinsNs mb/\∀ x v,I.gv.lookup x=some v->mg x=some v\/(mg x=none/\mb x=some v)
 keepF:∀ f,(I.P.fn f).isSome=true->keepIn I.K (.ref (I.fA f))=true
 keepC:∀ c,keepIn I.K (.ref (I.cA c))=true
 n0:I.nm[0]?=some ("__init__":Str)
 n1:I.nm[1]?=some ("__contains__":Str)
 n2:I.nm[2]?=some ("__getitem__":Str)
 n3:I.nm[3]?=some ("__setitem__":Str)
 n4:I.nm[4]?=some ("__delitem__":Str)
 meths:∀ c m f x,I.P.meth c m=some f->I.nm[m]?=some x->findIn I.K (.ref (I.cA c)) x=some (some (.ref (I.fA f)))/\isFn I.K (.ref (I.fA f))=true/\fnIn I.K (I.fA f)=true/\I.atts.contains m=false/\keepIn I.K (.ref (I.fA f))=true
 plainC:∀ c,plainGet I.K (I.cA c) Str.empty=true/\hasDictIn I.K (I.cA c)=true/\noSeq I.K (I.cA c)=true/\plainOver I.K (I.cA c)=true/\findIn I.K (.ref (I.cA c)) "__setattr__"=some (some (.builtin "object.__setattr__"))
 makesC:∀ c f,I.P.meth c 0=some f->makesIn I.K (I.cA c)=true
 attsC:∀ c k x,I.atts.contains k=true->I.nm[k]?=some x->findIn I.K (.ref (I.cA c)) x=some none
 gat:∀ k x y,I.P.gattr k=some x->I.nm[k]?=some y->∃ mc t,typeIn I.K (.ref (I.cA 0))=some mc/\readsIn I.K (I.cA 0) mc=true/\findCls I.K (.ref (I.cA 0)) mc y=some (.val (.str x t))
inductive w5p{V A8:Type}(m:M V)(f:V->M A8)(L:Lim)(H:z0b)(b:A8)(H':z0b):Prop
 | mk (a:V) (Hb:z0b) (h1:m L H=some (a,Hb)) (h2:f a L Hb=some (b,H')):w5p m f L H b H'
theorem M.bind_some{V A8:Type}{m:M V}{f:V->M A8}{L:Lim}{H H':z0b}{b:A8}(h:m.bind f L H=some (b,H')):w5p m f L H b H':=by
 unfold M.bind at h
 split at h
 ·exact⟨_,_,by assumption,h⟩
 ·contradiction
theorem M.pure_some{V:Type}{a b:V}{L:Lim}{H H':z0b}(h:M.pure a L H=some (b,H')):a=b/\H=H':=FL (AF h)
theorem M.ofOpt_some{V:Type}{o:Option V}{b:V}{L:Lim}{H H':z0b}(h:M.ofOpt o L H=some (b,H')):o=some b/\H=H':=by
 induction o using Option.casesOn with
 | none=>contradiction
 | some a=>have e:=M.pure_some (L:=L) h;exact⟨AP some e.1,e.2⟩
theorem M.getH_some{L:Lim}{H H' J:z0b}(h:z4v L H=some (J,H')):H=J/\H=H':=FL (AF h)
section
variable {V A8:Type} {L:Lim} {H H':z0b} {p r:PV} {x:V} {y:A8} {m:M V}
theorem M.getO_some{f:z0b->Option A8}(h:(z4v.bind fun J=>M.ofOpt (f J)) L H=some (y,H')):f H=some y/\H=H':=M.ofOpt_some (L:=L) h
inductive w5q(m:M V)(f:V->A8)(L:Lim)(H:z0b)(y:A8)(H':z0b):Prop
 | mk (a:V) (h1:m L H=some (a,H')) (h2:f a=y):w5q m f L H y H'
theorem M.map_some{f:V->A8}(h:(m.bind fun a=>M.pure (f a)) L H=some (y,H')):w5q m f L H y H':=by
 obtain⟨a,Hb,h1,h2⟩:=M.bind_some h
 obtain⟨e,rfl⟩:=M.pure_some h2
 exact⟨a,h1,e⟩
theorem M.then_some{f:z0b->V->Option A8}(h:(m.bind fun a=>z4v.bind fun J=>M.ofOpt (f J a)) L H=some (y,H')):∃ a,m L H=some (a,H')/\f H' a=some y:=by
 obtain⟨a,Hb,h1,h2⟩:=M.bind_some h
 obtain⟨e,rfl⟩:=M.getO_some h2
 exact⟨a,h1,e⟩
theorem M.opt_some{o:Option V}{f:V->M A8}(h:((M.ofOpt o).bind f) L H=some (y,H')):∃ a,o=some a/\f a L H=some (y,H'):=by
 obtain⟨a,Hb,h1,h2⟩:=M.bind_some h
 obtain⟨e,rfl⟩:=M.ofOpt_some h1
 exact⟨a,e,h2⟩
theorem M.if_some{c:Prop}[Decidable c](h:(if c then m else M.fail:M V) L H=some (x,H')):c/\m L H=some (x,H'):=by
 by_cases q:c
 ·rw [AR q] at h;exact⟨q,h⟩
 ·rw [AT q] at h;contradiction
theorem z6f{i:Int}(h:y6e p L H=some (i,H')):p=.int i/\H=H':=by
 obtain⟨h,e⟩:=M.ofOpt_some h
 obtain⟨j,rfl,h⟩:=z5x h
 exact⟨AP PV.int (AF h),e⟩
theorem z8p{k:Nat->Nat->M V}(h:j1l p k L H=some (x,H')):∃ c i,p=.inst c i/\k c i L H=some (x,H'):=by
 induction p using PV.casesOn<;>first | exact⟨_,_,rfl,h⟩ | contradiction
theorem y4u{k:Nat->M V}(h:w0e p k L H=some (x,H')):∃ i,p=.ref i/\k i L H=some (x,H'):=by
 induction p using PV.casesOn<;>first | exact⟨_,rfl,h⟩ | contradiction
theorem z6g{P:MP}{C:z0g}{m:Nat}{args:List PV}{kw:List (Nat×PV)}(h:y0a P C m p args kw L H=some (r,H')):∃ c i f,p=.inst c i/\P.meth c m=some f/\C f (p::args) kw L H=some (r,H'):=by
 obtain⟨c,i,e,h⟩:=z8p h
 obtain⟨f,hf,h⟩:=M.opt_some h
 exact⟨c,i,f,e,hf,h⟩
theorem y6w{i:Nat}{l:List (Nat×PV)}(h:y6d i L H=some (l,H')):H[i]?=some (.att l)/\H=H':=by
 unfold y6d at h
 split at h
 ·have e:=FL (AF h);exact⟨e.1▸(by assumption),e.2⟩
 ·contradiction
theorem z8q{i:Nat}{l:List PV}(h:y8d i L H=some (l,H')):H[i]?=some (.lst l)/\H=H':=by
 unfold y8d at h
 split at h
 ·have e:=FL (AF h);exact⟨e.1▸(by assumption),e.2⟩
 ·contradiction
theorem q9f{k:Nat}(h:j8x k p L H=some (r,H')):∃ c i l,p=.inst c i/\H[i]?=some (.att l)/\l.lookup k=some r/\H=H':=by
 obtain⟨c,i,e,h⟩:=z8p h
 obtain⟨l,Hb,h1,h2⟩:=M.bind_some h
 obtain⟨a,rfl⟩:=y6w h1
 obtain⟨b,e'⟩:=M.ofOpt_some h2
 exact⟨c,i,l,e,a,b,e'⟩
theorem q0z{u:Unit}(h:q3r p L H=some (u,H')):∃ c i l,p=.inst c i/\H=H'/\H[i]?=some (.att l):=by
 obtain⟨c,i,e,h⟩:=z8p h
 obtain⟨l,h1,_⟩:=M.map_some h
 obtain⟨a,b⟩:=y6w h1
 exact⟨c,i,l,e,b,a⟩
theorem z9l{l:List PV}(h:z7x l L H=some (r,H')):z0t 0 l=true/\r=.ref H.length/\H'=H++[.lst l]:=by
 obtain⟨a,b⟩:=z0o (show(if z0t 0 l=true then some (PV.ref H.length,H++[.lst l]) else none)=some (r,H') from h)
 have e:=FL (AF b)
 exact⟨a,e.1.symm,e.2.symm⟩
theorem q9g{b:Bool}(h:q6c p L H=some (b,H')):p=.bool b/\H=H':=by
 unfold q6c at h
 split at h
 ·obtain⟨rfl,e⟩:=M.pure_some h;exact⟨rfl,e⟩
 ·contradiction
theorem j9n{o:COp}(h:w1e o=true):o=.in_:=by cases o<;>first | rfl | contradiction
end
noncomputable def z4l(I:z2s)(prog:Program)(w:World)(lv:Nat)(f:z0l->ME->M PV):Prop:=
 ∀ {n own env Y A L g Z H s e m p H'},AOk A lv->SR I w.params g Z H s.heap->z0j I own env Y g Z s.heap->z0m I.t n env.scope.names e m=true->f Y m L H=some (p,H') ->
  Go I prog w A [] L g Z H (eval e env) H' (P.val I p) s
noncomputable def q0c(I:z2s)(prog:Program)(w:World)(lv:Nat)(f:z0l->ME->M Bool):Prop:=
 ∀ {n own env Y A L g Z H s e m p H'},AOk A lv->SR I w.params g Z H s.heap->z0j I own env Y g Z s.heap->z6c I.t n env.scope.names e m=true->f Y m L H=some (p,H') ->
  Go I prog w A [] L g Z H (isTrue e env (eval e env)) H' (fun _ _ _ r=>r=p) s
noncomputable def z4e(I:z2s)(own:List Addr)(env:Env)(fl:Fl):Fz->Bt->Shared->Flow->Prop:=fun g' Z' s' f=>match fl with
 | .next Y'=>f=.next/\z0j I own env Y' g' Z' s'.heap
 | .brk Y'=>f=.brk/\z0j I own env Y' g' Z' s'.heap
 | .ret v=>∃ x,f=.ret x/\Rel I g' Z' x v
noncomputable def j8s(I:z2s)(prog:Program)(w:World)(lv:Nat)(f:z0l->MS->M Fl):Prop:=
 ∀ {n own env Y A L g Z H s e m p H'},AOk A lv->SR I w.params g Z H s.heap->z0j I own env Y g Z s.heap->(∀ x,z1k env.scope.names x=true->Mine.storeable env own x)->y0k I.t n env.scope.names e m=true->f Y m L H=some (p,H') ->
  Go I prog w A own L g Z H (exec e env) H' (z4e I own env p) s
inductive y6h(I:z2s)(g:Fz)(Z:Bt):List (Str×Value)->List (Nat×PV)->Prop
 | nil:y6h I g Z [] []
 | cons {x:Str} {v:Value} {k:Nat} {p:PV} {l:List (Str×Value)} {m:List (Nat×PV)}:I.nm[k]?=some x->Rel I g Z v p->y6h I g Z l m->y6h I g Z ((x,v)::l) ((k,p)::m)
noncomputable def j2n(I:z2s)(prog:Program)(w:World)(A:Around)(L:Lim)(g:Fz)(Z:Bt)(H:z0b)(f:Value)(vs:List Value)(kvs:List (Str×Value))(H':z0b)(p:PV)(s:Shared):Prop:=
 ∀ (R:Result->Shared->Prop),(∀ v g' Z' s',z1c [] L g Z H s g' Z' H' s'->SR I w.params g' Z' H' s'.heap->Rel I g' Z' v p->R (.ok (.ret v)) s')->codeAny (model prog w) A (.call f ⟨vs,kvs⟩) R s
theorem j2n.go{I:z2s}{prog:Program}{w:World}{A:Around}{L:Lim}{g:Fz}{Z:Bt}{H:z0b}{f:Value}{vs:List Value}{kvs:List (Str×Value)}{H':z0b}{p:PV}{s:Shared}(h:j2n I prog w A L g Z H f vs kvs H' p s) :
  Go I prog w A [] L g Z H (call f vs kvs) H' (P.val I p) s:=fun Q E q=>wpAny_call (h _ fun v g' Z' s' G R p=>q v g' Z' s' G R p)
noncomputable def q9h(I:z2s)(prog:Program)(w:World)(lv:Nat)(C:z0g):Prop:=
 ∀ {A L g Z H s f pos kw vs kvs p H'},k1x A lv->SR I w.params g Z H s.heap->z0e I g Z vs pos->y6h I g Z kvs kw->C f pos kw L H=some (p,H')->j2n I prog w A L g Z H (.ref (I.fA f)) vs kvs H' p s
section
variable {I:z2s} {own own':List Addr} {L:Lim} {w:World} {g gb gC:Fz} {Z Z1 Z2:Bt} {H Hb H2 H':z0b} {s sB sC:Shared} {env:Env} {Y Y':z0l} {A:Around} {prog:Program} {lv n:Nat} {S:z6q} {C:z0g} {p q r:PV}
theorem z0r.there(T:z0r I)(R:SR I w.params g Z H s.heap):I.K.In s.heap:=fun a o e=>R.sub _ _ (R.base _ _ (T.kin _ _ e))
theorem SR.up(R:SR I w.params g Z H s.heap):∀ a o,I.B.get? a=some o->s.heap.get? a=some o:=fun a o e=>R.sub _ _ (R.base _ _ e)
theorem z4m{n:Nat}{sc:Sc}{e:Expr}{m:ME}(h:z0m I.t n sc e m=true):z8c e=false:=by
 induction n using Nat.casesOn with
 | zero=>contradiction
 | succ n=>exact q0b (z0u (show(!z8c e&&_)=true from h)).1
theorem z2g{e:Expr}(h:z8c e=false)(rest:List Expr)(env:Env):starEach (e::rest) env=(false,eval e env)::starEach rest env:=by
 cases e<;>first | rfl | contradiction
theorem z6w{pos:Pos}(hS:z4l I prog w lv S.ev)(hA:AOk A lv):∀ {es:List Expr} {ms:List ME} {g:Fz} {Z:Bt} {H H':z0b} {s:Shared} {ps:List PV},SR I w.params g Z H s.heap->z0j I own env Y g Z s.heap->z2j (z0m I.t n env.scope.names) es ms=true ->
  z3p (S.ev Y) ms L H=some (ps,H')->Go I prog w A [] L g Z H (spliced (backTo pos (starEach es env))) H' (fun g' Z' _ vs=>z0e I g' Z' vs ps) s
 | [],ms,g,Z,H,H',s,ps,R,O,hc,hm=>by
  induction ms using List.casesOn with
  | cons _ _=>contradiction
  | nil=>injection hm with hm;injection hm with eB eC;subst eB;subst eC;exact Go.pure R .nil
 | e::es,ms,g,Z,H,H',s,ps,R,O,hc,hm=>by
  induction ms using List.casesOn with
  | nil=>contradiction
  | cons m ms=>
   obtain⟨c1,c2⟩:=z0u hc
   obtain⟨p,Hb,h1,h2⟩:=M.bind_some hm
   obtain⟨qs,H2,h3,h4⟩:=M.bind_some h2
   obtain⟨rfl,rfl⟩:=M.pure_some h4
   intro Q E q
   refine wpAny_items_cons (hS hA R O c1 h1 _ _ fun v gb Z1 sB Gb Rb pB=>?_) (z2g (z4m c1) _ _)
   exact z6w hS hA Rb (O.step Gb) c2 h3 _ _ fun vs gC Z2 sC Gc Rc pC=>q _ gC Z2 sC (Gb.trans R Gc) Rc (.cons (pB.mono Gc.gle Gc.ble) pC)
theorem y8q{pos:Pos}:∀ {es:List Expr} {ms:List ME},z2j (z0m I.t n env.scope.names) es ms=true->(backTo pos (starEach es env)).any (·.1)=false
 | [],_,_=>rfl
 | e::es,[],h=>by contradiction
 | e::es,m::ms,h=>by
  obtain⟨c1,c2⟩:=z0u h
  rw [z2g (z4m c1)]
  show(false || (backTo pos (starEach es env)).any (·.1))=false
  rw [y8q c2];rfl
noncomputable def q6o(I:z2s)(prog:Program)(w:World)(f:Value):Prop:=∀ h,I.K.In h->∃ k,(k=Keeper.frame\/k=Keeper.machine\/k=Keeper.boundFrame)/\Looks (model prog w) h (keeperOf f) k
theorem z3q{f:Value}(h:∀ a,f≠.ref a):q6o I prog w f:=fun hp _=>⟨.machine,.inr (.inl rfl),by
 have:keeperOf f=pure .machine:=by induction f using Value.casesOn<;>first | rfl | exact(h _ rfl).elim
 rw [this];exact .now⟩
theorem y2m{pos:Pos}{f:Value}{first:List Value}{es:List Expr}{ms:List ME}{ps:List PV}(T:z0r I)(hS:z4l I prog w lv S.ev)(hA:AOk A lv)(hf:q6o I prog w f)(R:SR I w.params g Z H s.heap)(O:z0j I own env Y g Z s.heap)
 (hc:z2j (z0m I.t n env.scope.names) es ms=true)(hm:z3p (S.ev Y) ms L H=some (ps,Hb)){Q E:Value->Shared->Prop}
 (k:∀ vs gb Z1 sB,z1c [] L g Z H s gb Z1 Hb sB->SR I w.params gb Z1 Hb sB.heap->z0e I gb Z1 vs ps->wpAny (model prog w) A (call f (first++vs) []) Q E sB) :
  wpAny (model prog w) A (callWith pos f first (backTo pos (starEach es env)) []) Q E s:=by
 have key:wpAny (model prog w) A (evalArgs f true (backTo pos (starEach es env)) []) (fun a sB=>I.K.In sB.heap/\wpAny (model prog w) A (call f (first++a.pos) a.kw) Q E sB) E s:=by
  have main:wpAny (model prog w) A (spliced (backTo pos (starEach es env))) (fun vs sB=>I.K.In sB.heap/\wpAny (model prog w) A (call f (first++vs) []) Q E sB) E s:=
   z6w hS hA R O hc hm _ _ fun vs gb Z1 sB Gb Rb pB=>⟨T.there Rb,k vs gb Z1 sB Gb Rb pB⟩
  induction es using List.casesOn with
  | nil=>
   induction ms using List.casesOn with
   | cons _ _=>contradiction
   | nil=>
    cases hm
    exact evalArgs_nil3 ⟨T.there R,k [] g Z s .refl R .nil⟩
  | cons e es=>
   induction ms using List.casesOn with
   | nil=>contradiction
   | cons m ms=>
    rw [z2g (z4m (z0u hc).1)] at main ⊢
    exact Calls.evalArgs_plain main
 exact callWith_of (by rw [y8q hc];rfl) hf key
theorem z5l{pos:Pos}{f:Value}{first:List Value}{es:List Expr}{ms:List ME}{ps:List PV}{Pst:Fz->Bt->Shared->Value->Prop}(T:z0r I)(hS:z4l I prog w lv S.ev)(hA:AOk A lv)(hf:q6o I prog w f)(R:SR I w.params g Z H s.heap)(O:z0j I own env Y g Z s.heap)
 (hc:z2j (z0m I.t n env.scope.names) es ms=true)(hm:z3p (S.ev Y) ms L H=some (ps,Hb))
 (k:∀ vs gb Z1 sB,z1c [] L g Z H s gb Z1 Hb sB->SR I w.params gb Z1 Hb sB.heap->z0e I gb Z1 vs ps->Go I prog w A [] L gb Z1 Hb (call f (first++vs) []) H2 Pst sB) :
  Go I prog w A [] L g Z H (callWith pos f first (backTo pos (starEach es env)) []) H2 Pst s:=fun Q E q=>
 y2m T hS hA hf R O hc hm fun vs gb Z1 sB Gb Rb pB=>k vs gb Z1 sB Gb Rb pB _ _ fun a gC Z2 sC Gc Rc pC=>q a gC Z2 sC (Gb.trans R Gc) Rc pC
theorem z4r{e:Expr}{v:Value}{sc:Sc}(h:z0y I.t sc e v=true):∃ x pos,e=.Name x pos/\sc.lookup x=some .globalImplicit/\I.gv.lookup x=some v/\(x==("__debug__":Str))=false:=by
 obtain⟨x,p,rfl,h⟩:=q0i h
 obtain⟨h3,h4,h2⟩:=z3z h
 exact⟨_,_,rfl,BO h3,BO h4,q0b h2⟩
theorem z9m{e:Expr}{v:Value}(T:z0r I)(R:SR I w.params g Z H s.heap)(O:z0j I own env Y g Z s.heap)(h:z0y I.t env.scope.names e v=true) :
  Go I prog w A [] L g Z H (eval e env) H (fun _ _ _ u=>u=v) s:=by
 obtain⟨x,pos,rfl,h1,h2,h3⟩:=z4r h
 obtain⟨mg,mb,a1,a2,a3⟩:=T.glob
 refine Go.same R fun Q E q=>Calls.Name_function_global O.kind h1 ?_ h3
 have b1:s.heap.Ns env.globals mg:=by rw [O.glob];exact a1.at' fun o e=>R.up _ _ e
 rcases a3 x v h2 with h4 | ⟨h4,h5⟩
 ·exact Calls.loadGlobal_global b1 h4 (q _ rfl)
 ·exact Calls.loadGlobal_builtin b1 h4 (by rw [O.bi];exact a2.at' fun o e=>R.up _ _ e) h5 (q _ rfl)
end
section
variable {I:z2s} {own own':List Addr} {L:Lim} {w:World} {g gb gC:Fz} {Z Z1 Z2:Bt} {H Hb H2 H':z0b} {s sB sC:Shared} {env:Env} {Y Y':z0l} {A:Around} {prog:Program} {lv n:Nat} {S:z6q} {C:z0g} {p q r:PV}
theorem k3p{x:Str}{pos:Pos}(R:SR I w.params g Z H s.heap)(h:(x==("__debug__":Str))=true):Go I prog w A [] L g Z H (eval (.Name x pos) env) H (P.val I (.bool true)) s:=by
 refine Go.same R fun Q E q=>?_
 show wpAny (model prog w) A (PySem.standAt pos>>=fun _=>if(x==("__debug__":Str))=true then debugConstant else loadName env x) Q E s
 rw [AR h]
 exact AB (BX (AB (wpAny_rule (AJ (q _ (.bool true))))))
theorem y6x{sc:Sc}{x:Str}(h:q6l sc x=true):(sc.lookup x=some .local\/sc.lookup x=some .cell\/sc.lookup x=some .free)/\(x==("__debug__":Str))=false/\(x==("__classdict__":Str))=false:=by
 obtain⟨h1,h2⟩:=z0u h
 obtain⟨h3,h4⟩:=z0u h1
 refine⟨?_,by simpa using h4,by simpa using h2⟩
 rcases CD.mp h3 with h | h
 ·rcases CD.mp h with h | h
  ·exact .inl (BE.mp h)
  ·exact .inr (.inl (BE.mp h))
 ·exact .inr (.inr (BE.mp h))
theorem q1a{op:CmpOp}{e:Expr}(h:y4q e=false):behindInMarks op e=false:=by
 cases e<;>first | rfl | contradiction
theorem k3q{a:Expr}{x:ME}{pos:Pos}(hE:z4l I prog w lv S.ev)(hA:AOk A lv)(R:SR I w.params g Z H s.heap)(O:z0j I own env Y g Z s.heap)
 (hc:z0m I.t n env.scope.names a x=true)(h:z1i I.P C S Y (.neg x) L H=some (p,H')):Go I prog w A [] L g Z H (eval (.UnaryOp .USub a pos) env) H' (P.val I p) s:=by
 obtain⟨u,Hb,h1,h2⟩:=M.bind_some h
 obtain⟨i,h3,e⟩:=M.map_some h2
 obtain⟨e1,e2⟩:=z6f h3
 clear h h2 h3
 subst e e1 e2
 intro Q E q
 refine wpAny_UnaryOp (hE hA R O hc h1 _ _ fun v gb Z1 sB Gb Rb pB=>?_)
 obtain⟨t,rfl⟩:=pB.int_inv
 exact P.neg_int (q _ gb Z1 _ (Gb.trans R (.keepAll (tk:=sB.toks+1) fun _ _ e=>e)) (Rb.keepAll fun _ _ e=>e) (.int _ _))
theorem k3r{a b:Expr}{o:BOp}{x y:ME}{pos:Pos}(hE:z4l I prog w lv S.ev)(hA:AOk A lv)(R:SR I w.params g Z H s.heap)(O:z0j I own env Y g Z s.heap)
 (hc:z0m I.t n env.scope.names a x=true)(hc':z0m I.t n env.scope.names b y=true)(h:z1i I.P C S Y (.bin o x y) L H=some (p,H')):Go I prog w A [] L g Z H (eval (.BinOp a o.op b pos) env) H' (P.val I p) s:=by
 obtain⟨u,Hb,h1,h2⟩:=M.bind_some h
 obtain⟨v,h3,e⟩:=M.then_some h2
 intro Q E q
 exact wpAny_BinOp (hE hA R O hc h1 _ _ fun u' gb Z1 sB Gb Rb pB=>hE hA Rb (O.step Gb) hc' h3 _ _ fun v' gC Z2 sC Gc Rc pC=>
  k2w Rc (pB.mono Gc.gle Gc.ble) pC e Q E fun a gD Z3 s3 Gd Rd pd=>q a gD Z3 s3 (Gb.trans R (Gc.trans Rb Gd)) Rd pd)
theorem x7e{a b:Expr}{x y:ME}{pos:Pos}(hE:z4l I prog w lv S.ev)(hA:AOk A lv)(R:SR I w.params g Z H s.heap)(O:z0j I own env Y g Z s.heap)
 (hc:z0m I.t n env.scope.names a x=true)(hc':z0m I.t n env.scope.names b y=true)(h:z1i I.P C S Y (.mcat x y) L H=some (p,H')):Go I prog w A [] L g Z H (eval (.BinOp a .Add b pos) env) H' (P.val I p) s:=by
 obtain⟨u,Hb,h1,h2⟩:=M.bind_some h
 obtain⟨v,H2,h3,h4⟩:=M.bind_some h2
 obtain⟨l1,e1,h5⟩:=M.opt_some (f:=fun x=>(M.ofOpt (z5u H2 v)).bind fun y=>(M.ofOpt (sz (x++y))).bind fun l=>z7x l) h4
 obtain⟨l2,e2,h6⟩:=M.opt_some h5
 obtain⟨l,e3,h7⟩:=M.opt_some h6
 obtain⟨hl,rfl⟩:=q0e e3
 obtain⟨hf,e4,e5⟩:=z9l h7
 clear h h2 h4 h5 h6 h7 e3
 subst e4 e5
 intro Q E q
 refine wpAny_BinOp (hE hA R O hc h1 _ _ fun u' gb Z1 sB Gb Rb pB=>hE hA Rb (O.step Gb) hc' h3 _ _ fun v' gC Z2 sC Gc Rc pC=>?_)
 obtain⟨a1,o1,vs1,rfl,a2,a3,a4,a5⟩:=(pB.mono Gc.gle Gc.ble).listIn Rc e1
 obtain⟨b1,o2,vs2,rfl,b2,b3,b4,b5⟩:=pC.listIn Rc e2
 have hlen:vs1.length+vs2.length<=z2k:=by rw [a5.length,b5.length,<- AC];exact hl
 exact Go.pushCell (o:=z5t (vs1++vs2) 0) (c:=.lst (l1++l2)) Rc rfl (fun h' ho=>⟨_,vs1++vs2,ho,y8k _ _,by rw [AC];exact hlen,(a5.append b5).mono (fun _ _ e=>e) (y1k Rc.none_at),hf⟩)
  (fun Q E q=>q0k a2 a3 b2 b3 hlen q) Q E fun a gD Z3 s3 Gd Rd pd=>q a gD Z3 s3 (Gb.trans R (Gc.trans Rb Gd)) Rd pd
theorem j2o{a:Expr}{ng:Bool}{x:ME}{k:Nat}{pos pos':Pos}(hE:z4l I prog w lv S.ev)(hA:AOk A lv)(R:SR I w.params g Z H s.heap)(O:z0j I own env Y g Z s.heap)
 (hc:z0m I.t n env.scope.names a x=true)(h:z1i I.P C S Y (.isNone ng x) L H=some (p,H')) :
  Go I prog w A [] L g Z H (eval (.Compare a [if ng then .IsNot else .Is] [.Constant .none k pos'] pos) env) H' (P.val I p) s:=by
 obtain⟨u,h1,e⟩:=M.map_some h
 clear h
 subst e
 intro Q E q
 exact wpAny_Compare1 (hE hA R O hc h1 _ _ fun v gb Z1 sB Gb Rb pB=>wpAny_Constant_none (x6u Rb pB Q E fun a gC Z2 sC Gc Rc pC=>q a gC Z2 sC (Gb.trans R Gc) Rc pC)) (by induction ng using Bool.casesOn<;>rfl)
theorem j9o{t:Bool}{v:Value}{p:PV}{r:Bool}(R:SR I w.params g Z H s.heap)(hv:Rel I g Z v p)(h:q3q H t p=some r) :
  ∃ T,s.TypeIs v T/\(T="str"\/T="list")/\r=(T==(if t then "str" else "list")):=by
 induction p using PV.casesOn with
 | str x=>
  obtain⟨t',rfl⟩:=hv.str_inv
  injection h with h;subst h
  exact⟨"str",rfl,.inl rfl,by induction t using Bool.casesOn<;>rfl⟩
 | lst l=>
  obtain⟨a,o,vs,rfl,g1,g4,_⟩:=hv.lst_inv
  injection h with h;subst h
  exact⟨"list",(z0p (R.sub _ _ g1) g4).typeIs,.inr rfl,by induction t using Bool.casesOn<;>rfl⟩
 | ref i=>
  obtain⟨l,hl,rfl⟩:=z0z h
  obtain⟨a,rfl,hi⟩:=hv.ref_inv
  obtain⟨o,vs,c1,c4,_⟩:=z9k R hi hl
  exact⟨"list",(z0p c1 c4).typeIs,.inr rfl,by induction t using Bool.casesOn<;>rfl⟩
 | _=>contradiction
theorem k3s{c a b:Expr}{x y z:ME}{pos:Pos}(hE:z4l I prog w lv S.ev)(hT:q0c I prog w lv S.ts)(hA:AOk A lv)(R:SR I w.params g Z H s.heap)(O:z0j I own env Y g Z s.heap)
 (h0:z6c I.t n env.scope.names c x=true)(hc:z0m I.t n env.scope.names a y=true)(hc':z0m I.t n env.scope.names b z=true)(h:z1i I.P C S Y (.ite x y z) L H=some (p,H')) :
  Go I prog w A [] L g Z H (eval (.IfExp c a b pos) env) H' (P.val I p) s:=by
 obtain⟨t,Hb,h1,h2⟩:=M.bind_some h
 intro Q E q
 refine wpAny_IfExp (hT hA R O h0 h1 _ _ fun v gb Z1 sB Gb Rb pB=>?_)
 subst pB
 induction v using Bool.casesOn with
 | true=>exact hE hA Rb (O.step Gb) hc h2 Q E fun a gC Z2 sC Gc Rc pC=>q a gC Z2 sC (Gb.trans R Gc) Rc pC
 | false=>exact hE hA Rb (O.step Gb) hc' h2 Q E fun a gC Z2 sC Gc Rc pC=>q a gC Z2 sC (Gb.trans R Gc) Rc pC
theorem y0l{V A8:Type}{f:V->A8->Bool}:∀ {as:List V} {bs:List A8},z2j f as bs=true->as.length=bs.length
 | [],[],_=>rfl
 | [],_::_,h=>by contradiction
 | _::_,[],h=>by contradiction
 | a::as,b::bs,h=>by rw [BH,BH,y0l (z0u h).2]
theorem q6p{f:ME->M PV}:∀ {ms:List ME} {ps:List PV} {H H':z0b},z3p f ms L H=some (ps,H')->ms.length=ps.length
 | [],_,_,_,h=>by injection h with h;injection h with eB eC;subst eB;subst eC;rfl
 | m::ms,ps,H,H',h=>by
  obtain⟨p,Hb,h1,h2⟩:=M.bind_some h
  obtain⟨qs,H2,h3,h4⟩:=M.bind_some h2
  obtain⟨rfl,rfl⟩:=M.pure_some h4
  rw [BH,BH,q6p h3]
theorem q4f{es:List Expr}{ms:List ME}{ps:List PV}{vs:List Value}{sc:Sc}(pr:z0e I g Z vs ps)(h:z3p (S.ev Y) ms L H=some (ps,Hb))(hc:z2j (z0m I.t n sc) es ms=true)(hl:es.length<1000):vs.length<=z2k:=by
 rw [pr.length,<- q6p h,<- y0l hc]
 exact AA (BR hl) (by decide)
theorem k3t{es:List Expr}{ms:List ME}{k:Nat}{pos:Pos}(hE:z4l I prog w lv S.ev)(hA:AOk A lv)(R:SR I w.params g Z H s.heap)(O:z0j I own env Y g Z s.heap)
 (hc:z2j (z0m I.t n env.scope.names) es ms=true)(hl:es.length<1000)(h:z1i I.P C S Y (.tup ms) L H=some (p,H')):Go I prog w A [] L g Z H (eval (.Tuple es k pos) env) H' (P.val I p) s:=by
 obtain⟨ps,h1,e⟩:=M.map_some h
 clear h
 subst e
 intro Q E q
 rw [arm_eval_Tuple]
 exact AB (BX (AB (z6w hE hA R O hc h1 _ _ fun vs gb Z1 sB Gb Rb pB=>
  q3u Rb pB (q4f pB h1 hc hl) Q E fun a gC Z2 sC Gc Rc pC=>q a gC Z2 sC (Gb.trans R Gc) Rc pC)))
theorem k3u{es:List Expr}{ms:List ME}{pos:Pos}(hE:z4l I prog w lv S.ev)(hA:AOk A lv)(R:SR I w.params g Z H s.heap)(O:z0j I own env Y g Z s.heap)
 (hc:z2j (z0m I.t n env.scope.names) es ms=true)(hl:es.length<1000)(h:z1i I.P C S Y (.lst ms) L H=some (p,H')):Go I prog w A [] L g Z H (eval (.List es pos) env) H' (P.val I p) s:=by
 obtain⟨ps,h1,e⟩:=M.map_some h
 clear h
 subst e
 intro Q E q
 rw [arm_eval_List]
 exact AB (BX (AB (z6w hE hA R O hc h1 _ _ fun vs gb Z1 sB Gb Rb pB=>
  q8y Rb pB (q4f pB h1 hc hl) Q E fun a gC Z2 sC Gc Rc pC=>q a gC Z2 sC (Gb.trans R Gc) Rc pC)))
theorem x7f{es:List Expr}{ms:List ME}{pos:Pos}(hE:z4l I prog w lv S.ev)(hA:AOk A lv)(R:SR I w.params g Z H s.heap)(O:z0j I own env Y g Z s.heap)
 (hc:z2j (z0m I.t n env.scope.names) es ms=true)(hl:es.length<1000)(h:z1i I.P C S Y (.mlst ms) L H=some (p,H')):Go I prog w A [] L g Z H (eval (.List es pos) env) H' (P.val I p) s:=by
 obtain⟨ps,Hb,h1,h2⟩:=M.bind_some h
 obtain⟨hf,e4,e5⟩:=z9l h2
 clear h h2
 subst e4 e5
 intro Q E q
 rw [arm_eval_List]
 exact AB (BX (AB (z6w hE hA R O hc h1 _ _ fun vs gb Z1 sB Gb Rb pB=>
  y6f Rb pB (q4f pB h1 hc hl) hf Q E fun a gC Z2 sC Gc Rc pC=>q a gC Z2 sC (Gb.trans R Gc) Rc pC)))
inductive k3v(I:z2s)(P:Params)(g:Fz)(Z:Bt)(h:Heap)(v:Value)(c i:Nat)(l:List (Nat×PV)):Prop
 | mk (x d:Addr) (es:List DictEntry) (n:Nat) (h1:v=.ref x) (h2:Z i=some d) (h3:h.get? d=some (dictOf es n)) (h4:z4c I P g Z es l) (h5:InstAt h x (instObj (I.cA c) d) (I.cA c) (some (dictOf es n))):k3v I P g Z h v c i l
theorem Rel.instAt(R:SR I w.params g Z H s.heap){v:Value}{c i:Nat}{l:List (Nat×PV)}(h:Rel I g Z v (.inst c i))(hl:H[i]?=some (.att l)):k3v I w.params g Z s.heap v c i l:=by
 obtain⟨x,d,e,h1,h2⟩:=h.inst_inv
 obtain⟨es,n,a1,a2,_⟩:=R.cell _ _ _ h1 hl
 exact⟨x,d,es,n,e,h1,a1,a2,⟨R.sub _ _ h2,rfl,rfl,a1⟩⟩
theorem Rel.instAny(R:SR I w.params g Z H s.heap){v:Value}{c i:Nat}(h:Rel I g Z v (.inst c i)):∃ x d od,v=.ref x/\InstAt s.heap x (instObj (I.cA c) d) (I.cA c) (some od):=by
 obtain⟨x,d,rfl,h1,h2⟩:=h.inst_inv
 obtain⟨o,ho⟩:=R.here h1
 exact⟨_,_,o,rfl,⟨R.sub _ _ h2,rfl,rfl,ho⟩⟩
theorem q4g{P:Params}{es:List DictEntry}{l:List (Nat×PV)}(hnd:I.nm.Nodup)(h:z4c I P g Z es l){k:Nat}{x:Str}(hk:I.nm[k]?=some x) :
  es.any (·.refKey)=false/\(match l.lookup k with | some p=>∃ v,getL x es=some (some v)/\Rel I g Z v p | none=>getL x es=some none):=by
 induction h with
 | nil=>exact⟨rfl,rfl⟩
 | cons a1 a0 a2 a3 ih=>
  rename_i j y t v p es l
  obtain⟨i1,i2⟩:=ih
  have hr:(⟨PyData.keyHash P y,.str y t,v⟩:DictEntry).refKey=false:=rfl
  refine⟨by rw [List.any_cons,hr,i1];rfl,?_⟩
  rw [DX]
  by_cases e:k=j
  ·subst e
   rw [hk] at a1;injection a1 with a1;subst a1
   simp only [DF]
   refine⟨v,?_,a2⟩
   unfold getL
   rw [List.find?_cons]
   simp [Value.isStr]
  ·have hne:¬ (y=x):=fun e'=>e (q0s hnd hk (e'▸a1))
   have e1:(k==j)=false:=by simpa using e
   simp only [e1]
   have e2:getL x (⟨PyData.keyHash P y,.str y t,v⟩::es)=getL x es:=by
    unfold getL
    rw [List.find?_cons]
    have:(Value.str y t).isStr x=false:=by simp [Value.isStr,hne]
    simp only [this,List.any_cons,hr,Bool.false_or]
   rw [e2];exact i2
theorem z4c.key{P:Params}{es:List DictEntry}{l:List (Nat×PV)}(h:z4c I P g Z es l){k:Nat}(hk:I.atts.contains k=false):l.lookup k=none:=by
 induction h with
 | nil=>rfl
 | cons a1 a0 a2 a3 ih=>
  rename_i j y t v p es l
  rw [DX]
  have e:(k==j)=false:=by
   by_cases e:k=j
   ·subst e;rw [a0] at hk;contradiction
   ·simpa using e
  rw [e];exact ih
theorem q9i{v:Value}{p:PV}(h:Rel I g Z v p):handedIn v=true:=by cases h<;>rfl
theorem y3o{o:Expr}{x:Str}{whole:Sem Value}(h:z1l o=false):attributeBase o x env whole=whole:=by
 cases o with
 | Call f es ks p=>
  cases f with
  | Name id q=>
   induction es using List.casesOn with
   | cons _ _=>rfl
   | nil=>
    induction ks using List.casesOn with
    | cons _ _=>rfl
    | nil=>contradiction
  | _=>rfl
 | _=>rfl
theorem j2p{k:Nat}{x:Str}{a:Expr}{m:ME}{pos:Pos}(T:z0r I)(hE:z4l I prog w lv S.ev)(hA:AOk A lv)(R:SR I w.params g Z H s.heap)(O:z0j I own env Y g Z s.heap)
 (hk:I.nm[k]?=some x)(hat:I.atts.contains k=true)(hsf:z1l a=false)(hc:z0m I.t n env.scope.names a m=true)(h:z1i I.P C S Y (.attr k m) L H=some (p,H')) :
  Go I prog w A [] L g Z H (eval (.Attribute a x pos) env) H' (P.val I p) s:=by
 obtain⟨u,Hb,h1,h2⟩:=M.bind_some h
 obtain⟨c,i,l,e0,hl,e,e1⟩:=q9f h2
 clear h h2
 subst e0 e1
 intro Q E q
 rw [arm_eval_Attribute,y3o hsf]
 refine AB (hE hA R O hc h1 _ _ fun v gb Z1 sB Gb Rb pB=>?_)
 obtain⟨x',d,es,n',rfl,b1,c1,c2,c4⟩:=Rel.instAt Rb pB hl
 have e2:=(q4g T.nd c2 hk).2
 rw [e] at e2
 obtain⟨v,e3,e4⟩:=e2
 have t:=T.plainC c
 exact AB (BX (AB (BW (get_value (T.there Rb) c4 (plainGet_of t.1).1 (findObj_own t.2.1 (T.attsC c k x hat hk) rfl (by rw [lookIn_dict];exact e3)) (q9i e4)
  (AB (wpAny_letTemporaryGo (AJ (q _ gb Z1 _ (Gb.trans R (z1c.keepAll (h':=sB.heap) (fun _ _ e=>e))) (Rb.keepAll (h':=sB.heap) fun _ _ e=>e) e4))))))))
end
section
variable {I:z2s} {own own':List Addr} {L:Lim} {w:World} {g gb gC:Fz} {Z Z1 Z2:Bt} {H Hb H2 H':z0b} {s sB sC:Shared} {env:Env} {Y Y':z0l} {A:Around} {prog:Program} {lv n:Nat} {S:z6q} {C:z0g} {p q r:PV}
theorem x7g{K:Frag}{x CC f:Addr}{ox:Obj}{od:Option Obj}{v:Value}{Q:Value->Shared->Prop}{E:Value->Shared->Prop}(X:K.In s.heap)(II:InstAt s.heap x ox CC od)(hs:findIn K (.ref CC) "__contains__"=some (some (.ref f)))(hf:isFn K (.ref f)=true)
 (h:wpAny (model prog w) A (call (.ref f) [.ref x,v]) (fun r s'=>wpAny (model prog w) A (truthy r) (fun b=>Q (.bool b)) E s') E s):wpAny (model prog w) A (compareOp .In v (.ref x)) Q E s:=by
 refine AB (BW (AB (AB (II.type.here ((looks_findIn X hs).here (AB (unlessNone_K X II hs hf ?_)))))))
 exact CZ h (fun _ _ z=>CZ z (fun _ _ q=>AJ q) fun _ _ e=>e) fun _ _ e=>e
theorem j2q{K:Frag}{x CC f:Addr}{ox:Obj}{od:Option Obj}{i:Value}{value slice:Expr}{Q:Value->Shared->Prop}{E:Value->Shared->Prop}(X:K.In s.heap)(II:InstAt s.heap x ox CC od)(hs:findIn K (.ref CC) "__getitem__"=some (some (.ref f)))(hf:fnIn K f=true)(hfn:isFn K (.ref f)=true)
 (h:wpAny (model prog w) A.in1 (call (.ref f) [.ref x,i]) Q E s)(hsl:subscripted slice true (.ref x) i=runValue (.builtin "lifetime.subscript" ⟨[.ref x,i],[]⟩)):wpAny (model prog w) A (subscriptTail value slice (.ref x) i) Q E s:=by
 have run:wpAny (model prog w) A (subscripted slice true (.ref x) i) Q E s:=
  hsl▸wpAny_runValue (codeAny_builtin entry_sub (AB (special_fn X II hs (BE.mp hfn) (CZ h (fun _ _ z=>AJ z) fun _ _ z=>z))))
 have tail:wpAny (model prog w) A (subscripted slice true (.ref x) i>>=fun r=>letTemporaryGo value (.ref x) r>>=fun _=>pure r) Q E s:=
  AB (CZ run (fun v s' z=>AB (wpAny_letTemporaryGo (AJ z))) fun _ _ z=>z)
 unfold fnIn at hf
 generalize e:K.lookup f=o at hf
 rcases o with _ | ⟨c,d,b,n⟩
 ·contradiction
 ·cases b<;>first | contradiction | exact AB (AB (AB (II.type.here ((looks_findIn X hs).here (AB (wpAny_load (X _ _ e) (AJ tail)))))))
theorem j9p{o:COp}{u v:PV}(h:z9e I.P C o u v L H=some (p,H')):(∃ c i f b,o=.in_/\v=.inst c i/\I.P.meth c y4f=some f/\C f [v,u] [] L H=some (.bool b,H')/\p=.bool b)\/∃ b,w0c o u v=some b/\p=.bool b/\H=H':=by
 unfold z9e at h
 split at h
 ·rename_i hin
  obtain⟨r,Hd,h5,h6⟩:=M.bind_some h
  obtain⟨b,h7,e⟩:=M.map_some h6
  obtain⟨rfl,rfl⟩:=q9g h7
  obtain⟨c,i,f,e0,hf,h9⟩:=z6g h5
  exact .inl ⟨c,i,f,b,j9n (z0u hin).1,e0,hf,h9,e.symm⟩
 ·obtain⟨b,h5,e⟩:=M.map_some h
  obtain⟨a,e2⟩:=M.ofOpt_some h5
  exact .inr ⟨b,a,e.symm,e2⟩
theorem k3w{a b:Expr}{o:COp}{x y:ME}{pos:Pos}(T:z0r I)(hC:q9h I prog w lv C)(hE:z4l I prog w lv S.ev)(hA:AOk A lv)(R:SR I w.params g Z H s.heap)(O:z0j I own env Y g Z s.heap)
 (hs:y4q b=false)(hc:z0m I.t n env.scope.names a x=true)(hc':z0m I.t n env.scope.names b y=true)(h:z1i I.P C S Y (.cmp o x y) L H=some (p,H')):Go I prog w A [] L g Z H (eval (.Compare a [o.op] [b] pos) env) H' (P.val I p) s:=by
 obtain⟨u,Hb,h1,h2⟩:=M.bind_some h
 obtain⟨v,H2,h3,h4⟩:=M.bind_some h2
 clear h h2
 intro Q E q
 refine wpAny_Compare1 (hE hA R O hc h1 _ _ fun u' gb Z1 sB Gb Rb pB=>hE hA Rb (O.step Gb) hc' h3 _ _ fun v' gC Z2 sC Gc Rc pC=>?_) (q1a hs)
 have pu:=pB.mono Gc.gle Gc.ble
 rcases j9p h4 with⟨c,i,f,b,e1,e2,hf,h9,e3⟩ | ⟨b,e,e1,e2⟩
 ·clear h4
  subst e1 e2 e3
  obtain⟨xx,d,od,rfl,hI⟩:=Rel.instAny Rc pC
  have t:=T.meths _ _ _ _ hf T.n1
  refine x7g (T.there Rc) hI t.1 t.2.1 ((hC hA.s Rc (.cons pC (.one pu)) .nil h9).go _ _ fun a gD Z3 s3 Gd Rd pd=>?_)
  obtain rfl:=pd.bool_inv
  exact wpAny_truthy_bool (q _ gD Z3 s3 (Gb.trans R (Gc.trans Rb Gd)) Rd (.bool _))
 ·clear h4
  subst e1 e2
  exact k3a Rc hA pu pC e Q E fun a gD Z3 s3 Gd Rd pd=>q a gD Z3 s3 (Gb.trans R (Gc.trans Rb Gd)) Rd pd
theorem y0m{f:Expr}{v:Value}{es:List Expr}{ms:List ME}{ps:List PV}{pos:Pos}{Pst:Fz->Bt->Shared->Value->Prop}(T:z0r I)(hE:z4l I prog w lv S.ev)(hA:AOk A lv)(R:SR I w.params g Z H s.heap)(O:z0j I own env Y g Z s.heap)
 (hf:z0y I.t env.scope.names f v=true)(hk:q6o I prog w v)(hc:z2j (z0m I.t n env.scope.names) es ms=true)(hm:z3p (S.ev Y) ms L H=some (ps,Hb))
 (k:∀ vs gb Z1 sB,z1c [] L g Z H s gb Z1 Hb sB->SR I w.params gb Z1 Hb sB.heap->z0e I gb Z1 vs ps->Go I prog w A [] L gb Z1 Hb (call v vs []) H2 Pst sB) :
  Go I prog w A [] L g Z H (eval (.Call f es [] pos) env) H2 Pst s:=by
 obtain⟨y,py,rfl,y1,y2,y3⟩:=z4r hf
 intro Q E q
 rw [GD]
 refine AB (z9m (L:=L) T R O hf _ _ fun fv gb Z1 sB Gb Rb eB=>?_)
 subst eB
 have hm':=hm
 exact z5l (first:=[]) T hE hA hk Rb (O.step Gb) hc hm (fun vs gC Z2 sC Gc Rc pC=>k vs gC Z2 sC (Gb.trans R Gc) Rc pC) Q E fun a gC Z2 sC Gc Rc pC=>q a gC Z2 sC (Gb.trans R Gc) Rc pC
theorem q6q{f:ME->M PV}{x:ME}(h:f x L H=some (p,Hb)):z3p f [x] L H=some ([p],Hb):=by
 unfold z3p M.bind
 rw [h];rfl
theorem y3p{e:Expr}{x:ME}{sc:Sc}(hc:z0m I.t n sc e x=true):z2j (z0m I.t n sc) [e] [x]=true:=AG.mpr ⟨hc,rfl⟩
theorem z0e.cons_inv{vs:List Value}{ps:List PV}(h:z0e I g Z vs (p::ps)):∃ v ws,vs=v::ws/\Rel I g Z v p/\z0e I g Z ws ps:=by
 cases h with
 | cons a b=>exact⟨_,_,rfl,a,b⟩
theorem z0e.nil_inv{vs:List Value}(h:z0e I g Z vs []):vs=[]:=by cases h;rfl
theorem z0e.one_inv{vs:List Value}(h:z0e I g Z vs [p]):∃ v,vs=[v]/\Rel I g Z v p:=by
 obtain⟨v,ws,rfl,a,b⟩:=h.cons_inv
 obtain rfl:=b.nil_inv
 exact⟨v,rfl,a⟩
theorem z0e.two_inv{vs:List Value}(h:z0e I g Z vs [p,q]):∃ u v,vs=[u,v]/\Rel I g Z u p/\Rel I g Z v q:=by
 obtain⟨u,ws,rfl,a,b⟩:=h.cons_inv
 obtain⟨v,rfl,c⟩:=b.one_inv
 exact⟨u,v,rfl,a,c⟩
theorem q1b{f:Expr}{v:Value}{sc:Sc}{G:Expr->Prop}(hf:z0y I.t sc f v=true)(k:∀ y py,z0y I.t sc (.Name y py) v=true->G (.Name y py)):G f:=by
 obtain⟨y,py,rfl,_⟩:=z4r hf
 exact k y py hf
theorem x7h{f a:Expr}{x:ME}{u:PV}{t r:Bool}{pos':Pos}(T:z0r I)(hE:z4l I prog w lv S.ev)(hA:AOk A lv)(R:SR I w.params g Z H s.heap)(O:z0j I own env Y g Z s.heap)
 (hf:z0y I.t env.scope.names f (.type "type")=true)(hc:z0m I.t n env.scope.names a x=true)(h1:S.ev Y x L H=some (u,Hb))(e:q3q Hb t u=some r) :
  Go I prog w A [] L g Z H (eval (.Call f [a] [] pos') env) Hb (fun g' Z' s' v=>∃ T,(T="str"\/T="list")/\v=.type T/\r=(T==(if t then "str" else "list"))) s:=by
 refine q1b (G:=fun f=>Go I prog w A [] L g Z H (eval (.Call f [a] [] pos') env) Hb _ s) hf fun y py hf Q E q=>?_
 rw [GD]
 refine AB (z9m (L:=L) T R O hf _ _ fun fv gb Z1 sB Gb Rb eB=>?_)
 subst eB
 refine callWith_of (P:=fun h=>I.K.In h) (by rw [y8q (y3p hc)];rfl) (z3q (fun _ h=>by contradiction)) ?_
 rw [z2g (z4m hc)]
 refine Calls.evalArgs_plain ?_
 have hmain:=z6w (pos:=pos') hE hA Rb (O.step Gb) (y3p hc) (q6q h1)
 rw [z2g (z4m hc)] at hmain
 refine hmain _ _ fun vs gC Z2 sC Gc Rc pC=>⟨T.there Rc,?_⟩
 obtain⟨v,rfl,pv⟩:=pC.one_inv
 obtain⟨Ty,t1,t2,t3⟩:=j9o Rc pv e
 exact call_type_of t1 (by rcases t2 with rfl | rfl<;>decide) (q _ gC Z2 sC (Gb.trans R Gc) Rc ⟨Ty,t2,rfl,t3⟩)
theorem j2r{ng t:Bool}{x:ME}(h:z1i I.P C S Y (.isTy ng t x) L H=some (p,H')):∃ u r,S.ev Y x L H=some (u,H')/\q3q H' t u=some r/\p=.bool (r != ng):=by
 obtain⟨u,Hb,h1,h2⟩:=M.bind_some h
 obtain⟨r,h5,e⟩:=M.map_some (m:=M.ofOpt (q3q Hb t u)) (f:=fun r=>PV.bool (r != ng)) h2
 obtain⟨a,b⟩:=M.ofOpt_some h5
 exact⟨u,r,b▸h1,b▸a,e.symm⟩
theorem x7i{f a ty:Expr}{ng t:Bool}{x:ME}{pos pos':Pos}(T:z0r I)(hE:z4l I prog w lv S.ev)(hA:AOk A lv)(R:SR I w.params g Z H s.heap)(O:z0j I own env Y g Z s.heap)
 (hf:z0y I.t env.scope.names f (.type "type")=true)(hty:z0y I.t env.scope.names ty (.type (if t then "str" else "list"))=true)
 (hc:z0m I.t n env.scope.names a x=true)(h:z1i I.P C S Y (.isTy ng t x) L H=some (p,H')) :
  Go I prog w A [] L g Z H (eval (.Compare (.Call f [a] [] pos') [if ng then .IsNot else .Is] [ty] pos) env) H' (P.val I p) s:=by
 obtain⟨u,r,h1,e,ep⟩:=j2r h
 clear h
 subst ep
 intro Q E q
 refine wpAny_Compare1 ?_ (q1a (q1b (G:=fun ty=>y4q ty=false) hty fun _ _ _=>rfl))
 refine x7h T hE hA R O hf hc h1 e _ _ fun v gb Z1 sB Gb Rb pB=>?_
 obtain⟨Ty,t2,rfl,rfl⟩:=pB
 refine z9m (L:=L) T Rb (O.step Gb) hty _ _ fun b gC Z2 sC Gc Rc eC=>?_
 subst eC
 have fin:∀ bb,bb=((Ty==(if t then "str" else "list")) != ng)->Q (.bool bb) sC:=fun bb e=>e▸q _ gC Z2 sC (Gb.trans R Gc) Rc (.bool _)
 have hb:(Value.type Ty==Value.type (if t=true then "str" else "list"))=(Ty==(if t then "str" else "list")):=by
  rcases t2 with rfl | rfl<;>induction t using Bool.casesOn<;>decide
 cases ng with
 | true=>exact wpAny_isNot_plain rfl (fin _ (by rw [hb];cases(Ty==(if t then "str" else "list"))<;>rfl))
 | false=>exact wpAny_is_plain rfl (fin _ (by rw [hb];cases(Ty==(if t then "str" else "list"))<;>rfl))
theorem x7j{fe:Expr}{f:Nat}{es:List Expr}{ms:List ME}{pos:Pos}(T:z0r I)(hC:q9h I prog w lv C)(hE:z4l I prog w lv S.ev)(hA:AOk A lv)(R:SR I w.params g Z H s.heap)(O:z0j I own env Y g Z s.heap)
 (hf:z0y I.t env.scope.names fe (.ref (I.fA f))=true)(hs:(I.P.fn f).isSome=true)(hc:z2j (z0m I.t n env.scope.names) es ms=true)(h:z1i I.P C S Y (.call f ms) L H=some (p,H')) :
  Go I prog w A [] L g Z H (eval (.Call fe es [] pos) env) H' (P.val I p) s:=by
 obtain⟨ps,Hb,h1,h2⟩:=M.bind_some h
 exact y0m T hE hA R O hf (fun h X=>keeps_K (T.keepF f hs) h X) hc h1 fun vs gb Z1 sB Gb Rb pB=>(hC hA.s Rb pB .nil h2).go
theorem j9q{c y:Str}{k:Nat}{pos pos':Pos}(T:z0r I)(R:SR I w.params g Z H s.heap)(O:z0j I own env Y g Z s.heap)
 (hf:q0v I.t env.scope.names c (.ref (I.cA 0))=true)(hk:I.nm[k]?=some y)(h:z1i I.P C S Y (.gattr k) L H=some (p,H')) :
  Go I prog w A [] L g Z H (eval (.Attribute (.Name c pos') y pos) env) H' (P.val I p) s:=by
 obtain⟨x,h1,ep⟩:=M.map_some h
 obtain⟨e,es⟩:=M.ofOpt_some h1
 clear h h1
 subst ep es
 obtain⟨mc,t,a1,a2,a3⟩:=T.gat k x y e hk
 intro Q E q
 rw [arm_eval_Attribute,y3o rfl]
 refine AB (z9m (L:=L) (e:=.Name c pos') T R O (show z0y I.t env.scope.names (.Name c pos') _=true from hf) _ _ fun fv gb Z1 sB Gb Rb eB=>?_)
 subst eB
 exact AB (BX (AB (BW (cls_value (T.there Rb) a2 a3 rfl
  (AB (wpAny_letTemporaryGo (AJ (q _ gb Z1 _ (Gb.trans R (z1c.keepAll (h':=sB.heap) (fun _ _ e=>e))) (Rb.keepAll (h':=sB.heap) fun _ _ e=>e) (.str _ _)))))))))
theorem y0n{o':Expr}{x:Str}{ap cp:Pos}{es:List Expr}{kws:List Keyword}{Pst:Fz->Bt->Shared->Value->Prop}(hsf:z1l o'=false)(hline:(ap.endLine==cp.line)=true)
 (hform:methodCallForm (es.length+kws.length) (backTo cp (starEach es env)) (backToKw cp (keywordEach kws env))=true)
 (R:SR I w.params g Z H s.heap)(ho:Go I prog w A [] L g Z H (eval o' env) Hb (P.val I p) s)
 (hk:∀ v gb Z1 sB,z1c [] L g Z H s gb Z1 Hb sB->SR I w.params gb Z1 Hb sB.heap->Rel I gb Z1 v p->∃ f first,(∀ (Q:Value×List Value->Shared->Prop) E pl,Q (f,first) sB->wpAny (model prog w) A (getMethod v x pl) Q E sB) /\
   Go I prog w A [] L gb Z1 Hb (callWith cp f first (backTo cp (starEach es env)) (backToKw cp (keywordEach kws env))) H2 Pst sB) :
  Go I prog w A [] L g Z H (eval (.Call (.Attribute o' x ap) es kws cp) env) H2 Pst s:=by
 intro Q E q
 rw [arm_eval_Call,y3o hsf]
 refine AB (ho _ _ fun v gb Z1 sB Gb Rb pB=>?_)
 obtain⟨f,first,k1,k2⟩:=hk v gb Z1 sB Gb Rb pB
 refine AB (BX ?_)
 have hpos:methodCallPos true o' env ap cp=pure cp:=by unfold methodCallPos;simp [hline]
 unfold methodCall
 rw [hform]
 unfold calleeOf
 rw [AR rfl]
 refine AB (BW (k1 _ _ _ ?_))
 refine AB (wpAny_of_eq hpos ?_)
 exact k2 Q E fun a gC Z2 sC Gc Rc pC=>q a gC Z2 sC (Gb.trans R Gc) Rc pC
theorem y8r{pos:Pos}:∀ {es:List Expr} {ms:List ME},z2j (z0m I.t n env.scope.names) es ms=true->(backTo pos (starEach es env)).all (fun x=>!x.1)=true
 | [],_,_=>rfl
 | e::es,[],h=>by contradiction
 | e::es,m::ms,h=>by
  obtain⟨c1,c2⟩:=z0u h
  rw [z2g (z4m c1)]
  show(true&&(backTo pos (starEach es env)).all (fun x=>!x.1))=true
  rw [y8r c2];rfl
theorem y8s{pos:Pos}{es:List Expr}{ms:List ME}(hc:z2j (z0m I.t n env.scope.names) es ms=true)(hl:es.length<20):methodCallForm (es.length+0) (backTo pos (starEach es env)) (backToKw pos (keywordEach [] env))=true:=by
 unfold methodCallForm
 rw [y8r hc]
 show(true&&true&&decide (es.length+0+0<30))=true
 simp;omega
theorem y0o{v:Value}{c i m f:Nat}{x:Str}{l:List (Nat×PV)}{Q:Value×List Value->Shared->Prop}{E:Value->Shared->Prop}{pl:Sem Bool}(T:z0r I)(R:SR I w.params g Z H s.heap)(hv:Rel I g Z v (.inst c i))(hcell:H[i]?=some (.att l))
 (hf:I.P.meth c m=some f)(hm:I.nm[m]?=some x)(q:Q (.ref (I.fA f),[v]) s):wpAny (model prog w) A (getMethod v x pl) Q E s:=by
 have t:=T.meths _ _ _ _ hf hm
 have t':=T.plainC c
 obtain⟨xx,d,es,n',rfl,b1,c1,c2,c4⟩:=hv.instAt R hcell
 have e2:=(q4g T.nd c2 hm).2
 rw [c2.key t.2.2.2.1] at e2
 exact method_fn (T.there R) c4 (plainGet_of t'.1).1 (plainGet_of t'.1).2 t.1 (BE.mp t.2.1) (by show(lookIn x (dictOf es n')).map _=_;rw [lookIn_dict,e2];rfl) q
theorem j2s{m:Nat}{mo:ME}{ms:List ME}(h:z1i I.P C S Y (.meth m mo ms) L H=some (p,H')):∃ c i l Hb H2 ps f,S.ev Y mo L H=some (.inst c i,Hb)/\Hb[i]?=some (.att l)/\z3p (S.ev Y) ms L Hb=some (ps,H2)/\I.P.meth c m=some f/\C f (.inst c i::ps) [] L H2=some (p,H'):=by
 obtain⟨u,Hb,h1,h2⟩:=M.bind_some h
 obtain⟨_,_,h6,h7⟩:=M.bind_some h2
 obtain⟨c,i,l,e,e2,hl⟩:=q0z h6
 clear h h2
 subst e e2
 obtain⟨ps,H2,h3,h4⟩:=M.bind_some h7
 obtain⟨_,_,f,e0,hf,h5⟩:=z6g h4
 injection e0 with e0;subst e0
 exact⟨c,i,l,Hb,H2,ps,f,h1,hl,h3,hf,h5⟩
theorem x7k{o':Expr}{x:Str}{m:Nat}{mo:ME}{es:List Expr}{ms:List ME}{ap cp:Pos}(T:z0r I)(hC:q9h I prog w lv C)(hE:z4l I prog w lv S.ev)(hA:AOk A lv)(R:SR I w.params g Z H s.heap)(O:z0j I own env Y g Z s.heap)
 (hm:I.nm[m]?=some x)(hsf:z1l o'=false)(hline:(ap.endLine==cp.line)=true)(hl:es.length<20)(hc:z0m I.t n env.scope.names o' mo=true)(hcs:z2j (z0m I.t n env.scope.names) es ms=true)
 (h:z1i I.P C S Y (.meth m mo ms) L H=some (p,H')):Go I prog w A [] L g Z H (eval (.Call (.Attribute o' x ap) es [] cp) env) H' (P.val I p) s:=by
 obtain⟨c,i,l,Hb,H2,ps,f,h1,hcell,h3,hf,h5⟩:=j2s h
 exact y0n hsf hline (y8s hcs hl) R (hE hA R O hc h1) fun v gb Z1 sB Gb Rb pB=>⟨.ref (I.fA f),[v],fun Q E pl q=>y0o T Rb pB hcell hf hm q,
  z5l T hE hA (fun h X=>keeps_K (T.meths _ _ _ _ hf hm).2.2.2.2 h X) Rb (O.step Gb) hcs h3 fun vs gC Z2 sC Gc Rc pC=>(hC hA.s Rc (.cons (pB.mono Gc.gle Gc.ble) pC) .nil h5).go⟩
end
section
variable {I:z2s} {own own':List Addr} {L L':Lim} {w:World} {g gb gC g':Fz} {Z Z1 Z2 Z':Bt} {H Hb H2 H':z0b} {s sB sC s':Shared} {env:Env} {Y Y':z0l} {A:Around} {prog:Program} {lv n:Nat} {S:z6q} {C:z0g} {p q r:PV}
open Classical in
noncomputable def q0d(g':Fz)(Z':Bt)(H':z0b)(n:Nat)(h:Heap):Fz:=fun a=>
 if ∃ i l,n<=i/\Z' i=some a/\H'[i]?=some (.lst l) then h.get? a else g' a
theorem z5m(R':SR I w.params g' Z' H' s'.heap):∀ a o,g' a=some o->q0d g' Z' H' n s'.heap a=some o:=fun a o h=>by
 unfold q0d
 split
 ·rename_i hx
  obtain⟨i,l,_,hi,_⟩:=hx
  rw [R'.off i a hi] at h;contradiction
 ·exact h
theorem Rel.frz(R':SR I w.params g' Z' H' s'.heap)(hZ:∀ i a,i<n->Z' i=some a->Z i=some a){v:Value}{p:PV}(h:Rel I g' Z' v p):y6c n p=true->Rel I (q0d g' Z' H' n s'.heap) Z v p:=
 Rel.rec (motive_1:=fun v p _=>y6c n p=true->Rel I (q0d g' Z' H' n s'.heap) Z v p) (motive_2:=fun vs ps _=>z0t n ps=true->z0e I (q0d g' Z' H' n s'.heap) Z vs ps)
  (fun _=>.none) (fun b _=>.bool b) (fun i t _=>.int i t) (fun x t _=>.str x t) (fun h q l _ ih hn=>.tup (z5m R' _ _ h) q l (ih hn)) (fun h q l _ ih hn=>.lst (z5m R' _ _ h) q l (ih hn))
  (fun h hn=>.ref (hZ _ _ (AK hn) h)) (fun h q hn=>.inst (hZ _ _ (AK hn) h) (z5m R' _ _ q)) (fun b _=>.pat b) (fun h q _=>.edict (z5m R' _ _ h) q) (fun _=>.nil) (fun _ _ a b hn=>.cons (a (z0u hn).1) (b (z0u hn).2)) h
theorem z0e.frz(R':SR I w.params g' Z' H' s'.heap)(hZ:∀ i a,i<n->Z' i=some a->Z i=some a){vs:List Value}{ps:List PV}(h:z0e I g' Z' vs ps):z0t n ps=true->z0e I (q0d g' Z' H' n s'.heap) Z vs ps:=
 z0e.ind (M:=fun vs ps=>z0t n ps=true->z0e I (q0d g' Z' H' n s'.heap) Z vs ps) (fun _=>.nil) (fun a _ ih hn=>.cons (a.frz R' hZ (z0u hn).1) (ih (z0u hn).2)) h
theorem j2t{m n:Nat}(hm:m<=n){l:List PV}:z0t m l=true->z0t n l=true:=
 PV.rec_1 (motive_1:=fun p=>y6c m p=true->y6c n p=true) (motive_2:=fun l=>z0t m l=true->z0t n l=true) (fun h=>h) (fun _ h=>h) (fun _ h=>h) (fun _ h=>h) (fun _ ih h=>ih h) (fun _ ih h=>ih h)
  (fun _ h=>AV (BN (AK h) hm)) (fun _ _ h=>AV (BN (AK h) hm)) (fun _ h=>h) (fun h=>h) (fun h=>h) (fun _ _ a b h=>AG.mpr ⟨a (z0u h).1,b (z0u h).2⟩) l
theorem Rel.frzV(R':SR I w.params g' Z' H' s'.heap)(hZ:∀ i a,i<n->Z' i=some a->Z i=some a){v:Value}{p q:PV}(h:Rel I g' Z' v p):Mine.frz n H' p=some q->Rel I (q0d g' Z' H' n s'.heap) Z v q:=
 Rel.rec (motive_1:=fun v p _=>∀ q,Mine.frz n H' p=some q->Rel I (q0d g' Z' H' n s'.heap) Z v q) (motive_2:=fun vs ps _=>∀ qs,q8v n H' ps=some qs->z0e I (q0d g' Z' H' n s'.heap) Z vs qs)
  (fun _ h=>AF h▸.none) (fun b _ h=>AF h▸.bool b) (fun i t _ h=>AF h▸.int i t) (fun x t _ h=>AF h▸.str x t)
  (fun {a o vs ps} k c l _ ih q h=>by
   obtain⟨l',h1,rfl⟩:=z0z (show(q8v n H' ps).map PV.tup=some q from h)
   exact .tup (z5m R' _ _ k) c l (ih l' h1))
  (fun {a o vs ps} k c l _ ih q h=>by
   obtain⟨l',h1,rfl⟩:=z0z (show(q8v n H' ps).map PV.lst=some q from h)
   exact .lst (z5m R' _ _ k) c l (ih l' h1))
  (fun {i a} k q h=>by
   by_cases hi:i<n
   ·cases(AR hi).symm.trans (show(if i<n then some (PV.ref i) else(z1d H' i).bind fun l=>if z0t n l then some (.lst l) else Option.none)=some q from h)
    exact .ref (hZ _ _ hi k)
   ·obtain⟨l,hl,h⟩:=z1e ((AT hi).symm.trans (show(if i<n then some (PV.ref i) else(z1d H' i).bind fun l=>if z0t n l then some (.lst l) else Option.none)=some q from h))
    obtain⟨hnr,h⟩:=z0o h
    injection h with h;subst h
    obtain⟨o,vs,c1,c2,c3,c4,_⟩:=z9k R' k hl
    refine .lst (o:=o) ?_ c2 c3 (z0e.frz R' hZ c4 hnr)
    unfold q0d
    rw [AR ⟨i,_,Nat.le_of_not_lt hi,k,z3s hl⟩]
    exact c1)
  (fun {c i x d} k e q h=>by
   obtain⟨hi,h⟩:=z0o (show(if i<n then some (PV.inst c i) else Option.none)=some q from h)
   injection h with h;subst h
   exact .inst (hZ _ _ hi k) (z5m R' _ _ e))
  (fun b _ h=>AF h▸.pat b) (fun k q _ h=>AF h▸.edict (z5m R' _ _ k) q) (fun _ h=>AF h▸.nil)
  (fun {v vs p ps} _ _ a b qs h=>by
   obtain⟨q,h1,h⟩:=z1e (show((Mine.frz n H' p).bind fun q=>(q8v n H' ps).map fun qs=>q::qs)=some qs from h)
   obtain⟨qs',h2,rfl⟩:=z0z h
   exact .cons (a q h1) (b qs' h2)) h q
theorem z4c.frz(R':SR I w.params g' Z' H' s'.heap)(hZ:∀ i a,i<n->Z' i=some a->Z i=some a){es:List DictEntry}{l:List (Nat×PV)}(h:z4c I w.params g' Z' es l)(hl:z7y n l=true) :
  z4c I w.params (q0d g' Z' H' n s'.heap) Z es l:=by
 induction h with
 | nil=>exact .nil
 | cons h1 h0 h2 _ ih=>
  exact .cons h1 h0 (h2.frz R' hZ (z0u hl).1) (ih (z0u hl).2)
theorem y8t(R:SR I w.params g Z H s.heap)(G:z1c own L g Z H s g' Z' H' s'):∀ i a,i<H.length->Z' i=some a->Z i=some a:=fun i a hi h=>by
 obtain⟨b,hb⟩:=R.dom i hi
 rw [G.ble i b hb] at h;injection h with h;subst h;exact hb
theorem SR.letGo(R:SR I w.params g Z H s.heap)(G:z1c own L' g Z H s g' Z' H' s')(R':SR I w.params g' Z' H' s'.heap)(hown:∀ a∈own,∀ i,Z i≠some a)
 (hatt:∀ i l,i<H.length->H'[i]?=some (.att l)->(i<L'.ab/\H[i]?=some (.att l))\/z7y H.length l=true):SR I w.params (q0d g' Z' H' H.length s'.heap) Z (H'.take H.length) s'.heap where
 base:=fun a o h=>z5m R' _ _ (R'.base a o h)
 sub:=fun a o h=>by
  unfold q0d at h
  split at h
  ·exact h
  ·exact R'.sub a o h
 dom:=fun i hi=>R.dom i (by have:=G.len;simp at hi;lia)
 lt:=fun i a h=>by have:=G.len;have:=R.lt i a h;simp;lia
 inj:=R.inj
 off:=fun i a h=>by
  unfold q0d
  split
  ·rename_i hx
   obtain⟨j,l,hj,hj2,_⟩:=hx
   have e:=R'.inj i j a (G.ble i a h) hj2
   have:=R.lt i a h
   lia
  ·exact R'.off i a (G.ble i a h)
 cell:=fun i a c h hc=>by
  have hlt:=R.lt i a h
  have hlen:=G.len
  have hc':H'[i]?=some c:=by rw [EM] at hc;simpa [hlt] using hc
  have hx:=R'.cell i a c (G.ble i a h) hc'
  have hZ:=y8t R G
  cases c with
  | lst l=>
   obtain⟨o,vs,c1,c2,c3,c4,c5⟩:=hx
   exact⟨o,vs,c1,c2,c3,z0e.frz R' hZ c4 (j2t (BK _) c5),c5⟩
  | att l=>
   rcases hatt i l hlt hc' with⟨hL,he⟩ | hf
   ·obtain⟨es,m,c1,c2,c3⟩:=R.cell i a _ h he
    have hk:s'.heap.get? a=some (dictOf es m):=G.kept a _ c1 (fun m=>hown a m i h) fun j hj=>by
     have e:=R.inj i j a h hj
     subst e
     exact⟨fun l' hl'=>(by rw [he] at hl';cases hl'),fun l' hl'=>hL⟩
    exact⟨es,m,hk,c2.mono (fun b o hb=>z5m R' _ _ (G.gle b o hb)) (fun _ _ q=>q),c3⟩
   ·obtain⟨es,m,c1,c2,c3⟩:=hx
    exact⟨es,m,c1,c2.frz R' hZ hf,c3⟩
theorem z1c.letGo(R:SR I w.params g Z H s.heap)(G:z1c own L' g Z H s g' Z' H' s')(R':SR I w.params g' Z' H' s'.heap)
 (hfix:∀ a,z9a L Z H a->z9a L' Z H a)(hl:∀ (i:Nat) (l:List PV),H[i]?=some (.lst l)->i<L.b->i<L'.b)(ha:∀ (i:Nat) (l:List (Nat×PV)),H[i]?=some (.att l)->i<L.ab->i<L'.ab) :
  z1c own L g Z H s (q0d g' Z' H' H.length s'.heap) Z (H'.take H.length) s' where
 gle:=fun a o h=>z5m R' _ _ (G.gle a o h)
 gold:=fun a o h=>by
  unfold q0d
  split
  ·rename_i hx
   obtain⟨i,l,hi,hb,_⟩:=hx
   induction e:Z i using Option.casesOn with
   | some b=>
    have:=R.lt i b e
    lia
   | none=>
    have:=G.bnew i a e hb
    rw [h] at this;contradiction
  ·exact G.gold a o h
 ble:=fun _ _ h=>h
 bnew:=fun i a h q=>by rw [h] at q;contradiction
 kept:=fun a o h hn hf=>G.kept a o h hn (hfix a hf)
 alive:=G.alive
 len:=by have:=G.len;simp;lia
 kinds:=fun i c h=>by
  have hlt:i<H.length:=(AS.mp h).1
  obtain⟨c',h',k⟩:=G.kinds i c h
  exact⟨c',by rw [EM];simpa [hlt] using h',k⟩
 lsts:=fun i l h hi=>by
  have hlt:i<H.length:=(AS.mp h).1
  rw [EM]
  simpa [hlt] using G.lsts i l h (hl i l h hi)
 atts:=fun i l h hi=>by
  have hlt:i<H.length:=(AS.mp h).1
  rw [EM]
  simpa [hlt] using G.atts i l h (ha i l h hi)
 rest:=G.rest
theorem j2u(G:z1c own ⟨H.length,H.length⟩ g Z H s g' Z' H' s'):H'.take H.length=H:=by
 apply List.ext_getElem?
 intro i
 rw [EM]
 by_cases h:i<H.length
 ·simp only [h,if_true]
  induction hc:H[i]? using Option.casesOn with
  | none=>rw [List.getElem?_eq_none_iff] at hc;lia
  | some c=>
   cases c with
   | lst l=>exact G.lsts i l hc h
   | att l=>exact G.atts i l hc h
 ·simp only [h,if_false]
  rw [DC (by lia)]
theorem x7l{t:Sem Value}{m:M PV}(R:SR I w.params g Z H s.heap)(h:q8w m L H=some (p,H'))
 (ht:∀ q Hb,m ⟨H.length,H.length⟩ H=some (q,Hb)->Go I prog w A [] ⟨H.length,H.length⟩ g Z H t Hb (P.val I q) s):Go I prog w A [] L g Z H t H' (P.val I p) s:=by
 unfold q8w at h
 split at h
 case h_2=>contradiction
 rename_i v Hb h1
 split at h
 case h_2=>contradiction
 rename_i v' h2
 injection h with h;injection h with eB eC;subst eB;subst eC
 intro Q E q
 refine ht v Hb h1 Q E fun a g' Z' s' G R' pv=>?_
 have e:=j2u G
 have R'':=SR.letGo R G R' (by simp) fun i l hi hc=>.inl ⟨hi,by rw [<- e,EM];simpa [hi] using hc⟩
 have G'':=z1c.letGo (L:=L) R G R' (fun a _=>y8n (L:=L) R a) (fun i l h _=>(AS.mp h).1) (fun i l h _=>(AS.mp h).1)
 rw [e] at R'' G''
 exact q a _ Z s' G'' R'' (Rel.frzV R' (y8t R G) pv h2)
theorem w1m{t:Sem Value}{m:M PV}(R:SR I w.params g Z H s.heap)(h:gcM m L H=some (p,H'))
 (ht:∀ q Hb,m ⟨L.b,H.length⟩ H=some (q,Hb)->Go I prog w A [] ⟨L.b,H.length⟩ g Z H t Hb (P.val I q) s):Go I prog w A [] L g Z H t H' (P.val I p) s:=by
 unfold gcM at h
 split at h
 case h_2=>contradiction
 rename_i v Hb h1
 split at h
 case h_2=>contradiction
 rename_i v' h2
 injection h with h;injection h with eB eC;subst eB;subst eC
 intro Q E q
 refine ht v Hb h1 Q E fun a g' Z' s' G R' pv=>?_
 have R'':=SR.letGo R G R' (by simp) fun i l hi hc=>.inl ⟨hi,by
  obtain⟨c,hcc⟩:∃ c,H[i]?=some c:=⟨_,AN hi⟩
  obtain⟨c',h3,h4⟩:=G.kinds i c hcc
  rw [hc] at h3;injection h3 with h3;subst h3
  cases c with
  | lst _=>exact h4.elim
  | att l'=>
   have:=G.atts i l' hcc hi
   rw [hc] at this;cases this;exact hcc⟩
 have G'':=z1c.letGo (L:=L) R G R' (fun a hf i hi=>⟨fun l hl=>(hf i hi).1 l hl,fun l hl=>R.lt i a hi⟩) (fun i l h hb=>hb) (fun i l h _=>(AS.mp h).1)
 exact q a _ Z s' G'' R'' (Rel.frzV R' (y8t R G) pv h2)
end
section
variable {I:z2s} {own own':List Addr} {L L':Lim} {w:World} {g gb gC g':Fz} {Z Z1 Z2 Z':Bt} {H Hb H2 H':z0b} {s sB sC s':Shared} {env:Env} {Y Y':z0l} {A:Around} {prog:Program} {lv n:Nat} {S:z6q} {C:z0g} {p q r:PV}
theorem y3q(R:SR I w.params g Z H s.heap)(o:Obj):z1c own L g Z H s g Z H { s with heap:=s.heap.push o }:=z1c.keepAll (tk:=s.toks) fun b x e=>AU _ e
theorem k3x{i:Expr}{x v:Value}(hs:z6u i=false):subscripted i true x v=runValue (.builtin "lifetime.subscript" ⟨[x,v],[]⟩):=by
 cases i<;>first | rfl | contradiction
theorem j9r{u v:PV}(h:j8r I.P C u v L H=some (p,H')):(∃ c j f,u=.inst c j/\I.P.meth c q6b=some f/\C f [u,v] [] L H=some (p,H'))\/∃ k,v=.int k/\j1f H u k=some p/\H=H':=by
 unfold j8r at h
 split at h
 ·obtain⟨c,j,f,e,hf,h9⟩:=z6g h
  exact .inl ⟨c,j,f,e,hf,h9⟩
 ·obtain⟨k,Hd,h5,h6⟩:=M.bind_some h
  obtain⟨e,rfl⟩:=z6f h5
  obtain⟨a,b⟩:=M.getO_some (f:=fun H=>j1f H u k) h6
  exact .inr ⟨k,e,a,b⟩
theorem k3y{a i:Expr}{x y:ME}{pos:Pos}(T:z0r I)(hC:q9h I prog w lv C)(hE:z4l I prog w lv S.ev)(hA:AOk A lv)(R:SR I w.params g Z H s.heap)(O:z0j I own env Y g Z s.heap)
 (hs:z6u i=false)(hc:z0m I.t n env.scope.names a x=true)(hc':z0m I.t n env.scope.names i y=true)(h:z1i I.P C S Y (.idx x y) L H=some (p,H')):Go I prog w A [] L g Z H (eval (.Subscript a i pos) env) H' (P.val I p) s:=by
 obtain⟨u,Hb,h1,h2⟩:=M.bind_some h
 obtain⟨v,H2,h3,h4⟩:=M.bind_some h2
 clear h h2
 intro Q E q
 refine Subscript_ (hE hA R O hc h1 _ _ fun u' gb Z1 sB Gb Rb pB=>hE hA Rb (O.step Gb) hc' h3 _ _ fun v' gC Z2 sC Gc Rc pC=>?_)
 have pu:=pB.mono Gc.gle Gc.ble
 rcases j9r h4 with⟨c,j,f,e,hf,h9⟩ | ⟨k,e,h5,e2⟩
 ·clear h4
  subst e
  obtain⟨xx,d,od,rfl,hI⟩:=Rel.instAny Rc pu
  have t:=T.meths _ _ _ _ hf T.n2
  have hA1:k1x A.in1 lv:=⟨hA.handled,by have:=hA.depth;simp;lia,by have:=hA.units;simp;lia⟩
  exact j2q (T.there Rc) hI t.1 t.2.2.1 t.2.1 ((hC hA1 Rc (.cons pu (.one pC)) .nil h9).go _ _ fun a gD Z3 s3 Gd Rd pd=>q a gD Z3 s3 (Gb.trans R (Gc.trans Rb Gd)) Rd pd) (k3x hs)
 ·clear h4
  subst e e2
  obtain⟨t,rfl⟩:=pC.int_inv
  exact k3b Rc hs pu h5 Q E fun a gD Z3 s3 Gd Rd pd=>q a gD Z3 s3 (Gb.trans R (Gc.trans Rb Gd)) Rd pd
theorem j2v{e:Option Expr}{m:Option ME}{o:Option PV}{k:Option Int}{Hd:z0b}(hE:z4l I prog w lv S.ev)(hA:AOk A lv)(R:SR I w.params g Z H s.heap)(O:z0j I own env Y g Z s.heap)
 (hc:y4s (z0m I.t n env.scope.names) e m=true)(h:j8w (S.ev Y) m L H=some (o,Hb))(hk:z9d o L H2=some (k,Hd)):Go I prog w A [] L g Z H (evalPart e env) Hb (fun _ _ _ v=>j9e v k) s:=by
 induction m using Option.casesOn with
 | none=>
  induction e using Option.casesOn with
  | some _=>contradiction
  | none=>
   obtain⟨rfl,rfl⟩:=M.pure_some (L:=L) h
   obtain⟨rfl,_⟩:=M.pure_some (L:=L) hk
   exact Go.pure R .none
 | some m=>
  induction e using Option.casesOn with
  | none=>contradiction
  | some e=>
   obtain⟨u,h1,e1⟩:=M.map_some (L:=L) (m:=S.ev Y m) h
   clear h
   subst e1
   obtain⟨i,h2,e2⟩:=M.map_some (L:=L) (m:=y6e u) hk
   obtain⟨e3,_⟩:=z6f h2
   clear hk h2
   subst e2 e3
   intro Q E q
   refine hE hA R O hc h1 Q E fun v gb Z1 sB Gb Rb pB=>q v gb Z1 sB Gb Rb ?_
   obtain⟨t,rfl⟩:=pB.int_inv
   exact .int _ _
theorem q1c{o:Option PV}{k:Option Int}(h:z9d o L H=some (k,H')):H=H':=by
 induction o using Option.casesOn with
 | none=>exact(M.pure_some (L:=L) h).2
 | some u=>
  obtain⟨i,h2,_⟩:=M.map_some (L:=L) (m:=y6e u) h
  exact(z6f h2).2
theorem q9j{x:ME}{ml mh:Option ME}(h:z1i I.P C S Y (.slice x ml mh) L H=some (p,H')):∃ u Hb l H2 hv kl kh J,S.ev Y x L H=some (u,Hb)/\j8w (S.ev Y) ml L Hb=some (l,H2)/\j8w (S.ev Y) mh L H2=some (hv,H')/\z9d l L J=some (kl,J)/\z9d hv L J=some (kh,J)/\z7m H' u kl kh=some p:=by
 obtain⟨u,Hb,h1,h2⟩:=M.bind_some h
 obtain⟨l,H2,h3,h4⟩:=M.bind_some h2
 obtain⟨hv,Hd,h5,h6⟩:=M.bind_some h4
 obtain⟨kl,H4,h7,h8⟩:=M.bind_some h6
 obtain⟨kh,H5,h9,h10⟩:=M.bind_some h8
 obtain⟨e,e3⟩:=M.getO_some (f:=fun H=>z7m H u kl kh) h10
 have e1:=q1c h7
 have e2:=q1c h9
 clear h h2 h4 h6 h8 h10
 subst e1 e2 e3
 exact⟨u,Hb,l,H2,hv,kl,kh,_,h1,h3,h5,h7,h9,e⟩
theorem j9s{a:Expr}{lo hi:Option Expr}{x:ME}{ml mh:Option ME}{pos pos':Pos}(hE:z4l I prog w lv S.ev)(hA:AOk A lv)(R:SR I w.params g Z H s.heap)(O:z0j I own env Y g Z s.heap)
 (hc:z0m I.t n env.scope.names a x=true)(hl:y4s (z0m I.t n env.scope.names) lo ml=true)(hh:y4s (z0m I.t n env.scope.names) hi mh=true)(h:z1i I.P C S Y (.slice x ml mh) L H=some (p,H')) :
  Go I prog w A [] L g Z H (eval (.Subscript a (.Slice lo hi none pos') pos) env) H' (P.val I p) s:=by
 obtain⟨u,Hb,l,H2,hv,kl,kh,J,h1,h3,h5,h7,h9,e⟩:=q9j h
 intro Q E q
 refine Subscript_ (hE hA R O hc h1 _ _ fun u' gb Z1 sB Gb Rb pB=>wpAny_Slice (j2v hE hA Rb (O.step Gb) hl h3 h7 _ _ fun v gC Z2 sC Gc Rc pC=>
  j2v hE hA Rc ((O.step Gb).step Gc) hh h5 h9 _ _ fun v' gD Z3 s3 Gd Rd pd=>AJ ?_))
 have hk:∀ b o,s3.heap.get? b=some o->(s3.heap.push { cls:=.type "slice",data:=.fields #[v,v',.none] }).get? b=some o:=fun b o e=>AU _ e
 have G4:=y3q (own:=[]) (L:=L) Rd { cls:=.type "slice",data:=.fields #[v,v',.none] }
 exact j9f (s:={ s3 with heap:=s3.heap.push { cls:=.type "slice",data:=.fields #[v,v',.none] } }) (lo':=lo) (hi':=hi) (pos:=pos') (Rd.keepAll hk) ⟨_,BJ _ rfl,rfl,rfl⟩ pC pd ((pB.mono Gc.gle Gc.ble).mono Gd.gle Gd.ble) e Q E
  fun a gE Z4 s4 Ge RE p4=>q a gE Z4 s4 (Gb.trans R (Gc.trans Rb (Gd.trans Rc (G4.trans Rd Ge)))) RE p4
theorem j2w{a:Expr}{x:ME}{pos pos':Pos}(hE:z4l I prog w lv S.ev)(hA:AOk A lv)(R:SR I w.params g Z H s.heap)(O:z0j I own env Y g Z s.heap)
 (hc:z0m I.t n env.scope.names a x=true)(h:z1i I.P C S Y (.mslice x) L H=some (p,H')) :
  Go I prog w A [] L g Z H (eval (.Subscript a (.Slice none none none pos') pos) env) H' (P.val I p) s:=by
 obtain⟨u,Hb,h1,h2⟩:=M.bind_some h
 obtain⟨l,e,h3⟩:=M.opt_some (o:=z5u Hb u) (f:=fun x=>z7x x) h2
 obtain⟨hf,e4,e5⟩:=z9l h3
 clear h h2 h3
 subst e4 e5
 intro Q E q
 refine Subscript_ (hE hA R O hc h1 _ _ fun u' gb Z1 sB Gb Rb pB=>wpAny_Slice (AJ (AJ (AJ ?_))))
 have G4:=y3q (own:=[]) (L:=L) Rb { cls:=.type "slice",data:=.fields #[.none,.none,.none] }
 exact j1z (s:={ sB with heap:=sB.heap.push { cls:=.type "slice",data:=.fields #[.none,.none,.none] } }) (pos:=pos') (Rb.keepAll fun b o e=>AU _ e) ⟨_,BJ _ rfl,rfl,rfl⟩ pB e hf Q E
  fun a gE Z4 s4 Ge RE p4=>q a gE Z4 s4 (Gb.trans R (G4.trans Rb Ge)) RE p4
theorem k3z{x:Str}{b:Bool}{pos:Pos}(T:z0r I)(R:SR I w.params g Z H s.heap)(O:z0j I own env Y g Z s.heap)(hf:q0v I.t env.scope.names x (.ref (I.pA b))=true)(h:z1i I.P C S Y (.pat b) L H=some (p,H')) :
  Go I prog w A [] L g Z H (eval (.Name x pos) env) H' (P.val I p) s:=by
 obtain⟨rfl,rfl⟩:=M.pure_some (L:=L) h
 exact fun Q E q=>z9m (L:=L) (e:=.Name x pos) T R O hf Q E fun fv gb Z1 sB Gb Rb eB=>q fv gb Z1 sB Gb Rb (eB▸.pat b)
theorem q6r{o':Expr}{x:Str}{ap cp:Pos}{es:List Expr}{mo:ME}{ms:List ME}{ps:List PV}{T' id:String}{Pst:Fz->Bt->Shared->Value->Prop}(T:z0r I)(hE:z4l I prog w lv S.ev)(hA:AOk A lv)(R:SR I w.params g Z H s.heap)(O:z0j I own env Y g Z s.heap)
 (hsf:z1l o'=false)(hline:(ap.endLine==cp.line)=true)(hl:es.length<20)(hc:z0m I.t n env.scope.names o' mo=true)(hcs:z2j (z0m I.t n env.scope.names) es ms=true)
 (h1:S.ev Y mo L H=some (p,Hb))(h2:z3p (S.ev Y) ms L Hb=some (ps,H2))(pa:PlainAttrs T')(slot:Slot T' x id)(hty:typeOf (.builtin id)=pure (.type "method_descriptor"))
 (hT:∀ v gb Z1 (sB:Shared),SR I w.params gb Z1 Hb sB.heap->Rel I gb Z1 v p->sB.TypeIs v T'/\∀ a,v=.ref a->∃ ob:Obj,sB.heap.get? a=some ob/\ob.dict=none)
 (k:∀ v vs gC Z2 (sC:Shared),z1c [] L g Z H s gC Z2 H2 sC->SR I w.params gC Z2 H2 sC.heap->Rel I gC Z2 v p->z0e I gC Z2 vs ps->Go I prog w A [] L gC Z2 H2 (call (.builtin id) (v::vs) []) H' Pst sC) :
  Go I prog w A [] L g Z H (eval (.Call (.Attribute o' x ap) es [] cp) env) H' Pst s:=by
 refine y0n hsf hline (y8s hcs hl) R (hE hA R O hc h1) fun v gb Z1 sB Gb Rb pB=>?_
 obtain⟨t1,t2⟩:=hT v gb Z1 sB Rb pB
 refine⟨.builtin id,[v],fun Q E pl q=>getMethod_builtin t1 pa slot hty t2 q,?_⟩
 exact z5l T hE hA (z3q (fun _ h=>by contradiction)) Rb (O.step Gb) hcs h2 fun vs gC Z2 sC Gc Rc pC=>k v vs gC Z2 sC (Gb.trans R Gc) Rc (pB.mono Gc.gle Gc.ble) pC
theorem x7m{p':q6a}{fv:Value}{ps:List PV}{vs:List Value}(R:SR I w.params g Z H s.heap)(hA:AOk A lv)(hp:q0w p'=some fv)(pr:z0e I g Z vs ps)(e:z4p I.P p' H ps=some p):Go I prog w A [] L g Z H (call fv vs []) H (P.val I p) s:=by
 have K1:∀ {k:PV->Option PV},one ps k=some p->(∀ v a,Rel I g Z v a->k a=some p->Go I prog w A [] L g Z H (call fv [v] []) H (P.val I p) s)->Go I prog w A [] L g Z H (call fv vs []) H (P.val I p) s:=fun e k=>by
  obtain⟨a,rfl,e⟩:=one_inv e
  obtain⟨v,rfl,pv⟩:=pr.one_inv
  exact k v a pv e
 cases p' with
 | len=>injection hp with hp;subst hp;exact K1 e fun v a pv e=>k3d R pv e
 | sum=>
  injection hp with hp;subst hp
  refine K1 e fun v a pv e=>?_
  obtain⟨l,rfl,e⟩:=z6s e
  obtain⟨ns,hn,rfl⟩:=z0z e
  exact k3e R hA pv hn
 | max=>
  injection hp with hp;subst hp
  clear K1
  have e':w1d ps=some p:=e
  clear e
  unfold w1d at e'
  split at e'
  ·obtain⟨v,rfl,pv⟩:=pr.one_inv
   obtain⟨l,rfl,e⟩:=z6s e'
   obtain⟨ns,hn,e⟩:=z1e e
   exact x7a R hA pv hn e
  ·obtain⟨i,j,rfl,rfl,e⟩:=y3c e'
   injection e with e;subst e
   obtain⟨u,v,rfl,pu,pv⟩:=pr.two_inv
   exact x6v R hA pu pv
  ·contradiction
 | sorted=>
  injection hp with hp;subst hp
  refine K1 e fun v a pv e=>?_
  obtain⟨l,rfl,e⟩:=z6s e
  exact j2h R pv e
 | int=>
  injection hp with hp;subst hp
  refine K1 e fun v a pv e=>?_
  obtain⟨x,rfl,e⟩:=z5b e
  obtain⟨i,hi,rfl⟩:=z0z e
  exact k3k R pv hi
 | hex=>
  injection hp with hp;subst hp
  refine K1 e fun v a pv e=>?_
  obtain⟨i,rfl,e⟩:=z5x e
  obtain⟨hl,e⟩:=z0o e
  injection e with e;subst e
  exact k3f R pv hl
 | tuple=>
  injection hp with hp;subst hp
  refine K1 e fun v a pv e=>?_
  obtain⟨l,hl,rfl⟩:=z0z e
  exact j9h R pv hl
 | _=>cases hp
theorem q9k{p':q6a}{fv:Value}(hp:q0w p'=some fv)(a:Addr):fv≠.ref a:=fun ha=>by
 subst ha
 cases p'<;>cases hp
theorem j2x{p':q6a}{f:Expr}{fv:Value}{es:List Expr}{ms:List ME}{pos:Pos}(T:z0r I)(hE:z4l I prog w lv S.ev)(hA:AOk A lv)(R:SR I w.params g Z H s.heap)(O:z0j I own env Y g Z s.heap)
 (hp:q0w p'=some fv)(hf:z0y I.t env.scope.names f fv=true)(hcs:z2j (z0m I.t n env.scope.names) es ms=true)(h:z1i I.P C S Y (.prim p' ms) L H=some (p,H')) :
  Go I prog w A [] L g Z H (eval (.Call f es [] pos) env) H' (P.val I p) s:=by
 obtain⟨ps,h1,e⟩:=M.then_some (f:=fun J vs=>z4p I.P p' J vs) h
 exact y0m T hE hA R O hf (z3q (q9k hp)) hcs h1 fun vs gb Z1 sB Gb Rb pr=>x7m Rb hA hp pr e
end
structure q1d(I:z2s)(prog:Program)(w:World):Prop where
 flags:∃ kvs,I.B.DictOf (intKind prog w) I.dA kvs/\(I.dA==sysModules)=false/\∀ k,match I.P.flags.lookup k with | some x=>∃ t,valueAt kvs k=some (.str x t) | none=>valueAt kvs k=none
 pats:∀ b,∃ o,I.B.get? (I.pA b)=some o/\o.cls=.type "re.Pattern"/\o.dict=none
 patA:PlainAttrs "re.Pattern"
 patS:Slot "re.Pattern" "search" "re.Pattern.search"
 patT:typeOf (.builtin "re.Pattern.search")=pure (.type "method_descriptor")
 search:∀ (b:Bool) (x:Str) (t:Tok) (A:Around) (s:Shared) (Q:Value->Shared->Prop) (E:Value->Shared->Prop),I.P.okPat b x=true->(∀ a o,I.B.get? a=some o->s.heap.get? a=some o) ->
  (∀ tk,Q .none { s with toks:=tk })->wpAny (model prog w) A (call (.builtin "re.Pattern.search") [.ref (I.pA b),.str x t]) Q E s
section
variable {I:z2s} {own own':List Addr} {L L':Lim} {w:World} {g gb gC g':Fz} {Z Z1 Z2 Z':Bt} {H Hb H2 H':z0b} {s sB sC s':Shared} {env:Env} {Y Y':z0l} {A:Around} {prog:Program} {lv n:Nat} {S:z6q} {C:z0g} {p q r:PV}
theorem q1e{f:ME->M PV}{m:ME}{ms:List ME}{ps:List PV}(h:z3p f (m::ms) L H=some (ps,H')):∃ p qs Hb,ps=p::qs/\f m L H=some (p,Hb)/\z3p f ms L Hb=some (qs,H'):=by
 obtain⟨p,Hb,h1,h2⟩:=M.bind_some h
 obtain⟨qs,H2,h3,h4⟩:=M.bind_some h2
 obtain⟨rfl,rfl⟩:=M.pure_some h4
 exact⟨p,qs,Hb,rfl,h1,h3⟩
theorem y3r{v:Value}{x:Str}(h:Rel I g Z v (.str x)):s.TypeIs v "str"/\∀ a,v=.ref a->∃ ob:Obj,s.heap.get? a=some ob/\ob.dict=none:=by
 obtain⟨t,rfl⟩:=h.str_inv
 exact⟨rfl,fun a ha=>by cases ha⟩
theorem j9t{v:Value}{l:List PV}(R:SR I w.params g Z H s.heap)(h:Rel I g Z v (.lst l)):s.TypeIs v "list"/\∀ a,v=.ref a->∃ ob:Obj,s.heap.get? a=some ob/\ob.dict=none:=by
 obtain⟨a,o,vs,rfl,g1,g4,g2,g3⟩:=h.lst_inv
 obtain⟨n,_,hd⟩:=g4.2
 exact⟨(z0p (R.sub _ _ g1) g4).typeIs,fun a ha=>by injection ha with ha;subst ha;exact⟨_,R.sub _ _ g1,hd⟩⟩
theorem x7n{p':q6a}{nmx:String}{p0:PV}{ps:List PV}{G:Prop}(hA:AOk A lv)(hp:y3k p'=some nmx)(e:z4p I.P p' H (p0::ps)=some p)
 (k:∀ T' id,PlainAttrs T'->Slot T' (Str.ofString nmx) id->typeOf (.builtin id)=pure (.type "method_descriptor") ->
   (∀ v gb Z1 Hb (sB:Shared),SR I w.params gb Z1 Hb sB.heap->Rel I gb Z1 v p0->sB.TypeIs v T'/\∀ a,v=.ref a->∃ ob:Obj,sB.heap.get? a=some ob/\ob.dict=none) ->
   (∀ v vs gC Z2 (sC:Shared),SR I w.params gC Z2 H sC.heap->Rel I gC Z2 v p0->z0e I gC Z2 vs ps->Go I prog w A [] L gC Z2 H (call (.builtin id) (v::vs) []) H (P.val I p) sC)->G):G:=by
 cases p' with
 | lower=>
  obtain rfl:=AF hp
  obtain⟨a,hq,e1⟩:=one_inv e
  obtain⟨x,ex,e2⟩:=z5b e1
  obtain⟨hb,e3⟩:=z0o e2
  have q:=List.cons.inj hq
  refine k _ _ F.plainAttrs_str F.slot_str_lower F.type_str_lower (fun v gb Z1 Hb sB Rb pv=>y3r (ex▸q.1▸pv)) fun v vs gC Z2 sC Rc pv pr=>?_
  have pr':z0e I gC Z2 vs []:=q.2▸pr
  rw [pr'.nil_inv,<- AF e3]
  exact j9i Rc (ex▸q.1▸pv) hb
 | upper=>
  obtain rfl:=AF hp
  obtain⟨a,hq,e1⟩:=one_inv e
  obtain⟨x,ex,e2⟩:=z5b e1
  obtain⟨hb,e3⟩:=z0o e2
  have q:=List.cons.inj hq
  refine k _ _ F.plainAttrs_str F.slot_str_upper F.type_str_upper (fun v gb Z1 Hb sB Rb pv=>y3r (ex▸q.1▸pv)) fun v vs gC Z2 sC Rc pv pr=>?_
  have pr':z0e I gC Z2 vs []:=q.2▸pr
  rw [pr'.nil_inv,<- AF e3]
  exact j9j Rc (ex▸q.1▸pv) hb
 | split=>
  obtain rfl:=AF hp
  obtain⟨a,b,hq,e1⟩:=two_inv e
  obtain⟨x,ex,e2⟩:=z5b e1
  obtain⟨y,ey,e3⟩:=z5b e2
  obtain⟨hb,e4⟩:=z0o e3
  have q:=List.cons.inj hq
  refine k _ _ F.plainAttrs_str F.slot_str_split F.type_str_split (fun v gb Z1 Hb sB Rb pv=>y3r (ex▸q.1▸pv)) fun v vs gC Z2 sC Rc pv pr=>?_
  obtain⟨u,rfl,pu⟩:=(q.2▸pr).one_inv
  rw [<- AF e4]
  exact j9k Rc (ex▸q.1▸pv) (ey▸pu) hb.1 hb.2
 | join=>
  obtain rfl:=AF hp
  obtain⟨a,b,hq,e1⟩:=two_inv e
  obtain⟨x,ex,e2⟩:=z5b e1
  obtain⟨l,hl',e3⟩:=z1e e2
  obtain⟨ts,hts,e4⟩:=z1e e3
  obtain⟨hj,e5⟩:=z0o e4
  have q:=List.cons.inj hq
  refine k _ _ F.plainAttrs_str F.slot_str_join F.type_str_join (fun v gb Z1 Hb sB Rb pv=>y3r (ex▸q.1▸pv)) fun v vs gC Z2 sC Rc pv pr=>?_
  obtain⟨u,rfl,pu⟩:=(q.2▸pr).one_inv
  rw [<- AF e5]
  exact x6w Rc (ex▸q.1▸pv) pu hl' hts hj
 | index=>
  obtain rfl:=AF hp
  obtain⟨a,b,hq,e1⟩:=two_inv e
  obtain⟨l,el,e2⟩:=z6s e1
  obtain⟨ds,hds,e3⟩:=z1e e2
  obtain⟨d,hd,e4⟩:=z1e e3
  obtain⟨hdd,e5⟩:=z0o e4
  obtain⟨m,hi,e6⟩:=z0z e5
  have q:=List.cons.inj hq
  refine k _ _ F.plainAttrs_list F.slot_list_index F.type_list_index (fun v gb Z1 Hb sB Rb pv=>j9t Rb (el▸q.1▸pv)) fun v vs gC Z2 sC Rc pv pr=>?_
  obtain⟨u,rfl,pu⟩:=(q.2▸pr).one_inv
  rw [<- e6]
  exact j9l Rc hA (el▸q.1▸pv) pu hds hd hdd hi
 | _=>contradiction
theorem q1f{pr:q6a}{mo:ME}{ms:List ME}(h:z1i I.P C S Y (.prim pr (mo::ms)) L H=some (p,H')):∃ p0 ps Hb,S.ev Y mo L H=some (p0,Hb)/\z3p (S.ev Y) ms L Hb=some (ps,H')/\z4p I.P pr H' (p0::ps)=some p:=by
 obtain⟨qs,h1,e⟩:=M.then_some (f:=fun J vs=>z4p I.P pr J vs) h
 obtain⟨p0,ps,Hb,e1,h5,h6⟩:=q1e h1
 exact⟨p0,ps,Hb,h5,h6,e1▸e⟩
theorem q4h{p':q6a}{x:Str}{nmx:String}{o':Expr}{es:List Expr}{mo:ME}{ms:List ME}{ap cp:Pos}(T:z0r I)(hE:z4l I prog w lv S.ev)(hA:AOk A lv)(R:SR I w.params g Z H s.heap)(O:z0j I own env Y g Z s.heap)
 (hp:y3k p'=some nmx)(hx:x=Str.ofString nmx)(hsf:z1l o'=false)(hline:(ap.endLine==cp.line)=true)(hl:es.length<20)(hc:z0m I.t n env.scope.names o' mo=true)(hcs:z2j (z0m I.t n env.scope.names) es ms=true)
 (h:z1i I.P C S Y (.prim p' (mo::ms)) L H=some (p,H')):Go I prog w A [] L g Z H (eval (.Call (.Attribute o' x ap) es [] cp) env) H' (P.val I p) s:=by
 obtain⟨p0,ps,Hb,h5,h6,e⟩:=q1f h
 exact x7n (I:=I) (L:=L) (w:=w) (prog:=prog) hA hp e fun T' id m1 m2 m3 m4 m5=>q6r T hE hA R O hsf hline hl hc hcs h5 h6 m1 (hx▸m2) m3 (fun v gb Z1 sB Rb pv=>m4 v gb Z1 _ sB Rb pv) fun v vs gC Z2 sC G Rc pv pr=>m5 v vs gC Z2 sC Rc pv pr
theorem q9l{x:Str}{d:Expr}{es:List Expr}{ms:List ME}{ap cp:Pos}(T:z0r I)(W:q1d I prog w)(hE:z4l I prog w lv S.ev)(hA:AOk A lv)(R:SR I w.params g Z H s.heap)(O:z0j I own env Y g Z s.heap)
 (hx:x=("get":Str))(hd:z0y I.t env.scope.names d (.ref I.dA)=true)(hline:(ap.endLine==cp.line)=true)(hl:es.length=2)(hcs:z2j (z0m I.t n env.scope.names) es ms=true)
 (h:z1i I.P C S Y (.prim .flagGet ms) L H=some (p,H')):Go I prog w A [] L g Z H (eval (.Call (.Attribute d x ap) es [] cp) env) H' (P.val I p) s:=by
 obtain⟨ps,h1,e⟩:=M.then_some (f:=fun J vs=>z4p I.P .flagGet J vs) h
 obtain⟨kp,df,e0,e⟩:=two_inv e
 obtain⟨k,e1,e⟩:=z5x e
 clear h
 subst e1 e0
 subst hx
 obtain⟨kvs,D,hsys,hk⟩:=W.flags
 intro Q E q
 obtain⟨y,py,rfl,_⟩:=z4r hd
 rw [arm_eval_Call,y3o rfl]
 refine AB (z9m (L:=L) T R O hd _ _ fun fv gb Z1 sB Gb Rb eB=>?_)
 subst eB
 refine AB (BX ?_)
 have hpos:methodCallPos true (.Name y py) env ap cp=pure cp:=by unfold methodCallPos;simp [hline]
 unfold methodCall
 have hform:methodCallForm (es.length+([]:List Keyword).length) (backTo cp (starEach es env)) (backToKw cp (keywordEach [] env))=true:=y8s hcs (by omega)
 rw [hform]
 unfold calleeOf
 rw [AR rfl]
 have D1:=D.keep Rb.up
 refine AB (BW (getMethod_builtin D1.typeIs F.plainAttrs_dict F.slot_dict_get F.type_dict_get D1.mapOf.noDict ?_))
 refine AB (wpAny_of_eq hpos ?_)
 refine z5l (first:=[.ref I.dA]) (Pst:=P.val I p) T hE hA (z3q (fun _ h=>by contradiction)) Rb (O.step Gb) hcs h1 (fun vs gC Z2 sC Gc Rc pC=>?_) Q E fun a gC Z2 sC Gc Rc pC=>q a gC Z2 sC (Gb.trans R Gc) Rc pC
 obtain⟨u,v,rfl,pu,pv⟩:=pC.two_inv
 obtain⟨tk,rfl⟩:=pu.int_inv
 have Dc:=D.keep Rc.up
 refine Go.tok Rc fun Q E q=>call_meetsIn F.slot_dict_get Dc.typeIs F.entry_dict_get (F.args_dict_get_3 _ _ _) (meets_dict_get_default (intKind prog w) I.dA (intKind_is prog w k tk) hsys v) ⟨_,Dc.mapOf,?_⟩
 have hkk:=hk k
 refine q _ _ ?_
 clear q
 injection e with e;subst e
 split at hkk
 ·rename_i y hy
  obtain⟨t,ht⟩:=hkk
  rw [ht]
  first | exact .str _ _ | (rw [hy];exact .str _ _)
 ·rename_i hy
  rw [hkk]
  first | exact pv | (rw [hy];exact pv)
theorem j2y{x:Str}{o':Expr}{es:List Expr}{mo:ME}{ms:List ME}{ap cp:Pos}(T:z0r I)(W:q1d I prog w)(hE:z4l I prog w lv S.ev)(hA:AOk A lv)(R:SR I w.params g Z H s.heap)(O:z0j I own env Y g Z s.heap)
 (hx:x=("search":Str))(hsf:z1l o'=false)(hline:(ap.endLine==cp.line)=true)(hl:es.length<20)(hc:z0m I.t n env.scope.names o' mo=true)(hcs:z2j (z0m I.t n env.scope.names) es ms=true)
 (h:z1i I.P C S Y (.prim .search (mo::ms)) L H=some (p,H')):Go I prog w A [] L g Z H (eval (.Call (.Attribute o' x ap) es [] cp) env) H' (P.val I p) s:=by
 obtain⟨p0,ps,Hb,h5,h6,e⟩:=q1f h
 obtain⟨a,b,hq,f1⟩:=two_inv e
 obtain⟨t,e1,f2⟩:=j8v f1
 obtain⟨x',e2,f3⟩:=z5b f2
 obtain⟨hb,f4⟩:=z0o f3
 clear h e f1 f2 f3
 cases hq
 cases f4
 subst e1 e2 hx
 refine q6r T hE hA R O hsf hline hl hc hcs h5 h6 W.patA W.patS W.patT (fun v gb Z1 sB Rb pv=>?_) fun v vs gC Z2 sC G Rc pv pr=>?_
 ·obtain rfl:=pv.pat_inv
  obtain⟨o,ho,h7,h8⟩:=W.pats t
  exact⟨⟨o,Rb.up _ _ ho,h7⟩,fun a ha=>Value.ref.inj ha▸⟨o,Rb.up _ _ ho,h8⟩⟩
 ·obtain⟨u,rfl,pu⟩:=pr.one_inv
  obtain rfl:=pv.pat_inv
  obtain⟨tk,rfl⟩:=pu.str_inv
  exact Go.tok Rc fun Q E q=>W.search _ _ _ _ _ _ _ hb Rc.up fun tk=>q _ _ .none
end
section
variable {I:z2s} {own own':List Addr} {L L':Lim} {w:World} {g gb gC g':Fz} {Z Z1 Z2 Z':Bt} {H Hb H2 H':z0b} {s sB sC s':Shared} {env:Env} {Y Y':z0l} {A:Around} {prog:Program} {lv n:Nat} {S:z6q} {C:z0g} {p q r:PV}
theorem x7o{pos:Pos}{es:List Expr}{ms:List ME}{kn:Str}{ke:Expr}{kp:Pos}(hc:z2j (z0m I.t n env.scope.names) es ms=true)(hl:es.length<20):methodCallForm (es.length+1) (backTo pos (starEach es env)) (backToKw pos (keywordEach [⟨some kn,ke,kp⟩] env))=true:=by
 unfold methodCallForm
 rw [y8r hc]
 show(true&&true&&decide (es.length+1+1<30))=true
 simp;lia
theorem x7p{m kk:Nat}{mo mk:ME}{ms:List ME}{G:Prop}(h:z1i I.P C S Y (.methk m mo ms kk mk) L H=some (p,H'))
 (k:∀ c i l Hb H2 Hd ps pk f,S.ev Y mo L H=some (.inst c i,Hb)->Hb[i]?=some (.att l)->z3p (S.ev Y) ms L Hb=some (ps,H2)->S.ev Y mk L H2=some (pk,Hd)->I.P.meth c m=some f->C f (.inst c i::ps) [(kk,pk)] L Hd=some (p,H')->G):G:=by
 obtain⟨u,Hb,h1,h2⟩:=M.bind_some h
 obtain⟨_,_,h6,h7⟩:=M.bind_some h2
 obtain⟨c,i,l,e,e2,hl⟩:=q0z h6
 obtain⟨ps,H2,h3,h4⟩:=M.bind_some h7
 obtain⟨pk,Hd,h8,h9⟩:=M.bind_some h4
 obtain⟨c',i',f,e0,hf,h5⟩:=z6g h9
 have q:=PV.inst.inj (e.symm.trans e0)
 exact k c i l Hb H2 Hd ps pk f (e▸h1) hl (e2▸h3) h8 (q.1▸hf) (e▸h5)
theorem j9u{o':Expr}{x kn:Str}{m kk:Nat}{mo mk:ME}{es:List Expr}{ke:Expr}{kp:Pos}{ms:List ME}{ap cp:Pos}(T:z0r I)(hC:q9h I prog w lv C)(hE:z4l I prog w lv S.ev)(hA:AOk A lv)(R:SR I w.params g Z H s.heap)(O:z0j I own env Y g Z s.heap)
 (hm:I.nm[m]?=some x)(hsf:z1l o'=false)(hline:(ap.endLine==cp.line)=true)(hl:es.length<20)(hc:z0m I.t n env.scope.names o' mo=true)(hcs:z2j (z0m I.t n env.scope.names) es ms=true)
 (hkn:I.nm[kk]?=some kn)(hck:z0m I.t n env.scope.names ke mk=true)
 (h:z1i I.P C S Y (.methk m mo ms kk mk) L H=some (p,H')):Go I prog w A [] L g Z H (eval (.Call (.Attribute o' x ap) es [⟨some kn,ke,kp⟩] cp) env) H' (P.val I p) s:=by
 refine x7p h fun c i l Hb H2 Hd ps pk f h1 hcell h3 h8 hf h5=>?_
 clear h
 refine y0n hsf hline (x7o hcs hl) R (hE hA R O hc h1) fun v gb Z1 sB Gb Rb pB=>⟨.ref (I.fA f),[v],fun Q E pl q=>y0o T Rb pB hcell hf hm q,fun Q E q=>?_⟩
 have Ob:=O.step Gb
 have tail:∀ vs gC Z2 sC,z1c [] L gb Z1 Hb sB gC Z2 H2 sC->SR I w.params gC Z2 H2 sC.heap->z0e I gC Z2 vs ps ->
   wpAny (model prog w) A (evalAll ((backToKw cp (keywordEach [⟨some kn,ke,kp⟩] env)).map (·.2))) (fun ks s3=>I.K.In s3.heap/\wpAny (model prog w) A (call (.ref (I.fA f)) ([v]++vs) (((backToKw cp (keywordEach [⟨some kn,ke,kp⟩] env)).filterMap (·.1)).zip ks)) Q E s3) E sC:=fun vs gC Z2 sC Gc Rc pC=>by
  refine wpAny_evalAll_cons ?_
  show wpAny (model prog w) A (eval ke env>>=fun v=>PySem.standAt cp>>=fun _=>pure v) _ E sC
  exact AB (hE hA Rc (Ob.step Gc) hck h8 _ _ fun kv gD Z3 s3 Gd Rd pd=>AB (BX (AJ (wpAny_evalAll_nil ⟨T.there Rd,
   (hC hA.s Rd (.cons ((pB.mono Gc.gle Gc.ble).mono Gd.gle Gd.ble) (pC.mono Gd.gle Gd.ble)) (.cons hkn pd .nil) h5).go Q E fun a gE Z4 s4 Ge RE p4=>q a gE Z4 s4 (Gc.trans Rb (Gd.trans Rc Ge)) RE p4⟩))))
 refine callWith_of (by rw [y8q hcs];rfl) (fun h X=>keeps_K (T.meths _ _ _ _ hf hm).2.2.2.2 h X) ?_
 clear q
 induction es using List.casesOn with
 | nil=>
  induction ms using List.casesOn with
  | cons _ _=>contradiction
  | nil=>
   injection h3 with h3;injection h3 with eB eC;subst eB;subst eC
   exact evalArgs_kw_nil rfl (tail [] gb Z1 sB .refl Rb .nil)
 | cons e es=>
  induction ms using List.casesOn with
  | nil=>contradiction
  | cons m' ms=>
   have hmain:=z6w (pos:=cp) hE hA Rb Ob hcs h3
   rw [z2g (z4m (z0u hcs).1)] at hmain ⊢
   exact evalArgs_kw rfl (hmain _ _ fun vs gC Z2 sC Gc Rc pC=>tail vs gC Z2 sC Gc Rc pC)
theorem j2z{c f:Nat}{vs:List Value}(T:z0r I)(hA:AOk A lv)(R:SR I w.params g Z H s.heap)(hf:I.P.meth c y4e=some f)
 (k:∀ x gb Z1 sB,z1c [] L g Z H s gb Z1 (H++[.att []]) sB->SR I w.params gb Z1 (H++[.att []]) sB.heap->Rel I gb Z1 (.ref x) (.inst c H.length) ->
   ∀ (A':Around) (Rr:Result->Shared->Prop),k1x A' lv->(∀ g' Z' s',z1c [] L gb Z1 (H++[.att []]) sB g' Z' H' s'->SR I w.params g' Z' H' s'.heap->Rr (.ok (.ret .none)) s')->codeAny (model prog w) A' (.call (.ref (I.fA f)) ⟨.ref x::vs,[]⟩) Rr sB) :
  Go I prog w A [] L g Z H (call (.ref (I.cA c)) vs []) H' (P.val I (.inst c H.length)) s:=by
 intro Q E q
 obtain⟨t1,t2,t3,t4,t5⟩:=T.meths _ _ _ _ hf T.n0
 have X:=T.there R
 have hn:=get?_size s.heap
 have hk1:∀ b x,s.heap.get? b=some x->(s.heap.push emptyDict).get? b=some x:=fun b x e=>AU _ e
 have G1:z1c [] L g Z H s g (q3n Z H.length s.heap.objs.size) (H++[.att []]) { s with heap:=s.heap.push emptyDict }:=z1c.cellNew (c:=.att []) (tk:=s.toks) R hk1 hn
 have R1:SR I w.params g (q3n Z H.length s.heap.objs.size) (H++[.att []]) (s.heap.push emptyDict):=R.cellNew hk1 hn ⟨[],0,BJ _ rfl,.nil,by decide⟩
 have hn2:=get?_size (s.heap.push emptyDict)
 have hk2:∀ b x,(s.heap.push emptyDict).get? b=some x->((s.heap.push emptyDict).push (instObj (I.cA c) s.heap.objs.size)).get? b=some x:=fun b x e=>AU _ e
 have hsz:(s.heap.push emptyDict).objs.size=s.heap.objs.size+1:=by rw [FM]
 have ho2:((s.heap.push emptyDict).push (instObj (I.cA c) s.heap.objs.size)).get? (s.heap.push emptyDict).objs.size=some (instObj (I.cA c) s.heap.objs.size):=BJ _ rfl
 have G2:=z1c.add (own:=[]) (L:=L) (s:={ s with heap:=s.heap.push emptyDict }) (tk:=s.toks) (o:=instObj (I.cA c) s.heap.objs.size) R1 hk2 hn2
 have R2:=SR.add (s:={ s with heap:=s.heap.push emptyDict }) R1 hk2 hn2 ho2
 have G12:=G1.trans R G2
 have hrel:Rel I (y4j g (s.heap.push emptyDict).objs.size (instObj (I.cA c) s.heap.objs.size)) (q3n Z H.length s.heap.objs.size) (.ref (s.heap.push emptyDict).objs.size) (.inst c H.length):=.inst (y0c ..) (z2i ..)
 refine wpAny_call ?_
 obtain⟨hh,gs,dd,tt,os⟩:=s
 refine make_core (makes_of X (T.makesC c f hf)) (looks_findIn X t1) (fun self=>bind_fn X self (BE.mp t2)) (.inl rfl) ?_
 have hw:(Code.builtin "type.__call__" ⟨.ref (I.cA c)::vs,[]⟩).weight=1:=rfl
 have hu:(Code.builtin "type.__call__" ⟨.ref (I.cA c)::vs,[]⟩).cUnits=1:=rfl
 have hA':k1x (A.under (.builtin "type.__call__" ⟨.ref (I.cA c)::vs,[]⟩)) lv:=⟨hA.handled,by
  show A.depth+(Code.builtin "type.__call__" ⟨.ref (I.cA c)::vs,[]⟩).weight+12*lv<=806
  rw [hw];have:=hA.depth;lia,by
  show A.units+(Code.builtin "type.__call__" ⟨.ref (I.cA c)::vs,[]⟩).cUnits+200*lv<=9100
  rw [hu];have:=hA.units;lia⟩
 dsimp only at hsz G12 R2 hrel
 rw [<- hsz]
 exact k _ _ _ _ G12 R2 hrel _ _ hA' fun g' Z' s' G R'=>⟨rfl,q _ g' Z' s' (G12.trans R G) R' (hrel.mono G.gle G.ble)⟩
theorem w1n{c:Nat}{ms:List ME}{G:Prop}(h:z1i I.P C S Y (.new c ms) L H=some (p,H'))
 (k:∀ f ps Hb,I.P.meth c y4e=some f->z3p (S.ev Y) ms L H=some (ps,Hb)->C f (.inst c Hb.length::ps) [] L (Hb++[.att []])=some (.none,H')->p=.inst c Hb.length->G):G:=by
 obtain⟨f,hf,h1⟩:=M.opt_some (o:=I.P.meth c y4e) (f:=fun f=>(z3p (S.ev Y) ms).bind fun vs=>y4d.bind fun i=>(C f (.inst c i::vs) []).bind fun r=>if z2v r then M.pure (PV.inst c i) else(M.fail:M PV)) h
 obtain⟨ps,Hb,h2,h3⟩:=M.bind_some h1
 obtain⟨r,Hd,h5,h6⟩:=M.bind_some (m:=C f (.inst c Hb.length::ps) []) (f:=fun r=>if z2v r then M.pure (PV.inst c Hb.length) else(M.fail:M PV)) (L:=L) (H:=Hb++[z2u.att []]) h3
 obtain⟨hr,h7⟩:=M.if_some h6
 obtain⟨e1,e2⟩:=M.pure_some h7
 have er:r=.none:=by induction r using PV.casesOn<;>first | rfl | contradiction
 exact k f ps Hb hf h2 (er▸e2▸h5) e1.symm
theorem k4a{c:Nat}{ms:List ME}{G:Prop}(h:z1i I.P C S Y (.newg c ms) L H=some (p,H'))
 (k:∀ f ps Hb H4 l,I.P.meth c y4e=some f->z3p (S.ev Y) ms L H=some (ps,Hb)->C f (.inst c Hb.length::ps) [] ⟨L.b,Hb.length⟩ (Hb++[.att []])=some (.none,H4)->H4[Hb.length]?=some (.att l)->L.ab<=Hb.length->z7y (Hb++[z2u.att []]).length l=true->p=.inst c Hb.length->H'=H4.take (Hb++[z2u.att []]).length->G):G:=by
 obtain⟨f,hf,h1⟩:=M.opt_some (o:=I.P.meth c y4e) (f:=fun f=>(z3p (S.ev Y) ms).bind fun vs=>y4d.bind fun i=>(y2h i (C f (.inst c i::vs) [])).bind fun _=>M.pure (PV.inst c i)) h
 obtain⟨ps,Hb,h2,h3⟩:=M.bind_some h1
 obtain⟨r,h5,ep⟩:=M.map_some (m:=y2h Hb.length (C f (.inst c Hb.length::ps) [])) (f:=fun _=>PV.inst c Hb.length) (L:=L) (H:=Hb++[z2u.att []]) h3
 clear h h1 h3
 unfold y2h at h5
 split at h5
 ·split at h5
  ·rename_i v H4 h7 _ l hl
   obtain⟨⟨hab,_,hatt,hnone⟩,e⟩:=z0o h5
   have ev:v=.none:=by induction v using PV.casesOn<;>first | rfl | contradiction
   exact k f ps Hb H4 l hf h2 (ev▸h7) hl hab hatt ep.symm (FL (AF e)).2.symm
  ·contradiction
 ·contradiction
theorem k4b{fe:Expr}{c:Nat}{es:List Expr}{ms:List ME}{pos:Pos}(T:z0r I)(hC:q9h I prog w lv C)(hE:z4l I prog w lv S.ev)(hA:AOk A lv)(R:SR I w.params g Z H s.heap)(O:z0j I own env Y g Z s.heap)
 (hf:z0y I.t env.scope.names fe (.ref (I.cA c))=true)(hc:z2j (z0m I.t n env.scope.names) es ms=true)(h:z1i I.P C S Y (.new c ms) L H=some (p,H')) :
  Go I prog w A [] L g Z H (eval (.Call fe es [] pos) env) H' (P.val I p) s:=by
 refine w1n h fun f ps Hb hI h1 h5 ep=>?_
 clear h
 subst ep
 refine y0m T hE hA R O hf (fun h X=>keeps_K (T.keepC c) h X) hc h1 fun vs gb Z1 sB Gb Rb pB=>?_
 refine j2z T hA Rb hI fun x gC Z2 sC Gc Rc pC A' Rr hA1 k=>hC hA1 Rc (.cons pC (pB.mono Gc.gle Gc.ble)) .nil h5 Rr fun v g' Z' s' G R' pv=>?_
 obtain rfl:=pv.none_inv
 exact k g' Z' s' G R'
theorem j3a{l:List (Nat×PV)}{d:Nat}(G:z1c [] ⟨d,Hb.length⟩ g Z (Hb++[.att []]) s gb Z1 H2 sB)(hlt:∀ i,i<(Hb++[z2u.att []]).length->i≠Hb.length->i<Hb.length)(hl:H2[Hb.length]?=some (.att l))(hatt:z7y (Hb++[z2u.att []]).length l=true) :
  ∀ i l',i<(Hb++[z2u.att []]).length->H2[i]?=some (.att l')->(i<Hb.length/\(Hb++[z2u.att []])[i]?=some (.att l'))\/z7y (Hb++[z2u.att []]).length l'=true:=fun i l' hi hc'=>by
 by_cases e:i=Hb.length
 ·rw [e,hl] at hc'
  exact .inr (z2u.att.inj (AF hc')▸hatt)
 ·have hcc:=AN hi
  obtain⟨c',h3,h4⟩:=G.kinds i _ hcc
  rw [AF (h3.symm.trans hc')] at h4
  cases hk:(Hb++[z2u.att []])[i] with
  | lst _=>rw [hk] at h4;exact h4.elim
  | att l''=>
   rw [hk] at hcc
   have h5:=G.atts i l'' hcc (hlt i hi e)
   rw [z2u.att.inj (AF (hc'.symm.trans h5))]
   exact .inl ⟨hlt i hi e,hcc⟩
theorem j3b(Rc:SR I w.params g Z (Hb++[.att []]) s.heap)(G:z1c [] ⟨L.b,Hb.length⟩ g Z (Hb++[.att []]) s gb Z1 H2 sB)(R':SR I w.params gb Z1 H2 sB.heap)(hlt:∀ i,i<(Hb++[z2u.att []]).length->i≠Hb.length->i<Hb.length)(hab:L.ab<=Hb.length) :
  z1c [] L g Z (Hb++[.att []]) s (q0d gb Z1 H2 (Hb++[z2u.att []]).length sB.heap) Z (H2.take (Hb++[z2u.att []]).length) sB:=
 z1c.letGo (L:=L) Rc G R' (fun a hf j hj=>⟨fun l hl=>(hf j hj).1 l hl,fun l' hl'=>by
  by_cases e:j=Hb.length
  ·exact absurd (BN ((hf j hj).2 l' hl') hab) (e▸EV _)
  ·exact hlt j (Rc.lt j a hj) e⟩) (fun i l h hb=>hb) (fun i l h hb=>BN hb hab)
theorem x7q{fe:Expr}{c:Nat}{es:List Expr}{ms:List ME}{pos:Pos}(T:z0r I)(hC:q9h I prog w lv C)(hE:z4l I prog w lv S.ev)(hA:AOk A lv)(R:SR I w.params g Z H s.heap)(O:z0j I own env Y g Z s.heap)
 (hf:z0y I.t env.scope.names fe (.ref (I.cA c))=true)(hc:z2j (z0m I.t n env.scope.names) es ms=true)(h:z1i I.P C S Y (.newg c ms) L H=some (p,H')) :
  Go I prog w A [] L g Z H (eval (.Call fe es [] pos) env) H' (P.val I p) s:=by
 refine k4a h fun f ps Hb H4 l hI h1 h7 hl hab hatt ep es=>?_
 clear h
 subst ep es
 refine y0m T hE hA R O hf (fun h X=>keeps_K (T.keepC c) h X) hc h1 fun vs gb Z1 sB Gb Rb pB=>?_
 refine j2z T hA Rb hI fun x gC Z2 sC Gc Rc pC A' Rr hA1 k=>hC hA1 Rc (.cons pC (pB.mono Gc.gle Gc.ble)) .nil h7 Rr fun v' g' Z' s' G R' pv=>?_
 obtain rfl:=pv.none_inv
 have hlt:∀ i,i<(Hb++[z2u.att []]).length->i≠Hb.length->i<Hb.length:=fun i h1 h2=>Nat.lt_of_le_of_ne (CP (by rw [AC] at h1;exact h1)) h2
 exact k _ _ s' (j3b Rc G R' hlt hab) (SR.letGo Rc G R' (fun a h=>nomatch h) (j3a G hlt hl hatt))
end
section
variable {P:Params} {D:Addr} {I:z2s} {own own':List Addr} {L L':Lim} {w:World} {g g0 gb gC g':Fz} {Z Z0 Z1 Z2 Z':Bt} {H H0 Hb H2 H':z0b} {s sA sB sC s':Shared} {env:Env} {Y Y0 Y':z0l} {A:Around} {prog:Program} {lv n:Nat} {S:z6q} {C:z0g} {p q r:PV}
 {items:List PV} {A7:Addr} {fp wr:List Addr} {Pi:Nat->Value->Prop} {Pt:Nat->List Value->Prop} {St:Nat->Heap->Prop} {i:Nat}
theorem z1c.freeze{o:Obj}(G:z1c own L g Z H s gb Z1 Hb sB)(hn:s.heap.get? D=none)(hg:gb D=none):z1c own L g Z H s (y4j gb D o) Z1 Hb sB:=
 { G with
  gle:=fun a x h=>z2w hg a x (G.gle a x h)
  gold:=fun a x h=>by
   unfold y4j
   rw [AT (fun e=>by rw [e,hn] at h;contradiction)]
   exact G.gold a x h }
theorem SR.freeze{o:Obj}{h:Heap}(R:SR I P g Z H h)(ho:h.get? D=some o)(hg:g D=none)(hb:∀ i,Z i≠some D):SR I P (y4j g D o) Z H h where
 base:=fun a x e=>z2w hg a x (R.base a x e)
 sub:=fun a x e=>by
  unfold y4j at e
  by_cases q:a=D
  ·subst q;rw [AR rfl] at e;injection e with e;subst e;exact ho
  ·rw [AT q] at e;exact R.sub a x e
 dom:=R.dom
 lt:=R.lt
 inj:=R.inj
 off:=fun i a e=>by
  unfold y4j
  rw [AT (fun q:a=D=>hb i (by rw [<- q];exact e))]
  exact R.off i a e
 cell:=fun i a c e hc=>(R.cell i a c e hc).mono (z2w hg) (fun _ _ q=>q) rfl
structure y0p(I:z2s)(own:List Addr)(L:Lim)(g:Fz)(Z:Bt)(H:z0b)(items:List PV)(s0:Heap)(fp wr:List Addr)(Pi:Nat->Value->Prop)(Pt:Nat->List Value->Prop)(St:Nat->Heap->Prop)(i:Nat)(h:Heap):Prop where
 st:St i h
 val:∀ i v,Pi i v->∃ p,items[i]?=some p/\Rel I g Z v p
 valT:∀ i vs,Pt i vs->∃ ps,items[i]?=some (.tup ps)/\z0e I g Z vs ps/\vs.length<=z2k
 fp:∀ b,b∈fp->(∃ o,h.get? b=some o)/\b∉own/\z9a L Z H b
 wr:∀ b,b∈wr->g b=none/\(∀ i,Z i≠some b)/\s0.get? b=none
theorem y0p.grow{s0:Heap}{zp:Bool}(W:y2l prog w A zp A7 fp wr items.length Pi Pt St)(F:y0p I own L g Z H items s0 fp wr Pi Pt St i s.heap)(R:SR I w.params g Z H s.heap)(G:z1c own L g Z H s gb Z1 Hb sB) :
  y0p I own L gb Z1 Hb items s0 fp wr Pi Pt St i sB.heap where
 st:=W.frame _ _ _ F.st fun b hb o ho=>G.kept b o ho (F.fp b hb).2.1 (F.fp b hb).2.2
 val:=fun i v h=>let ⟨p,a,b⟩:=F.val i v h;⟨p,a,b.mono G.gle G.ble⟩
 valT:=fun i v h=>let ⟨p,a,b,c⟩:=F.valT i v h;⟨p,a,b.mono G.gle G.ble,c⟩
 fp:=fun b hb=>by
  obtain⟨⟨o,ho⟩,h1,h2⟩:=F.fp b hb
  exact⟨⟨o,G.kept b o ho h1 h2⟩,h1,h2.grow R G ho⟩
 wr:=fun b hb=>by
  obtain⟨h1,h2,h3⟩:=F.wr b hb
  obtain⟨⟨o,ho⟩,_⟩:=F.fp b (W.sub b hb)
  refine⟨by rw [G.gold b o ho];exact h1,fun j hj=>?_,h3⟩
  induction e:Z j using Option.casesOn with
  | none=>have:=G.bnew j b e hj;rw [ho] at this;contradiction
  | some c=>rw [G.ble j c e] at hj;injection hj with hj;subst hj;exact h2 j e
noncomputable def j3c(own:List Addr)(env:Env)(b:Addr):Prop:=b≠env.locals/\(∀ x c,(env.kindOf x=some .cell\/env.kindOf x=some .free)->env.cells.lookup x=some c->b≠c)/\b∉own
theorem z0j.apart_of{h:Heap}(O:z0j I own env Y g Z h){b:Addr}(hb:h.get? b=none):j3c own env b:=by
 refine⟨fun e=>?_,fun x c hx hc e=>?_,fun m=>?_⟩
 ·obtain⟨m,⟨o,_,_,ho,_⟩,_⟩:=O.ns
  rw [<- e,hb] at ho;contradiction
 ·obtain⟨c',ov,h1,h2,_⟩:=O.cells x hx
  rw [hc] at h1;injection h1 with h1;subst h1
  rw [<- e,hb] at h2;contradiction
 ·obtain⟨_,_,o,ho⟩:=O.ownz b m
  rw [hb] at ho;contradiction
theorem z0j.touch{h h':Heap}(O:z0j I own env Y g Z h)(W:Addr->Prop)(hW:∀ a,W a->j3c own env a)(hk:∀ a o,¬ W a->h.get? a=some o->h'.get? a=some o):z0j I own env Y g Z h' where
 kind:=O.kind
 glob:=O.glob
 bi:=O.bi
 ns:=by
  obtain⟨m,hm,h1⟩:=O.ns
  exact⟨m,hm.at' fun o e=>hk _ _ (fun x=>(hW _ x).1 rfl) e,h1⟩
 lg:=O.lg
 lb:=O.lb
 lown:=O.lown
 cells:=fun x hx=>by
  obtain⟨c,ov,h1,h2,h3,h4,h5,h6⟩:=O.cells x hx
  exact⟨c,ov,h1,hk _ _ (fun w=>(hW _ w).2.1 x c hx h1 rfl) h2,h3,h4,h5,h6⟩
 apart:=O.apart
 code:=O.code
 ownz:=fun a ha=>by
  obtain⟨h1,h2,o,h3⟩:=O.ownz a ha
  exact⟨h1,h2,o,hk _ _ (fun w=>(hW _ w).2.2 ha) h3⟩
theorem z0j.freeze{T:Addr}{o:Obj}(O:z0j I own env Y g Z s.heap)(hn:s.heap.get? T=none)(hg:g T=none):z0j I own env Y (y4j g T o) Z s.heap:=
 O.grow (s:=s) (sB:=s) (z2w hg) (y3f hn) (fun _ _ e=>e) (fun i a e e'=>by rw [e] at e';contradiction) (fun a o e _ _=>e)
theorem q1g{zp:Bool}{tgt:Expr}{N:Shared->Prop}{K E:Value->Shared->Prop}(hzp:zp=true->tgt.ctorIdx=25)(W:y2l prog w A zp A7 fp wr items.length Pi Pt St)(hsep:∀ b,b∈wr->j3c own env b)(F:y0p I own L g Z H items sA.heap fp wr Pi Pt St i s.heap)(R:SR I w.params g Z H s.heap)(O:z0j I own env Y g Z s.heap)
 (G:z1c own L g0 Z0 H0 sA g Z H s)
 (hd:i=items.length->∀ s',SR I w.params g Z H s'.heap->z0j I own env Y g Z s'.heap->z1c own L g0 Z0 H0 sA g Z H s'->(∀ b o,b∉wr->s.heap.get? b=some o->s'.heap.get? b=some o)->N s')
 (hi:∀ p,items[i]?=some p->∀ v g' s',Rel I g' Z v p->SR I w.params g' Z H s'.heap->z0j I own env Y g' Z s'.heap->z1c own L g0 Z0 H0 sA g' Z H s'->y0p I own L g' Z H items sA.heap fp wr Pi Pt St (i+1) s'.heap ->
   (∀ b o,b∉wr->s.heap.get? b=some o->s'.heap.get? b=some o)->(∀ b o,g b=some o->g' b=some o)->(∀ b o,s.heap.get? b=some o->g' b=g b)->K v s')
 (hle:i<=items.length):wpAny (model prog w) A (pyNext (.ref A7)) (y3i prog w A tgt A7 N K E) E s:=by
 have key:∀ (h':Heap) (g':Fz),SR I w.params g' Z H s.heap->z0j I own env Y g' Z s.heap->(∀ b,b∈wr->g' b=none)->(∀ b o,b∉wr->s.heap.get? b=some o->h'.get? b=some o)->SR I w.params g' Z H h'/\z0j I own env Y g' Z h':=fun h' g' R O hg hk=>
  ⟨R.off_ (fun a=>a∈wr) (fun a e=>hg a e) (fun a i e=>(F.wr a e).2.1 i) fun a o hn e=>hk a o hn e,
   O.touch (fun a=>a∈wr) hsep fun a o hn e=>hk a o hn e⟩
 have gro':∀ (h':Heap) (tk:Nat),(∀ b o,b∉wr->s.heap.get? b=some o->h'.get? b=some o)->z1c own L g0 Z0 H0 sA g Z H { s with heap:=h',toks:=tk }:=fun h' tk hk=>
  { G with
   kept:=fun a o h n f=>hk a o (fun x=>by rw [(F.wr a x).2.2] at h;contradiction) (G.kept a o h n f)
   alive:=fun a o h=>by
    obtain⟨o',h'⟩:=G.alive a o h
    exact⟨o',hk a o' (fun x=>by rw [(F.wr a x).2.2] at h;contradiction) h'⟩
   rest:=by rw [G.rest] }
 have fpN:∀ (h':Heap),St (i+1) h'->(∀ b o,b∉wr->s.heap.get? b=some o->h'.get? b=some o)->∀ b,b∈fp->(∃ o,h'.get? b=some o)/\b∉own/\z9a L Z H b:=fun h' hst hk b hb=>by
  obtain⟨⟨o,ho⟩,h1,h2⟩:=F.fp b hb
  refine⟨?_,h1,h2⟩
  by_cases hw:b∈wr
  ·exact W.alive _ _ hst b hw
  ·exact⟨o,hk b o hw ho⟩
 by_cases hlt:i<items.length
 ·refine W.item i s tgt _ _ _ hzp hlt F.st (fun v h' tk hv hst hk=>?_) fun T o vs h' tk hv hT ho hq hst hk=>?_
  ·obtain⟨p,hp,hr⟩:=F.val i v hv
   obtain⟨k1,k2⟩:=key h' g R O (fun b hb=>(F.wr b hb).1) hk
   exact hi p hp v g _ hr k1 k2 (gro' h' tk hk) ⟨hst,F.val,F.valT,fpN h' hst hk,F.wr⟩ hk (fun _ _ e=>e) fun _ _ _=>rfl
  ·obtain⟨ps,hp,hr,hl⟩:=F.valT i vs hv
   have hg:g T=none:=R.gfree hT
   have hle':=z2w (o:=o) hg
   have hbT:∀ i,Z i≠some T:=fun i e=>by obtain⟨x,hx⟩:=R.here e;rw [hT] at hx;contradiction
   obtain⟨k1,k2⟩:=key h' g R O (fun b hb=>(F.wr b hb).1) hk
   have hwT:∀ b,b∈wr->b≠T:=fun b hb e=>by
    obtain⟨⟨x,hx⟩,_⟩:=F.fp b (W.sub b hb)
    rw [e,hT] at hx;contradiction
   have O':z0j I own env Y (y4j g T o) Z h':=(O.freeze (s:=s) hT hg).touch (fun a=>a∈wr) hsep fun a o hn e=>hk a o hn e
   have hs0:sA.heap.get? T=none:=by
    induction e:sA.heap.get? T using Option.casesOn with
    | none=>rfl
    | some x=>obtain⟨x',hx⟩:=G.alive T x e;rw [hT] at hx;contradiction
   refine hi (.tup ps) hp (.ref T) (y4j g T o) _ (.tup (z2i ..) hq hl (hr.mono hle' fun _ _ e=>e)) (k1.freeze ho hg hbT) O' ((gro' h' tk hk).freeze hs0 hg)
    ⟨hst,fun i v h=>let ⟨p,a,b⟩:=F.val i v h;⟨p,a,b.mono hle' fun _ _ e=>e⟩,fun i v h=>let ⟨p,a,b,c⟩:=F.valT i v h;⟨p,a,b.mono hle' (fun _ _ e=>e),c⟩,fpN h' hst hk,fun b hb=>⟨?_,(F.wr b hb).2⟩⟩ hk hle' (y3f hT)
   unfold y4j
   rw [AT (hwT b hb)]
   exact(F.wr b hb).1
 ·have e:i=items.length:=by lia
  subst e
  refine W.done s tgt _ _ _ F.st fun h' tk hk=>?_
  obtain⟨k1,k2⟩:=key h' g R O (fun b hb=>(F.wr b hb).1) hk
  exact hd rfl _ k1 k2 (gro' h' tk hk) hk
theorem z1c.unraise{up:Bool}(R:SR I w.params g Z H s.heap)(G:z1c own (L.up up H) g Z H s gb Z1 Hb sB):z1c own L g Z H s gb Z1 Hb sB:=by
 induction up using Bool.casesOn with
 | false=>exact G
 | true=>
  exact { G with
   kept:=fun a o h hn _=>G.kept a o h hn (y8n (L:=L) R a)
   lsts:=fun i l h _=>G.lsts i l h (AS.mp h).1
   atts:=fun i l h _=>G.atts i l h (AS.mp h).1 }
theorem z6x(hX:j8s I prog w lv S.ex)(hA:AOk A lv)(hsto:∀ x,z1k env.scope.names x=true->Mine.storeable env own x):∀ {es:List Stmt} {ms:List MS} {Y:z0l} {g:Fz} {Z:Bt} {H H':z0b} {s:Shared} {fl:Fl},SR I w.params g Z H s.heap->z0j I own env Y g Z s.heap ->
  z2j (y0k I.t n env.scope.names) es ms=true->exs S.ex Y ms L H=some (fl,H')->Go I prog w A own L g Z H (execs es env) H' (z4e I own env fl) s
 | [],ms,Y,g,Z,H,H',s,fl,R,O,hc,h=>by
  induction ms using List.casesOn with
  | cons _ _=>contradiction
  | nil=>
   obtain⟨rfl,rfl⟩:=M.pure_some (L:=L) h
   exact fun Q E q=>wpAny_execs_nil (q .next g Z s .refl R ⟨rfl,O⟩)
 | e::es,ms,Y,g,Z,H,H',s,fl,R,O,hc,h=>by
  induction ms using List.casesOn with
  | nil=>contradiction
  | cons m ms=>
   obtain⟨c1,c2⟩:=z0u hc
   obtain⟨f,Hb,h1,h2⟩:=M.bind_some h
   intro Q E q
   refine wpAny_execs_cons (hX hA R O hsto c1 h1 _ _ fun x gb Z1 sB Gb Rb pB=>?_)
   cases f with
   | next Y1=>
    obtain⟨rfl,Ob⟩:=pB
    exact z6x hX hA hsto Rb Ob c2 h2 Q E fun x gC Z2 sC Gc Rc pC=>q x gC Z2 sC (Gb.trans R Gc) Rc pC
   | brk Y1=>
    obtain⟨rfl,Ob⟩:=pB
    obtain⟨rfl,rfl⟩:=M.pure_some (L:=L) h2
    exact q _ gb Z1 sB Gb Rb ⟨rfl,Ob⟩
   | ret v=>
    obtain⟨y,rfl,hy⟩:=pB
    obtain⟨rfl,rfl⟩:=M.pure_some (L:=L) h2
    exact q _ gb Z1 sB Gb Rb ⟨y,rfl,hy⟩
theorem q1h{V:Type}{l:List V}{i:Nat}{p:V}(h:l[i]?=some p):l.drop i=p::l.drop (i+1):=by
 obtain⟨h1,h2⟩:=AS.mp h
 rw [FR h1,h2]
theorem q4i{k i:Nat}(h:i<k):k - (i+1)<k - i:=Nat.sub_lt_sub_left h (DY i)
theorem j3d{ex:z0l->MS->M Fl}{pat:Pat}{mb mo:List MS}{fl:Fl}{v:PV}{vs:List PV}{G:Prop}(h:z3c ex pat mb mo Y (v::vs) L H=some (fl,H'))
 (k:∀ Y1 f Hb,z1t Y pat v=some Y1->exs ex Y1 mb L H=some (f,Hb)->(match f with
   | .next Y2=>z3c ex pat mb mo Y2 vs L Hb=some (fl,H')
   | .brk Y2=>fl=.next Y2/\H'=Hb
   | .ret v=>fl=.ret v/\H'=Hb)->G):G:=by
 rw [j1j] at h
 induction hb:z1t Y pat v using Option.casesOn with
 | none=>rw [hb] at h;contradiction
 | some Y1=>
  rw [hb] at h
  obtain⟨f,Hb,h1,h2⟩:=M.bind_some h
  refine k Y1 f Hb hb h1 ?_
  clear k h
  cases f with
  | next Y2=>exact h2
  | brk Y2=>have e:=M.pure_some (L:=L) h2;exact⟨e.1.symm,e.2.symm⟩
  | ret v=>have e:=M.pure_some (L:=L) h2;exact⟨e.1.symm,e.2.symm⟩
structure w7l(I:z2s)(prog:Program)(w:World)(own:List Addr)(env:Env)(L:Lim)(g0:Fz)(Z0:Bt)(H0:z0b)(sA:Shared)(items:List PV)(fp wr:List Addr)(Pi:Nat->Value->Prop)(Pt:Nat->List Value->Prop)(St:Nat->Heap->Prop)(run:z0l->List PV->z0b->Prop)
 (m:Nat)(s:Shared)(i:Nat)(Y:z0l)(g:Fz)(Z:Bt)(H:z0b):Prop where
 m:m=items.length - i
 le:i<=items.length
 F:y0p I own L g Z H items sA.heap fp wr Pi Pt St i s.heap
 R:SR I w.params g Z H s.heap
 O:z0j I own env Y g Z s.heap
 G:z1c own L g0 Z0 H0 sA g Z H s
 h:run Y (items.drop i) H
theorem q9m{pat:Pat}{tgt:Expr}{body orelse:List Stmt}{mb mo:List MS}{fl:Fl}{Rr:Result->Shared->Prop}(T:z0r I)(hX:j8s I prog w lv S.ex)(hA:AOk A lv)(hsto:∀ x,z1k env.scope.names x=true->Mine.storeable env own x)
 (hp:z5k I.t (z1k env.scope.names) tgt pat=true)(hb:z2j (y0k I.t n env.scope.names) body mb=true)(ho:z2j (y0k I.t n env.scope.names) orelse mo=true)
 (R:SR I w.params g0 Z0 H0 sA.heap)(Oa:z0j I own env Y0 g0 Z0 sA.heap)
 {it:Value}(hs:s={ sA with heap:=s.heap,toks:=s.toks })(hk:∀ b o,sA.heap.get? b=some o->s.heap.get? b=some o)(F:x4o prog w A I false own L g0 Z0 H0 items sA.heap it s.heap)
 (h:z3c S.ex pat mb mo Y0 items L H0=some (fl,H'))
 (q:∀ f g' Z' s',z1c own L g0 Z0 H0 sA g' Z' H' s'->SR I w.params g' Z' H' s'.heap->z4e I own env fl g' Z' s' f->Rr (.ok f) s') :
  codeAny (model prog w) A (.forLoop tgt it body orelse env) Rr s:=by
 obtain⟨A7,fp,wr,Pi,Pt,St,rfl,W,st0,hval,hvalT,hfp,hwr⟩:=F
 have G0:z1c own L g0 Z0 H0 sA g0 Z0 H0 s:=by rw [hs];exact z1c.keepAll hk
 refine codeAny_forLoop_any (fun m s'=>∃ i Y g Z H,w7l I prog w own env L g0 Z0 H0 sA items fp wr Pi Pt St (fun Y l H=>z3c S.ex pat mb mo Y l L H=some (fl,H')) m s' i Y g Z H) ?_ items.length
  ⟨0,Y0,g0,Z0,H0,rfl,BK _,⟨st0,hval,hvalT,hfp,hwr⟩,R.keepAll hk,Oa.grow (s:=sA) (sB:=s) (fun _ _ e=>e) (fun _ _ _=>rfl) (fun _ _ e=>e) (fun i a e e'=>by rw [e] at e';contradiction) (fun a o e _ _=>hk a o e),G0,h⟩
 clear h G0 hvalT hval hfp st0 hs hk
 rintro m s' ⟨i,Y,g,Z,H,A5⟩
 refine CZ (q1g (zp:=false) (tgt:=tgt) (fun h=>absurd h CL) W (fun b hb=>Oa.apart_of (hwr b hb).2.2) A5.F A5.R A5.O A5.G (fun e sB Rb Ob Gb _=>?_) (fun p hpi v g sB hv Rb Ob Gb F1 _ _ _=>?_) A5.le) (fun r sB h=>by induction r using Option.casesOn<;>exact h) fun _ _ h=>h
 ·have hl:=A5.h
  rw [e,List.drop_length] at hl
  exact z6x hX hA hsto Rb Ob ho hl _ _ fun f gC Z2 sC Gc Rc pC=>q f gC Z2 sC (Gb.trans R Gc) Rc pC
 ·have hl:=A5.h
  rw [q1h hpi] at hl
  refine j3d hl fun Y1 f Hb hbp h1 h2=>?_
  clear hl
  refine y0g (L:=L) T.nd hsto hA hp Rb Ob hv hbp _ _ fun _ gC Z2 sC Gc Rc pC=>?_
  refine z6x hX hA hsto Rc pC.1 hb h1 _ _ fun x gD Z3 s3 Gd Rd pd=>?_
  have G13:=Gb.trans R (Gc.trans Rb Gd)
  cases f with
  | next Y2=>
   obtain⟨rfl,O3⟩:=pd
   exact⟨items.length - (i+1),A5.m▸q4i (AS.mp hpi).1,i+1,Y2,gD,Z3,Hb,rfl,(AS.mp hpi).1,(F1.grow W Rb Gc).grow W Rc Gd,Rd,O3,G13,h2⟩
  | brk Y2=>
   obtain⟨rfl,O3⟩:=pd
   exact q _ gD Z3 s3 (h2.2▸G13) (h2.2▸Rd) (h2.1▸⟨rfl,O3⟩)
  | ret v=>
   obtain⟨y,rfl,hy⟩:=pd
   exact q _ gD Z3 s3 (h2.2▸G13) (h2.2▸Rd) (h2.1▸⟨y,rfl,hy⟩)
end
section
variable {I:z2s} {own own':List Addr} {L L':Lim} {w:World} {g g0 gb gC g':Fz} {Z Z0 Z1 Z2 Z':Bt} {H H0 Hb H2 H':z0b} {s sA sB sC s':Shared} {env:Env} {Y Y0 Y':z0l} {A:Around} {prog:Program} {lv n:Nat} {S:z6q} {C:z0g} {p q r:PV}
 {items:List PV} {A7:Addr} {fp wr:List Addr} {Pi:Nat->Value->Prop} {St:Nat->Heap->Prop} {i:Nat}
theorem j3e(hA:A.handled=none)(z TI TO i1 i2 l1 l2:Addr)(D:ZipApart z TI TO i1 i2 l1 l2)(xs ys:List Value) :
  y2l prog w A true z [z,TI,TO,i1,i2,l1,l2] [z,TO,i1,i2] (min xs.length ys.length) (fun _ _=>False) (fun i vs=>∃ x y,xs[i]?=some x/\ys[i]?=some y/\vs=[x,y])
  (fun i h=>IsZip h z TI TO .none/\IsPair h TI (.ref i1) (.ref i2)/\(∃ a b,IsPair h TO a b)/\h.IsListIter i1 l1 i/\h.IsListIter i2 l2 i/\h.IsList l1 xs.toArray/\h.IsList l2 ys.toArray):=by
 have W:=WalksT.zip2 (prog:=prog) (w:=w) hA z TI TO i1 i2 l1 l2 D xs.toArray ys.toArray
 rw [BV,BV] at W
 exact {
  sub:=W.sub
  frame:=fun i h h' st hk=>W.frame i h h' st fun b hb o=>hk b hb o
  item:=fun i s tgt N K E hz hi st _ k=>by
   refine W.item i s _ E hi st fun T vals h' tk pt hT tup mid hk=>?_
   obtain⟨x,y,hx,hy,rfl⟩:=pt
   obtain⟨o,ho,hc,n,hd⟩:=tup
   refine Expr.Tuple.elim (motive_1:=fun tgt=>y3i prog w A tgt z N K E (some (.ref T)) { s with heap:=h',toks:=tk }) tgt (hz rfl) fun es kk pos=>?_
   refine W.go es kk pos i T { s with heap:=h',toks:=tk } _ E mid fun h'' st' hk'=>?_
   exact k T o [x,y] h'' tk ⟨x,y,by rw [<- hx,DU],by rw [<- hy,DU],rfl⟩ (Heap.get?_none_of_le hT) (hk' T o (W.apart i T _ mid) ho) ⟨hc,n,hd⟩ st' fun b o hb e=>hk' b o hb (hk b o hb e)
  done:=fun s tgt N K E st k=>W.done s _ E st fun h' tk hk=>k h' tk hk
  self:=W.self
  alive:=fun i h st b hb=>by
   obtain⟨a1,a2,⟨a,b',a3⟩,⟨o1,a4,_⟩,⟨o2,a5,_⟩,_⟩:=st
   rcases AQ.mp hb with rfl | hb
   ·exact⟨_,a1⟩
   rcases AQ.mp hb with rfl | hb
   ·exact⟨_,a3⟩
   rcases AQ.mp hb with rfl | hb
   ·exact⟨_,a4⟩
   ·exact⟨_,AO.mp hb▸a5⟩ }
noncomputable def w0g(prog:Program)(w:World)(A:Around)(I:z2s)(zp:Bool)(own:List Addr)(L:Lim)(up:Bool)(g:Fz)(Z:Bt)(H Hb:z0b)(s:Shared)(items:List PV)(Q:Value->Shared->Prop):Prop:=
 ∀ it gb Z1 sB sC,z1c [] L g Z H s gb Z1 Hb sB->SR I w.params gb Z1 Hb sB.heap->sC={ sB with heap:=sC.heap,toks:=sC.toks }->(∀ b o,sB.heap.get? b=some o->sC.heap.get? b=some o) ->
  x4o prog w A I zp own (L.up up Hb) gb Z1 Hb items sB.heap it sC.heap->Q it sC
theorem j9v{iter:Expr}{m:ME}{up:Bool}(hE:z4l I prog w lv S.ev)(hA:AOk A lv)(R:SR I w.params g Z H s.heap)(O:z0j I own env Y g Z s.heap)(hc:z0m I.t n env.scope.names iter m=true)(h:S.ev Y m L H=some (p,Hb))(e:x6k Hb p=some (items,up))
 {Q E:Value->Shared->Prop}(q:w0g prog w A I false own L up g Z H Hb s items Q):wpAny (model prog w) A (eval iter env) (fun x sB=>wpAny (model prog w) A (pyIter x) Q E sB) E s:=
 hE hA R O hc h _ _ fun x gb Z1 sB Gb Rb pB=>q4b (own:=own) Rb hA.handled (O.step Gb).ownz pB e fun it oI tk hf F=>q it gb Z1 sB _ Gb Rb rfl (fun b o e=>AU _ e) F
theorem q9n{vs:List PV}{l:List PV}(h:j1i vs=some l):(∃ b:Int,vs=[.int b]/\b.natAbs<=1000000/\l=z4y 0 b)\/∃ a b:Int,vs=[.int a,.int b]/\a.natAbs<=1000000/\b.natAbs<=1000000/\l=z4y a b:=by
 match vs,h with
 | [a],h=>
  obtain⟨b,rfl,h⟩:=z5x (show j1d a _=some l from h)
  obtain⟨h1,h2⟩:=z0o h
  exact .inl ⟨b,rfl,h1,(AF h2).symm⟩
 | [a,b],h=>
  obtain⟨x,y,rfl,rfl,h⟩:=y3c (show y8b a b _=some l from h)
  obtain⟨h1,h2⟩:=z0o h
  exact .inr ⟨x,y,rfl,h1.1,h1.2,(AF h2).symm⟩
 | [],h=>contradiction
 | _::_::_::_,h=>contradiction
theorem j3f{f:Expr}{es:List Expr}{pos:Pos}{args:List ME}{vs:List PV}(T:z0r I)(hE:z4l I prog w lv S.ev)(hA:AOk A lv)(R:SR I w.params g Z H s.heap)(O:z0j I own env Y g Z s.heap)
 (hf:z0y I.t env.scope.names f (.type "range")=true)(hcs:z2j (z0m I.t n env.scope.names) es args=true)(h:z3p (S.ev Y) args L H=some (vs,Hb))(e:j1i vs=some items)
 {Q E:Value->Shared->Prop}(q:w0g prog w A I false own L false g Z H Hb s items Q):wpAny (model prog w) A (eval (.Call f es [] pos) env) (fun x sB=>wpAny (model prog w) A (pyIter x) Q E sB) E s:=by
 have post:Go I prog w A [] L g Z H (eval (.Call f es [] pos) env) Hb (fun _ _ s' x=>∃ a b r t u v,x=.ref r/\IsRange s'.heap r a b 1 t u v/\items=z4y a b/\a.natAbs<=1000000/\b.natAbs<=1000000) s:=by
  refine y0m T hE hA R O hf (z3q (fun _ h=>by contradiction)) hcs h fun ws gb Z1 sB Gb Rb pr=>?_
  rcases q9n e with⟨b,rfl,hb,rfl⟩ | ⟨a,b,rfl,ha,hb,rfl⟩
  ·obtain⟨v,rfl,pv⟩:=pr.one_inv
   obtain⟨t,rfl⟩:=pv.int_inv
   exact Go.keepAll Rb fun Q E k=>call_range_1 (k _ _ _ (fun b o e=>AU _ e) ⟨0,_,_,_,_,_,rfl,BJ _ rfl,rfl,by decide,hb⟩)
  ·obtain⟨u,v,rfl,pu,pv⟩:=pr.two_inv
   obtain⟨t,rfl⟩:=pu.int_inv
   obtain⟨t',rfl⟩:=pv.int_inv
   exact Go.keepAll Rb fun Q E k=>call_range_2 (k _ _ _ (fun b o e=>AU _ e) ⟨_,_,_,_,_,_,rfl,BJ _ rfl,rfl,ha,hb⟩)
 refine post _ _ fun x gb Z1 sB Gb Rb pB=>?_
 obtain⟨a,b,r,t,u,v,rfl,hr,hi,ha,hb⟩:=pB
 exact q0u (own:=own) Rb hA.handled (O.step Gb).ownz hr ha hb hi fun it oI tk hf F=>q it gb Z1 sB _ Gb Rb rfl (fun b o e=>AU _ e) F
theorem x7r{xs ys:List PV}{i:Nat}{p q:PV}(h1:xs[i]?=some p)(h2:ys[i]?=some q):((xs.zip ys).map fun r=>PV.tup [r.1,r.2])[i]?=some (.tup [p,q]):=by
 rw [BD,List.getElem?_zip_eq_some (z:=(p,q)) |>.mpr ⟨h1,h2⟩];rfl
theorem q9o{u v:Value}{a b:List PV}(R:SR I w.params g Z H s.heap)(hA:A.handled=none)(hz:∀ a,a∈own->∃ o,s.heap.get? a=some o)(hno:∀ a,a∈own->g a=none)(hu:Rel I g Z u (.lst a))(hv:Rel I g Z v (.lst b))
 {Q E:Value->Shared->Prop}(q:∀ it (sC:Shared),sC={ s with heap:=sC.heap,toks:=sC.toks }->(∀ b o,s.heap.get? b=some o->sC.heap.get? b=some o)->x4o prog w A I true own L g Z H ((a.zip b).map fun q=>.tup [q.1,q.2]) s.heap it sC.heap->Q it sC) :
  wpAny (model prog w) A (call (.type "zip") [u,v]) (fun x sB=>wpAny (model prog w) A (pyIter x) Q E sB) E s:=by
 obtain⟨x,o,vs,rfl,g1,g4,g2,g3⟩:=hu.lst_inv
 obtain⟨y,o',ws,rfl,k1,k4,k2,k3⟩:=hv.lst_inv
 have hx:=R.sub _ _ g1
 have hy:=R.sub _ _ k1
 have lx:=CV hx
 have ly:=CV hy
 refine call_zip_2 (z0p hx g4) (z0p hy k4) fun h' z1 z2 z3 z4 z5 z6 hk=>?_
 refine wpAny_pyIter_zip (s:={ s with heap:=h' }) z1 (q _ { s with heap:=h' } rfl hk ?_)
 have D:ZipApart (s.heap.objs.size+4) (s.heap.objs.size+2) (s.heap.objs.size+3) s.heap.objs.size (s.heap.objs.size+1) x y:=by
  have nx:∀ {c:Addr} (k:Nat),c<s.heap.objs.size->c≠s.heap.objs.size+k:=fun k h e=>absurd (e▸h) (CF.mpr (BC _ _))
  have na:∀ i j:Nat,i≠j->s.heap.objs.size+i≠s.heap.objs.size+j:=fun i j h e=>h (EF e)
  exact⟨na 2 4 (by decide),na 3 4 (by decide),na 0 4 (by decide),na 1 4 (by decide),na 2 3 (by decide),na 2 0 (by decide),na 2 1 (by decide),na 3 0 (by decide),na 3 1 (by decide),na 0 1 (by decide),
   nx 4 lx,nx 3 lx,nx 0 lx,nx 1 lx,nx 4 ly,nx 3 ly,nx 0 ly,nx 1 ly⟩
 have new:∀ {c:Addr},s.heap.objs.size<=c->s.heap.get? c=none:=fun h=>Heap.get?_none_of_le h
 have newb:∀ {c:Addr},s.heap.objs.size<=c->∀ i,Z i≠some c:=fun h i e=>by obtain⟨o,ho⟩:=R.here e;rw [new h] at ho;contradiction
 have newo:∀ {c:Addr},s.heap.objs.size<=c->c∉own:=fun h m=>by obtain⟨o,ho⟩:=hz _ m;rw [new h] at ho;contradiction
 have W:=j3e (prog:=prog) (w:=w) hA _ _ _ _ _ x y D vs ws
 have hlen:min vs.length ws.length=((a.zip b).map fun q=>PV.tup [q.1,q.2]).length:=by rw [AI,List.length_zip,g3.length,k3.length]
 rw [hlen] at W
 obtain⟨o1,z4',_⟩:=id z4
 obtain⟨o2,z5',_⟩:=id z5
 refine⟨_,_,_,_,_,_,rfl,W,⟨z1,z2,⟨_,_,z3⟩,z4,z5,z0p (hk _ _ hx) g4,z0p (hk _ _ hy) k4⟩,fun i v h=>h.elim,fun i l h=>?_,fun c hc=>?_,fun c hc=>?_⟩
 ·obtain⟨p,q',h1,h2,rfl⟩:=h
  obtain⟨r1,e1,r1'⟩:=g3.getP h1
  obtain⟨r2,e2,r2'⟩:=k3.getP h2
  exact⟨[r1,r2],x7r e1 e2,.cons r1' (.one r2'),(by decide:2<=z2k)⟩
 ·have old:∀ {c:Addr} {o:Obj},g c=some o->(∃ o,h'.get? c=some o)/\c∉own/\z9a L Z H c:=fun {c o} h=>⟨⟨o,hk _ _ (R.sub _ _ h)⟩,(fun m=>by rw [hno _ m] at h;contradiction),z2o (R.not_frozen_cell h)⟩
  have fresh:∀ {c:Addr} {o:Obj},h'.get? c=some o->s.heap.objs.size<=c->(∃ o,h'.get? c=some o)/\c∉own/\z9a L Z H c:=fun ho h=>⟨⟨_,ho⟩,newo h,z2o (newb h)⟩
  rcases AQ.mp hc with rfl | hc
  ·exact fresh z1 (BC _ _)
  rcases AQ.mp hc with rfl | hc
  ·exact fresh z2 (BC _ _)
  rcases AQ.mp hc with rfl | hc
  ·exact fresh z3 (BC _ _)
  rcases AQ.mp hc with rfl | hc
  ·exact fresh z4' (AL _)
  rcases AQ.mp hc with rfl | hc
  ·exact fresh z5' (BC _ _)
  rcases AQ.mp hc with rfl | hc
  ·exact old g1
  ·obtain rfl:=AO.mp hc
   exact old k1
 ·have fresh:∀ {c:Addr},s.heap.objs.size<=c->g c=none/\(∀ i,Z i≠some c)/\s.heap.get? c=none:=fun h=>⟨R.gfree (new h),newb h,new h⟩
  rcases AQ.mp hc with rfl | hc
  ·exact fresh (BC _ _)
  rcases AQ.mp hc with rfl | hc
  ·exact fresh (BC _ _)
  rcases AQ.mp hc with rfl | hc
  ·exact fresh (AL _)
  ·obtain rfl:=AO.mp hc
   exact fresh (BC _ _)
theorem x7s{f:Expr}{es:List Expr}{pos:Pos}{args:List ME}{a b:List PV}(T:z0r I)(hE:z4l I prog w lv S.ev)(hA:AOk A lv)(R:SR I w.params g Z H s.heap)(O:z0j I own env Y g Z s.heap)
 (hf:z0y I.t env.scope.names f (.type "zip")=true)(hcs:z2j (z0m I.t n env.scope.names) es args=true)(h:z3p (S.ev Y) args L H=some ([.lst a,.lst b],Hb))
 {Q E:Value->Shared->Prop}(q:w0g prog w A I true own L false g Z H Hb s ((a.zip b).map fun q=>.tup [q.1,q.2]) Q):wpAny (model prog w) A (eval (.Call f es [] pos) env) (fun x sB=>wpAny (model prog w) A (pyIter x) Q E sB) E s:=by
 obtain⟨y,py,rfl,y1,y2,y3⟩:=z4r hf
 rw [GD]
 refine AB (z9m (L:=L) T R O hf _ _ fun fv gb Z1 sB Gb Rb eB=>?_)
 subst eB
 refine y2m (first:=[]) T hE hA (z3q (fun _ h=>by contradiction)) Rb (O.step Gb) hcs h fun vs gC Z2 sC Gc Rc pC=>?_
 obtain⟨u,v,rfl,pu,pv⟩:=pC.two_inv
 have Oc:=(O.step Gb).step Gc
 exact q9o Rc hA.handled (fun a h=>(Oc.ownz a h).2.2) (fun a h=>(Oc.ownz a h).1) pu pv fun it s3 e hk F=>q it gC Z2 sC s3 (Gb.trans R Gc) Rc e hk F
theorem y1p{e:Expr}{k:Expr->List Expr->Pos->Bool}(h:y0i e k=true):∃ f es p,e=.Call f es [] p/\k f es p=true:=by
 obtain⟨f,es,ks,p,rfl,hk⟩:=q0g h
 obtain rfl:=k2i (z0u hk).1
 exact⟨f,es,p,rfl,(z0u hk).2⟩
theorem q9p{e:Expr}{k:Expr->Str->List Expr->List Keyword->Bool}(h:y4r e k=true):∃ o x ap es ks cp,e=.Call (.Attribute o x ap) es ks cp/\(ap.endLine==cp.line)=true/\z1l o=false/\k o x es ks=true:=by
 obtain⟨f,es,ks,p,rfl,h⟩:=q0g h
 obtain⟨o,x,ap,rfl,h⟩:=j1s h
 obtain⟨h1,h2,h3⟩:=z3z h
 exact⟨o,x,ap,es,ks,p,rfl,h1,q0b h2,h3⟩
theorem q1i{f:ME->M PV}{m:ME}{a:PV}(h:z3p f [m] L H=some ([a],H')):f m L H=some (a,H'):=by
 obtain⟨q,qs,Hd,e,h3,h4⟩:=q1e h
 injection e with e;subst e
 injection h4 with h4;injection h4 with eB eC;subst eB;subst eC
 exact h3
theorem j3g{iter:Expr}{k:z5w}{args:List ME}{up:Bool}(T:z0r I)(hE:z4l I prog w lv S.ev)(hA:AOk A lv)(R:SR I w.params g Z H s.heap)(O:z0j I own env Y g Z s.heap)
 (hc:y1o I.t (z0m I.t n env.scope.names) env.scope.names iter k args=true)(h:z8z S Y k args L H=some ((items,up),Hb)){Q E:Value->Shared->Prop}(q:w0g prog w A I (q9e k) own L up g Z H Hb s items Q) :
  wpAny (model prog w) A (eval iter env) (fun x sB=>wpAny (model prog w) A (pyIter x) Q E sB) E s:=by
 obtain⟨vs,H2,h1,h2⟩:=M.bind_some h
 have e:k1s k H2 vs=some (items,up)/\H2=Hb:=by
  induction hv:k1s k H2 vs using Option.casesOn with
  | none=>rw [hv] at h2;contradiction
  | some r=>rw [hv] at h2;injection h2 with h2;injection h2 with eB eC;subst eB;subst eC;exact⟨rfl,rfl⟩
 obtain⟨e,rfl⟩:=e
 obtain⟨hset,hc⟩:=z0u hc
 cases k with
 | over=>
  obtain⟨m,rfl,hc⟩:=q6d hc
  obtain⟨a,rfl,e⟩:=one_inv e
  exact j9v hE hA R O hc (q1i h1) e q
 | range=>
  obtain⟨f,es,pos,rfl,hc⟩:=y1p hc
  obtain⟨l,hl,e⟩:=z0z e
  cases e
  exact j3f T hE hA R O (z0u hc).1 (z0u hc).2 h1 hl q
 | zip=>
  obtain⟨f,es,pos,rfl,hc⟩:=y1p hc
  obtain⟨a,b,rfl,e⟩:=two_inv e
  obtain⟨a,rfl,e⟩:=z6s e
  obtain⟨b,rfl,e⟩:=z6s e
  injection e with e;injection e with eB eC;subst eB;subst eC
  exact x7s T hE hA R O (z0u hc).1 (z0u hc).2 h1 q
 | items=>contradiction
end
section
variable {prog:Program} {w:World} {A:Around} {E:Value->Shared->Prop} {s:Shared}
theorem y8u{l:Addr}{o:Obj}{vs ws:List Value}{n:Nat}{f:Array Value->Array Value}(ho:s.heap.get? l=some o)(q:IsL o vs)(hf:f vs.toArray=ws.toArray) :
  ∃ o',(s.heap.update l (Obj.mapSeq f)).get? l=some o'/\IsL o' ws:=by
 obtain⟨cc,dd,da,sl⟩:=o
 obtain⟨h1,n,h2,h3⟩:=q
 dsimp only at h1 h2 h3
 subst h1 h2 h3
 obtain⟨n',hd'⟩:=Obj.data_mapSeq (o:={ cls:=.type "list",dict:=none,data:=.seq vs.toArray n,slots:=sl }) rfl f
 refine⟨_,Heap.get?_update_self _ ho (Obj.isFreed_of_seq hd'),(Obj.cls_mapSeq ..).trans rfl,n',by rw [hd',hf],?_⟩
 unfold Obj.mapSeq;rfl
theorem j9w{l:Addr}{o:Obj}{vs:List Value}{k:Int}{t:Tok}{j:Nat}{v:Value}{Q:Unit->Shared->Prop}(ho:s.heap.get? l=some o)(q:IsL o vs)(hl:vs.length<=z2k)(hp:z6r vs.length k=some j)(h0:0<=k)
 (hQ:∀ h',(∃ o',h'.get? l=some o'/\IsL o' (vs.set j v))->Heap.SameBut l s.heap h'->Q () { s with heap:=h' }):wpAny (model prog w) A (setItem (.ref l) (.int k t) v) Q E s:=by
 have L:=z0p ho q
 obtain⟨_,n,hd,_⟩:=id q
 obtain⟨hj,_,hk⟩:=y3h hp
 have hkj:k=(j:Int):=by split at hk<;>lia
 have hfit:k<2^63:=by simp only [z2k] at hl;lia
 unfold setItem
 try with_reducible refine BW ?_
 first | refine AB (AJ ?_) | skip
 refine AB (wpAny_sequenceKey L.typeIs (by decide) ?_)
 refine AB (wpAny_callSpecial?_slot (name:=Str.ofString "__setitem__") L.typeIs slot_list_setitem
  (EY slot_list_setitem L.typeIs entry_list_setitem ?_ (args_list_setitem _ _ _)))
 show wpAny _ _ (Builtin.List.listSubscript? (.int k t)>>=_) _ _ s
 refine AB (wpAny_listSubscript_int (fitsIndex_of h0 hfit) ?_)
 have hx':vs.toArray[j]?=some vs[j]:=by simp [hj]
 clear hfit
 subst hkj
 show wpAny _ _ ((seqItemAt l j>>=fun r=>pure (r.map (j,·)))>>=_) _ _ s
 refine AB (AB (wpAny_seqItemAt ho hd (AJ ?_)))
 rw [hx']
 show wpAny _ _ (setSeqItemAt l j v>>=_) _ _ s
 refine AB (wpAny_setSeqItemAt ho hd ?_)
 have fin:=hQ _ (y8u (n:=0) (f:=(·.setIfInBounds j v)) ho q (ws:=vs.set j v) (by simp)) (FT ..)
 first
  | exact AB (AJ (AJ ⟨.none,rfl,AJ fin⟩))
  | exact AJ ⟨.none,rfl,AJ fin⟩
theorem j9x{sl:Addr}{Q:Option Int->Shared->Prop}(hTs:s.TypeIs (.ref sl) "slice")(q:Q none s):wpAny (model prog w) A (Builtin.List.listSubscript? (.ref sl)) Q E s:=by
 unfold Builtin.List.listSubscript?
 refine AB (wpAny_specialOf hTs slice_no_index ?_)
 exact AJ q
theorem q9q{sl:Addr}{Q:Value×Value×Value->Shared->Prop}(hs:s.heap.IsSliceOf sl .none .none .none)(q:Q (.none,.none,.none) s):wpAny (model prog w) A (Builtin.List.listSliceParts (.ref sl)) Q E s:=by
 obtain⟨os,hos,hcs,hds⟩:=hs
 rw [listSliceParts_eq]
 refine AB (wpAny_field hos hds (x:=.none) rfl (AB (wpAny_listPart .none ?_)))
 rw [AT (by decide)]
 exact AB (wpAny_field hos hds (x:=.none) rfl (AB (wpAny_listPart .none (AB (wpAny_field hos hds (x:=.none) rfl (AB (wpAny_listPart .none (AJ q))))))))
theorem j9y{V A8:Type}{c:Prop}[Decidable c]{m1 m2:Sem V}{a:V}{F:V->Sem A8}{Q:A8->Shared->Prop}(h1:∀ Q:V->Shared->Prop,Q a s->wpAny (model prog w) A m1 Q E s)(h2:∀ Q:V->Shared->Prop,Q a s->wpAny (model prog w) A m2 Q E s)(k:wpAny (model prog w) A (F a) Q E s) :
  wpAny (model prog w) A (if c then m1>>=F else m2>>=F) Q E s:=by
 by_cases h:c
 ·rw [AR h];exact AB (h1 _ k)
 ·rw [AT h];exact AB (h2 _ k)
theorem y4v{l:Addr}{o:Obj}{vs:List Value}{Q:Array Value->Shared->Prop}(ho:s.heap.get? l=some o)(q:IsL o vs)(k:Q vs.toArray s):wpAny (model prog w) A (Builtin.List.listItems (.ref l)) Q E s:=by
 obtain⟨_,n,hd,_⟩:=q
 exact AB (wpAny_seqItems ho hd (AJ k))
theorem q1j{l:Addr}{o:Obj}{vs:List Value}{Q:Array Value->Shared->Prop}{msg:String}(ho:s.heap.get? l=some o)(q:IsL o vs)(k:Q vs.toArray s):wpAny (model prog w) A (Builtin.List.listAllItems (.ref l) msg) Q E s:=by
 unfold Builtin.List.listAllItems
 refine AB (wpAny_typeOf (z0p ho q).typeIs ?_)
 rw [AR (by decide)]
 exact y4v ho q k
theorem j3h{l b sl:Addr}{o ob:Obj}{vs ws:List Value}{Q:Unit->Shared->Prop}(ho:s.heap.get? l=some o)(q:IsL o vs)(hob:s.heap.get? b=some ob)(qb:IsL ob ws)(hs:s.heap.IsSliceOf sl .none .none .none)(hl:vs.length+ws.length<=z2k)
 (hQ:∀ h',(∃ o',h'.get? l=some o'/\IsL o' ws)->Heap.SameBut l s.heap h'->Q () { s with heap:=h' }):wpAny (model prog w) A (setItem (.ref l) (.ref sl) (.ref b)) Q E s:=by
 have L:=z0p ho q
 have hTs:s.TypeIs (.ref sl) "slice":=hs.elim fun os h=>⟨os,h.1,h.2.1⟩
 unfold setItem
 try with_reducible refine BW ?_
 first | refine AB (AJ ?_) | skip
 refine AB (wpAny_sequenceKey L.typeIs (by decide) ?_)
 refine AB (wpAny_callSpecial?_slot (name:=Str.ofString "__setitem__") L.typeIs slot_list_setitem
  (EY slot_list_setitem L.typeIs entry_list_setitem ?_ (args_list_setitem _ _ _)))
 refine AB (m:=Builtin.List.listSubscript? (.ref sl)) (j9x hTs ?_)
 refine AB (m:=typeOf (.ref sl)) (wpAny_typeOf hTs ?_)
 rw [AT (by decide)]
 refine AB (q9q hs ?_)
 refine j9y (a:=ws.toArray) (fun Q k=>y4v hob qb k) (fun Q k=>q1j hob qb k) ?_
 refine AB (m:=Builtin.List.listItems (.ref l)) (y4v ho q ?_)
 have hsz:¬ (Builtin.List.listTooLong (vs.toArray.size+ws.toArray.size)=true):=by
  unfold Builtin.List.listTooLong
  simp only [BV,decide_eq_true_eq]
  simp only [z2k] at hl
  rw [GA]
  lia
 have hl1:vs.toArray.size<=sizeLine:=by rw [BV,GA];exact AA (BC _ _) hl
 have hl2:ws.length<=sizeLine+1:=by rw [GA];exact CB (AA (CO _ _) hl)
 obtain⟨_,n,hd,_⟩:=id q
 refine AB (wpAny_of_eq (sliceIndices_raw none none none vs.toArray.size (by simp)) ?_)
 refine AB (m:=rule "list.__setitem__.slice") (wpAny_rule ?_)
 rw [AT hsz]
 refine AB (m:=updateSeq l _) (wpAny_updateSeq ho hd ?_ hl1 ?_)
 ·refine AB (wpAny_letGo (AJ ⟨.none,rfl,AJ (hQ _ (y8u (n:=0) ho q ?_) (FT ..))⟩))
  simp [sliceBounds]
 ·simp [sliceBounds];lia
theorem q6s{l:Addr}{o:Obj}{vs:List Value}{x:Value}{Q:Value->Shared->Prop}(ho:s.heap.get? l=some o)(q:IsL o vs)(hl:vs.length<=z2k)
 (hQ:∀ h',(∃ o',h'.get? l=some o'/\IsL o' (vs++[x]))->Heap.SameBut l s.heap h'->Q .none { s with heap:=h' }):wpAny (model prog w) A (call (.builtin "list.append") [.ref l,x]) Q E s:=by
 have L:=z0p ho q
 obtain⟨_,n,hd,_⟩:=id q
 refine EY slot_list_append L.typeIs entry_list_append ?_ (args_list_append _ _)
 show wpAny _ _ (updateSeq l (·.push x)>>=fun _=>ret .none) _ _ s
 have hl1:vs.toArray.size<=sizeLine:=by rw [BV,GA];simp only [z2k] at hl;lia
 refine AB (wpAny_updateSeq ho hd (AJ ⟨.none,rfl,hQ _ (y8u (n:=0) ho q (by simp)) (FT ..)⟩) hl1 (by simp;simpa using hl1))
theorem j3i{K:Frag}{x C:Addr}{ox:Obj}{od:Option Obj}{i:Value}{nm:String}{Q:Value->Shared->Prop}(X:K.In s.heap)(II:InstAt s.heap x ox C od)(hq:noSeq K C=true)(h:Q i s):wpAny (model prog w) A (sequenceKey (.ref x) i nm) Q E s:=by
 unfold sequenceKey
 refine AB (II.type.here ?_)
 refine AB ((anyM_none X hq).here ?_)
 rw [AR (show(!false)=true from rfl)]
 exact AJ h
theorem q1k{K:Frag}{x C f:Addr}{ox:Obj}{od:Option Obj}{i v:Value}{Q:Unit->Shared->Prop}(X:K.In s.heap)(II:InstAt s.heap x ox C od)(hq:noSeq K C=true)(hs:findIn K (.ref C) "__setitem__"=some (some (.ref f)))(hf:isFn K (.ref f)=true)
 (h:wpAny (model prog w) A (call (.ref f) [.ref x,i,v]) (fun _=>Q ()) E s):wpAny (model prog w) A (setItem (.ref x) i v) Q E s:=by
 unfold setItem
 refine BW (AB (j3i X II hq (AB (special_fn X II hs (BE.mp hf) (CZ h (fun _ _ z=>AJ z) fun _ _ z=>z)))))
theorem q1l{K:Frag}{x C f:Addr}{ox:Obj}{od:Option Obj}{i:Value}{Q:Unit->Shared->Prop}(X:K.In s.heap)(II:InstAt s.heap x ox C od)(hq:noSeq K C=true)(hs:findIn K (.ref C) "__delitem__"=some (some (.ref f)))(hf:isFn K (.ref f)=true)
 (h:wpAny (model prog w) A (call (.ref f) [.ref x,i]) (fun _=>Q ()) E s):wpAny (model prog w) A (delItem (.ref x) i) Q E s:=by
 unfold delItem
 refine BW (AB (j3i X II hq (AB (special_fn X II hs (BE.mp hf) (CZ h (fun _ _ z=>AJ z) fun _ _ z=>z)))))
end
section
variable {I:z2s} {own own':List Addr} {L L':Lim} {w:World} {g g0 gb gC g':Fz} {Z Z0 Z1 Z2 Z':Bt} {H H0 Hb H2 H':z0b} {s sA sB sC s':Shared} {env:Env} {Y Y0 Y':z0l} {A:Around} {prog:Program} {lv n:Nat} {S:z6q} {C:z0g} {p q r:PV}
theorem j3j{e:Expr}{Q:Bool->Shared->Prop}{E:Value->Shared->Prop}(ht:y8o e=true)
 (h:wpAny (model prog w) A (eval e env) (fun v sB=>wpAny (model prog w) A (truthy v) Q E sB) E s):wpAny (model prog w) A (isTrue e env (eval e env)) Q E s:=by
 cases e<;>first | exact isTrue_plain h | (contradiction;done) | skip
 case Compare a ops rs pos=>
  match ops,rs,ht with
  | [op],[r],_=>
   have e:isTrue (.Compare a [op] [r] pos) env (eval (.Compare a [op] [r] pos) env)=eval (.Compare a [op] [r] pos) env>>=fun c=>PySem.holding [c] (truthy c):=by
    rw [isTrue_Compare1,eval_Compare1]
    simp only [bind_assoc]
   rw [e]
   exact AB (CZ h (fun v s h=>BW h) fun _ _ e=>e)
 case UnaryOp op x pos=>
  cases op<;>first | exact isTrue_plain h | (contradiction;done)
theorem x4s(hT:q0c I prog w lv S.ts)(hA:AOk A lv):∀ {es:List Expr} {ms:List ME} {g:Fz} {Z:Bt} {H H':z0b} {s:Shared} {r:Bool},SR I w.params g Z H s.heap->z0j I own env Y g Z s.heap->z2j (z6c I.t n env.scope.names) es ms=true ->
  y4c (S.ts Y) ms L H=some (r,H')->Go I prog w A [] L g Z H (allTrue .And es env) H' (fun _ _ _ b=>b=r) s
 | [],ms,g,Z,H,H',s,r,R,O,hc,hm=>by
  induction ms using List.casesOn with
  | cons _ _=>contradiction
  | nil=>injection hm with hm;injection hm with eB eC;subst eB;subst eC;exact Go.pure R rfl
 | e::es,ms,g,Z,H,H',s,r,R,O,hc,hm=>by
  induction ms using List.casesOn with
  | nil=>contradiction
  | cons m ms=>
   obtain⟨c1,c2⟩:=z0u hc
   obtain⟨b,Hb,h1,h2⟩:=M.bind_some hm
   intro Q E q
   show wpAny (model prog w) A (do
    match BoolOp.And,<- isTrue e env (eval e env) with
    | .And,false=>pure false
    | .Or,true=>pure true
    | _,_=>allTrue .And es env) Q E s
   refine AB (hT hA R O c1 h1 _ _ fun v gb Z1 sB Gb Rb pB=>?_)
   subst pB
   induction v using Bool.casesOn with
   | false=>
    obtain⟨rfl,rfl⟩:=M.pure_some (L:=L) h2
    exact AJ (q _ gb Z1 sB Gb Rb rfl)
   | true=>exact x4s hT hA Rb (O.step Gb) c2 h2 Q E fun a gC Z2 sC Gc Rc pC=>q a gC Z2 sC (Gb.trans R Gc) Rc pC
theorem x4t(hT:q0c I prog w lv S.ts)(hA:AOk A lv):∀ {es:List Expr} {ms:List ME} {g:Fz} {Z:Bt} {H H':z0b} {s:Shared} {r:Bool},SR I w.params g Z H s.heap->z0j I own env Y g Z s.heap->z2j (z6c I.t n env.scope.names) es ms=true ->
  x6l (S.ts Y) ms L H=some (r,H')->Go I prog w A [] L g Z H (allTrue .Or es env) H' (fun _ _ _ b=>b=r) s
 | [],ms,g,Z,H,H',s,r,R,O,hc,hm=>by
  induction ms using List.casesOn with
  | cons _ _=>contradiction
  | nil=>injection hm with hm;injection hm with eB eC;subst eB;subst eC;exact Go.pure R rfl
 | e::es,ms,g,Z,H,H',s,r,R,O,hc,hm=>by
  induction ms using List.casesOn with
  | nil=>contradiction
  | cons m ms=>
   obtain⟨c1,c2⟩:=z0u hc
   obtain⟨b,Hb,h1,h2⟩:=M.bind_some hm
   intro Q E q
   show wpAny (model prog w) A (do
    match BoolOp.Or,<- isTrue e env (eval e env) with
    | .And,false=>pure false
    | .Or,true=>pure true
    | _,_=>allTrue .Or es env) Q E s
   refine AB (hT hA R O c1 h1 _ _ fun v gb Z1 sB Gb Rb pB=>?_)
   subst pB
   induction v using Bool.casesOn with
   | true=>
    obtain⟨rfl,rfl⟩:=M.pure_some (L:=L) h2
    exact AJ (q _ gb Z1 sB Gb Rb rfl)
   | false=>exact x4t hT hA Rb (O.step Gb) c2 h2 Q E fun a gC Z2 sC Gc Rc pC=>q a gC Z2 sC (Gb.trans R Gc) Rc pC
theorem j3k(hE:z4l I prog w lv S.ev)(hT:q0c I prog w lv S.ts):q0c I prog w lv (x4i S):=by
 intro n own env Y A L g Z H s e m r H' hA R O hc h
 have plain:∀ {n:Nat},(y8o e&&z0m I.t n env.scope.names e m)=true->((S.ev Y m).bind fun p=>z4v.bind fun H=>M.ofOpt (z9c H p)) L H=some (r,H')->Go I prog w A [] L g Z H (isTrue e env (eval e env)) H' (fun _ _ _ b=>b=r) s:=by
  intro n hc h
  obtain⟨c1,c2⟩:=z0u hc
  obtain⟨p,Hb,h1,h2⟩:=M.bind_some h
  obtain⟨J,H2,h3,h4⟩:=M.bind_some h2
  obtain⟨rfl,rfl⟩:=M.getH_some h3
  obtain⟨e1,rfl⟩:=M.ofOpt_some h4
  intro Q E q
  exact j3j c1 (hE hA R O c2 h1 _ _ fun v gb Z1 sB Gb Rb pB=>j9c Rb pB e1 _ _ fun b gC Z2 sC Gc Rc pC=>q b gC Z2 sC (Gb.trans R Gc) Rc pC)
 induction n using Nat.casesOn with
 | zero=>contradiction
 | succ n=>
 cases m with
 | notE a=>
  obtain⟨o,a',pos,rfl,hk⟩:=x6m (show dUn e (fun o a'=>o==.Not&&z6c I.t n env.scope.names a' a)=true from hc)
  obtain rfl:=BO (z0u hk).1
  obtain⟨t,Hb,h1,h2⟩:=M.bind_some h
  obtain⟨rfl,rfl⟩:=M.pure_some (L:=L) h2
  intro Q E q
  refine isTrue_not (hT hA R O (z0u hk).2 h1 _ _ fun b gb Z1 sB Gb Rb pB=>?_)
  subst pB
  exact q _ gb Z1 sB Gb Rb rfl
 | andE l=>
  obtain⟨o,vs,pos,rfl,hk⟩:=y4h (show y1i e (fun o vs=>o==.And&&z2j (z6c I.t n env.scope.names) vs l)=true from hc)
  obtain rfl:=BO (z0u hk).1
  exact x4s hT hA R O (z0u hk).2 h
 | orE l=>
  obtain⟨o,vs,pos,rfl,hk⟩:=y4h (show y1i e (fun o vs=>o==.Or&&z2j (z6c I.t n env.scope.names) vs l)=true from hc)
  obtain rfl:=BO (z0u hk).1
  exact x4t hT hA R O (z0u hk).2 h
 | _=>exact plain (n:=n+1) hc h
end
section
variable {I:z2s} {own own':List Addr} {L L':Lim} {w:World} {g g0 gb gC g':Fz} {Z Z0 Z1 Z2 Z':Bt} {H H0 Hb H2 H':z0b} {s sA sB sC s':Shared} {env:Env} {Y Y0 Y':z0l} {A:Around} {prog:Program} {lv n:Nat} {S:z6q} {C:z0g} {p q r:PV}
theorem y2n(h:env.scope.kind=.function):env.blockKind=.function:=by
 unfold Env.blockKind;simp [h,ScopeKind.isAnnotationScope]
theorem y2o{value t:Expr}{line:Nat}(hk:env.scope.kind=.function)(hs:z2y value=false):swapsWith value (some t) line env=pure (z3k env.scope.names value t):=by
 by_cases h8:(value.ctorIdx==8)=true
 ·refine Expr.ListComp.elim (motive_1:=fun value=>swapsWith value (some t) line env=pure (z3k env.scope.names value t)) value (BO h8) fun a b sc p=>?_
  cases t with
  | Name x q=>
   unfold swapsWith
   dsimp only
   rw [y2n hk]
   rfl
  | _=>rfl
 ·have e:z3k env.scope.names value t=false:=by
   unfold z3k
   rw [ER.mpr h8,Bool.false_and,Bool.and_false]
  rw [e]
  cases value<;>first | rfl | (contradiction;done) | exact absurd rfl h8
theorem y8v{V Z:Type}{c c':Prop}[Decidable c][Decidable c']{o:Option Z}{m:Sem V}{r1 r:Z}{f:Z->V}(hc:c'=c)(h:(if c then some r1 else o)=some r)(k:o=some r->m=pure (f r)):(if c' then pure (f r1) else m)=pure (f r):=by
 by_cases q:c
 ·rw [AR q] at h
  rw [AR (hc▸q),AF h]
 ·rw [AT q] at h
  rw [AT (hc▸q),k h]
theorem x7t{V Z:Type}{c:Prop}[Decidable c]{o:Option Z}{m m':Sem V}{r:Z}{f:Z->V}(h:(if c then none else o)=some r)(k:o=some r->m=pure (f r)):(if c then m' else m)=pure (f r):=by
 by_cases q:c
 ·rw [AR q] at h;contradiction
 ·rw [AT q] at h
  rw [AT q,k h]
theorem q9r{ts vs:List Expr}{k k':Nat}{pos pos':Pos}{r:Option (List Str)}(hk:env.scope.kind=.function)(h:j2m env.scope.names ts vs=some r):swappedStores [.Tuple ts k pos] (.Tuple vs k' pos') env=pure r:=by
 have e0:(env.blockKind != ScopeKind.function)=false:=by rw [y2n hk];rfl
 exact y8v (f:=id) (by rw [e0,Bool.or_false]) h fun h=>y8v (f:=id) rfl h fun h=>y8v (f:=id) rfl h fun h=>y8v (f:=id) rfl h fun h=>x7t (f:=id) h fun h=>by rw [<- AF h];rfl
theorem y4w{ts:List Expr}{e:Expr}{k:Nat}{pos:Pos}{r:Option (List Str)}(hk:env.scope.kind=.function)(h:y4t env.scope.names (.Tuple ts k pos) e=some r):swappedStores [.Tuple ts k pos] e env=pure r:=by
 by_cases he:(e.ctorIdx==25)=true
 ·exact Expr.Tuple.elim (motive_1:=fun e=>y4t env.scope.names (.Tuple ts k pos) e=some r->swappedStores [.Tuple ts k pos] e env=pure r) e (BO he) (fun vs k' p' h=>q9r hk h) h
 ·have er:none=r:=AF ((AT he).symm.trans h)
  rw [<- er]
  cases e<;>first | rfl | exact absurd rfl he
theorem q4j{e:Expr}{line:Nat}(h:j2k e=false):swapsWith e none line env=pure false:=by
 cases e<;>first | rfl | contradiction
theorem q1m(hk:env.scope.kind=.function):interactive env=false:=by unfold interactive;rw [hk];rfl
theorem z5z{t value:Expr}{pos:Pos}{Q:Flow->Shared->Prop}{E:Value->Shared->Prop}(hk:env.scope.kind=.function)(hset:z2y value=false)(hsw:z3k env.scope.names value t=false)(hsp:swappedStores [t] value env=pure none)
 (e2:(assignEach [t] env).map (·.2)=[assign t env])(h:wpAny (model prog w) A (eval value env) (fun v sB=>wpAny (model prog w) A (assign t env v) (fun _=>Q .next) E sB) E s):wpAny (model prog w) A (exec (.Assign [t] value pos) env) Q E s:=by
 have e:exec (.Assign [t] value pos) env=(do
   PySem.standAt pos
   if<-swapsWithSole [t] value pos.line env then do
    evalThenUse value env fun v=>assignAll v ((assignEach [t] env).map (·.2))
    pure .next
   else do
    let v<-eval value env
    assignStores env v (<- swappedStores [t] value env) ((assignEach [t] env).map (·.2))):=rfl
 rw [e,e2]
 refine AB (BX (AB (m:=swapsWith value (some t) pos.line env) ?_))
 rw [y2o hk hset,hsw]
 refine AJ ?_
 rw [AT (by simp)]
 refine AB (CZ h (fun v sB B6=>?_) fun _ _ e=>e)
 refine AB ?_
 rw [hsp]
 refine AJ ?_
 show wpAny (model prog w) A (assignAll v [assign t env]>>=fun _=>pure .next) Q E sB
 exact AB (CZ B6 (fun _ _ h=>AJ h) fun _ _ e=>e)
theorem y2p{v:Value}(hnd:I.nm.Nodup)(hok:∀ x,z1k env.scope.names x=true->Mine.storeable env own x):∀ {ts:List Expr} {ks:List Nat} {Y:z0l} {g:Fz} {Z:Bt} {s:Shared},y3m I.t (z1k env.scope.names) ts ks=true->SR I w.params g Z H s.heap->z0j I own env Y g Z s.heap->Rel I g Z v p ->
  Go I prog w A own L g Z H (assignAll v ((assignEach ts env).map (·.2))) H (fun g' Z' s' _=>z0j I own env (ks.foldl (fun Y k=>upd Y k p) Y) g' Z' s'.heap) s
 | [],ks,Y,g,Z,s,hc,R,O,hv=>by
  induction ks using List.casesOn with
  | cons _ _=>contradiction
  | nil=>exact Go.pure R O
 | t::ts,ks,Y,g,Z,s,hc,R,O,hv=>by
  induction ks using List.casesOn with
  | nil=>contradiction
  | cons k ks=>
   obtain⟨c1,c2⟩:=z0u hc
   obtain⟨x,px,rfl,hx,hxo⟩:=z2x c1
   have one:Go I prog w A own L g Z H (assign (.Name x px) env v) H (fun g' Z' s' _=>z0j I own env (upd Y k p) g' Z' s'.heap/\g'=g/\Z'=Z) s:=Go.standAt (y0e hnd R O hx (hok x hxo) hv)
   have hcons:(assignEach (.Name x px::ts) env).map (·.2)=assign (.Name x px) env::(assignEach ts env).map (·.2):=rfl
   rw [hcons]
   induction ts using List.casesOn with
   | nil=>
    induction ks using List.casesOn with
    | cons _ _=>contradiction
    | nil=>exact one.mono fun _ gb Z1 sB G Rb q=>q.1
   | cons t2 ts=>
    have e:(assignEach (t2::ts) env).map (·.2)≠[]:=by cases t2<;>(intro h;contradiction)
    induction hm:(assignEach (t2::ts) env).map (·.2) using List.casesOn with
    | nil=>exact absurd hm e
    | cons u us=>
     show Go I prog w A own L g Z H (PySem.holding [v] (assign (.Name x px) env v)>>=fun _=>assignAll v (u::us)) H _ s
     refine Go.bind R (Go.holding one) fun _ gb Z1 sB G Rb q=>?_
     obtain⟨Ob,rfl,rfl⟩:=q
     rw [<- hm]
     exact y2p (ks:=ks) (Y:=upd Y k p) hnd hok c2 Rb Ob hv
end
section
variable {I:z2s} {own own':List Addr} {L L':Lim} {w:World} {g g0 gb gC g':Fz} {Z Z0 Z1 Z2 Z':Bt} {H H0 Hb H2 H':z0b} {s sA sB sC s':Shared} {env:Env} {Y Y0 Y':z0l} {A:Around} {prog:Program} {lv n:Nat} {S:z6q} {C:z0g} {p q r:PV}
theorem y1q{j:Nat}{l:List PV}{x:Unit}(h:z9z j l L H=some (x,H')):∃ l0,H[j]?=some (.lst l0)/\L.b<=j/\z0t 0 l=true/\H'=H.set j (.lst l):=by
 obtain⟨⟨h1,h2⟩,h3⟩:=z0o h
 split at h3
 ·exact⟨_,by assumption,h1,h2,(FL (AF h3)).2.symm⟩
 ·contradiction
theorem y8w{j:Nat}{a:Addr}{l0 l:List PV}{h':Heap}{o':Obj}{vs:List Value}(R:SR I w.params g Z H s.heap)(hj:Z j=some a)(h0:H[j]?=some (.lst l0))(hL:L.b<=j)(hnr:z0t 0 l=true)
 (ho:h'.get? a=some o')(q:IsL o' vs)(hlen:vs.length<=z2k)(hr:z0e I g Z vs l)(hs:Heap.SameBut a s.heap h') :
  SR I w.params g Z (H.set j (.lst l)) h'/\z1c [] L g Z H s g Z (H.set j (.lst l)) { s with heap:=h' }:=by
 have hk:∀ b o,b≠a->s.heap.get? b=some o->h'.get? b=some o:=fun b o hne e=>(hs.2 b hne).trans e
 exact⟨R.cellPut hj hk ⟨o',vs,ho,q,hlen,hr,hnr⟩,z1c.cellPut (tk:=s.toks) (B3:=.lst l0) R hj h0 trivial ⟨fun _ _=>hL,fun _ h=>by cases h⟩ hk ⟨o',ho⟩⟩
inductive w5r(I:z2s)(g:Fz)(Z:Bt)(h:Heap)(v:Value)(j:Nat)(l:List PV):Prop
 | mk (a:Addr) (o:Obj) (vs:List Value) (h1:v=.ref a) (h2:Z j=some a) (h3:h.get? a=some o) (h4:IsL o vs) (h5:vs.length<=z2k) (h6:z0e I g Z vs l):w5r I g Z h v j l
theorem y3s{v:Value}{j:Nat}{l:List PV}(R:SR I w.params g Z H s.heap)(hv:Rel I g Z v (.ref j))(h0:H[j]?=some (.lst l)):w5r I g Z s.heap v j l:=by
 obtain⟨a,e,hj⟩:=hv.ref_inv
 obtain⟨o,vs,c1,c2,c3,c4,_⟩:=R.cell _ _ _ hj h0
 exact⟨a,o,vs,e,hj,c1,c2,c3,c4⟩
theorem y6y(o i:Expr)(pos:Pos)(env:Env)(v:Value):∃ f:Value->Value->List Value,assign (.Subscript o i pos) env v=(do
   let ov<-PySem.holding [v] (eval o env)
   let iv<-PySem.holding [v,ov] (eval i env)
   PySem.standAt pos
   PySem.holding [v,ov,iv] (setItem ov iv v)
   release (f ov iv) []):=⟨fun ov iv=>(match i with | .Slice _ _ none _=>[iv,v,ov] | _=>[v,ov,iv]),rfl⟩
theorem j9z{o i e:ME}{fl:Fl}{G:Prop}(h:z4b I.P C S Y (.setIdx o i e) L H=some (fl,H'))
 (k:∀ v p q Hb H2 Hd,S.ev Y e L H=some (v,Hb)->S.ev Y o L Hb=some (p,H2)->S.ev Y i L H2=some (q,Hd)->fl=.next Y ->
   ((∃ c j f r,p=.inst c j/\I.P.meth c y8e=some f/\C f [p,q,v] [] L Hd=some (r,H'))\/∃ j l kk m,p=.ref j/\q=.int kk/\Hd[j]?=some (.lst l)/\0<=kk/\z6r l.length kk=some m/\L.b<=j/\z0t 0 (l.set m v)=true/\H'=Hd.set j (.lst (l.set m v)))->G):G:=by
 obtain⟨v,Hb,h1,h2⟩:=M.bind_some h
 obtain⟨p,H2,h3,h4⟩:=M.bind_some h2
 obtain⟨q,Hd,h5,h6⟩:=M.bind_some h4
 obtain⟨u,h7,h8⟩:=M.map_some (m:=y4g I.P C p q v) h6
 refine k v p q Hb H2 Hd h1 h3 h5 h8.symm ?_
 clear k h h1 h2 h3 h4 h5 h6 h8
 unfold y4g at h7
 split at h7
 ·obtain⟨r,h9,_⟩:=M.map_some h7
  obtain⟨c,j,f,e,hf,h11⟩:=z6g h9
  exact .inl ⟨c,j,f,r,e,hf,h11⟩
 ·obtain⟨kk,H5,h9,h10⟩:=M.bind_some h7
  obtain⟨l,H6,h11,h12⟩:=M.bind_some h10
  obtain⟨m,hp,h14⟩:=M.opt_some h12
  obtain⟨e1,e2⟩:=z6f h9
  obtain⟨hl,e3⟩:=z8q h11
  obtain⟨h0,hp⟩:=z0o hp
  subst e2 e3
  obtain⟨l0,hl0,hL,hnr,e⟩:=y1q h14
  exact .inr ⟨_,l,kk,m,rfl,e1,hl,h0,hp,hL,hnr,e⟩
 ·contradiction
theorem j3l{o' i' e':Expr}{o i e:ME}{pos pos':Pos}{fl:Fl}(T:z0r I)(hC:q9h I prog w lv C)(hE:z4l I prog w lv S.ev)(hA:AOk A lv)(R:SR I w.params g Z H s.heap)(O:z0j I own env Y g Z s.heap)
 (hsl:z6u i'=false)(hset:z2y e'=false)(hco:z0m I.t n env.scope.names o' o=true)(hci:z0m I.t n env.scope.names i' i=true)(hce:z0m I.t n env.scope.names e' e=true)(h:z4b I.P C S Y (.setIdx o i e) L H=some (fl,H')) :
  Go I prog w A own L g Z H (exec (.Assign [.Subscript o' i' pos'] e' pos) env) H' (z4e I own env fl) s:=by
 refine j9z h fun v p q Hb H2 Hd h1 h3 h5 ef h7=>?_
 clear h
 subst ef
 intro Q E qq
 refine z5z O.kind hset rfl rfl rfl (hE hA R O hce h1 _ _ fun vv gb Z1 sB Gb Rb pB=>?_)
 obtain⟨ff,hasg⟩:=y6y o' i' pos' env vv
 rw [hasg]
 have Ob:=O.step Gb
 refine AB (BW (hE hA Rb Ob hco h3 _ _ fun ov gC Z2 sC Gc Rc pC=>?_))
 have Oc:=Ob.step Gc
 refine AB (BW (hE hA Rc Oc hci h5 _ _ fun iv gD Z3 s3 Gd Rd pd=>AB (BX ?_)))
 have O3:=Oc.step Gd
 have p1':=(pB.mono Gc.gle Gc.ble).mono Gd.gle Gd.ble
 have p2':=pC.mono Gd.gle Gd.ble
 have G13:=Gb.trans R (Gc.trans Rb Gd)
 rcases h7 with⟨c,j,f,r,e,hf,h11⟩ | ⟨j,l,kk,m,e1,e2,hl,h0,hp,hL,hnr,e3⟩
 ·obtain⟨xx,d,od,rfl,hI⟩:=Rel.instAny Rd (e▸p2')
  have t:=T.meths _ _ _ _ hf T.n3
  refine AB (BW (q1k (T.there Rd) hI (T.plainC c).2.2.1 t.1 t.2.1 ((hC hA.s Rd (.cons p2' (.cons pd (.one p1'))) .nil h11).go _ _ fun a gE Z4 s4 Ge RE p4=>wpAny_release ?_)))
  exact qq _ gE Z4 s4 ((G13.trans R Ge).own_le fun _ h=>absurd h BB) RE ⟨rfl,O3.step Ge⟩
 ·obtain⟨tk,rfl⟩:=(e2▸pd:Rel I gD Z3 iv (.int kk)).int_inv
  obtain⟨a,ob,vs,rfl,hj,ho,hq,hlen,hr⟩:=y3s Rd (e1▸p2') hl
  rw [<- hr.length] at hp
  refine AB (BW (j9w ho hq hlen hp h0 fun h' hh hs=>wpAny_release ?_))
  obtain⟨o2,ho2,hq2⟩:=hh
  obtain⟨R4,G4⟩:=y8w (L:=L) Rd hj hl hL hnr ho2 hq2 (by rw [List.length_set];exact hlen) (hr.set m p1') hs
  subst e3
  exact qq _ gD Z3 _ ((G13.trans R G4).own_le fun _ h=>absurd h BB) R4 ⟨rfl,O3.step G4⟩
theorem j3m{o' i':Expr}{o i:ME}{pos pos':Pos}{fl:Fl}(T:z0r I)(hC:q9h I prog w lv C)(hE:z4l I prog w lv S.ev)(hA:AOk A lv)(R:SR I w.params g Z H s.heap)(O:z0j I own env Y g Z s.heap)
 (hco:z0m I.t n env.scope.names o' o=true)(hci:z0m I.t n env.scope.names i' i=true)(h:z4b I.P C S Y (.delIdx o i) L H=some (fl,H')) :
  Go I prog w A own L g Z H (exec (.Delete [.Subscript o' i' pos'] pos) env) H' (z4e I own env fl) s:=by
 obtain⟨p,H2,h3,h4⟩:=M.bind_some h
 obtain⟨q,Hd,h5,h6⟩:=M.bind_some h4
 obtain⟨u,h7,h8⟩:=M.map_some (m:=y0a I.P C y3d p [q] []) h6
 clear h h4 h6
 subst h8
 intro Q E qq
 have hex:exec (.Delete [.Subscript o' i' pos'] pos) env=(do
   PySem.standAt pos
   deleteEach [.Subscript o' i' pos'] env
   pure .next):=rfl
 have hde:deleteEach [.Subscript o' i' pos'] env=(do
   (do
    let ov<-eval o' env
    let iv<-PySem.holding [ov] (eval i' env)
    PySem.standAt pos'
    PySem.holding [ov,iv] (delItem ov iv)
    release [ov,iv] [])
   pure ()):=rfl
 rw [hex,hde]
 refine AB (BX (AB (AB (AB (hE hA R O hco h3 _ _ fun ov gC Z2 sC Gc Rc pC=>?_)))))
 have Oc:=O.step Gc
 refine AB (BW (hE hA Rc Oc hci h5 _ _ fun iv gD Z3 s3 Gd Rd pd=>AB (BX ?_)))
 have O3:=Oc.step Gd
 have p2':=pC.mono Gd.gle Gd.ble
 have G13:=Gc.trans R Gd
 obtain⟨c,j,f,rfl,hf,h11⟩:=z6g h7
 obtain⟨xx,d,od,rfl,hI⟩:=Rel.instAny Rd p2'
 obtain⟨t1,t2,t3,_⟩:=T.meths _ _ _ _ hf T.n4
 refine AB (BW (q1l (T.there Rd) hI (T.plainC c).2.2.1 t1 t2 ((hC hA.s Rd (.cons p2' (.one pd)) .nil h11).go _ _ fun a gE Z4 s4 Ge RE p4=>wpAny_release (AJ (AJ ?_)))))
 exact qq _ gE Z4 s4 ((G13.trans R Ge).own_le fun _ h=>absurd h BB) RE ⟨rfl,O3.step Ge⟩
end
section
variable {I:z2s} {own own':List Addr} {L L':Lim} {w:World} {g g0 gb gC g':Fz} {Z Z0 Z1 Z2 Z':Bt} {H H0 Hb H2 H':z0b} {s sA sB sC s':Shared} {env:Env} {Y Y0 Y':z0l} {A:Around} {prog:Program} {lv n:Nat} {S:z6q} {C:z0g} {p q r:PV}
theorem j3n{u:PV}{x:Unit}(h:j8y u L H=some (x,Hb)):∃ j l,u=.ref j/\H=Hb/\H[j]?=some (.lst l):=by
 obtain⟨j,e,h⟩:=y4u h
 obtain⟨l,h1,_⟩:=M.map_some h
 obtain⟨hl,e2⟩:=z8q h1
 exact⟨j,l,e,e2,hl⟩
theorem w1o{j:Nat}{l l0:List PV}{x:Unit}{G:Prop}(h:((M.ofOpt (sz l0)).bind fun _=>z9z j l) L H=some (x,H'))(k:l0.length<=z2k->L.b<=j->z0t 0 l=true->H'=H.set j (.lst l)->G):G:=by
 obtain⟨l1,hsz,h12⟩:=M.opt_some h
 obtain⟨l0',_,hL,hnr,e⟩:=y1q h12
 exact k (q0e hsz).1 hL hnr e
theorem x0a{o e:ME}{fl:Fl}{G:Prop}(h:z4b I.P C S Y (.setAll o e) L H=some (fl,H'))
 (k:∀ l Hb H2 j l0,S.ev Y e L H=some (.lst l,Hb)->S.ev Y o L Hb=some (.ref j,H2)->H2[j]?=some (.lst l0)->(l0++l).length<=z2k->L.b<=j->z0t 0 l=true->fl=.next Y->H'=H2.set j (.lst l)->G):G:=by
 obtain⟨v,Hb,h1,h2⟩:=M.bind_some h
 obtain⟨p,H2,h3,h4⟩:=M.bind_some h2
 obtain⟨u,h7,h8⟩:=M.map_some (m:=y8f p v) h4
 obtain⟨j,e1,h9⟩:=y4u h7
 obtain⟨l,hv,h10⟩:=M.opt_some h9
 obtain⟨l',e2,h11⟩:=z6s hv
 obtain⟨l0,H5,h12,h13⟩:=M.bind_some h10
 obtain⟨hl,e3⟩:=z8q h12
 have e4:=AF h11
 exact w1o h13 fun a b c d=>k l Hb H2 j l0 (e4▸e2▸h1) (e1▸h3) hl a b c h8.symm (e3▸d)
theorem x0b{o e:ME}{fl:Fl}{G:Prop}(h:z4b I.P C S Y (.append o e) L H=some (fl,H'))
 (k:∀ j l Hb v H2 l1,S.ev Y o L H=some (.ref j,Hb)->Hb[j]?=some (.lst l)->S.ev Y e L Hb=some (v,H2)->H2[j]?=some (.lst l1)->(l1++[v]).length<=z2k->L.b<=j->z0t 0 (l1++[v])=true->fl=.next Y->H'=H2.set j (.lst (l1++[v]))->G):G:=by
 obtain⟨p,Hb,h1,h2⟩:=M.bind_some h
 obtain⟨u,H2,h3,h4⟩:=M.bind_some h2
 obtain⟨j,l,e1,e2,hl⟩:=j3n h3
 obtain⟨v,Hd,h5,h6⟩:=M.bind_some h4
 obtain⟨u',h7,h8⟩:=M.map_some (m:=y8g p v) h6
 obtain⟨j',e3,h9⟩:=y4u h7
 obtain⟨l1,H5,h10,h11⟩:=M.bind_some h9
 obtain⟨hl1,e4⟩:=z8q h10
 obtain⟨l2,hsz,h12⟩:=M.opt_some h11
 obtain⟨_,_,hL,hnr,e5⟩:=y1q h12
 have ej:=PV.ref.inj (e3.symm.trans e1)
 have s:=q0e hsz
 exact k j l Hb v Hd l1 (e1▸h1) hl (e2▸h5) (ej▸hl1) s.1 (ej▸hL) (s.2▸hnr) h8.symm (by rw [e5,<- e4,ej,s.2])
theorem j3o{o' e':Expr}{o e:ME}{pos pos' pos2:Pos}{fl:Fl}(T:z0r I)(hE:z4l I prog w lv S.ev)(hA:AOk A lv)(R:SR I w.params g Z H s.heap)(O:z0j I own env Y g Z s.heap)
 (hset:z2y e'=false)(hco:z0m I.t n env.scope.names o' o=true)(hce:z0m I.t n env.scope.names e' e=true)(h:z4b I.P C S Y (.setAll o e) L H=some (fl,H')) :
  Go I prog w A own L g Z H (exec (.Assign [.Subscript o' (.Slice none none none pos2) pos'] e' pos) env) H' (z4e I own env fl) s:=by
 refine x0a h fun l Hb H2 j l0 h1 h3 hl hsz hL hnr ef es=>?_
 clear h
 subst ef es
 intro Q E qq
 refine z5z O.kind hset rfl rfl rfl (hE hA R O hce h1 _ _ fun vv gb Z1 sB Gb Rb pB=>?_)
 obtain⟨ff,hasg⟩:=y6y o' (.Slice none none none pos2) pos' env vv
 rw [hasg]
 have Ob:=O.step Gb
 refine AB (BW (hE hA Rb Ob hco h3 _ _ fun ov gC Z2 sC Gc Rc pC=>?_))
 have Oc:=Ob.step Gc
 refine AB (BW (wpAny_Slice (AJ (AJ (AJ (AB (BX ?_)))))))
 have G3:=y3q (own:=[]) (L:=L) Rc { cls:=.type "slice",data:=.fields #[.none,.none,.none] }
 have R3:SR I w.params gC Z2 H2 (sC.heap.push { cls:=.type "slice",data:=.fields #[.none,.none,.none] }):=Rc.keepAll fun b x e=>AU _ e
 obtain⟨a,ob,vs,rfl,hj,ho,hq,hlen,hr⟩:=y3s (s:={ sC with heap:=sC.heap.push { cls:=.type "slice",data:=.fields #[.none,.none,.none] } }) R3 pC hl
 obtain⟨b,oo,ws,rfl,k1,k2,k3,k4⟩:=(pB.mono Gc.gle Gc.ble).lst_inv
 have hlen2:vs.length+ws.length<=z2k:=by rw [hr.length,k4.length,<- AC];exact hsz
 refine AB (BW (j3h (s:={ sC with heap:=sC.heap.push { cls:=.type "slice",data:=.fields #[.none,.none,.none] } }) ho hq (R3.sub _ _ k1) k2 ⟨_,BJ _ rfl,rfl,rfl⟩ hlen2 fun h' hh hs=>wpAny_release ?_))
 obtain⟨o2,ho2,hq2⟩:=hh
 obtain⟨R4,G4⟩:=y8w (L:=L) (s:={ sC with heap:=sC.heap.push { cls:=.type "slice",data:=.fields #[.none,.none,.none] } }) R3 hj hl hL hnr ho2 hq2 k3 k4 hs
 exact qq _ gC Z2 _ ((Gb.trans R (Gc.trans Rb (G3.trans Rc G4))).own_le fun _ h=>absurd h BB) R4 ⟨rfl,(Oc.step G3).step G4⟩
theorem j3p{o' e':Expr}{x:Str}{o e:ME}{pos ap cp:Pos}{fl:Fl}(T:z0r I)(hE:z4l I prog w lv S.ev)(hA:AOk A lv)(R:SR I w.params g Z H s.heap)(O:z0j I own env Y g Z s.heap)
 (hx:x=("append":Str))(hsf:z1l o'=false)(hline:(ap.endLine==cp.line)=true)(hco:z0m I.t n env.scope.names o' o=true)(hce:z0m I.t n env.scope.names e' e=true)(h:z4b I.P C S Y (.append o e) L H=some (fl,H')) :
  Go I prog w A own L g Z H (exec (.Expr (.Call (.Attribute o' x ap) [e'] [] cp) pos) env) H' (z4e I own env fl) s:=by
 refine x0b h fun j l Hb v H2 l1 h1 hl h5 hl1 hsz hL hnr ef es=>?_
 clear h
 subst ef es hx
 intro Q E qq
 refine wpAny_Expr_any ?_ (q1m O.kind) rfl
 refine y0n (H2:=_) (Pst:=fun g' Z' s' _=>z0j I own env Y g' Z' s'.heap) hsf hline (y8s (y3p hce) (show(1:Nat)<20 by decide)) R (hE hA R O hco h1) (fun vv gb Z1 sB Gb Rb pB=>?_) _ _ fun a gC Z2 sC Gc Rc pC=>qq _ gC Z2 sC (Gc.own_le fun _ h=>absurd h BB) Rc ⟨rfl,pC⟩
 clear qq
 obtain⟨a,ob,vs,rfl,hj,ho,hq,hlen,hr⟩:=y3s Rb pB hl
 refine⟨.builtin "list.append",[.ref a],fun Q E pl q=>getMethod_builtin (z0p ho hq).typeIs F.plainAttrs_list F.slot_list_append F.type_list_append (fun b hb=>Value.ref.inj hb▸⟨ob,ho,let ⟨_,_,_,hd⟩:=hq;hd⟩) q,?_⟩
 refine z5l T hE hA (z3q (fun _ h=>by contradiction)) Rb (O.step Gb) (y3p hce) (q6q h5) fun ws gC Z2 sC Gc Rc pC Q E q=>?_
 obtain⟨u,rfl,pu⟩:=pC.one_inv
 obtain⟨a',ob',vs',e,hj',ho',hq',hlen',hr'⟩:=y3s Rc (pB.mono Gc.gle Gc.ble) hl1
 have ea:=Value.ref.inj e
 subst ea
 refine q6s ho' hq' hlen' fun h' hh hs=>?_
 obtain⟨o2,ho2,hq2⟩:=hh
 have hlen3:(vs'++[u]).length<=z2k:=by
  rw [AC,hr'.length]
  rw [AC] at hsz
  exact hsz
 obtain⟨R4,G4⟩:=y8w (L:=L) Rc hj' hl1 hL hnr ho2 hq2 hlen3 (hr'.append (.one pu)) hs
 exact q _ gC Z2 _ G4 R4 (((O.step Gb).step Gc).step G4)
end
section
variable {I:z2s} {own own':List Addr} {L L':Lim} {w:World} {g g0 gb gC g':Fz} {Z Z0 Z1 Z2 Z':Bt} {H H0 Hb H2 H':z0b} {s sA sB sC s':Shared} {env:Env} {Y Y0 Y':z0l} {A:Around} {prog:Program} {lv n:Nat} {S:z6q} {C:z0g} {p q r:PV}
theorem z4c.len{P:Params}{es:List DictEntry}{l:List (Nat×PV)}(h:z4c I P g Z es l):es.length=l.length:=by
 induction h with
 | nil=>rfl
 | cons _ _ _ _ ih=>rw [BH,BH,ih]
theorem z4c.put{P:Params}{es:List DictEntry}{l:List (Nat×PV)}(hnd:I.nm.Nodup)(h:z4c I P g Z es l){k:Nat}{x:Str}{v:Value}{p:PV}(t:Tok)(hk:I.nm[k]?=some x)(ha:I.atts.contains k=true)(hv:Rel I g Z v p) :
  z4c I P g Z (putL x (PyData.keyHash P x) (.str x t) v es) (z4q k p l):=by
 induction h with
 | nil=>exact .cons hk ha hv .nil
 | cons a1 a0 a2 a3 ih=>
  rename_i j y t' v' p' es l
  unfold putL z4q
  by_cases e:j=k
  ·subst e
   rw [hk] at a1;injection a1 with a1;subst a1
   have e1:(Value.str x t').isStr x=true:=by simp [Value.isStr]
   simp only [e1,if_true]
   exact .cons hk a0 hv a3
  ·have hne:¬ (y=x):=fun e'=>e (q0s hnd (e'▸a1) hk)
   have e1:(Value.str y t').isStr x=false:=by simp [Value.isStr,hne]
   simp only [e1,DW,if_false,e]
   exact .cons a1 a0 a2 ih
theorem w7m{K:Frag}{x d CC:Addr}{es:List DictEntry}{m:Nat}{name:Str}{v:Value}{tk:Tok}{Rr:Result->Shared->Prop}(X:K.In s.heap)(II:InstAt s.heap x (instObj CC d) CC (some (dictOf es m)))
 (hD:s.heap.get? d=some (dictOf es m))(hp:plainOver K CC=true)(ht:takerIn K CC name=some none)(hh:hasDictIn K CC=true)
 (hr:es.any (·.refKey)=false)(hz:(putL name (PyData.keyHash w.params name) (.str name s.toks) v es).length<=1000)
 (h:∀ h' n',h'.get? d=some (dictOf (putL name (PyData.keyHash w.params name) (.str name s.toks) v es) n')->Heap.SameBut d s.heap h'->Rr (.ok (.ret .none)) { s with heap:=h',toks:=s.toks+1 }) :
  codeAny (model prog w) A (.call (.builtin "object.__setattr__") ⟨[.ref x,.str name tk,v],[]⟩) Rr s:=by
 refine osa_open X II hp ht fun b=>?_
 obtain⟨cd,hc,hd'⟩:=any_some hh
 obtain⟨hx,-,-,-⟩:=id II
 refine AB (AJ (AB (AB (wpAny_loadPart hx (AB ((looks_clsIn X hc).here ?_))))))
 rw [hd']
 refine AJ (a:=some d) (AB (AJ (AB ?_)))
 unfold nsSet
 refine AB (AB (wpAny_askSetting (AJ (AB (wpAny_mkText (AB (wpAny_loadPart hD ?_)))))))
 dsimp only
 have c:(!es.toArray.any (·.key.isStr name)&&es.toArray.any (·.refKey))=false:=by
  rw [<- Array.any_toList,<- Array.any_toList]
  simp only [hr,Bool.and_false]
 rw [aRefKeyMayBeTheName_at,c]
 have hup:(s.heap.update d (Obj.putName name (PyData.keyHash w.params name) (.str name s.toks) v)).get? d=some (dictOf (putL name (PyData.keyHash w.params name) (.str name s.toks) v es) (putN name es m)):=by
  have e:=putName_dict name (PyData.keyHash w.params name) (.str name s.toks) v es m
  have:=Heap.get?_update_self (h:=s.heap) (f:=Obj.putName name (PyData.keyHash w.params name) (.str name s.toks) v) hD (by rw [e];rfl)
  rw [this,e]
 refine wpAny_updatePart hD ?_
 refine AB (wpAny_lookBehind hup (by
  exact pastItsLine_dict (by rw [BV,GA];lia)) ?_)
 exact AJ (h _ _ hup (FT ..))
theorem x0c{K:Frag}{x d CC:Addr}{es:List DictEntry}{m:Nat}{name:Str}{v:Value}{Q:Unit->Shared->Prop}{E:Value->Shared->Prop}(X:K.In s.heap)(II:InstAt s.heap x (instObj CC d) CC (some (dictOf es m)))
 (hD:s.heap.get? d=some (dictOf es m))(hs:findIn K (.ref CC) "__setattr__"=some (some (.builtin "object.__setattr__")))(hp:plainOver K CC=true)(ht:takerIn K CC name=some none)(hh:hasDictIn K CC=true)
 (hr:es.any (·.refKey)=false)(hz:(putL name (PyData.keyHash w.params name) (.str name (s.toks+1)) v es).length<=1000)
 (h:∀ h' n',h'.get? d=some (dictOf (putL name (PyData.keyHash w.params name) (.str name (s.toks+1)) v es) n')->Heap.SameBut d s.heap h'->Q () { s with heap:=h',toks:=s.toks+1+1 }) :
  wpAny (model prog w) A (setAttr (.ref x) name v) Q E s:=
 set_plain X II hs (w7m (s:={ s with toks:=s.toks+1 }) X II hD hp ht hh hr hz fun h' n' a b=>h h' n' a b)
theorem q4k(o:Expr)(x:Str)(pos:Pos)(env:Env)(v:Value):assign (.Attribute o x pos) env v=(do
   let ov<-PySem.holding [v] (eval o env)
   PySem.standAt pos.atName
   PySem.holding [v,ov] (setAttr ov x v)
   release [v,ov] []):=rfl
theorem j3q{o e:ME}{k:Nat}{fl:Fl}{G:Prop}(h:z4b I.P C S Y (.setAttr o k e) L H=some (fl,H'))
 (kk:∀ v Hb c i H2 l,S.ev Y e L H=some (v,Hb)->S.ev Y o L Hb=some (.inst c i,H2)->L.ab<=i->H2[i]?=some (.att l)->(z4q k v l).length<=900->fl=.next Y->H'=H2.set i (.att (z4q k v l))->G):G:=by
 obtain⟨v,Hb,h1,h2⟩:=M.bind_some h
 obtain⟨p,H2,h3,h4⟩:=M.bind_some h2
 obtain⟨u,h7,h8⟩:=M.map_some (m:=y3e k p v) h4
 obtain⟨c,i,e1,h9⟩:=z8p h7
 obtain⟨hab,h10⟩:=z0o h9
 split at h10
 ·obtain⟨hlen,h11⟩:=z0o h10
  exact kk v Hb c i H2 _ h1 (e1▸h3) hab (by assumption) hlen h8.symm (FL (AF h11)).2.symm
 ·contradiction
theorem q9s{o' e':Expr}{x:Str}{k:Nat}{o e:ME}{pos pos':Pos}{fl:Fl}(T:z0r I)(hE:z4l I prog w lv S.ev)(hA:AOk A lv)(R:SR I w.params g Z H s.heap)(O:z0j I own env Y g Z s.heap)
 (hset:z2y e'=false)(hk:I.nm[k]?=some x)(ha:I.atts.contains k=true)(hco:z0m I.t n env.scope.names o' o=true)(hce:z0m I.t n env.scope.names e' e=true)(h:z4b I.P C S Y (.setAttr o k e) L H=some (fl,H')) :
  Go I prog w A own L g Z H (exec (.Assign [.Attribute o' x pos'] e' pos) env) H' (z4e I own env fl) s:=by
 refine j3q h fun v Hb c i H2 l h1 h3 hab hl hlen ef es=>?_
 clear h
 subst ef es
 intro Q E qq
 refine z5z O.kind hset rfl rfl rfl (hE hA R O hce h1 _ _ fun vv gb Z1 sB Gb Rb pB=>?_)
 rw [q4k]
 have Ob:=O.step Gb
 refine AB (BW (hE hA Rb Ob hco h3 _ _ fun ov gC Z2 sC Gc Rc pC=>?_))
 obtain⟨xx,d,es,n',rfl,b1,c1,c2,c4⟩:=pC.instAt Rc hl
 have t:=T.plainC c
 have ht:takerIn I.K (I.cA c) x=some none:=by unfold takerIn;rw [T.attsC c k x ha hk];rfl
 have hput:=c2.put T.nd (sC.toks+1) hk ha (pB.mono Gc.gle Gc.ble)
 refine AB (BX (AB (BW (x0c (T.there Rc) c4 c1 t.2.2.2.2 t.2.2.2.1 ht t.2.1 (q4g T.nd c2 hk).1 (AA (CJ hput.len) (AA hlen (by decide))) fun h' n'' hd hs=>wpAny_release ?_))))
 have hkk:∀ b o,b≠d->sC.heap.get? b=some o->h'.get? b=some o:=fun b o hne e=>(hs.2 b hne).trans e
 have R4:SR I w.params gC Z2 (H2.set i (.att (z4q k v l))) h':=Rc.cellPut b1 hkk ⟨_,n'',hd,hput,AA (CJ hput.len) hlen⟩
 have G4:z1c [] L gC Z2 H2 sC gC Z2 (H2.set i (.att (z4q k v l))) { sC with heap:=h',toks:=sC.toks+1+1 }:=z1c.cellPut (B3:=.att l) Rc b1 hl trivial ⟨fun _ h=>(by contradiction),fun _ _=>hab⟩ hkk ⟨_,hd⟩
 exact qq _ gC Z2 _ ((Gb.trans R (Gc.trans Rb G4)).own_le fun _ h=>absurd h BB) R4 ⟨rfl,(Ob.step Gc).step G4⟩
theorem k4c{x:Str}{k:Nat}{e':Expr}{o:BOp}{e:ME}{pos pos':Pos}{fl:Fl}(T:z0r I)(hE:z4l I prog w lv S.ev)(hA:AOk A lv)(R:SR I w.params g Z H s.heap)(O:z0j I own env Y g Z s.heap)
 (hsto:∀ x,z1k env.scope.names x=true->Mine.storeable env own x)(hk:I.nm[k]?=some x)(hv:q6l env.scope.names x=true)(hst:z1k env.scope.names x=true)(hce:z0m I.t n env.scope.names e' e=true)(h:z4b I.P C S Y (.aug o k e) L H=some (fl,H')) :
  Go I prog w A own L g Z H (exec (.AugAssign (.Name x pos') o.op e' pos) env) H' (z4e I own env fl) s:=by
 obtain⟨p,hp,h2⟩:=M.opt_some (o:=Y k) (f:=fun p=>(S.ev Y e).bind fun q=>z4v.bind fun H=>(M.ofOpt (x4f o p q)).bind fun r=>M.pure (Fl.next (upd Y k r))) h
 obtain⟨q,H2,h3,h4⟩:=M.bind_some h2
 obtain⟨r,h7,h8⟩:=M.map_some (m:=M.ofOpt (x4f o p q)) (f:=fun r=>Fl.next (upd Y k r)) h4
 obtain⟨er,h9⟩:=M.ofOpt_some h7
 clear h h2 h4 h7
 subst h8 h9
 have v:=y6x hv
 intro Q E qq
 rw [exec_AugAssign_Name]
 refine AB (BX (AB (y2i (own:=[]) (L:=L) R O hk hp v.1 v.2.2 _ _ fun u gb Z1 sB Gb Rb pB=>?_)))
 have Ob:=O.step Gb
 refine AB (BW (hE hA Rb Ob hce h3 _ _ fun v gC Z2 sC Gc Rc pC=>AB (BX ?_)))
 have Oc:=Ob.step Gc
 refine AB (wpAny_operating (k2x (own:=[]) (L:=L) Rc (pB.mono Gc.gle Gc.ble) pC er _ _ fun rv gD Z3 s3 Gd Rd pd=>AB (BX (AB ?_))))
 have O3:=Oc.step Gd
 refine y0e (w:=w) (A:=A) (prog:=prog) (L:=L) T.nd Rd O3 hk (hsto x hst) pd _ _ fun _ gE Z4 s4 Ge RE p4=>?_
 obtain⟨Oe,rfl,rfl⟩:=p4
 exact AJ (qq _ _ _ s4 (((Gb.trans R (Gc.trans Rb Gd)).own_le fun _ h=>absurd h BB).trans R Ge) RE ⟨rfl,Oe⟩)
end
section
variable {I:z2s} {own own':List Addr} {L L':Lim} {w:World} {g g0 gb gC g':Fz} {Z Z0 Z1 Z2 Z':Bt} {H H0 Hb H2 H':z0b} {s sA sB sC s':Shared} {env:Env} {Y Y0 Y':z0l} {A:Around} {prog:Program} {lv n:Nat} {S:z6q} {C:z0g} {p q r:PV}
theorem j3r{t e':Expr}{pt:Pat}{e:ME}{pos:Pos}{fl:Fl}(T:z0r I)(hE:z4l I prog w lv S.ev)(hA:AOk A lv)(R:SR I w.params g Z H s.heap)(O:z0j I own env Y g Z s.heap)
 (hsto:∀ x,z1k env.scope.names x=true->Mine.storeable env own x)(hset:z2y e'=false)(hsw:z3k env.scope.names e' t=false)(hsp:y4t env.scope.names t e'=some none)
 (hp:z5k I.t (z1k env.scope.names) t pt=true)(hce:z0m I.t n env.scope.names e' e=true)(h:z4b I.P C S Y (.assign pt e) L H=some (fl,H')) :
  Go I prog w A own L g Z H (exec (.Assign [t] e' pos) env) H' (z4e I own env fl) s:=by
 obtain⟨v,Hb,h1,h2⟩:=M.bind_some h
 obtain⟨Y1,H2,h3,h4⟩:=M.bind_some h2
 obtain⟨hb,rfl⟩:=M.ofOpt_some h3
 obtain⟨rfl,rfl⟩:=M.pure_some (L:=L) h4
 have hst:swappedStores [t] e' env=pure none/\(assignEach [t] env).map (·.2)=[assign t env]:=by
  cases pt with
  | one k=>obtain⟨x,p,rfl,_⟩:=z2x (show z6v I.t (z1k env.scope.names) t k=true from hp);exact⟨rfl,rfl⟩
  | tup ks=>obtain⟨es,m,p,rfl,_⟩:=y8i (show x6q t (fun es=>z4d I.t (z1k env.scope.names) es ks)=true from hp);exact⟨y4w O.kind hsp,rfl⟩
 intro Q E qq
 refine z5z O.kind hset hsw hst.1 hst.2 (hE hA R O hce h1 _ _ fun vv gb Z1 sB Gb Rb pB=>?_)
 exact y0g (L:=L) T.nd hsto hA hp Rb (O.step Gb) pB hb _ _ fun _ gC Z2 sC Gc Rc pC=>qq _ gC Z2 sC ((Gb.own_le (by simp)).trans R Gc) Rc ⟨rfl,pC.1⟩
theorem q4l(t1 t2:Expr)(ts:List Expr)(e':Expr)(env:Env):swappedStores (t1::t2::ts) e' env=pure none:=by
 unfold swappedStores
 cases t1<;>first | rfl | (induction e' using Option.casesOn<;>rfl)
theorem q9t{t1 t2 e':Expr}{ts:List Expr}{ks:List Nat}{e:ME}{pos:Pos}{fl:Fl}(T:z0r I)(hE:z4l I prog w lv S.ev)(hA:AOk A lv)(R:SR I w.params g Z H s.heap)(O:z0j I own env Y g Z s.heap)
 (hsto:∀ x,z1k env.scope.names x=true->Mine.storeable env own x)(hp:y3m I.t (z1k env.scope.names) (t1::t2::ts) ks=true)(hce:z0m I.t n env.scope.names e' e=true)(h:z4b I.P C S Y (.assigns ks e) L H=some (fl,H')) :
  Go I prog w A own L g Z H (exec (.Assign (t1::t2::ts) e' pos) env) H' (z4e I own env fl) s:=by
 obtain⟨v,Hb,h1,h2⟩:=M.bind_some h
 obtain⟨rfl,rfl⟩:=M.pure_some (L:=L) h2
 intro Q E qq
 have ee:exec (.Assign (t1::t2::ts) e' pos) env=(do
   PySem.standAt pos
   if<-swapsWithSole (t1::t2::ts) e' pos.line env then do
    evalThenUse e' env fun v=>assignAll v ((assignEach (t1::t2::ts) env).map (·.2))
    pure .next
   else do
    let v<-eval e' env
    assignStores env v (<- swappedStores (t1::t2::ts) e' env) ((assignEach (t1::t2::ts) env).map (·.2))):=rfl
 rw [ee]
 refine AB (BX (AB (AJ ?_)))
 rw [AT (by simp)]
 refine AB (hE hA R O hce h1 _ _ fun vv gb Z1 sB Gb Rb pB=>?_)
 rw [q4l]
 refine AB (AJ ?_)
 show wpAny (model prog w) A (assignAll vv ((assignEach (t1::t2::ts) env).map (·.2))>>=fun _=>pure .next) Q E sB
 refine AB (y2p (w:=w) (A:=A) (prog:=prog) (L:=L) T.nd hsto hp Rb (O.step Gb) pB _ _ fun _ gC Z2 sC Gc Rc pC=>AJ (qq _ gC Z2 sC ((Gb.own_le (by simp)).trans R Gc) Rc ⟨rfl,pC⟩))
theorem k4d{t:Expr}{c:ME}{a' b':List Stmt}{a b:List MS}{pos:Pos}{fl:Fl}(hT:q0c I prog w lv S.ts)(hX:j8s I prog w lv S.ex)(hA:AOk A lv)(R:SR I w.params g Z H s.heap)(O:z0j I own env Y g Z s.heap)
 (hsto:∀ x,z1k env.scope.names x=true->Mine.storeable env own x)(hc:z6c I.t n env.scope.names t c=true)(ha:z2j (y0k I.t n env.scope.names) a' a=true)(hb:z2j (y0k I.t n env.scope.names) b' b=true)(h:z4b I.P C S Y (.ifs c a b) L H=some (fl,H')) :
  Go I prog w A own L g Z H (exec (.If t a' b' pos) env) H' (z4e I own env fl) s:=by
 obtain⟨r,Hb,h1,h2⟩:=M.bind_some h
 intro Q E qq
 refine wpAny_If (hT hA R O hc h1 _ _ fun v gb Z1 sB Gb Rb pB=>?_)
 subst pB
 induction v using Bool.casesOn with
 | true=>exact z6x hX hA hsto Rb (O.step Gb) ha h2 Q E fun x gC Z2 sC Gc Rc pC=>qq x gC Z2 sC ((Gb.own_le (by simp)).trans R Gc) Rc pC
 | false=>exact z6x hX hA hsto Rb (O.step Gb) hb h2 Q E fun x gC Z2 sC Gc Rc pC=>qq x gC Z2 sC ((Gb.own_le (by simp)).trans R Gc) Rc pC
theorem z9n{iter:Expr}{k:z5w}{args:List ME}{cE:Expr->ME->Bool}{sc:Sc}(h:y1o I.t cE sc iter k args=true):∀ x,foldedSetIterable iter env x=pure x:=by
 intro x
 have h1:y4q iter=false:=q0b (z0u h).1
 unfold foldedSetIterable
 cases iter<;>first | rfl | contradiction
theorem k4e{pt:Pat}{k:z5w}{src:List ME}{t it:Expr}{b' o':List Stmt}{body orelse:List MS}{pos:Pos}{fl:Fl}(T:z0r I)(hE:z4l I prog w lv S.ev)(hX:j8s I prog w lv S.ex)(hA:AOk A lv)(R:SR I w.params g Z H s.heap)(O:z0j I own env Y g Z s.heap)
 (hsto:∀ x,z1k env.scope.names x=true->Mine.storeable env own x)(hp:z5k I.t (z1k env.scope.names) t pt=true)(hs:y1o I.t (z0m I.t n env.scope.names) env.scope.names it k src=true)
 (hb:z2j (y0k I.t n env.scope.names) b' body=true)(ho:z2j (y0k I.t n env.scope.names) o' orelse=true)(hz:q9e k=false)(h:z4b I.P C S Y (.for_ pt k src body orelse) L H=some (fl,H')) :
  Go I prog w A own L g Z H (exec (.For t it b' o' pos) env) H' (z4e I own env fl) s:=by
 obtain⟨⟨items,up⟩,Hb,h1,h2⟩:=M.bind_some h
 unfold M.raised at h2
 intro Q E qq
 refine wpAny_For (j3g T hE hA R O hs h1 fun itv gb Z1 sB sC Gb Rb eC hk F=>?_) (z9n hs)
 refine q9m (L:=L.up up Hb) (Rr:=fun r s'=>match r with | .ok f=>Q f s' | .error e=>cameBackBy (model prog w) A env E e s') T hX hA hsto hp hb ho Rb (O.step Gb) eC hk (hz▸F) h2 fun f g' Z' s' G R' p'=>?_
 exact qq f g' Z' s' ((Gb.own_le (by simp)).trans R (z1c.unraise Rb G)) R' p'
theorem q1n{t:Expr}{c:ME}{b':List Stmt}{body:List MS}{fl:Fl}{Rr:Result->Shared->Prop}(hT:q0c I prog w lv S.ts)(hX:j8s I prog w lv S.ex)(hA:AOk A lv)(R:SR I w.params g0 Z0 H0 sA.heap)(O:z0j I own env Y0 g0 Z0 sA.heap)
 (hsto:∀ x,z1k env.scope.names x=true->Mine.storeable env own x)(hc:z6c I.t n env.scope.names t c=true)(hb:z2j (y0k I.t n env.scope.names) b' body=true)
 {m:Nat}(h:y6p S c body m Y0 L H0=some (fl,H'))
 (q:∀ f g' Z' s',z1c own L g0 Z0 H0 sA g' Z' H' s'->SR I w.params g' Z' H' s'.heap->z4e I own env fl g' Z' s' f->Rr (.ok f) s') :
  codeAny (model prog w) A (.whileLoop t b' [] env) Rr sA:=by
 refine codeAny_whileLoop (fun m s'=>∃ Y g Z H,SR I w.params g Z H s'.heap/\z0j I own env Y g Z s'.heap/\z1c own L g0 Z0 H0 sA g Z H s'/\y6p S c body m Y L H=some (fl,H')) ?_ m ⟨Y0,g0,Z0,H0,R,O,.refl,h⟩
 rintro m s' ⟨Y,g,Z,H,R',O',G,hl⟩
 induction m using Nat.casesOn with
 | zero=>contradiction
 | succ m=>
  unfold y6p at hl
  obtain⟨r,Hb,h1,h2⟩:=M.bind_some hl
  refine hT hA R' O' hc h1 _ _ fun v gb Z1 sB Gb Rb pB=>?_
  subst pB
  have Ob:=O'.step Gb
  have G01:=G.trans R (Gb.own_le (own2:=own) (by simp))
  induction v using Bool.casesOn with
  | true=>
   simp only [if_true] at h2 ⊢
   obtain⟨f,H2,h3,h4⟩:=M.bind_some h2
   refine z6x hX hA hsto Rb Ob hb h3 _ _ fun x gC Z2 sC Gc Rc pC=>?_
   have G02:=G01.trans R Gc
   cases f with
   | next Y2=>
    obtain⟨rfl,Oc⟩:=pC
    exact⟨m,DY _,Y2,gC,Z2,H2,Rc,Oc,G02,h4⟩
   | brk Y2=>
    obtain⟨rfl,Oc⟩:=pC
    obtain⟨rfl,rfl⟩:=M.pure_some (L:=L) h4
    exact q _ gC Z2 sC G02 Rc ⟨rfl,Oc⟩
   | ret v=>
    obtain⟨y,rfl,hy⟩:=pC
    obtain⟨rfl,rfl⟩:=M.pure_some (L:=L) h4
    exact q _ gC Z2 sC G02 Rc ⟨y,rfl,hy⟩
  | false=>
   simp only [DW,if_false] at h2 ⊢
   obtain⟨rfl,rfl⟩:=M.pure_some (L:=L) h2
   exact wpAny_execs_nil (q _ gb Z1 sB G01 Rb ⟨rfl,Ob⟩)
theorem x0d{t:Expr}{c:ME}{b':List Stmt}{body:List MS}{pos:Pos}{fl:Fl}(hT:q0c I prog w lv S.ts)(hX:j8s I prog w lv S.ex)(hA:AOk A lv)(R:SR I w.params g Z H s.heap)(O:z0j I own env Y g Z s.heap)
 (hsto:∀ x,z1k env.scope.names x=true->Mine.storeable env own x)(hc:z6c I.t n env.scope.names t c=true)(hb:z2j (y0k I.t n env.scope.names) b' body=true)(h:z4b I.P C S Y (.while_ c body) L H=some (fl,H')) :
  Go I prog w A own L g Z H (exec (.While t b' [] pos) env) H' (z4e I own env fl) s:=by
 intro Q E qq
 exact wpAny_While (q1n (Rr:=fun r s'=>match r with | .ok f=>Q f s' | .error e=>cameBackBy (model prog w) A env E e s') hT hX hA R O hsto hc hb h fun f g' Z' s' G R' p'=>qq f g' Z' s' G R' p')
end
section
variable {I:z2s} {own own':List Addr} {L L':Lim} {w:World} {g g0 gb gC g':Fz} {Z Z0 Z1 Z2 Z':Bt} {H H0 Hb H2 H':z0b} {s sA sB sC s':Shared} {env:Env} {Y Y0 Y':z0l} {A:Around} {prog:Program} {lv n:Nat} {S:z6q} {C:z0g} {p q r:PV}
noncomputable def nm2(I:z2s)(ok:Str->Bool)(x:Str)(k:Nat):Bool:=I.nm[k]?==some x&&ok x
theorem y6z{ok:Str->Bool}{F:Expr->Option Str}(hF:∀ x pos,F (.Name x pos)=some x\/F (.Name x pos)=none):∀ {ts:List Expr} {ks:List Nat},z4d I.t ok ts ks=true->(ts.filterMap F).length=ts.length->z2j (nm2 I ok) (ts.filterMap F) ks=true
 | [],[],_,_=>rfl
 | [],_::_,h,_=>by contradiction
 | e::es,[],h,_=>by contradiction
 | e::es,k::ks,h,hl=>by
  obtain⟨c1,c2⟩:=z0u h
  obtain⟨x,px,rfl,hx,hxo⟩:=z2x c1
  have hle:=List.length_filterMap_le F es
  rcases hF x px with e1 | e1
  ·rw [List.filterMap_cons_some e1] at hl ⊢
   simp only [BH] at hl
   refine AG.mpr ⟨?_,y6z hF c2 (by lia)⟩
   unfold nm2
   rw [hx,hxo];simp
  ·rw [List.filterMap_cons_none e1] at hl
   simp only [BH] at hl
   lia
theorem q6t{ok:Str->Bool}(hnd:I.nm.Nodup)(hok:∀ x,ok x=true->Mine.storeable env own x):∀ {xs:List Str} {ks:List Nat} {vs:List Value} {ps:List PV} {Y Y':z0l} {g:Fz} {Z:Bt} {s:Shared},
  z2j (nm2 I ok) xs ks=true->SR I w.params g Z H s.heap->z0j I own env Y g Z s.heap->z0e I g Z vs ps->z4a Y ks ps=some Y' ->
  Go I prog w A own L g Z H (assignInOrder (xs.map fun n=>bindName env n) vs) H (fun g' Z' s' _=>z0j I own env Y' g' Z' s'.heap) s
 | [],ks,vs,ps,Y,Y',g,Z,s,hc,R,O,hr,hu=>by
  induction ks using List.casesOn with
  | cons _ _=>contradiction
  | nil=>
   induction ps using List.casesOn with
   | cons _ _=>contradiction
   | nil=>
    cases hr
    obtain rfl:Y=Y':=AF hu
    exact Go.pure R O
 | x::xs,ks,vs,ps,Y,Y',g,Z,s,hc,R,O,hr,hu=>by
  induction ks using List.casesOn with
  | nil=>contradiction
  | cons k ks=>
   obtain⟨h1,h2⟩:=z0u hc
   obtain⟨h3,h4⟩:=z0u h1
   induction ps using List.casesOn with
   | nil=>contradiction
   | cons p ps=>
    cases hr with
    | cons hv hr=>
     rename_i v vs
     show Go I prog w A own L g Z H (PySem.holding vs (bindName env x v)>>=fun _=>assignInOrder (xs.map fun n=>bindName env n) vs) H _ s
     refine Go.bind R (Go.holding (y0e hnd R O (BE.mp h3) (hok x h4) hv)) fun _ gb Z1 sB G Rb q=>?_
     obtain⟨Ob,rfl,rfl⟩:=q
     exact q6t hnd hok h2 Rb Ob hr hu
theorem z8r{a b:Nat}{x y:PV}(h:a≠b):upd (upd Y a x) b y=upd (upd Y b y) a x:=by
 funext j
 unfold upd
 by_cases h1:j=a
 ·by_cases h2:j=b
  ·exact absurd (h1.symm.trans h2) h
  ·simp [h1,h]
 ·by_cases h2:j=b
  ·subst h2;simp [h1]
  ·simp [h1,h2]
theorem q9u{ks:List Nat}{ps:List PV}(hn:y3n (.tup ks)=true)(h:z4a Y ks ps=some Y'):z4a Y ks.reverse ps.reverse=some Y':=by
 rcases CD.mp hn with hn | hn
 ·obtain⟨a,b,rfl,hn⟩:=x4q hn
  obtain⟨x,_,rfl,h1⟩:=y0f h
  obtain⟨y,_,rfl,h2⟩:=y0f h1
  obtain⟨rfl,rfl⟩:=q6j h2
  exact AP some (z8r (FX.mp hn)).symm
 ·obtain⟨a,b,c,rfl,hn⟩:=k3n hn
  obtain⟨x,_,rfl,h1⟩:=y0f h
  obtain⟨y,_,rfl,h2⟩:=y0f h1
  obtain⟨z,_,rfl,h3⟩:=y0f h2
  obtain⟨rfl,rfl⟩:=q6j h3
  obtain⟨h1,h2⟩:=z0u hn
  exact AP some (by rw [z8r (Y:=Y) (FX.mp h1),z8r (Y:=upd Y b y) (FX.mp (z0u h2).1),z8r (Y:=Y) (FX.mp (z0u h2).2)])
theorem z0e.reverse:∀ {vs:List Value} {ps:List PV},z0e I g Z vs ps->z0e I g Z vs.reverse ps.reverse
 | _,_,.nil=>.nil
 | _,_,.cons a r=>by
  rw [List.reverse_cons,List.reverse_cons]
  exact(z0e.reverse r).append (.one a)
theorem q1o{V A8:Type}{f:V->A8->Bool}{a:V}{b:A8}:∀ {as:List V} {bs:List A8},z2j f as bs=true->f a b=true->z2j f (as++[a]) (bs++[b])=true
 | [],[],_,h=>AG.mpr ⟨h,rfl⟩
 | [],_::_,h,_=>by contradiction
 | _::_,[],h,_=>by contradiction
 | x::as,y::bs,h,h2=>by
  obtain⟨c1,c2⟩:=z0u h
  exact AG.mpr ⟨c1,q1o c2 h2⟩
theorem q6u{V A8:Type}{f:V->A8->Bool}:∀ {as:List V} {bs:List A8},z2j f as bs=true->z2j f as.reverse bs.reverse=true
 | [],[],_=>rfl
 | [],_::_,h=>by contradiction
 | _::_,[],h=>by contradiction
 | x::as,y::bs,h=>by
  obtain⟨c1,c2⟩:=z0u h
  rw [List.reverse_cons,List.reverse_cons]
  exact q1o (q6u c2) c1
theorem x0e(sc:Sc)(line:Nat)(x:Str)(pos:Pos):(match Expr.Name x pos with | .Name id pos=>if sc.lookup id==some NameKind.local&&pos.line==line then some id else none | _=>none)=some x\/(match Expr.Name x pos with | .Name id pos=>if sc.lookup id==some NameKind.local&&pos.line==line then some id else none | _=>none)=none:=by
 dsimp only
 split
 ·exact .inl rfl
 ·exact .inr rfl
theorem q1p{ts vs:List Expr}{names:List Str}{sc:Sc}(h:j2m sc ts vs=some (some names)):names=y6v sc ts/\(y6v sc ts).length=ts.length:=by
 have nope:∀ {c:Prop} [Decidable c] {o:Option (Option (List Str))},(if c then some none else o)=some (some names)->¬ c/\o=some (some names):=fun {c} _ {o} h=>by
  by_cases q:c
  ·rw [AR q] at h;cases h
  ·rw [AT q] at h;exact⟨q,h⟩
 have h3:=nope (nope (nope h).2).2
 have h4:=(nope h3.2).2
 have hne:=(Bool.or_eq_false_iff.mp (ER.mpr h3.1)).1
 by_cases q:vs.all (constantsAlone 8)=true
 ·rw [AR q] at h4;contradiction
 ·rw [AT q] at h4
  exact⟨(AF (AF h4)).symm,by simpa using hne⟩
theorem q1q{t e:Expr}{names:List Str}{sc:Sc}(h:y4t sc t e=some (some names)):∃ ts k pos,t=.Tuple ts k pos/\(∃ vs k' pos',e=.Tuple vs k' pos')/\∃ F:Expr->Option Str,(∀ x pos,F (.Name x pos)=some x\/F (.Name x pos)=none)/\names=ts.filterMap F/\(ts.filterMap F).length=ts.length:=by
 by_cases ht:(t.ctorIdx==25)=true
 ·by_cases he:(e.ctorIdx==25)=true
  ·refine Expr.Tuple.elim (motive_1:=fun t=>y4t sc t e=some (some names)->∃ ts k pos,t=.Tuple ts k pos/\(∃ vs k' pos',e=.Tuple vs k' pos')/\∃ F:Expr->Option Str,(∀ x pos,F (.Name x pos)=some x\/F (.Name x pos)=none)/\names=ts.filterMap F/\(ts.filterMap F).length=ts.length) t (BO ht) (fun ts k pos h=>⟨ts,k,pos,rfl,?_⟩) h
   have h':=q1p ((AR he).symm.trans h)
   exact⟨Expr.Tuple.elim (motive_1:=fun e=>∃ vs k' pos',e=.Tuple vs k' pos') e (BO he) fun vs k' p'=>⟨vs,k',p',rfl⟩,_,fun x pos=>x0e sc _ x pos,h'.1,h'.2⟩
  ·have h2:=(AT he).symm.trans ((AR ht).symm.trans h)
   cases h2
 ·have h2:=(AT ht).symm.trans h
  cases h2
theorem x7u{t e':Expr}{pt:Pat}{e:ME}{pos:Pos}{fl:Fl}{names:List Str}(T:z0r I)(hE:z4l I prog w lv S.ev)(hA:AOk A lv)(R:SR I w.params g Z H s.heap)(O:z0j I own env Y g Z s.heap)
 (hsto:∀ x,z1k env.scope.names x=true->Mine.storeable env own x)(hset:z2y e'=false)(hsw:z3k env.scope.names e' t=false)(hsp:y4t env.scope.names t e'=some (some names))(hnd:y3n pt=true)
 (hp:z5k I.t (z1k env.scope.names) t pt=true)(hce:z0m I.t n env.scope.names e' e=true)(h:z4b I.P C S Y (.assign pt e) L H=some (fl,H')) :
  Go I prog w A own L g Z H (exec (.Assign [t] e' pos) env) H' (z4e I own env fl) s:=by
 obtain⟨v,Hb,h1,h2⟩:=M.bind_some h
 obtain⟨Y1,h3,h4⟩:=M.map_some (m:=M.ofOpt (z1t Y pt v)) h2
 obtain⟨hb,hH⟩:=M.ofOpt_some h3
 clear h h2 h3
 subst h4 hH
 obtain⟨ts,k,ps,rfl,⟨vs,k',ps',rfl⟩,F,hF,rfl,hlen⟩:=q1q hsp
 intro Q E qq
 have ee:exec (.Assign [.Tuple ts k ps] (.Tuple vs k' ps') pos) env=(do
   PySem.standAt pos
   let v<-eval (.Tuple vs k' ps') env
   assignStores env v (<- swappedStores [.Tuple ts k ps] (.Tuple vs k' ps') env) ((assignEach [.Tuple ts k ps] env).map (·.2))):=rfl
 rw [ee]
 refine AB (BX (AB (hE hA R O hce h1 _ _ fun vv gb Z1 sB Gb Rb pB=>?_)))
 rw [y4w O.kind hsp]
 refine AB (AJ ?_)
 cases pt with
 | one k=>contradiction
 | tup ks=>
  have hp':z4d I.t (z1k env.scope.names) ts ks=true:=hp
  obtain⟨l,rfl,hb'⟩:=y4o hb
  clear hb
  obtain⟨a,o,ws,rfl,g1,g4,g2,g3⟩:=pB.tup_inv
  have hn2:=y6z hF hp' hlen
  have el:(ts.filterMap F).length=ws.toArray.size:=by
   rw [y0l hn2,y1m hb',<- g3.length];simp
  show wpAny (model prog w) A (PySem.rule "assign.swapped-stores">>=fun _=>unpackItems (.ref a) (ts.filterMap F).length none>>=fun items=>assignInOrder ((ts.filterMap F).reverse.map fun n=>bindName env n) items.reverse>>=fun _=>pure .next) Q E sB
  rw [el]
  refine AB (wpAny_rule (AB (wpAny_unpackItems_tuple hA.handled (z3t (Rb.sub _ _ g1) g4) fun h' he=>?_)))
  have hk:∀ b o,sB.heap.get? b=some o->h'.get? b=some o:=fun b o e=>he b o (DK (CV e)) e
  have R2:SR I w.params gb Z1 Hb h':=Rb.keepAll hk
  have G2:z1c own L gb Z1 Hb sB gb Z1 Hb { sB with heap:=h' }:=z1c.keepAll (tk:=sB.toks) hk
  have O2:z0j I own env Y gb Z1 h':=((O.step Gb).step (z1c.keepAll (L:=L) (H:=Hb) (tk:=sB.toks) hk):z0j I own env Y gb Z1 _)
  refine AB (q6t (s:={ sB with heap:=h' }) (w:=w) (A:=A) (prog:=prog) (L:=L) T.nd hsto (q6u hn2) R2 O2 (by simpa using g3.reverse) (q9u hnd hb') _ _ fun _ gD Z3 s3 Gd Rd pd=>AJ ?_)
  exact qq _ gD Z3 s3 ((Gb.own_le (by simp)).trans R (G2.trans Rb Gd)) Rd ⟨rfl,pd⟩
end
section
variable {I:z2s} {own own':List Addr} {L L':Lim} {w:World} {g g0 gb gC g':Fz} {Z Z0 Z1 Z2 Z':Bt} {H H0 Hb H2 H':z0b} {s sA sB sC s':Shared} {env:Env} {Y Y0 Y':z0l} {A:Around} {prog:Program} {lv n:Nat} {S:z6q} {C:z0g} {p q r:PV} {P:Params}
noncomputable def z3d(n:Nat)(names:List (Str×NameKind)):List Addr:=n::(cellsFrom (n+1) names []).map (·.2)
theorem z1u:∀ (names:List (Str×NameKind)) (k:Nat) (acc:List (Str×Addr)),cellsFrom k names acc=cellsFrom k names []++acc
 | [],k,acc=>rfl
 | (x,kd)::r,k,acc=>by
  unfold cellsFrom
  split
  ·rw [z1u r (k+1) ((x,k)::acc),z1u r (k+1) [(x,k)]];simp
  ·exact z1u r k acc
theorem z3e:∀ (names:List (Str×NameKind)) (k:Nat) (x:Str) (c:Addr),(x,c)∈cellsFrom k names []->k<=c/\(x,NameKind.cell)∈names
 | [],k,x,c,h=>by contradiction
 | (y,kd)::r,k,x,c,h=>by
  unfold cellsFrom at h
  split at h
  ·rename_i hk
   have hk':kd=.cell:=by simpa using hk
   rw [z1u] at h
   rcases BL.mp h with h | h
   ·obtain⟨a,b⟩:=z3e r (k+1) x c h
    exact⟨by lia,AE _ b⟩
   ·have:=AO.mp h
    cases this
    exact⟨AL _,by rw [hk'];exact AD⟩
  ·obtain⟨a,b⟩:=z3e r k x c h
   exact⟨a,AE _ b⟩
theorem z6y:∀ (names:List (Str×NameKind)) (h:Heap) (x:Str) (c:Addr),(x,c)∈cellsFrom h.objs.size names []->(pushCells h names).get? c=some (k1w none)
 | [],h,x,c,hm=>by contradiction
 | (y,kd)::r,h,x,c,hm=>by
  unfold cellsFrom at hm
  unfold pushCells
  split at hm
  ·rename_i hk
   rw [AR hk]
   rw [z1u] at hm
   rcases BL.mp hm with hm | hm
   ·rw [<- FM h { cls:=.type "cell",data:=.cell none }] at hm
    exact z6y r _ x c hm
   ·have:=AO.mp hm
    cases this
    exact FD r _ _ _ (BJ _ rfl)
  ·rename_i hk
   rw [AT hk]
   exact z6y r h x c hm
theorem z3l:∀ (names:List (Str×NameKind)) (k:Nat) (x:Str),(x,NameKind.cell)∈names->∃ c,(x,c)∈cellsFrom k names []
 | [],k,x,h=>by contradiction
 | (y,kd)::r,k,x,h=>by
  unfold cellsFrom
  rcases AQ.mp h with h | h
  ·cases h
   rw [AR (by rfl),z1u]
   exact⟨k,BU _ AD⟩
  ·split
   ·obtain⟨c,hc⟩:=z3l r (k+1) x h
    rw [z1u]
    exact⟨c,CN _ hc⟩
   ·exact z3l r k x h
theorem z6h{V:Type}:∀ {l l':List (Str×V)} {x:Str},(l++l').lookup x=(l.lookup x).or (l'.lookup x)
 | [],l',x=>by simp
 | (y,a)::l,l',x=>by
  rw [List.cons_append,DX,DX]
  induction x==y using Bool.casesOn with
  | true=>rfl
  | false=>exact z6h
theorem z2e{V:Type}:∀ {l:List (Str×V)} {x:Str} {a:V},(x,a)∈l->∃ b,l.lookup x=some b
 | (y,c)::l,x,a,h=>by
  rw [DX]
  induction e:x==y using Bool.casesOn with
  | true=>exact⟨c,rfl⟩
  | false=>
   rcases AQ.mp h with h | h
   ·injection h with h;subst h;simp at e
   ·exact z2e h
theorem y4x{env':Env}{h:Heap}{names:List (Str×NameKind)}{cl:List (Str×Addr)}{fr:Obj}(hfr:(h.push fr).Ns h.objs.size (fun _=>none))(R:SR I P g Z H h)
 (hloc:env'.locals=h.objs.size)(hcells:env'.cells=cellsFrom (h.objs.size+1) names cl)(hkind:env'.scope.kind=.function)(hglob:env'.globals=mainGlobals)(hbi:env'.builtins=builtinsNs)(hcode:kdsCode I.K env'.code=true)
 (hcl:∀ x c,(x,c)∈cl->∃ ov,h.get? c=some (k1w ov)/\g c=none/\(∀ i,Z i≠some c)/\∀ (k:Nat) (p:PV),I.nm[k]?=some x->Y k=some p->∃ v,ov=some v/\Rel I g Z v p)
 (hclp:∀ x y c,(x,c)∈cl->(y,c)∈cl->x=y)
 (hks:∀ x,(env'.kindOf x=some .cell\/env'.kindOf x=some .free)->(x,NameKind.cell)∈names\/∃ c,(x,c)∈cl)
 (hnone:∀ (k:Nat) (x:Str),I.nm[k]?=some x->(env'.kindOf x=some .local\/(x,NameKind.cell)∈names)->Y k=none) :
  z0j I (z3d h.objs.size names) env' Y g Z (pushCells (h.push fr) names):=by
 have hn:=get?_size h
 have hsz:(h.push fr).objs.size=h.objs.size+1:=FM ..
 have old:∀ b o,h.get? b=some o->(pushCells (h.push fr) names).get? b=some o:=fun b o e=>FD _ _ _ _ (AU _ e)
 have fresh:∀ a,h.objs.size<=a->h.get? a=none:=fun a ha=>by
  induction e:h.get? a using Option.casesOn with
  | none=>rfl
  | some o=>exact absurd (CV e) (CF.mpr ha)
 have gnone:∀ a,h.objs.size<=a->g a=none:=fun a ha=>by
  induction e:g a using Option.casesOn with
  | none=>rfl
  | some o=>have:=R.sub a o e;rw [fresh a ha] at this;contradiction
 have bnone:∀ a,h.objs.size<=a->∀ i,Z i≠some a:=fun a ha i e=>by
  have lt:=R.lt i a e
  obtain⟨o,ho⟩:=(R.cell i a _ e (AN lt)).there
  rw [fresh a ha] at ho;contradiction
 have hcells':env'.cells=cellsFrom (h.objs.size+1) names []++cl:=by rw [hcells,z1u]
 have newc:∀ x c,(x,c)∈cellsFrom (h.objs.size+1) names []->(pushCells (h.push fr) names).get? c=some (k1w none)/\h.objs.size+1<=c:=fun x c hm=>by
  refine⟨?_,(z3e _ _ _ _ hm).1⟩
  rw [<- hsz] at hm
  exact z6y _ _ _ _ hm
 exact {
  kind:=hkind,glob:=hglob,bi:=hbi,code:=hcode
  ns:=⟨fun _=>none,by rw [hloc];exact hfr.keeps (FD _ _),fun k x p h1 h2 h3=>by rw [hnone k x h1 (.inl h2)] at h3;cases h3⟩
  lg:=by rw [hloc];exact gnone _ (AL _)
  lb:=by rw [hloc];exact bnone _ (AL _)
  lown:=by rw [hloc];exact AD
  cells:=fun x hx=>by
   have hlk:=(AP (List.lookup x) hcells').trans (z6h ..)
   induction e:(cellsFrom (h.objs.size+1) names []).lookup x using Option.casesOn with
   | some c=>
    rw [e] at hlk
    obtain⟨a1,a2⟩:=newc x c (mem_of_lookup e)
    refine⟨c,none,hlk,a1,by rw [hloc];exact DO a2,gnone _ (DD a2),bnone _ (DD a2),fun k p h1 h2=>?_⟩
    rw [hnone k x h1 (.inr (z3e _ _ _ _ (mem_of_lookup e)).2)] at h2;contradiction
   | none=>
    rcases hks x hx with hm | ⟨c,hc⟩
    ·obtain⟨c,hc⟩:=z3l names (h.objs.size+1) x hm
     obtain⟨b,hb⟩:=z2e hc
     rw [e] at hb;contradiction
    ·obtain⟨c',hc'⟩:=z2e hc
     obtain⟨ov,b1,b2,b3,b4⟩:=hcl x c' (mem_of_lookup hc')
     rw [e] at hlk
     exact⟨c',ov,hlk.trans hc',old _ _ b1,by rw [hloc];exact DK (CV b1),b2,b3,b4⟩
  apart:=fun x y c h1 h2=>by
   rw [hcells',z6h] at h1 h2
   have ok:=(cellsFrom_ok names (h.push fr) (h.objs.size+1) [] ⟨fun _ _ hm=>(nomatch hm),List.Pairwise.nil⟩ (by rw [hsz];exact AL _))
   rw [hsz] at ok
   induction e1:(cellsFrom (h.objs.size+1) names []).lookup x using Option.casesOn with
   | some c1=>
    rw [e1] at h1;cases h1
    induction e2:(cellsFrom (h.objs.size+1) names []).lookup y using Option.casesOn with
    | some c2=>rw [e2] at h2;cases h2;exact name_of_addr ok.apart (mem_of_lookup e1) (mem_of_lookup e2)
    | none=>
     rw [e2] at h2
     obtain⟨ov,b1,_⟩:=hcl y c (mem_of_lookup (by simpa using h2))
     exact absurd (CV b1) (CF.mpr (DD (newc x c (mem_of_lookup e1)).2))
   | none=>
    rw [e1] at h1
    have m1:=mem_of_lookup (show cl.lookup x=some c by simpa using h1)
    induction e2:(cellsFrom (h.objs.size+1) names []).lookup y using Option.casesOn with
    | some c2=>
     rw [e2] at h2;cases h2
     obtain⟨ov,b1,_⟩:=hcl x c m1
     exact absurd (CV b1) (CF.mpr (DD (newc y c (mem_of_lookup e2)).2))
    | none=>
     rw [e2] at h2
     exact hclp x y c m1 (mem_of_lookup (by simpa using h2))
  ownz:=fun a ha=>by
   rcases AQ.mp ha with rfl | ha
   ·obtain⟨o,_,_,ho,_⟩:=hfr
    exact⟨gnone _ (AL _),bnone _ (AL _),o,FD _ _ _ _ ho⟩
   ·obtain⟨⟨x,c⟩,hm,rfl⟩:=AY.mp ha
    obtain⟨a1,a2⟩:=newc x c hm
    exact⟨gnone _ (DD a2),bnone _ (DD a2),_,a1⟩ }
end
section
variable {prog:Program} {w:World} {A:Around} {E:Value->Shared->Prop} {s:Shared} {env:Env}
noncomputable def j3s(ifs:List Expr)(env:Env):Sem Bool:=forIn ifs true fun c r=>if r=true then do let ok<-isTrue c env (eval c env);pure (ForInStep.yield ok) else pure (ForInStep.yield r)
noncomputable def z5n(e elt:Expr)(gens:List Comprehension)(d:Nat)(acc:Value)(env:Env):Sem Unit:=match gens[d+1]? with
 | some g'=>do
  let x<-eval g'.iter env
  PySem.standAt g'.iter.pos
  let x<-foldedSetIterable g'.iter env x
  let _<-runOwn (.compStart e (d+1) (<- PySem.holding [x] (pyIter x)) acc env) env
 | none=>do let _<-call (.builtin "list.append") [acc,<- eval elt env]
theorem q1r{elt:Expr}{gens:List Comprehension}{scope:Scope}{pos:Pos}{d:Nat}{gc:Comprehension}{it acc:Value}(hg:gens[d]?=some gc)(ha:gc.is_async=0)(hn:∀ g',gens[d+1]?=some g'->g'.is_async=0) :
  compTurn (.ListComp elt gens scope pos) d it acc env=(do
   PySem.standAt gc.iter.pos
   match<-pyNext it with
   | none=>pure (.done .next)
   | some v=>
    letOwnedTupleGo gc.target it v
    assign gc.target env v
    let ok<-j3s gc.ifs env
    if ok then do
     z5n (.ListComp elt gens scope pos) elt gens d acc env
     again (.compLoop (.ListComp elt gens scope pos) d it acc env)
    else again (.compLoop (.ListComp elt gens scope pos) d it acc env)):=by
 unfold compTurn z5n j3s
 dsimp only
 rw [hg]
 obtain⟨tt,ii,ff,aa⟩:=gc
 dsimp only at ha
 subst ha
 induction h:gens[d+1]? using Option.casesOn with
 | none=>rfl
 | some g'=>
  have hn:=hn g' h
  obtain⟨t2,i2,f2,a2⟩:=g'
  dsimp only at hn
  subst hn
  dsimp only
  have e0:((0:Int) != 0)=false:=rfl
  simp only [e0,DW,if_false,bind_assoc,pure_bind]
  rfl
theorem z9b{elt:Expr}{gens:List Comprehension}{scope:Scope}{pos:Pos}{d:Nat}{gc:Comprehension}{it acc:Value}{Rr:Result->Shared->Prop}(hg:gens[d]?=some gc)(ha:gc.is_async=0)(hn:∀ g',gens[d+1]?=some g'->g'.is_async=0)(Iv:Nat->Shared->Prop)
 (turn:∀ n s,Iv n s->wpAny (model prog w) A (pyNext it) (fun r sB=>match r with
   | none=>Rr (.ok .next) sB
   | some v=>wpAny (model prog w) A (letOwnedTupleGo gc.target it v) (fun _ s1'=>wpAny (model prog w) A (assign gc.target env v) (fun _ sC=>wpAny (model prog w) A (j3s gc.ifs env) (fun ok s3=>
      if ok=true then wpAny (model prog w) A (z5n (.ListComp elt gens scope pos) elt gens d acc env) (fun _ s4=>∃ m,m<n/\Iv m s4) (notedBy (model prog w) A env fun e s'=>Rr (.error e) s') s3
      else ∃ m,m<n/\Iv m s3) (notedBy (model prog w) A env fun e s'=>Rr (.error e) s') sC) (notedBy (model prog w) A env fun e s'=>Rr (.error e) s') s1')
     (notedBy (model prog w) A env fun e s'=>Rr (.error e) s') sB) (notedBy (model prog w) A env fun e s'=>Rr (.error e) s') s)
 (n:Nat)(h:Iv n s):codeAny (model prog w) A (.compLoop (.ListComp elt gens scope pos) d it acc env) Rr s:=by
 refine codeAny_loop rfl Iv (fun n s hI=>?_) n h
 show wpAny _ A ((compTurn (.ListComp elt gens scope pos) d it acc env).onRaise (fun x=>do noteFrame x env;theTreesLotGoes x)) _ _ s
 refine wpAny_noted ?_
 rw [q1r hg ha hn]
 refine AB (BX (AB (CZ (turn n s hI) (fun r sB B6=>?_) fun _ _ h'=>h')))
 induction r using Option.casesOn with
 | none=>exact AJ B6
 | some v=>
  refine AB (CZ B6 (fun _ s1' h1'=>?_) fun _ _ h'=>h')
  refine AB (CZ h1' (fun _ sC B7=>AB (CZ B7 (fun ok s3 B8=>?_) fun _ _ h'=>h')) fun _ _ h'=>h')
  induction ok using Bool.casesOn with
  | false=>exact AJ ⟨rfl,B8⟩
  | true=>exact AB (CZ B8 (fun _ s4 B'=>AJ ⟨rfl,B'⟩) fun _ _ h'=>h')
theorem z4s{elt:Expr}{gens:List Comprehension}{scope:Scope}{pos:Pos}{d:Nat}{gc:Comprehension}{it acc:Value}{Rr:Result->Shared->Prop}(hg:gens[d]?=some gc)(ha:gc.is_async=0)
 (h0:codeAny (model prog w) A (.compLoop (.ListComp elt gens scope pos) d it acc env) Rr s)
 (h:wpAny (model prog w) A (pyIter it) (fun it' s'=>codeAny (model prog w) A (.compLoop (.ListComp elt gens scope pos) d it' acc env) Rr s')
   (notedBy (model prog w) A env fun x s'=>Rr (.error x) s') s) :
  codeAny (model prog w) A (.compStart (.ListComp elt gens scope pos) d it acc env) Rr s:=by
 refine codeAny_of_tree ?_
 show wpAny _ A ((compStart (.ListComp elt gens scope pos) d it acc env).onRaise (fun x=>do noteFrame x env;standAt theWindowsPlace)) _ _ s
 refine wpAny_notedAt ?_
 have e:compStart (.ListComp elt gens scope pos) d it acc env=(do
   if(<- ask).params.followText "comprehension-iter-twice" then return<-again (.compLoop (.ListComp elt gens scope pos) d it acc env)
   PySem.rule "comprehension.iter-twice"
   PySem.standAt gc.iter.pos
   again (.compLoop (.ListComp elt gens scope pos) d (<- pyIter it) acc env)):=by
  obtain⟨tt,ii,ff,aa⟩:=gc
  dsimp only at ha
  subst ha
  unfold compStart
  have hc:(clausesOf (.ListComp elt gens scope pos))[d]?=some ⟨tt,ii,ff,0⟩:=hg
  rw [hc]
  rfl
 rw [e]
 refine AB (wpAny_askSetting (wpAny_ite ?_))
 split
 ·first
   | exact AB (AJ (AJ (And.intro rfl h0)))
   | exact AJ (And.intro rfl h0)
 ·exact AB (wpAny_rule (AB (BX (AB (CZ h (fun it' s' h'=>AJ (And.intro rfl h')) fun _ _ x=>x)))))
end
section
variable {I:z2s} {own own':List Addr} {L L':Lim} {w:World} {g g0 gb gC g':Fz} {Z Z0 Z1 Z2 Z':Bt} {H H0 Hb H2 H':z0b} {s sA sB sC s':Shared} {env:Env} {Y Y0 Y':z0l} {A:Around} {prog:Program} {lv n:Nat} {S:z6q} {C:z0g} {p q r:PV} {D:Addr}
theorem y2q:∀ {ks:List Nat} {ps:List PV} {Y Y':z0l},z4a Y ks ps=some Y'->∀ k,k∉ks->Y' k=Y k
 | [],[],_,_,h,k,_=>by injection h with h;subst h;rfl
 | [],_::_,_,_,h,_,_=>by contradiction
 | _::_,[],_,_,h,_,_=>by contradiction
 | j::ks,p::ps,Y,Y',h,k,hk=>by
  have:=y2q (ks:=ks) (ps:=ps) h k (fun m=>hk (AE _ m))
  rw [this]
  unfold upd
  rw [AT (fun e:k=j=>hk (by rw [e];exact AD))]
theorem y0q{pat:Pat}{v:PV}(h:z1t Y pat v=some Y'):∀ k,k∉z2r pat->Y' k=Y k:=by
 intro k hk
 cases pat with
 | one j=>
  simp only [z1t,Option.some.injEq] at h
  subst h
  unfold upd
  rw [AT (fun e:k=j=>hk (by rw [e];exact AD))]
 | tup ks=>induction v using PV.casesOn<;>simp only [z1t,reduceCtorEq] at h;exact y2q h k hk
theorem z0j.weaken{h:Heap}(hle:∀ k p,Y k=some p->Y' k=some p)(O:z0j I own env Y' g Z h):z0j I own env Y g Z h:=
 { O with
  ns:=let ⟨m,hm,f⟩:=O.ns;⟨m,hm,fun k x p a b c=>f k x p a b (hle k p c)⟩
  cells:=fun x hx=>let ⟨c,ov,a1,a2,a3,a4,a5,a6⟩:=O.cells x hx;⟨c,ov,a1,a2,a3,a4,a5,fun k p a b=>a6 k p a (hle k p b)⟩ }
theorem z0j.addOwn{h:Heap}(O:z0j I own env Y g Z h)(hg:g D=none)(hb:∀ i,Z i≠some D)(ho:∃ o,h.get? D=some o):z0j I (D::own) env Y g Z h:=
 { O with
  lown:=AE _ O.lown
  ownz:=fun a ha=>by
   rcases AQ.mp ha with rfl | ha
   ·exact⟨hg,hb,ho⟩
   ·exact O.ownz a ha }
theorem z0j.subOwn{h:Heap}(O:z0j I own env Y g Z h)(hs:∀ a,a∈own'->a∈own)(hl:env.locals∈own'):z0j I own' env Y g Z h:=
 { O with
  lown:=hl
  ownz:=fun a ha=>O.ownz a (hs a ha) }
inductive z7r(I:z2s)(D:Addr)(ps:List PV)(g:Fz)(Z:Bt)(h:Heap):Prop
 | mk (o:Obj) (vs:List Value) (h1:h.get? D=some o) (h2:IsL o vs) (h3:z0e I g Z vs ps) (h4:g D=none) (h5:∀ i,Z i≠some D):z7r I D ps g Z h
theorem z7r.grow{ps:List PV}(hD:D∉own)(a:z7r I D ps g Z s.heap)(G:z1c own L g Z H s gb Z1 Hb sB):z7r I D ps gb Z1 sB.heap:=by
 obtain⟨o,vs,h1,h2,h3,h4,h5⟩:=a
 refine⟨o,vs,G.kept _ _ h1 hD (z2o h5),h2,h3.mono G.gle G.ble,by rw [G.gold _ _ h1];exact h4,fun i e=>?_⟩
 induction q:Z i using Option.casesOn with
 | none=>have:=G.bnew i _ q e;rw [h1] at this;contradiction
 | some b=>rw [G.ble i b q] at e;injection e with e;subst e;exact h5 i q
theorem q6v(hT:q0c I prog w lv S.ts)(hA:AOk A lv):∀ {es:List Expr} {ms:List ME} {g:Fz} {Z:Bt} {H H':z0b} {s:Shared} {r:Bool},SR I w.params g Z H s.heap->z0j I own env Y g Z s.heap->z2j (z6c I.t n env.scope.names) es ms=true ->
  y4c (S.ts Y) ms L H=some (r,H')->Go I prog w A [] L g Z H (j3s es env) H' (fun _ _ _ b=>b=r) s
 | [],ms,g,Z,H,H',s,r,R,O,hc,hm=>by
  induction ms using List.casesOn with
  | cons _ _=>contradiction
  | nil=>injection hm with hm;injection hm with eB eC;subst eB;subst eC;exact Go.pure R rfl
 | e::es,ms,g,Z,H,H',s,r,R,O,hc,hm=>by
  induction ms using List.casesOn with
  | nil=>contradiction
  | cons m ms=>
   obtain⟨c1,c2⟩:=z0u hc
   obtain⟨b,Hb,h1,h2⟩:=M.bind_some hm
   intro Q E q
   unfold j3s
   rw [FE]
   simp only [if_true,bind_assoc,pure_bind]
   refine AB (hT hA R O c1 h1 _ _ fun v gb Z1 sB Gb Rb pB=>?_)
   subst pB
   induction v using Bool.casesOn with
   | false=>
    obtain⟨rfl,rfl⟩:=M.pure_some (L:=L) h2
    have skip:∀ l:List Expr,(forIn l false fun c r=>if r=true then do let ok<-isTrue c env (eval c env);pure (ForInStep.yield ok) else pure (ForInStep.yield r):Sem Bool)=pure false:=by
     intro l
     induction l with
     | nil=>rfl
     | cons c l ih=>rw [FE];simp only [DW,if_false,pure_bind];exact ih
    rw [skip]
    exact AJ (q _ gb Z1 sB Gb Rb rfl)
   | true=>exact q6v hT hA Rb (O.step Gb) c2 h2 Q E fun a gC Z2 sC Gc Rc pC=>q a gC Z2 sC (Gb.trans R Gc) Rc pC
noncomputable def y2r(gs:List (Pat×z5w×List ME×List ME)):List Nat:=gs.flatMap fun gn=>z2r gn.1
noncomputable def j3t(I:z2s)(prog:Program)(w:World)(A:Around)(ownE:List Addr)(env:Env)(D:Addr)(L:Lim)(F:z0l->M (List PV))(t:Sem Unit)(vs:List Nat):Prop:=
 ∀ (Y':z0l) (g:Fz) (Z:Bt) (H Hb:z0b) (s:Shared) (pre o:List PV),(∀ k,k∈vs->Y' k=none)->SR I w.params g Z H s.heap->z0j I ownE env Y' g Z s.heap->z7r I D pre g Z s.heap->F Y' L H=some (o,Hb)->(pre++o).length<=z2k ->
  ∀ (Q:Unit->Shared->Prop) (E:Value->Shared->Prop),(∀ g' Z' s',z1c (D::ownE) L g Z H s g' Z' Hb s'->SR I w.params g' Z' Hb s'.heap->z0j I ownE env Y' g' Z' s'.heap->z7r I D (pre++o) g' Z' s'.heap->Q () s')->wpAny (model prog w) A t Q E s
noncomputable def q1s(S:z6q)(Y:z0l)(pat:Pat)(ifs:List ME)(F:z0l->M (List PV))(v:PV):M (List PV):=match z1t Y pat v with
 | none=>M.fail
 | some Y'=>(y4c (S.ts Y') ifs).bind fun ok=>if ok then F Y' else M.pure []
theorem k4f{ifs:List ME}{pat:Pat}{F:z0l->M (List PV)}{p:PV}{ps out:List PV}{G:Prop}(h:z4u (q1s S Y pat ifs F) (p::ps) L H=some (out,H'))
 (k:∀ Y1 tb Hd oa Hb ob,z1t Y pat p=some Y1->y4c (S.ts Y1) ifs L H=some (tb,Hd)->(if tb=true then F Y1 else M.pure []) L Hd=some (oa,Hb)->z4u (q1s S Y pat ifs F) ps L Hb=some (ob,H')->out=oa++ob->G):G:=by
 obtain⟨oa,Hb,h1,h2⟩:=M.bind_some (m:=q1s S Y pat ifs F p) h
 obtain⟨ob,h3,h4⟩:=M.map_some (m:=z4u (q1s S Y pat ifs F) ps) (f:=fun as=>oa++as) h2
 unfold q1s at h1
 induction hbp:z1t Y pat p using Option.casesOn with
 | none=>rw [hbp] at h1;contradiction
 | some Y1=>
  rw [hbp] at h1
  obtain⟨tb,Hd,h5,h6⟩:=M.bind_some (m:=y4c (S.ts Y1) ifs) h1
  exact k Y1 tb Hd oa Hb ob hbp h5 h6 h3 h4.symm
theorem z7r.free{g:Fz}{Z:Bt}{h:Heap}{ps:List PV}(a:z7r I D ps g Z h):g D=none/\(∀ i,Z i≠some D)/\∃ o,h.get? D=some o:=let ⟨o,_,a1,_,_,a4,a5⟩:=a;⟨a4,a5,o,a1⟩
theorem z7r.keep{g g':Fz}{Z:Bt}{h h':Heap}{ps:List PV}(a:z7r I D ps g Z h)(hk:∀ o,h.get? D=some o->h'.get? D=some o)(hg:∀ a o,g a=some o->g' a=some o)(hgo:∀ o,h.get? D=some o->g' D=g D):z7r I D ps g' Z h':=
 let ⟨o,vs,a1,a2,a3,a4,a5⟩:=a;⟨o,vs,hk o a1,a2,a3.mono hg (fun _ _ e=>e),(hgo o a1).trans a4,a5⟩
structure w1p(I:z2s)(prog:Program)(w:World)(ownE:List Addr)(env:Env)(Y:z0l)(D:Addr)(L:Lim)(g0:Fz)(Z0:Bt)(H0:z0b)(sA:Shared)(items pre out:List PV)(fp wr:List Addr)(Pi:Nat->Value->Prop)(Pt:Nat->List Value->Prop)(St:Nat->Heap->Prop)(run:List PV->z0b->List PV->Prop)
 (m:Nat)(s:Shared)(i:Nat)(g:Fz)(Z:Bt)(H:z0b)(o1 o2:List PV):Prop where
 m:m=items.length - i
 le:i<=items.length
 F:y0p I (D::ownE) L g Z H items sA.heap fp wr Pi Pt St i s.heap
 R:SR I w.params g Z H s.heap
 O:z0j I ownE env Y g Z s.heap
 acc:z7r I D (pre++o1) g Z s.heap
 G:z1c (D::ownE) L g0 Z0 H0 sA g Z H s
 h:run (items.drop i) H o2
 out:out=o1++o2
theorem y4y{ifs:List ME}{pat:Pat}{F:z0l->M (List PV)}{rv:List Nat}{elt':Expr}{gens:List Comprehension}{scope:Scope}{cpos:Pos}{ok:Str->Bool}{ownE:List Addr}{d:Nat}{gc:Comprehension}{pre items out:List PV}
 (T:z0r I)(hT:q0c I prog w lv S.ts)(hA:AOk A lv)(hok:∀ x,ok x=true->Mine.storeable env ownE x)(hall:∀ (i:Nat) (c:Comprehension),gens[i]?=some c->c.is_async=0)(hDo:D∉ownE)
 (hg:gens[d]?=some gc)(hp:z5k I.t ok gc.target pat=true)(hi:z2j (z6c I.t n env.scope.names) gc.ifs ifs=true)
 (hin:j3t I prog w A ownE env D L F (z5n (.ListComp elt' gens scope cpos) elt' gens d (.ref D) env) rv)
 (hfr:∀ k,k∈z2r pat++rv->Y k=none)(hnd:(z2r pat++rv).Nodup)
 (R:SR I w.params g0 Z0 H0 sA.heap)(G0:z1c (D::ownE) L g0 Z0 H0 sA g0 Z0 H0 s)(R0:SR I w.params g0 Z0 H0 s.heap)(O0:z0j I ownE env Y g0 Z0 s.heap)(acc0:z7r I D pre g0 Z0 s.heap)
 {A7:Addr}{fp wr:List Addr}{zp:Bool}(hzp:zp=true->gc.target.ctorIdx=25){Pi:Nat->Value->Prop}{Pt:Nat->List Value->Prop}{St:Nat->Heap->Prop}(W:y2l prog w A zp A7 fp wr items.length Pi Pt St)(F0:y0p I (D::ownE) L g0 Z0 H0 items sA.heap fp wr Pi Pt St 0 s.heap)
 (hsep:∀ b,b∈wr->j3c (D::ownE) env b)
 (h:z4u (q1s S Y pat ifs F) items L H0=some (out,H'))(hlen:(pre++out).length<=z2k)
 {Rr:Result->Shared->Prop}(q:∀ g' Z' s',z1c (D::ownE) L g0 Z0 H0 sA g' Z' H' s'->SR I w.params g' Z' H' s'.heap->z0j I ownE env Y g' Z' s'.heap->z7r I D (pre++out) g' Z' s'.heap->Rr (.ok .next) s') :
  codeAny (model prog w) A (.compLoop (.ListComp elt' gens scope cpos) d (.ref A7) (.ref D) env) Rr s:=by
 have hDw:D∉wr:=fun m=>(hsep D m).2.2 AD
 have hsub:∀ a,a∈ownE->a∈D::ownE:=fun a h=>AE _ h
 refine z9b hg (hall _ _ hg) (fun g' hg'=>hall _ _ hg') (fun m s'=>∃ i g Z H o1 o2,w1p I prog w ownE env Y D L g0 Z0 H0 sA items pre out fp wr Pi Pt St (fun l H o=>z4u (q1s S Y pat ifs F) l L H=some (o,H')) m s' i g Z H o1 o2) ?_ items.length
  ⟨0,g0,Z0,H0,[],out,rfl,BK _,F0,R0,O0,(CG pre).symm▸acc0,G0,h,rfl⟩
 clear h G0 R0 O0 acc0 F0
 rintro m s' ⟨i,g,Z,H,o1,o2,A5⟩
 refine CZ (q1g (tgt:=gc.target) hzp W hsep A5.F A5.R (A5.O.addOwn A5.acc.free.1 A5.acc.free.2.1 A5.acc.free.2.2) A5.G (fun e sB Rb Ob Gb hkp=>?_) (fun p hpi v g' sB hv Rb Ob Gb F1 hkp hgl hgo=>?_) A5.le) (fun r sB h=>by induction r using Option.casesOn<;>exact h) fun _ _ h=>h
 ·have hl:=A5.h
  rw [e,List.drop_length] at hl
  obtain⟨e1,e2⟩:=M.pure_some (L:=L) hl
  have ho:=A5.out
  rw [<- e1,CG] at ho
  exact q g Z sB (e2▸Gb) (e2▸Rb) (Ob.subOwn hsub A5.O.lown) (ho▸A5.acc.keep (fun o a=>hkp _ _ hDw a) (fun _ _ e=>e) fun _ _=>rfl)
 ·have hl:=A5.h
  have hlt:=(AS.mp hpi).1
  rw [q1h hpi] at hl
  have hac1:z7r I D (pre++o1) g' Z sB.heap:=A5.acc.keep (fun o a=>hkp _ _ hDw a) hgl fun o a=>hgo _ _ a
  refine k4f hl fun Y1 tb Hd oa Hb ob hbp h5 h6 h3 ho2=>?_
  clear hl
  refine y0g (L:=L) T.nd hok hA hp Rb (Ob.subOwn hsub A5.O.lown) hv hbp _ _ fun _ gC Z2 sC Gc Rc pC=>?_
  have hac2:=hac1.grow hDo Gc
  have F2:=F1.grow W Rb (Gc.own_le hsub)
  refine q6v hT hA Rc pC.1 hi h5 _ _ fun b gD Z3 s3 Gd Rd pd=>?_
  have O3:=pC.1.step Gd
  have hac3:=hac2.grow (own:=[]) BB Gd
  have F3:=F2.grow W Rc (Gd.own_le (own2:=D::ownE) fun _ h=>absurd h BB)
  have hle1:∀ k p,Y k=some p->Y1 k=some p:=fun k p e=>by
   by_cases hkm:k∈z2r pat
   ·rw [hfr k (CN _ hkm)] at e;contradiction
   ·rw [y0q hbp k hkm];exact e
  have G13:z1c (D::ownE) L g0 Z0 H0 sA gD Z3 Hd s3:=Gb.trans R ((Gc.own_le hsub).trans Rb (Gd.own_le fun _ h=>absurd h BB))
  have hout:=A5.out
  rw [ho2] at hout
  rw [pd]
  induction tb using Bool.casesOn with
  | false=>
   obtain⟨e1,e2⟩:=M.pure_some (L:=L) (show M.pure [] L Hd=some (oa,Hb) from h6)
   exact⟨items.length - (i+1),A5.m▸q4i hlt,i+1,gD,Z3,Hd,o1,ob,rfl,hlt,F3,Rd,O3.weaken hle1,hac3,G13,e2▸h3,by rw [hout,<- e1];rfl⟩
  | true=>
   have hfr1:∀ k,k∈rv->Y1 k=none:=fun k hk=>by
    rw [y0q hbp k (fun m=>(DI.mp hnd).2.2 k m k hk rfl)]
    exact hfr k (BU _ hk)
   have hout':pre++out=(pre++o1++oa)++ob:=by rw [hout,AW,AW]
   have hlen1:(pre++o1++oa).length<=z2k:=by
    rw [hout',AC] at hlen
    exact AA (BC _ _) hlen
   refine hin Y1 gD Z3 Hd Hb s3 (pre++o1) oa hfr1 Rd O3 hac3 h6 hlen1 _ _ fun gE Z4 s4 Ge RE Oe hac4=>?_
   exact⟨items.length - (i+1),A5.m▸q4i hlt,i+1,gE,Z4,Hb,o1++oa,ob,rfl,hlt,F3.grow W Rd Ge,RE,Oe.weaken hle1,AW pre o1 oa▸hac4,G13.trans R Ge,h3,by rw [hout,AW]⟩
noncomputable def q6w(S:z6q)(elt:ME)(rest:List (Pat×z5w×List ME×List ME))(Y':z0l):M (List PV):=match rest with
 | []=>(S.ev Y' elt).bind fun r=>M.pure [r]
 | (pat',k,args,ifs')::rest'=>(z8z S Y' k args).bind fun r=>(z3b S elt Y' pat' ifs' rest' r.1).raised r.2
theorem y4z{elt:ME}{pat:Pat}{ifs:List ME}{rest:List (Pat×z5w×List ME×List ME)}{items:List PV}:z3b S elt Y pat ifs rest items=z4u (q1s S Y pat ifs (q6w S elt rest)) items:=by
 induction rest using List.casesOn<;>kernel_rfl
theorem j3u{k:z5w}{t:Expr}(h:(!q9e k || t.ctorIdx==25)=true)(hz:q9e k=true):t.ctorIdx=25:=by
 rw [hz] at h
 exact BO h
theorem x0f{elt:ME}{elt':Expr}{gens:List Comprehension}{scope:Scope}{cpos:Pos}{ok:Str->Bool}{ownE:List Addr}(T:z0r I)(hE:z4l I prog w lv S.ev)(hT:q0c I prog w lv S.ts)(hA:AOk A lv)
 (hok:∀ x,ok x=true->Mine.storeable env ownE x)(hce:z0m I.t n env.scope.names elt' elt=true)(hall:∀ (i:Nat) (c:Comprehension),gens[i]?=some c->c.is_async=0)(hDo:D∉ownE) :
  ∀ (rest:List (Pat×z5w×List ME×List ME)) (cs:List Comprehension) (d:Nat) (L:Lim),gens.drop (d+1)=cs ->
   y3l I.t (z0m I.t n env.scope.names) (z6c I.t n env.scope.names) env.scope.names ok cs rest=true->(y2r rest).Nodup ->
   j3t I prog w A ownE env D L (q6w S elt rest) (z5n (.ListComp elt' gens scope cpos) elt' gens d (.ref D) env) (y2r rest):=by
 intro rest
 induction rest with
 | nil=>
  intro cs d L hdr hc hnd Y' g Z H Hb s pre o hfr R O hac hF hlen Q E q
  induction cs using List.casesOn with
  | cons _ _=>contradiction
  | nil=>
   have hg:gens[d+1]?=none:=by
    have:=List.drop_eq_nil_iff.mp hdr
    exact DC this
   unfold z5n
   rw [hg]
   dsimp only
   obtain⟨x,H2,h1,h2⟩:=M.bind_some hF
   obtain⟨rfl,rfl⟩:=M.pure_some (L:=L) h2
   refine AB (hE hA R O hce h1 _ _ fun v gb Z1 sB Gb Rb pB=>?_)
   obtain⟨oD,vs,a1,a2,a3,a4,a5⟩:=hac.grow (own:=[]) (by simp) Gb
   have hl:vs.length+1<=z2k:=by rw [a3.length];simpa using hlen
   refine AB (q6s a1 a2 (by lia) fun h' hh hs=>AJ ?_)
   obtain⟨o2,ho2,hq2⟩:=hh
   have hk:∀ a o,¬ (a=D)->sB.heap.get? a=some o->h'.get? a=some o:=fun a o hne e=>(hs.2 a hne).trans e
   have R2:SR I w.params gb Z1 H2 h':=Rb.off_ (fun a=>a=D) (fun a e=>e▸a4) (fun a i e=>e▸a5 i) hk
   have G2:z1c (D::ownE) L g Z H s gb Z1 H2 { sB with heap:=h' }:=z1c.touch (tk:=sB.toks) (Gb.own_le (by simp)) (fun a=>a=D) (fun a o e _=>e▸AD) hk (fun a o e _=>⟨o2,e▸ho2⟩)
   have O1:=O.step Gb
   have O2:z0j I ownE env Y' gb Z1 h':=by
    obtain⟨m,hm,hf⟩:=O1.ns
    exact {
     kind:=O1.kind,glob:=O1.glob,bi:=O1.bi,lg:=O1.lg,lb:=O1.lb,lown:=O1.lown,apart:=O1.apart,code:=O1.code
     ns:=⟨m,hm.at' fun o e=>hk _ _ (fun e'=>hDo (e'▸O1.lown)) e,hf⟩
     cells:=fun x hx=>by
      obtain⟨c,ov,b1,b2,b3,b4,b5,b6⟩:=O1.cells x hx
      refine⟨c,ov,b1,hk _ _ (fun e'=>?_) b2,b3,b4,b5,b6⟩
      subst e'
      rw [a1] at b2;injection b2 with b2;subst b2
      have:=a2.1;simp [k1w] at this
     ownz:=fun a ha=>by
      obtain⟨b1,b2,o,b3⟩:=O1.ownz a ha
      exact⟨b1,b2,o,hk _ _ (fun e'=>hDo (e'▸ha)) b3⟩ }
   exact q gb Z1 _ G2 R2 O2 ⟨o2,vs++[v],ho2,hq2,a3.append (.one pB),a4,a5⟩
 | cons gn rest ih=>
  intro cs d L hdr hc hnd Y' g Z H Hb s pre o hfr R O hac hF hlen Q E q
  induction cs using List.casesOn with
  | nil=>contradiction
  | cons c cs=>
   obtain⟨pat,k,args,ifs⟩:=gn
   obtain⟨h12,hcs⟩:=z0u hc
   obtain⟨hgen,hsrc⟩:=z0u h12
   obtain⟨hpat,has,hifs,hzt⟩:=z5v hgen
   have hlt:d+1<gens.length:=by
    rcases Nat.lt_or_ge (d+1) gens.length with h | h
    ·exact h
    ·rw [List.drop_eq_nil_of_le h] at hdr;contradiction
   have hg:gens[d+1]?=some c:=by
    rw [FR hlt] at hdr
    injection hdr with e1 e2
    rw [AN hlt,e1]
   have hdr2:gens.drop (d+1+1)=cs:=by
    rw [FR hlt] at hdr
    injection hdr with e1 e2
   unfold z5n
   rw [hg]
   dsimp only
   obtain⟨⟨items,up⟩,H2,h1,h2⟩:=M.bind_some hF
   unfold M.raised at h2
   dsimp only at h2
   have hDD:∀ {g:Fz} {Z:Bt} {h:Heap} {ps:List PV},z7r I D ps g Z h->g D=none/\(∀ i,Z i≠some D)/\∃ o,h.get? D=some o:=fun⟨o,vs,a1,a2,a3,a4,a5⟩=>⟨a4,a5,o,a1⟩
   have O':=O.addOwn (hDD hac).1 (hDD hac).2.1 (hDD hac).2.2
   have main:=j3g (Q:=fun it sC=>codeAny (model prog w) A (.compStart (.ListComp elt' gens scope cpos) (d+1) it (.ref D) env) (fun r s'=>match r with | .ok f=>Q () s' | .error e=>cameBackBy (model prog w) A env E e s') sC) (E:=E) T hE hA R O' hsrc h1 ?_
   ·refine AB (CZ main (fun x sB hx=>?_) fun _ _ e=>e)
    refine AB (BX ?_)
    refine AB (wpAny_of_eq (z9n hsrc x) ?_)
    refine AB (BW (CZ hx (fun it sC B7=>?_) fun _ _ e=>e))
    refine AB (wpAny_runOwn (codeAny_mono B7 fun r s' hr=>?_))
    cases r with
    | ok f=>exact AJ hr
    | error e=>exact hr
   ·intro it gb Z1 sB sC Gb Rb eC hk Fd
    have O1:=O.step Gb
    have hac1:=hac.grow (own:=[]) (by simp) Gb
    have hnd':(z2r pat++y2r rest).Nodup:=hnd
    have hfr':∀ k,k∈z2r pat++y2r rest->Y' k=none:=hfr
    have hin:=ih cs (d+1) (L.up up H2) hdr2 hcs (DI.mp hnd').2.1
    rw [y4z] at h2
    obtain⟨A7,fp,wr,Pi,Pt,St,rfl,W,st0,hval,hvalT,hfp,hwr⟩:=Fd
    have O1':=O1.addOwn (hDD hac1).1 (hDD hac1).2.1 (hDD hac1).2.2
    have R0:SR I w.params gb Z1 H2 sC.heap:=Rb.keepAll hk
    have G0:z1c (D::ownE) (L.up up H2) gb Z1 H2 sB gb Z1 H2 sC:=by rw [eC];exact z1c.keepAll hk
    have O0:z0j I ownE env Y' gb Z1 sC.heap:=O1.grow (s:=sB) (sB:=sC) (fun _ _ e=>e) (fun _ _ _=>rfl) (fun _ _ e=>e) (fun i a e e'=>by rw [e] at e';contradiction) (fun a o e _ _=>hk a o e)
    have acc0:z7r I D pre gb Z1 sC.heap:=hac1.keep (fun o a=>hk _ _ a) (fun _ _ e=>e) fun _ _=>rfl
    have loop:codeAny (model prog w) A (.compLoop (.ListComp elt' gens scope cpos) (d+1) (.ref A7) (.ref D) env) (fun r s'=>match r with | .ok f=>Q () s' | .error e=>cameBackBy (model prog w) A env E e s') sC:=
     y4y (L:=L.up up H2) T hT hA hok hall hDo hg hpat hifs hin hfr' hnd' Rb G0 R0 O0 acc0 (j3u hzt) W ⟨st0,hval,hvalT,hfp,hwr⟩ (fun b hb=>O1'.apart_of (hwr b hb).2.2) h2 hlen fun g' Z' s' G R' O2 hac2=>q g' Z' s' ((Gb.own_le (by simp)).trans R (z1c.unraise Rb G)) R' O2 hac2
    refine z4s hg (hall _ _ hg) loop ?_
    exact W.self 0 _ _ _ st0 loop
end
section
variable {I:z2s} {own own':List Addr} {L L':Lim} {w:World} {g g0 gb gC g':Fz} {Z Z0 Z1 Z2 Z':Bt} {H H0 Hb H2 H':z0b} {s sA sB sC s':Shared} {env:Env} {Y Y0 Y':z0l} {A:Around} {prog:Program} {lv n:Nat} {S:z6q} {C:z0g} {p q r:PV} {D:Addr} {P:Params}
noncomputable def z9o(env:Env):List (Str×NameKind)->List (Str×Addr)->List (Str×Addr)
 | [],acc=>acc
 | (x,k)::r,acc=>if k==.free then z9o env r ((x,(env.cells.lookup x).getD 0)::acc) else z9o env r acc
theorem j3v:∀ (names:List (Str×NameKind)) (acc:List (Str×Addr)) (f:Str×NameKind->List (Str×Addr)->Sem (ForInStep (List (Str×Addr)))),
  (∀ x k cs,f (x,k) cs=if k==.free then(do let c<-cellOf env x;pure (.yield ((x,c)::cs))) else pure (.yield cs)) ->
  (∀ x,x∈names->x.2=.free->∃ c,env.cells.lookup x.1=some c)->forIn names acc f=pure (z9o env names acc)
 | [],acc,f,hf,h=>rfl
 | (x,k)::r,acc,f,hf,h=>by
  rw [FE,hf]
  unfold z9o
  by_cases hk:(k==NameKind.free)=true
  ·rw [AR hk,AR hk]
   obtain⟨c,hc⟩:=h (x,k) AD (by simpa using hk)
   unfold cellOf
   dsimp only at hc
   rw [hc]
   simp only [pure_bind,Option.getD_some]
   exact j3v r _ f hf fun y hy=>h y (AE _ hy)
  ·rw [AT hk,AT hk]
   simp only [pure_bind]
   exact j3v r _ f hf fun y hy=>h y (AE _ hy)
theorem q9v{scope:Scope}(h:∀ x,x∈scope.names->x.2=.free->∃ c,env.cells.lookup x.1=some c):closureFor scope env=pure (z9o env scope.names []):=by
 unfold closureFor
 show(forIn scope.names ([]:List (Str×Addr)) _>>=fun x=>pure x)=_
 rw [j3v scope.names [] _ (fun x k cs=>by
  cases hk:k==NameKind.free<;>simp [hk]) h]
 rfl
theorem q4m:∀ {names:List (Str×NameKind)} {acc:List (Str×Addr)} {x:Str} {c:Addr},(x,c)∈z9o env names acc->(x,c)∈acc\/((x,NameKind.free)∈names/\c=(env.cells.lookup x).getD 0)
 | [],acc,x,c,h=>.inl h
 | (y,k)::r,acc,x,c,h=>by
  unfold z9o at h
  split at h
  ·rename_i hk
   have hk':k=.free:=by simpa using hk
   rcases q4m h with h | ⟨h,e⟩
   ·rcases AQ.mp h with h | h
    ·cases h;exact .inr ⟨by rw [hk'];exact AD,rfl⟩
    ·exact .inl h
   ·exact .inr ⟨AE _ h,e⟩
  ·rcases q4m h with h | ⟨h,e⟩
   ·exact .inl h
   ·exact .inr ⟨AE _ h,e⟩
theorem y8x:∀ {names:List (Str×NameKind)} {acc:List (Str×Addr)} {x:Str×Addr},x∈acc->x∈z9o env names acc
 | [],acc,x,h=>h
 | (y,k)::r,acc,x,h=>by
  unfold z9o
  split
  ·exact y8x (AE _ h)
  ·exact y8x h
theorem y8y:∀ {names:List (Str×NameKind)} {acc:List (Str×Addr)} {x:Str},(x,NameKind.free)∈names->∃ c,(x,c)∈z9o env names acc
 | [],acc,x,h=>by contradiction
 | (y,k)::r,acc,x,h=>by
  unfold z9o
  rcases AQ.mp h with h | h
  ·cases h
   rw [AR (by rfl)]
   exact⟨_,y8x AD⟩
  ·split
   ·exact y8y h
   ·exact y8y h
theorem q9w{scope:Scope}{globals:Addr}{cl:List (Str×Addr)}{qual:Str}{outer:Env}{Q:Env->Shared->Prop}{E:Value->Shared->Prop}
 (h:Q { scope:=scope,locals:=s.heap.objs.size,globals:=globals,cells:=cellsFrom (s.heap.objs.size+1) scope.names cl,qual:=qual,func:=none,code:=outer.code,frame:=outer.frame,builtins:=outer.builtins } { s with heap:=pushCells (s.heap.push { cls:=.type "dict",data:=.dict #[] }) scope.names }) :
  wpAny (model prog w) A (newFunctionEnv scope globals cl [] qual none .none (some outer)) Q E s:=by
 simp only [newFunctionEnv,Option.isSome_some,if_true]
 refine AB (wpAny_alloc ?_)
 refine AB (wpAny_layCells _ (fun name kind cells=>by cases hkc:kind==NameKind.cell<;>simp [hkc]) _ _ _ _ ?_)
 rw [show({ s with heap:=s.heap.push { cls:=.type "dict",data:=.dict #[] } }:Shared).heap.objs.size=s.heap.objs.size+1 from FM ..]
 rw [List.forIn_nil]
 exact AB (AJ (AJ h))
theorem y7a{f:Str×NameKind->Str×NameKind}(hf:∀ x,(f x).1=x.1):∀ {names:List (Str×NameKind)} {x:Str},(names.map f).lookup x=(names.lookup x).map fun k=>(f (x,k)).2
 | [],x=>rfl
 | (y,k)::r,x=>by
  have e0:f (y,k)=(y,(f (y,k)).2):=Prod.ext (hf (y,k)) rfl
  rw [BP,e0,DX,DX]
  induction e:x==y using Bool.casesOn with
  | true=>have:x=y:=BE.mp e;subst this;rfl
  | false=>exact y7a hf
theorem z9g{cE cT:Expr->ME->Bool}{sc:Sc}{ok:Str->Bool}:∀ {cs:List Comprehension} {gs:List (Pat×z5w×List ME×List ME)},y3l I.t cE cT sc ok cs gs=true->∀ (i:Nat) (c:Comprehension),cs[i]?=some c->c.is_async=0
 | [],gs,h,i,c,hc=>by simp at hc
 | c0::cs,[],h,i,c,hc=>by contradiction
 | c0::cs,gn::gs,h,i,c,hc=>by
  obtain⟨h1,h2⟩:=z0u h
  have h5:=(z5v (z0u h1).1).2.1
  induction i using Nat.casesOn with
  | zero=>simp at hc;subst hc;simpa using h5
  | succ i=>simp at hc;exact z9g h2 i c hc
theorem z6z{scope:Scope}(hk:env.scope.kind=.function):(relabel scope env).names=z4j env.scope.names scope.names:=by
 unfold relabel z4j
 dsimp only
 apply CH
 rintro⟨x,k⟩ _
 have e:(env.scope.kind==ScopeKind.function)=true:=by rw [hk];rfl
 dsimp only [Env.kindOf]
 rw [e,Bool.and_true]
 rfl
theorem z5c{sc inner:Sc}{x:Str}:(z4j sc inner).lookup x=(inner.lookup x).map fun k=>if k==.free&&sc.lookup x==some .cell then .cell else k:=by
 unfold z4j
 rw [y7a (fun y=>by split<;>rfl)]
 congr 1
 funext k
 dsimp only
 split<;>rfl
theorem j3w{h:Heap}(e:sC={ sB with heap:=sC.heap,toks:=sC.toks }):({ sC with heap:=h }:Shared)={ sB with heap:=h,toks:=sC.toks }:=by rw [e]
theorem z5o{k:Nat}{names:List (Str×NameKind)}{a:Addr}(h:a∈z3d k names):k<=a:=by
 rcases AQ.mp h with h | h
 ·rw [h];exact AL _
 ·obtain⟨⟨x,c⟩,hm,rfl⟩:=AY.mp h
  exact DD (z3e _ _ _ _ hm).1
theorem q6x{vs:List Nat}{k:Nat}(h:k∈vs):clear Y vs k=none:=by
 unfold clear
 rw [AR (by simpa using h)]
theorem x0g{vs:List Nat}{k:Nat}{p:PV}(h:clear Y vs k=some p):Y k=some p:=by
 unfold clear at h
 split at h
 ·contradiction
 ·exact h
theorem x7v{elt:ME}{pat:Pat}{kk:z5w}{args ifs:List ME}{rest:List (Pat×z5w×List ME×List ME)}{out:List PV}{G:Prop}(h:z9y S elt Y ((pat,kk,args,ifs)::rest) L H=some (out,H'))
 (k:∀ items up Hb,z8z S Y kk args L H=some ((items,up),Hb)->(z3b S elt (clear Y (z2r pat++y2r rest)) pat ifs rest items) (L.up up Hb) Hb=some (out,H')->out.length<=z2k->G):G:=by
 obtain⟨r,Hb,h1,h2⟩:=M.bind_some h
 obtain⟨l,H2,h4,h5⟩:=M.bind_some h2
 obtain⟨hl,h6⟩:=M.if_some h5
 have e:=M.pure_some (L:=L) h6
 exact k r.1 r.2 Hb h1 (e.1▸e.2▸h4) (e.1▸AK hl)
theorem y5a{elt:ME}{elt':Expr}{c:Comprehension}{cs:List Comprehension}{inner:Scope}{cpos pos2:Pos}{gs:List (Pat×z5w×List ME×List ME)}{out:List PV}{use:Option (Value->Sem Unit)}{Q:Value->Shared->Prop}{E:Value->Shared->Prop}
 (T:z0r I)(hE:z4l I prog w lv S.ev)(hT:q0c I prog w lv S.ts)(hA:AOk A lv)(R:SR I w.params g Z H s.heap)(O:z0j I own env Y g Z s.heap)
 (hblk:y0j I.t env.scope.names inner gs=true)(hcomp:q0x I.t (z0m I.t n) (z6c I.t n) env.scope.names (z4j env.scope.names inner.names) (fun x=>inner.names.lookup x==some .local || inner.names.lookup x==some .cell) (c::cs) gs=true)
 (hce:z0m I.t n (z4j env.scope.names inner.names) elt' elt=true)(h:z9y S elt Y gs L H=some (out,H'))
 (k:∀ D C g' Z' s' m,s.heap.get? C=none->z1c [] L g Z H s g' Z' H' s'->SR I w.params g' Z' H' s'.heap->Rel I g' Z' (.ref D) (.lst out)->s'.heap.Ns C m->g' C=none->(∀ i,Z' i≠some C)->compPost (model prog w) A E use Q (.ref D) C (.ok .next) s') :
  wpAny (model prog w) A (comprehension (.ListComp elt' (c::cs) inner cpos) inner env pos2 (newList []) false (eval c.iter env) use) Q E s:=by
 induction gs using List.casesOn with
 | nil=>contradiction
 | cons gn rest=>
 obtain⟨pat,kk,args,ifs⟩:=gn
 have hcs:=(z0u hcomp).2
 have hsrc:=(z0u (z0u hcomp).1).2
 have hgen:=z5v (z0u (z0u hcomp).1).1
 have hpat:=hgen.1
 have has:=hgen.2.1
 have hifs:=hgen.2.2.1
 have hzt:=hgen.2.2.2
 have hkinds:=(z0u hblk).2
 have hnd':(z2r pat++y2r rest).Nodup:=AK (z0u (z0u hblk).1).2
 have hkind:inner.kind=.function:=by simpa using (z0u (z0u (z0u hblk).1).1).1
 have hlook:∀ x,x∈inner.names->inner.names.lookup x.1=some x.2:=fun x hx=>by simpa using BA.mp (z0u (z0u (z0u hblk).1).1).2 x hx
 have hkd:∀ x,x∈inner.names->_:=fun x hx=>BA.mp hkinds x hx
 refine x7v h fun items up Hb h1 h4 hlen=>?_
 clear h hgen
 have hfree:∀ x,x∈inner.names->x.2=.free->∃ c,env.cells.lookup x.1=some c:=fun x hx hf=>by
  have:=hkd x hx
  rw [hf] at this
  have hh:env.kindOf x.1=some .cell\/env.kindOf x.1=some .free:=by
   rcases CD.mp this with h | h
   ·exact .inl (BE.mp h)
   ·exact .inr (BE.mp h)
  obtain⟨c,ov,h1,_⟩:=O.cells x.1 hh
  exact⟨c,h1⟩
 refine wpAny_comprehension_free rfl (z9n hsrc) (q9v hfree) hkind (fun x hx hl=>by rw [hlook x hx,hl]) ?_
 refine j3g (own:=own) T hE hA R O hsrc h1 fun it gb Z1 sB sC Gb Rb eC hk Fd=>?_
 have hn2:=get?_size sC.heap
 have Ob:=O.step Gb
 have Rc:SR I w.params gb Z1 Hb sC.heap:=Rb.keepAll hk
 have Oc:z0j I own env Y gb Z1 sC.heap:=Ob.grow (s:=sB) (sB:=sC) (fun _ _ e=>e) (fun _ _ _=>rfl) (fun _ _ e=>e) (fun i a e e'=>by rw [e] at e';contradiction) (fun a o e _ _=>hk a o e)
 refine FG ?_ (by size_fits)
 have hk3:∀ b o,sC.heap.get? b=some o->(sC.heap.push (z5t [] 0)).get? b=some o:=fun b o e=>AU _ e
 have Rd:SR I w.params gb Z1 Hb (sC.heap.push (z5t [] 0)):=Rc.keepAll hk3
 have O3:z0j I own env Y gb Z1 (sC.heap.push (z5t [] 0)):=(Oc.step (y3q (own:=[]) (L:=L) Rc (z5t [] 0)):z0j I own env Y gb Z1 _)
 have hsz3:(sC.heap.push (z5t [] 0)).objs.size=sC.heap.objs.size+1:=FM ..
 refine q9w (s:={ sC with heap:=sC.heap.push (z5t [] 0) }) ?_
 dsimp only
 have hk4:∀ b o,(sC.heap.push (z5t [] 0)).get? b=some o->(pushCells ((sC.heap.push (z5t [] 0)).push { cls:=.type "dict",data:=.dict #[] }) inner.names).get? b=some o:=fun b o e=>FD _ _ _ _ (AU _ e)
 have hks:∀ x,((z4j env.scope.names inner.names).lookup x=some .cell\/(z4j env.scope.names inner.names).lookup x=some .free)->(x,NameKind.cell)∈inner.names\/(x,NameKind.free)∈inner.names:=by
  intro x hx
  rw [z5c] at hx
  induction hl:inner.names.lookup x using Option.casesOn with
  | none=>rw [hl] at hx;rcases hx with h | h<;>contradiction
  | some kd=>
   rw [hl] at hx
   have hm:=mem_of_lookup hl
   simp only [GC,Option.some.injEq] at hx
   cases kd with
   | cell=>exact .inl hm
   | free=>exact .inr hm
   | «local»=>rcases hx with h | h<;>simp at h
   | globalImplicit=>rcases hx with h | h<;>simp at h
   | globalExplicit=>rcases hx with h | h<;>simp at h
 have hgens:∀ (x:Str) (kk':Nat),q6m I.t ((pat,kk,args,ifs)::rest) x=true->I.nm[kk']?=some x->kk'∈z2r pat++y2r rest:=by
  intro x j hgx hj
  unfold q6m at hgx
  obtain⟨gn,hgn,h2⟩:=DG.mp hgx
  obtain⟨j',hj',h3⟩:=DG.mp h2
  have:j=j':=q0s T.nd hj (by simpa using h3)
  subst this
  rcases AQ.mp hgn with h | h
  ·subst h;exact CN _ hj'
  ·exact BU _ (CX.mpr ⟨gn,h,hj'⟩)
 have hclmem:∀ x c,(x,c)∈z9o env inner.names []->(x,NameKind.free)∈inner.names/\env.cells.lookup x=some c:=by
  intro x c hm
  rcases q4m hm with h | ⟨h,e⟩
  ·contradiction
  ·obtain⟨c',hc'⟩:=hfree _ h rfl
   dsimp only at hc'
   rw [hc'] at e
   exact⟨h,by rw [e];exact hc'⟩
 have hfk:∀ x,(x,NameKind.free)∈inner.names->env.kindOf x=some .cell\/env.kindOf x=some .free:=fun x hx=>by
  have:=hkd _ hx
  rcases CD.mp this with h | h
  ·exact .inl (BE.mp h)
  ·exact .inr (BE.mp h)
 have O4:z0j I (z3d (sC.heap.push (z5t [] 0)).objs.size inner.names) { scope:=relabel inner env,locals:=(sC.heap.push (z5t [] 0)).objs.size,globals:=env.globals,cells:=cellsFrom ((sC.heap.push (z5t [] 0)).objs.size+1) inner.names (z9o env inner.names []),qual:=env.qual,func:=none,code:=env.code,frame:=env.frame,builtins:=env.builtins } (clear Y (z2r pat++y2r rest)) gb Z1
   (pushCells ((sC.heap.push (z5t [] 0)).push { cls:=.type "dict",data:=.dict #[] }) inner.names):=by
  refine y4x (Heap.Ns.new _ _) Rd rfl rfl hkind O.glob O.bi O.code (fun x c hm=>?_) (fun x y c h1 h2=>?_) (fun x hx=>?_) (fun j x hj hx=>?_)
  ·obtain⟨h1,h2⟩:=hclmem x c hm
   obtain⟨c',ov,b1,b2,b3,b4,b5,b6⟩:=O3.cells x (hfk x h1)
   rw [h2] at b1;injection b1 with b1;subst b1
   exact⟨ov,b2,b4,b5,fun j p hj hp=>b6 j p hj (x0g hp)⟩
  ·exact O.apart x y c (hclmem x c h1).2 (hclmem y c h2).2
  ·have hx':(z4j env.scope.names inner.names).lookup x=some .cell\/(z4j env.scope.names inner.names).lookup x=some .free:=by
    rw [<- z6z O.kind];exact hx
   rcases hks x hx' with h | h
   ·exact .inl h
   ·exact .inr (y8y h)
  ·apply q6x
   have hloc:(x,NameKind.local)∈inner.names\/(x,NameKind.cell)∈inner.names:=by
    rcases hx with h | h
    ·have h':(z4j env.scope.names inner.names).lookup x=some .local:=by rw [<- z6z O.kind];exact h
     rw [z5c] at h'
     induction hl:inner.names.lookup x using Option.casesOn with
     | none=>rw [hl] at h';contradiction
     | some kd=>
      rw [hl] at h'
      simp only [GC,Option.some.injEq] at h'
      have hm:=mem_of_lookup hl
      split at h'
      ·contradiction
      ·subst h';exact .inl hm
    ·exact .inr h
   rcases hloc with h | h
   ·have:=hkd _ h
    rcases CD.mp this with h0 | h0
    ·obtain⟨h1,h2⟩:=z0u h0
     exfalso
     have hx0:x=(".0":Str):=BE.mp h1
     have:I.nm.contains (".0":Str)=true:=by
      rw [<- hx0];simpa using CE hj
     rw [this] at h2;contradiction
    ·exact hgens x j h0 hj
   ·exact hgens x j (hkd _ h) hj
 generalize hcenv:({ scope:=relabel inner env,locals:=(sC.heap.push (z5t [] 0)).objs.size,globals:=env.globals,cells:=cellsFrom ((sC.heap.push (z5t [] 0)).objs.size+1) inner.names (z9o env inner.names []),qual:=env.qual,func:=none,code:=env.code,frame:=env.frame,builtins:=env.builtins }:Env)=cenv at O4 ⊢
 have hN:cenv.scope.names=z4j env.scope.names inner.names:=by rw [<- hcenv];exact z6z O.kind
 have hCloc:cenv.locals=(sC.heap.push (z5t [] 0)).objs.size:=by rw [<- hcenv]
 have hcells:cenv.cells=cellsFrom ((sC.heap.push (z5t [] 0)).objs.size+1) inner.names []++z9o env inner.names []:=by rw [<- hcenv,<- z1u]
 rw [<- hN] at hce hcs hifs
 have hok:∀ x,(inner.names.lookup x==some .local || inner.names.lookup x==some .cell)=true->Mine.storeable cenv (z3d (sC.heap.push (z5t [] 0)).objs.size inner.names) x:=by
  intro x hx
  rcases CD.mp hx with h | h
  ·refine .inl ?_
   show cenv.scope.names.lookup x=_
   rw [hN,z5c,BE.mp h]
   rfl
  ·obtain⟨c',hc'⟩:=z3l inner.names ((sC.heap.push (z5t [] 0)).objs.size+1) x (mem_of_lookup (BE.mp h))
   obtain⟨c'',hc''⟩:=z2e hc'
   refine .inr ⟨c'',?_,?_,?_⟩
   ·show cenv.scope.names.lookup x=_
    rw [hN,z5c,BE.mp h]
    rfl
   ·rw [hcells,z6h,hc''];rfl
   ·exact AE _ (AY.mpr ⟨(x,c''),mem_of_lookup hc'',rfl⟩)
 have hall:∀ (i:Nat) (c':Comprehension),(c::cs)[i]?=some c'->c'.is_async=0:=by
  intro i c' hi
  induction i using Nat.casesOn with
  | zero=>simp at hi;subst hi;simpa using has
  | succ i=>simp at hi;exact z9g hcs i c' hi
 have hDlt:sC.heap.objs.size<(sC.heap.push (z5t [] 0)).objs.size:=by rw [hsz3];exact DY _
 have hDo:sC.heap.objs.size∉z3d (sC.heap.push (z5t [] 0)).objs.size inner.names:=fun m=>EV _ (BN hDlt (z5o m))
 have hin:=x0f (D:=sC.heap.objs.size) (scope:=inner) (cpos:=cpos) T hE hT hA hok hce hall hDo rest cs 0 (L.up up Hb) rfl hcs (DI.mp hnd').2.1
 have hnb:∀ i,Z1 i≠some sC.heap.objs.size:=fun i e=>by obtain⟨o,ho⟩:=Rc.here e;rw [hn2] at ho;contradiction
 have acc0:z7r I sC.heap.objs.size [] gb Z1 (pushCells ((sC.heap.push (z5t [] 0)).push { cls:=.type "dict",data:=.dict #[] }) inner.names):=
  ⟨z5t [] 0,[],hk4 _ _ (BJ _ rfl),y8k [] 0,.nil,Rc.gfree hn2,hnb⟩
 have hk14:∀ b o,sB.heap.get? b=some o->(pushCells ((sC.heap.push (z5t [] 0)).push { cls:=.type "dict",data:=.dict #[] }) inner.names).get? b=some o:=fun b o e=>hk4 _ _ (hk3 _ _ (hk _ _ e))
 obtain⟨A7,fp,wr,Pi,Pt,St,rfl,W,st0,hval,hvalT,hfp,hwr⟩:=Fd
 have st4:St 0 (pushCells ((sC.heap.push (z5t [] 0)).push { cls:=.type "dict",data:=.dict #[] }) inner.names):=W.frame _ _ _ st0 fun b _ o e=>hk4 _ _ (hk3 _ _ e)
 have hlt2:∀ b,b∈fp->b<sC.heap.objs.size:=fun b hb=>by obtain⟨⟨o,ho⟩,_⟩:=hfp b hb;exact CV ho
 have hno:∀ b,b∈fp->b∉sC.heap.objs.size::z3d (sC.heap.push (z5t [] 0)).objs.size inner.names:=fun b hb m=>by
  rcases AQ.mp m with m | m
  ·exact absurd m (DK (hlt2 b hb))
  ·exact EV _ (BS (BN (BS (hlt2 b hb) hDlt) (z5o m)) (DY _) |> fun _=>BN (BS (hlt2 b hb) hDlt) (z5o m))
 have hsep:∀ b,b∈wr->j3c (sC.heap.objs.size::z3d (sC.heap.push (z5t [] 0)).objs.size inner.names) cenv b:=fun b hb=>by
  have hbf:=W.sub b hb
  refine⟨by rw [hCloc];exact DK (BS (hlt2 b hbf) hDlt),fun x cc hx hc e=>?_,hno b hbf⟩
  rw [hcells,z6h] at hc
  induction hl:(cellsFrom ((sC.heap.push (z5t [] 0)).objs.size+1) inner.names []).lookup x using Option.casesOn with
  | some c1=>
   rw [hl] at hc;injection hc with hc;subst hc
   have:=(z3e _ _ _ _ (mem_of_lookup hl)).1
   rw [<- e] at this
   exact EV _ (BN (BS (hlt2 b hbf) hDlt) (DD this))
  | none=>
   rw [hl] at hc
   obtain⟨h1,h2⟩:=hclmem x cc (mem_of_lookup (by simpa using hc))
   obtain⟨c',ov,b1,b2,_⟩:=Ob.cells x (hfk x h1)
   rw [h2] at b1;injection b1 with b1;subst b1
   rw [<- e,(hwr b hb).2.2] at b2;contradiction
 have F0:y0p I (sC.heap.objs.size::z3d (sC.heap.push (z5t [] 0)).objs.size inner.names) (L.up up Hb) gb Z1 Hb items sB.heap fp wr Pi Pt St 0 (pushCells ((sC.heap.push (z5t [] 0)).push { cls:=.type "dict",data:=.dict #[] }) inner.names):=
  ⟨st4,hval,hvalT,fun b hb=>by obtain⟨⟨o,ho⟩,_,h2⟩:=hfp b hb;exact⟨⟨o,hk4 _ _ (hk3 _ _ ho)⟩,hno b hb,h2⟩,hwr⟩
 have freshS:∀ a,sC.heap.objs.size<=a->s.heap.get? a=none:=fun a ha=>by
  induction e:s.heap.get? a using Option.casesOn with
  | none=>rfl
  | some o=>
   obtain⟨o',h'⟩:=Gb.alive a o e
   exact absurd (CV (hk _ _ h')) (CF.mpr ha)
 rw [y4z] at h4
 rw [j3w eC]
 have loop:=y4y (L:=L.up up Hb) (s:={ sB with heap:=pushCells ((sC.heap.push (z5t [] 0)).push { cls:=.type "dict",data:=.dict #[] }) inner.names,toks:=sC.toks }) (sA:=sB) (pre:=[]) (Rr:=compPost (model prog w) A E use Q (.ref sC.heap.objs.size) cenv.locals) T hT hA hok hall hDo (d:=0) rfl hpat hifs hin (fun j hj=>q6x hj) hnd'
  Rb (z1c.keepAll hk14) (Rb.keepAll hk14) O4 acc0 (j3u hzt) W F0 hsep h4 (by simpa using hlen) fun g' Z' s' G R' O' hac=>by
   obtain⟨oD,vs,a1,a2,a3,a4,a5⟩:=hac
   obtain⟨m,hm,_⟩:=O'.ns
   have Gt:z1c [] L g Z H s g' Z' _ s':=((Gb.own_le (own2:=sC.heap.objs.size::z3d (sC.heap.push (z5t [] 0)).objs.size inner.names) (by simp)).trans R (z1c.unraise Rb G)).leave fun a ha=>.inl (by
    rcases AQ.mp ha with h | h
    ·rw [h];exact freshS _ (AL _)
    ·exact freshS _ (BR (BN hDlt (z5o h))))
   have hCD:cenv.locals≠sC.heap.objs.size:=by rw [hCloc];exact DO hDlt
   refine k sC.heap.objs.size cenv.locals _ Z' s' m (by rw [hCloc];exact freshS _ (BR hDlt)) (Gt.freeze (o:=oD) (freshS _ (AL _)) a4) (R'.freeze a1 a4 a5) (.lst (z2i ..) a2 ?_ (by simpa using a3.mono (z2w a4) fun _ _ e=>e)) hm ?_ O'.lb
   ·rw [a3.length];simpa using hlen
   ·unfold y4j;rw [AT hCD];exact O'.lg
 rw [hCloc] at loop
 exact z4s (d:=0) rfl (hall 0 c rfl) loop (W.self 0 _ _ _ st4 loop)
end
section
variable {I:z2s} {own own':List Addr} {L L':Lim} {w:World} {g g0 gb gC g':Fz} {Z Z0 Z1 Z2 Z':Bt} {H H0 Hb H2 H':z0b} {s sA sB sC s':Shared} {env:Env} {Y Y0 Y':z0l} {A:Around} {prog:Program} {lv n:Nat} {S:z6q} {C:z0g} {p q r:PV} {D:Addr}
theorem y7b{c:Comprehension}{cs:List Comprehension}(h:c.is_async=0):firstAsync (c::cs)=false/\firstIter (c::cs) env=eval c.iter env:=by
 obtain⟨t,i,f,a⟩:=c
 dsimp only at h
 subst h
 exact⟨rfl,rfl⟩
theorem z9h{sc sc':Sc}{ok:Str->Bool}{c:Comprehension}{cs:List Comprehension}{gs:List (Pat×z5w×List ME×List ME)}(h:q0x I.t (z0m I.t n) (z6c I.t n) sc sc' ok (c::cs) gs=true):c.is_async=0:=by
 induction gs using List.casesOn with
 | nil=>contradiction
 | cons gn gs=>
  obtain⟨h12,_⟩:=z0u h
  exact BO (z5v (z0u h12).1).2.1
theorem x4u{C:Addr}{h':Heap}(G:z1c own L g Z H s gb Z1 Hb sB)(R:SR I w.params gb Z1 Hb sB.heap)(hC:s.heap.get? C=none)(hg:gb C=none)(hb:∀ i,Z1 i≠some C)(hs:Heap.SameBut C sB.heap h') :
  z1c own L g Z H s gb Z1 Hb { sB with heap:=h' }/\SR I w.params gb Z1 Hb h':=by
 have hk:∀ a o,¬ a=C->sB.heap.get? a=some o->h'.get? a=some o:=fun a o hne e=>(hs.2 a hne).trans e
 refine⟨{ G with
  kept:=fun a o h n f=>hk a o (fun e=>by rw [e,hC] at h;contradiction) (G.kept a o h n f)
  alive:=fun a o h=>by
   obtain⟨o',h1⟩:=G.alive a o h
   exact⟨o',hk a o' (fun e=>by rw [e,hC] at h;contradiction) h1⟩
  rest:=by rw [G.rest] },R.off_ (fun a=>a=C) (fun a e=>e▸hg) (fun a i e=>e▸hb i) hk⟩
theorem x7w{elt:ME}{elt':Expr}{cs:List Comprehension}{inner:Scope}{cpos:Pos}{gs:List (Pat×z5w×List ME×List ME)}
 (T:z0r I)(hE:z4l I prog w lv S.ev)(hT:q0c I prog w lv S.ts)(hA:AOk A lv)(R:SR I w.params g Z H s.heap)(O:z0j I own env Y g Z s.heap)
 (hblk:y0j I.t env.scope.names inner gs=true)(hcomp:q0x I.t (z0m I.t n) (z6c I.t n) env.scope.names (z4j env.scope.names inner.names) (fun x=>inner.names.lookup x==some .local || inner.names.lookup x==some .cell) cs gs=true)
 (hce:z0m I.t n (z4j env.scope.names inner.names) elt' elt=true)(h:z1i I.P C S Y (.comp elt gs) L H=some (p,H')) :
  Go I prog w A [] L g Z H (eval (.ListComp elt' cs inner cpos) env) H' (P.val I p) s:=by
 obtain⟨out,Hb,h1,h2⟩:=M.bind_some h
 obtain⟨rfl,rfl⟩:=M.pure_some (L:=L) h2
 induction cs using List.casesOn with
 | nil=>contradiction
 | cons c cs=>
  obtain⟨a1,a2⟩:=y7b (env:=env) (cs:=cs) (z9h hcomp)
  intro Q E q
  rw [eval_ListComp,a1,a2]
  refine y5a T hE hT hA R O hblk hcomp hce h1 fun D C g' Z' s' m hC G R' hr hm hg hb=>?_
  refine⟨m,hm,fun h' hs=>?_⟩
  obtain⟨G2,R2⟩:=x4u G R' hC hg hb hs
  exact q _ g' Z' _ G2 R2 hr
theorem y8z{elt:ME}{elt' t:Expr}{pt:Pat}{cs:List Comprehension}{inner:Scope}{cpos pos:Pos}{gs:List (Pat×z5w×List ME×List ME)}{fl:Fl}
 (T:z0r I)(hS:∀ {L H q H2},S.ev Y (.comp elt gs) L H=some (q,H2)->∃ out,q=.lst out/\∃ S':z6q,z4l I prog w lv S'.ev/\q0c I prog w lv S'.ts/\z9y S' elt Y gs L H=some (out,H2))(hA:AOk A lv)(R:SR I w.params g Z H s.heap)(O:z0j I own env Y g Z s.heap)
 (hsto:∀ x,z1k env.scope.names x=true->Mine.storeable env own x)(hsw:z3k env.scope.names (.ListComp elt' cs inner cpos) t=true)
 (hp:z5k I.t (z1k env.scope.names) t pt=true)
 (hblk:y0j I.t env.scope.names inner gs=true)(hcomp:q0x I.t (z0m I.t n) (z6c I.t n) env.scope.names (z4j env.scope.names inner.names) (fun x=>inner.names.lookup x==some .local || inner.names.lookup x==some .cell) cs gs=true)
 (hce:z0m I.t n (z4j env.scope.names inner.names) elt' elt=true)(h:z4b I.P C S Y (.assign pt (.comp elt gs)) L H=some (fl,H')) :
  Go I prog w A own L g Z H (exec (.Assign [t] (.ListComp elt' cs inner cpos) pos) env) H' (z4e I own env fl) s:=by
 obtain⟨v,Hb,h1,h2⟩:=M.bind_some h
 obtain⟨Y1,H2,h3,h4⟩:=M.bind_some h2
 obtain⟨hb,rfl⟩:=M.ofOpt_some h3
 obtain⟨rfl,rfl⟩:=M.pure_some (L:=L) h4
 obtain⟨out,rfl,S',hE,hT,hcm⟩:=hS h1
 induction cs using List.casesOn with
 | nil=>contradiction
 | cons c cs=>
  obtain⟨a1,a2⟩:=y7b (env:=env) (cs:=cs) (z9h hcomp)
  have hst:z8c t=false:=q0y hp
  intro Q E q
  have e2:(assignEach [t] env).map (·.2)=[assign t env]:=by cases t<;>first | rfl | contradiction
  have ee:exec (.Assign [t] (.ListComp elt' (c::cs) inner cpos) pos) env=(do
    PySem.standAt pos
    if<-swapsWithSole [t] (.ListComp elt' (c::cs) inner cpos) pos.line env then do
     evalThenUse (.ListComp elt' (c::cs) inner cpos) env fun v=>assignAll v ((assignEach [t] env).map (·.2))
     pure .next
    else do
     let v<-eval (.ListComp elt' (c::cs) inner cpos) env
     assignStores env v (<- swappedStores [t] (.ListComp elt' (c::cs) inner cpos) env) ((assignEach [t] env).map (·.2))):=rfl
  rw [ee,e2]
  refine AB (BX (AB (m:=swapsWith (.ListComp elt' (c::cs) inner cpos) (some t) pos.line env) ?_))
  rw [y2o O.kind rfl,hsw]
  refine AJ ?_
  rw [AR rfl,arm_evalThenUse_ListComp,a1,a2]
  refine AB (AB ?_)
  refine y5a (Q:=fun _ s'=>wpAny (model prog w) A (pure ()) (fun _ s''=>wpAny (model prog w) A (pure Flow.next) Q E s'') E s') T hE hT hA R O hblk hcomp hce hcm fun D C g' Z' s' m hC G R' hr hm hg hbb=>?_
  show wpAny (model prog w) A (assign t env (.ref D)) _ E s'
  have O':=O.step G
  refine y0g (L:=L) T.nd hsto hA hp R' O' hr hb _ _ fun _ gC Z2 sC Gc Rc pC=>?_
  obtain⟨mm,es,ep,hC1,hC2⟩:=id hm
  have hCown:C∉own:=fun mm'=>by
   obtain⟨_,_,o,ho⟩:=O.ownz C mm'
   rw [hC] at ho;contradiction
  have keepC:sC.heap.get? C=some mm:=Gc.kept C mm hC1 hCown (z2o hbb)
  have hg2:gC C=none:=by rw [Gc.gold C mm hC1];exact hg
  have hb2:∀ i,Z2 i≠some C:=fun i e=>by
   induction q':Z' i using Option.casesOn with
   | none=>have:=Gc.bnew i _ q' e;rw [hC1] at this;contradiction
   | some b=>rw [Gc.ble i b q'] at e;injection e with e;subst e;exact hbb i q'
  refine⟨m,⟨mm,es,ep,keepC,hC2⟩,fun h' hs=>AJ (AJ ?_)⟩
  obtain⟨G3,R3⟩:=x4u ((G.own_le (own2:=own) (by simp)).trans R Gc) Rc hC hg2 hb2 hs
  refine q .next gC Z2 _ G3 R3 ⟨rfl,?_⟩
  exact pC.1.touch (fun a=>a=C) (fun a e=>by
   subst e
   exact(O.apart_of hC)) fun a o hne e=>(hs.2 a hne).trans e
end
section
variable {I:z2s} {w:World} {prog:Program} {lv:Nat} {S:z6q} {C:z0g}
theorem q9x{r:Option (Option (List Str))}{p:Pat}(h:x4r r p=true):r=some none\/∃ l,r=some (some l)/\y3n p=true:=by
 match r,h with
 | some none,_=>exact .inl rfl
 | some (some l),h=>exact .inr ⟨l,rfl,h⟩
theorem q4n{x:ME}(h:j2j x=true):∃ elt gs,x=.comp elt gs:=ME.comp.elim (motive_1:=fun x=>∃ elt gs,x=.comp elt gs) x (BO h) fun elt gs=>⟨elt,gs,rfl⟩
theorem k4g{G:Stmt->Prop}{e:Stmt}(h:(e.ctorIdx==26)=true)(f:∀ p,G (.Break p)):G e:=Stmt.Break.elim (motive_2:=G) e (BO h) f
theorem y0r{G:Expr->Prop}{e:Expr}{k:Expr->List Expr->Pos->Bool}(h:y0i e k=true)(f:∀ g es p,k g es p=true->G (.Call g es [] p)):G e:=by
 obtain⟨g,es,p,rfl,hk⟩:=y1p h
 exact f g es p hk
theorem y0s{G:Expr->Prop}{e:Expr}{k:Expr->Str->List Expr->List Keyword->Bool}(h:y4r e k=true)(f:∀ o x ap es ks cp,(ap.endLine==cp.line)=true->z1l o=false->k o x es ks=true->G (.Call (.Attribute o x ap) es ks cp)):G e:=by
 obtain⟨o,x,ap,es,ks,cp,rfl,a,b,c⟩:=q9p h
 exact f o x ap es ks cp a b c
theorem q1t{G:List ME->Prop}{l:List ME}{k:ME->List ME->Bool}(h:q4d l k=true)(f:∀ o r,k o r=true->G (o::r)):G l:=by
 induction l using List.casesOn with
 | nil=>contradiction
 | cons o r=>exact f o r h
theorem y1r{V A8:Type}{A:Around}{own:List Addr}{L L':Lim}{g:Fz}{Z:Bt}{H H':z0b}{s:Shared}{t:Sem A8}{v r:V}{Post:V->Fz->Bt->Shared->A8->Prop}(h:M.pure v L' H=some (r,H'))(k:Go I prog w A own L g Z H t H (Post v) s):Go I prog w A own L g Z H t H' (Post r) s:=by
 obtain⟨rfl,rfl⟩:=M.pure_some h
 exact k
theorem upG{V:Type}{F:V->Prop}{a:V}(h:∀ G:V->Prop,(∀ x,F x->G x)->G a):F a:=h F fun _ h=>h
theorem q9y{pr:q6a}{args:List ME}{e:Expr}{own:List Addr}{env:Env}{Y:z0l}{A:Around}{L:Lim}{g:Fz}{Z:Bt}{H H':z0b}{s:Shared}{p:PV}{n:Nat}(T:z0r I)(W:q1d I prog w)(hE:z4l I prog w lv S.ev)(hA:AOk A lv)(R:SR I w.params g Z H s.heap)(O:z0j I own env Y g Z s.heap)
 (hc:y8p I.t (z0m I.t n env.scope.names) env.scope.names e pr args=true)(h:z1i I.P C S Y (.prim pr args) L H=some (p,H')):Go I prog w A [] L g Z H (eval e env) H' (P.val I p) s:=by
 refine upG (F:=fun e=>Go I prog w A [] L g Z H (eval e env) H' (P.val I p) s) fun G up=>?_
 unfold y8p at hc
 induction hfn:q0w pr using Option.casesOn with
 | some v=>
  rw [hfn] at hc
  exact y0r hc fun f es cp hk=>up _ (j2x T hE hA R O hfn (z3z hk).1 (z3z hk).2.2 h)
 | none=>
  rw [hfn] at hc
  induction hm:y3k pr using Option.casesOn with
  | some nmx=>
   rw [hm] at hc
   refine q1t (G:=fun l=>z1i I.P C S Y (.prim pr l) L H=some (p,H')->G e) hc (fun o r hk1 h=>?_) h
   exact y0s hk1 fun o' x ap es ks cp hl hs hk2=>k1t (G:=fun ks=>G (.Call (.Attribute o' x ap) es ks cp)) (z5y hk2).1 (up _ (q4h T hE hA R O hm (BO (z5y hk2).2.1) hs hl (AK (z5y hk2).2.2.1) (z5y hk2).2.2.2.1 (z5y hk2).2.2.2.2 h))
  | none=>
   rw [hm] at hc
   cases pr with
   | flagGet=>
    exact j1r hc fun f es ks cp hk1=>y4i (G:=fun f=>G (.Call f es ks cp)) hk1 fun d x ap hk2=>k1t (G:=fun ks=>G (.Call (.Attribute d x ap) es ks cp)) (z5y (z0u hk2).1).2.1
     (up _ (q9l T W hE hA R O (BO (z5y (z0u hk2).1).2.2.1) (z5y (z0u hk2).1).2.2.2.1 (z5y (z0u hk2).1).1 (BO (z5y (z0u hk2).1).2.2.2.2) (z0u hk2).2 h))
   | search=>
    refine q1t (G:=fun l=>z1i I.P C S Y (.prim .search l) L H=some (p,H')->G e) hc (fun o r hk1 h=>?_) h
    exact y0s hk1 fun o' x ap es ks cp hl hs hk2=>k1t (G:=fun ks=>G (.Call (.Attribute o' x ap) es ks cp)) (z5y hk2).1 (up _ (j2y T W hE hA R O (BO (z5y hk2).2.1) hs hl (BO (z5y hk2).2.2.1▸by decide) (z5y hk2).2.2.2.1 (z5y hk2).2.2.2.2 h))
   | _=>contradiction
theorem j3x(T:z0r I)(W:q1d I prog w)(hC:q9h I prog w lv C)(hE:z4l I prog w lv S.ev)(hT:q0c I prog w lv S.ts):z4l I prog w lv (z1i I.P C S):=by
 intro n own env Y A L g Z H s e m p H' hA R O hc h
 induction n using Nat.casesOn with
 | zero=>contradiction
 | succ n=>
 have hd:q6n I.t (z0m I.t n) (z6c I.t n) env.scope.names e m=true:=(z0u (show(!z8c e&&q6n I.t (z0m I.t n) (z6c I.t n) env.scope.names e m)=true from hc)).2
 clear hc
 refine upG (F:=fun e=>Go I prog w A [] L g Z H (eval e env) H' (P.val I p) s) fun G up=>?_
 cases m with
 | none=>exact q0h hd fun c k pos hk=>y2x (G:=fun c=>G (.Constant c k pos)) hk (up _ (y1r (Post:=P.val I) (v:=PV.none) (L':=L) h (Go.same R fun Q E q=>wpAny_Constant_none (q _ .none))))
 | bool b=>exact q0h hd fun c k pos hk=>y2x (G:=fun c=>G (.Constant c k pos)) hk (up _ (y1r (Post:=P.val I) (v:=PV.bool b) (L':=L) h (Go.same R fun Q E q=>wpAny_Constant_bool (q _ (.bool _)))))
 | int i=>exact q0h hd fun c k pos hk=>y2x (G:=fun c=>G (.Constant c k pos)) hk (up _ (y1r (Post:=P.val I) (v:=PV.int i) (L':=L) h (Go.tok R fun Q E q=>wpAny_Constant_int (q _ _ (.int _ _)))))
 | str x=>exact q0h hd fun c k pos hk=>y2x (G:=fun c=>G (.Constant c k pos)) hk (up _ (y1r (Post:=P.val I) (v:=PV.str x) (L':=L) h (Go.tok R fun Q E q=>wpAny_Constant_str (q _ _ (.str _ _)))))
 | dbg=>exact y1j hd fun x pos hk=>up _ (y1r (Post:=P.val I) (v:=PV.bool true) (L':=L) h (k3p R hk))
 | var k=>
  refine y1j hd fun x pos hk=>up _ ?_
  obtain⟨hv,rfl⟩:=M.ofOpt_some (L:=L) h
  have v:=y6x (z0u hk).2
  exact k2r R O (BO (z0u hk).1) hv v.1 v.2.1 v.2.2
 | neg a=>exact k2j hd fun o a' pos hk=>y2x (G:=fun o=>G (.UnaryOp o a' pos)) (z0u hk).1 (up _ (k3q hE hA R O (z0u hk).2 h))
 | bin o a b=>exact x4k hd fun a' o' b' pos hk=>y2x (G:=fun o'=>G (.BinOp a' o' b' pos)) (z3z hk).1 (up _ (k3r hE hA R O (z3z hk).2.1 (z3z hk).2.2 h))
 | cmp o a b=>exact j1q hd fun a' os bs pos hk1=>q6e (G:=fun os=>G (.Compare a' os bs pos)) hk1 fun o' hk2=>q6e (G:=fun bs=>G (.Compare a' [o'] bs pos)) hk2 fun b' hk=>y2x (G:=fun o'=>G (.Compare a' [o'] [b'] pos)) (z5v hk).1 (up _ (k3w T hC hE hA R O (q0b (z5v hk).2.1) (z5v hk).2.2.1 (z5v hk).2.2.2 h))
 | isNone ng a=>exact j1q hd fun a' os bs pos hk1=>q6e (G:=fun os=>G (.Compare a' os bs pos)) hk1 fun o' hk2=>q6e (G:=fun bs=>G (.Compare a' [o'] bs pos)) hk2 fun b' hk=>y2x (G:=fun o'=>G (.Compare a' [o'] [b'] pos)) (z3z hk).1 (q0h (G:=fun b'=>G (.Compare a' [_] [b'] pos)) (z3z hk).2.1 fun c k pos' hk4=>y2x (G:=fun c=>G (.Compare a' [_] [.Constant c k pos'] pos)) hk4 (up _ (j2o hE hA R O (z3z hk).2.2 h)))
 | isTy ng t a=>exact j1q hd fun l os bs pos hk1=>q6e (G:=fun os=>G (.Compare l os bs pos)) hk1 fun o' hk2=>q6e (G:=fun bs=>G (.Compare l [o'] bs pos)) hk2 fun ty hk3=>y0r (G:=fun l=>G (.Compare l [o'] [ty] pos)) hk3 fun f es cp hk4=>q6e (G:=fun es=>G (.Compare (.Call f es [] cp) [o'] [ty] pos)) hk4 fun a' hk=>y2x (G:=fun o'=>G (.Compare (.Call f [a'] [] cp) [o'] [ty] pos)) (z5v hk).1 (up _ (x7i T hE hA R O (z5v hk).2.1 (z5v hk).2.2.1 (z5v hk).2.2.2 h))
 | ite c a b=>exact w1h hd fun c' a' b' pos hk=>up _ (k3s hE hT hA R O (z3z hk).1 (z3z hk).2.1 (z3z hk).2.2 h)
 | idx a i=>exact y6q hd fun a' i' pos hk=>up _ (k3y T hC hE hA R O (q0b (z3z hk).1) (z3z hk).2.1 (z3z hk).2.2 h)
 | slice a lo hi=>exact y6q hd fun a' i' pos hk1=>y8j (G:=fun i'=>G (.Subscript a' i' pos)) hk1 fun lo' hi' st pos' hk=>z6t (G:=fun st=>G (.Subscript a' (.Slice lo' hi' st pos') pos)) (z5v hk).1 (up _ (j9s hE hA R O (z5v hk).2.1 (z5v hk).2.2.1 (z5v hk).2.2.2 h))
 | tup l=>exact x4l hd fun es k pos hk=>up _ (k3t hE hA R O (z0u hk).2 (AK (z0u hk).1) h)
 | lst l=>exact j1t hd fun es pos hk=>up _ (k3u hE hA R O (z0u hk).2 (AK (z0u hk).1) h)
 | mlst l=>exact j1t hd fun es pos hk=>up _ (x7f hE hA R O (z0u hk).2 (AK (z0u hk).1) h)
 | mcat a b=>exact x4k hd fun a' o' b' pos hk=>y2x (G:=fun o'=>G (.BinOp a' o' b' pos)) (z3z hk).1 (up _ (x7e hE hA R O (z3z hk).2.1 (z3z hk).2.2 h))
 | mslice a=>exact y6q hd fun a' i' pos hk1=>y8j (G:=fun i'=>G (.Subscript a' i' pos)) hk1 fun lo' hi' st pos' hk=>z6t (G:=fun lo'=>G (.Subscript a' (.Slice lo' hi' st pos') pos)) (z5v hk).1 (z6t (G:=fun hi'=>G (.Subscript a' (.Slice _ hi' st pos') pos)) (z5v hk).2.1 (z6t (G:=fun st=>G (.Subscript a' (.Slice _ _ st pos') pos)) (z5v hk).2.2.1 (up _ (j2w hE hA R O (z5v hk).2.2.2 h))))
 | «pure» a=>exact up _ (x7l R h fun q Hb hq=>hE hA R O (show z0m I.t n env.scope.names e a=true from hd) hq)
 | gc a=>exact up _ (w1m R h fun q Hb hq=>hE hA R O (show z0m I.t n env.scope.names e a=true from hd) hq)
 | comp elt gs=>exact j1o hd fun elt' cs inner pos hk=>up _ (x7w T hE hT hA R O (z3z hk).1 (z3z hk).2.1 (z3z hk).2.2 h)
 | call f args=>exact y0r hd fun fe es cp hk=>up _ (x7j T hC hE hA R O (z5v hk).1 (z5v hk).2.1 (z5v hk).2.2.2 h)
 | new c args=>exact y0r hd fun fe es cp hk=>up _ (k4b T hC hE hA R O (z3z hk).1 (z3z hk).2.2 h)
 | newg c args=>exact y0r hd fun fe es cp hk=>up _ (x7q T hC hE hA R O (z3z hk).1 (z3z hk).2.2 h)
 | meth k o args=>exact y0s hd fun o' x ap es ks cp hl hs hk=>k1t (G:=fun ks=>G (.Call (.Attribute o' x ap) es ks cp)) (z5y hk).1 (up _ (x7k T hC hE hA R O (BO (z5y hk).2.1) hs hl (AK (z5y hk).2.2.1) (z5y hk).2.2.2.1 (z5y hk).2.2.2.2 h))
 | methk k o args kk ke=>
  refine y0s hd fun o' x ap es ks cp hl hs hk1=>q6e (G:=fun ks=>G (.Call (.Attribute o' x ap) es ks cp)) hk1 fun kw hk2=>?_
  obtain⟨ka,kv,kp⟩:=kw
  exact w5h (G:=fun ka=>G (.Call (.Attribute o' x ap) es [⟨ka,kv,kp⟩] cp)) hk2 fun kn hk=>up _ (j9u T hC hE hA R O (BO (z5v (z3z hk).1).1) hs hl (AK (z5v (z3z hk).1).2.1) (z5v (z3z hk).1).2.2.1 (z5v (z3z hk).1).2.2.2 (BO (z3z hk).2.1) (z3z hk).2.2 h)
 | attr k o=>exact y4i hd fun o' x ap hk=>up _ (j2p T hE hA R O (BO (z5v hk).1) (z5v hk).2.1 (q0b (z5v hk).2.2.1) (z5v hk).2.2.2 h)
 | gattr k=>exact y4i hd fun o' x ap hk1=>y1j (G:=fun o'=>G (.Attribute o' x ap)) hk1 fun c pos hk=>up _ (j9q T R O (z0u hk).1 (BO (z0u hk).2) h)
 | pat b=>exact y1j hd fun x pos hk=>up _ (k3z T R O hk h)
 | prim pr args=>exact up _ (q9y T W hE hA R O hd h)
 | notE=>contradiction
 | andE=>contradiction
 | orE=>contradiction
 | stuck=>contradiction
noncomputable def w5s(I:z2s)(prog:Program)(w:World)(lv:Nat)(S:z6q):Prop:=
 ∀ {Y:z0l} {elt:ME} {gs:List (Pat×z5w×List ME×List ME)} {L:Lim} {H:z0b} {q:PV} {H2:z0b},S.ev Y (.comp elt gs) L H=some (q,H2)->∃ out,q=.lst out/\∃ S':z6q,z4l I prog w lv S'.ev/\q0c I prog w lv S'.ts/\z9y S' elt Y gs L H=some (out,H2)
theorem j3y(T:z0r I)(hC:q9h I prog w lv C)(hE:z4l I prog w lv S.ev)(hT:q0c I prog w lv S.ts)(hX:j8s I prog w lv S.ex)(hS:w5s I prog w lv S):j8s I prog w lv (z4b I.P C S):=by
 intro n own env Y A L g Z H s e m fl H' hA R O hsto hc h
 induction n using Nat.casesOn with
 | zero=>contradiction
 | succ n=>
 refine upG (F:=fun e=>Go I prog w A own L g Z H (exec e env) H' (z4e I own env fl) s) fun G up=>?_
 cases m with
 | ret x=>
  refine k2l hc fun v pos hk1=>w5h (G:=fun v=>G (.Return v pos)) hk1 fun e' hk=>up _ ?_
  obtain⟨v,Hb,h1,h2⟩:=M.bind_some h
  clear h
  obtain⟨rfl,rfl⟩:=M.pure_some (L:=L) h2
  intro Q E q
  exact wpAny_Return_some (hE hA R O hk h1 _ _ fun u gb Z1 sB Gb Rb pB=>q _ gb Z1 sB (Gb.own_le (by simp)) Rb ⟨u,rfl,pB⟩)
 | expr x=>
  refine j1u hc fun e' pos hk=>up _ ?_
  obtain⟨v,Hb,h1,h2⟩:=M.bind_some h
  clear h
  obtain⟨rfl,rfl⟩:=M.pure_some (L:=L) h2
  intro Q E q
  exact wpAny_Expr_any (hE hA R O (z0u hk).2 h1 _ _ fun u gb Z1 sB Gb Rb pB=>q _ gb Z1 sB (Gb.own_le (by simp)) Rb ⟨rfl,O.step Gb⟩) (q1m O.kind) (q4j (q0b (z0u hk).1))
 | assign pt x=>
  refine q0j hc fun l e' pos hk1=>q6e (G:=fun l=>G (.Assign l e' pos)) hk1 fun t hk=>up _ ?_
  clear up hc hk1
  have c:=z5y hk
  clear hk
  induction hsw:z3k env.scope.names e' t using Bool.casesOn with
  | false=>
   rcases q9x c.2.2.2.2 with hsp | ⟨l,hsp,hnd⟩
   ·exact j3r T hE hA R O hsto (q0b c.2.2.1) hsw hsp c.1 c.2.1 h
   ·exact x7u T hE hA R O hsto (q0b c.2.2.1) hsw hsp hnd c.1 c.2.1 h
  | true=>
   have c4:=c.2.2.2.1
   rw [hsw] at c4
   obtain⟨elt,gs,rfl⟩:=q4n c4
   induction n using Nat.casesOn with
   | zero=>cases c.2.1
   | succ n=>
   obtain⟨elt',cs,inner,pos,rfl,hkc⟩:=j1p (z0u (show(!z8c e'&&q6n I.t (z0m I.t n) (z6c I.t n) env.scope.names e' (.comp elt gs))=true from c.2.1)).2
   exact y8z T (fun hq=>hS hq) hA R O hsto hsw c.1 (z3z hkc).1 (z3z hkc).2.1 (z3z hkc).2.2 h
 | assigns ks x=>
  refine q0j hc fun l e' pos hk=>up _ ?_
  match l,AK (z3z hk).1,(z3z hk).2.1 with
  | t1::t2::ts,_,c2=>exact q9t T hE hA R O hsto c2 (z3z hk).2.2 h
 | aug o k x=>exact k2n hc fun t o' e' pos hk1=>y1j (G:=fun t=>G (.AugAssign t o' e' pos)) hk1 fun y pos' hk=>y2x (G:=fun o'=>G (.AugAssign (.Name y pos') o' e' pos)) (z5y hk).1 (up _ (k4c T hE hA R O hsto (BO (z5y hk).2.1) (z5y hk).2.2.1 (z5y hk).2.2.2.1 (z5y hk).2.2.2.2 h))
 | setAttr o k x=>exact q0j hc fun l e' pos hk1=>q6e (G:=fun l=>G (.Assign l e' pos)) hk1 fun t hk2=>y4i (G:=fun t=>G (.Assign [t] e' pos)) hk2 fun o' y pos' hk=>up _ (q9s T hE hA R O (q0b (z5y hk).1) (BO (z5y hk).2.1) (z5y hk).2.2.1 (z5y hk).2.2.2.1 (z5y hk).2.2.2.2 h)
 | setIdx o i x=>exact q0j hc fun l e' pos hk1=>q6e (G:=fun l=>G (.Assign l e' pos)) hk1 fun t hk2=>y6q (G:=fun t=>G (.Assign [t] e' pos)) hk2 fun o' i' pos' hk=>up _ (j3l T hC hE hA R O (q0b (z5y hk).2.1) (q0b (z5y hk).1) (z5y hk).2.2.1 (z5y hk).2.2.2.1 (z5y hk).2.2.2.2 h)
 | setAll o x=>exact q0j hc fun l e' pos hk1=>q6e (G:=fun l=>G (.Assign l e' pos)) hk1 fun t hk2=>y6q (G:=fun t=>G (.Assign [t] e' pos)) hk2 fun o' i' pos' hk3=>y8j (G:=fun i'=>G (.Assign [.Subscript o' i' pos'] e' pos)) hk3 fun a b c pos2 hk=> z6t (G:=fun a=>G (.Assign [.Subscript o' (.Slice a b c pos2) pos'] e' pos)) (z3z (z5v hk).1).1 (z6t (G:=fun b=>G (.Assign [.Subscript o' (.Slice _ b c pos2) pos'] e' pos)) (z3z (z5v hk).1).2.1 (z6t (G:=fun c=>G (.Assign [.Subscript o' (.Slice _ _ c pos2) pos'] e' pos)) (z3z (z5v hk).1).2.2 (up _ (j3o T hE hA R O (q0b (z5v hk).2.1) (z5v hk).2.2.1 (z5v hk).2.2.2 h))))
 | delIdx o i=>exact k2m hc fun l pos hk1=>q6e (G:=fun l=>G (.Delete l pos)) hk1 fun t hk2=>y6q (G:=fun t=>G (.Delete [t] pos)) hk2 fun o' i' pos' hk=>up _ (j3m T hC hE hA R O (z3z hk).2.1 (z3z hk).2.2 h)
 | append o x=>exact j1u hc fun v pos hk1=>y0s (G:=fun v=>G (.Expr v pos)) hk1 fun o' y ap es ks cp hl hs hk2=>k1t (G:=fun ks=>G (.Expr (.Call (.Attribute o' y ap) es ks cp) pos)) (z0u hk2).1 (q6e (G:=fun es=>G (.Expr (.Call (.Attribute o' y ap) es [] cp) pos)) (z0u hk2).2 fun e' hk=>up _ (j3p T hE hA R O (BO (z3z hk).1) hs hl (z3z hk).2.1 (z3z hk).2.2 h))
 | ifs c a b=>exact w1i hc fun t a' b' pos hk=>up _ (k4d hT hX hA R O hsto (z3z hk).1 (z3z hk).2.1 (z3z hk).2.2 h)
 | for_ p k src body orelse=>exact k2o hc fun t it b' o' pos hk=>up _ (k4e T hE hX hA R O hsto (z5y hk).1 (z5y hk).2.1 (z5y hk).2.2.1 (z5y hk).2.2.2.1 (q0b (z5y hk).2.2.2.2) h)
 | while_ c body=>exact j8z hc fun t b' o' pos hk=>k1t (G:=fun o'=>G (.While t b' o' pos)) (z3z hk).1 (up _ (x0d hT hX hA R O hsto (z3z hk).2.1 (z3z hk).2.2 h))
 | brk=>exact k4g hc fun pos=>up _ (y1r (Post:=z4e I own env) (v:=Fl.brk Y) (L':=L) h fun Q E q=>wpAny_Break (q _ g Z s .refl R ⟨rfl,O⟩))
 | stuck=>contradiction
theorem x4v(T:z0r I)(W:q1d I prog w)(hC:q9h I prog w lv C):∀ n,z4l I prog w lv (sem I.P C n).ev/\q0c I prog w lv (sem I.P C n).ts/\j8s I prog w lv (sem I.P C n).ex/\w5s I prog w lv (sem I.P C n)
 | 0=>⟨fun _ _ _ _ h=>(by contradiction),fun _ _ _ _ h=>(by contradiction),fun _ _ _ _ _ h=>(by contradiction),fun h=>(by contradiction)⟩
 | n+1=>by
  obtain⟨h1,h2,h3,h4⟩:=x4v T W hC n
  refine⟨j3x T W hC h1 h2,j3k h1 h2,j3y T hC h1 h2 h3 h4,fun h=>?_⟩
  obtain⟨out,Hb,h5,h6⟩:=M.bind_some h
  obtain⟨rfl,rfl⟩:=M.pure_some h6
  exact⟨out,rfl,_,h1,h2,h5⟩
end
noncomputable def y0t(Y:z0l):List (Nat×PV)->z0l
 | []=>Y
 | (k,p)::r=>y0t (upd Y k p) r
noncomputable def q1u(I:z2s)(prog:Program)(w:World)(F:z4o)(fd:FuncData):Prop:=
 ∀ {A L g Z H s pos kw vs kvs Y},SR I w.params g Z H s.heap->z0e I g Z vs pos->y6h I g Z kvs kw->q3s F pos kw=some Y ->
  Go I prog w A [] L g Z H (bindArgs fd ⟨vs,kvs⟩) H (fun g' Z' _ binds=>∃ l,y6h I g' Z' binds l/\Y=y0t (fun _=>none) l/\∀ x,x∈binds->z1k fd.scope.names x.1=true) s
noncomputable def j3z(names:List (Str×NameKind)):Bool:=names.all fun nk=>names.lookup nk.1==some nk.2&&!(nk.2==.free)
structure w5t(K:Frag)(fd:FuncData):Prop where
 co:fd.scope.isCoroutine=false
 gen:fd.scope.isGenerator=false
 kind:fd.scope.kind=.function
 glob:fd.globals=mainGlobals
 bi:fd.builtins=builtinsNs
 clo:fd.closure=[]
 code:kdsCode K fd.code=true
 sc:j3z fd.scope.names=true
inductive FnS(I:z2s)(prog:Program)(w:World)(a:Addr)(F:z4o):Prop
 | mk (o:Obj) (fd:FuncData) (body:List Stmt) (n:Nat) (ho:I.B.get? a=some o) (hd:o.data=.func fd) (hb:fd.body=.stmts body) (hc:I.B.CodeRec fd.code fd.qualname) (ok:w5t I.K fd) (cs:z2j (y0k I.t n fd.scope.names) body F.body=true) (bd:q1u I prog w F fd)
structure x7x(I:z2s)(prog:Program)(w:World):Prop where
 nolim:I.B.NoLimit
 fns:∀ f F,I.P.fn f=some F->FnS I prog w (I.fA f) F
section
variable {I:z2s} {own own':List Addr} {L L':Lim} {w:World} {g g0 gb gC g':Fz} {Z Z0 Z1 Z2 Z':Bt} {H H0 Hb H2 H':z0b} {s sA sB sC s':Shared} {env:Env} {Y Y0 Y':z0l} {A:Around} {prog:Program} {lv n:Nat} {S:z6q} {C:z0g} {p q r:PV}
theorem q1v(hnd:I.nm.Nodup)(hok:∀ x,z1k env.scope.names x=true->Mine.storeable env own x)(f:Str×Value->PUnit->Sem (ForInStep PUnit))(hf:∀ n v u,f (n,v) u=(do storeName env n v;pure (.yield ⟨⟩))) :
  ∀ {binds:List (Str×Value)} {l:List (Nat×PV)} {Y:z0l} {g:Fz} {Z:Bt} {s:Shared},y6h I g Z binds l->(∀ x,x∈binds->z1k env.scope.names x.1=true)->SR I w.params g Z H s.heap->z0j I own env Y g Z s.heap ->
   Go I prog w A own L g Z H (forIn binds PUnit.unit f) H (fun g' Z' s' _=>z0j I own env (y0t Y l) g' Z' s'.heap) s
 | [],l,Y,g,Z,s,hk,hs,R,O=>by
  cases hk
  exact Go.pure R O
 | (x,v)::binds,l,Y,g,Z,s,hk,hs,R,O=>by
  cases hk with
  | cons hx hv hr=>
   rename_i k p l
   rw [FE,hf]
   intro Q E q
   refine AB (AB (y2k (L:=L) hnd R O hx (hok x (hs (x,v) AD)) hv _ _ fun _ gb Z1 sB Gb Rb pB=>AJ ?_))
   obtain⟨Ob,rfl,rfl⟩:=pB
   exact q1v hnd hok f hf hr (fun y hy=>hs y (AE _ hy)) Rb Ob Q E fun a gC Z2 sC Gc Rc pC=>q a gC Z2 sC (Gb.trans R Gc) Rc pC
theorem j4a{names:List (Str×NameKind)}{k:Nat}(hsc:env.scope.names=names)(hcells:env.cells=cellsFrom (k+1) names []):∀ x,z1k env.scope.names x=true->Mine.storeable env (z3d k names) x:=by
 intro x hx
 rw [hsc] at hx
 rcases CD.mp hx with h | h
 ·exact .inl (by show env.scope.names.lookup x=_;rw [hsc];exact BE.mp h)
 ·obtain⟨c',hc'⟩:=z3l names (k+1) x (mem_of_lookup (BE.mp h))
  obtain⟨c'',hc''⟩:=z2e hc'
  exact .inr ⟨c'',by show env.scope.names.lookup x=_;rw [hsc];exact BE.mp h,by rw [hcells];exact hc'',AE _ (AY.mpr ⟨(x,c''),mem_of_lookup hc'',rfl⟩)⟩
theorem x0h(T:z0r I)(W:q1d I prog w)(TF:x7x I prog w)(lv:Nat):q9h I prog w lv (z0h I.P lv):=by
 induction lv with
 | zero=>intro A L g Z H s f pos kw vs kvs p H' _ _ _ _ h;contradiction
 | succ lv hC=>
  intro A L g Z H s f pos kw vs kvs p H' hA R hr hkr h
  obtain⟨F,hF,h⟩:=M.opt_some h
  obtain⟨Y,hb,h⟩:=M.opt_some h
  obtain⟨fl,Hb,h1,h2⟩:=M.bind_some h
  obtain⟨o,fd,body,n,ho,hdata,hbody,hcd,ok,hcs,hbind⟩:=TF.fns f F hF
  intro Rr q
  have hroom:A.depth<recursionLimit:=by have:=hA.depth;simp only [recursionLimit];lia
  refine codeAny_call_function hroom (R.up _ _ ho) hdata ok.co ok.gen hbody (hcd.keeps R.up) (hbind (L:=L) R hr hkr hb _ _ fun binds gb Z1 sB Gb Rb pB=>?_)
  obtain⟨l,hl,rfl,hst⟩:=pB
  rw [ok.clo]
  simp only [newFunctionEnv,Option.isSome_none,DW,if_false]
  refine AB (wpAny_alloc ?_)
  refine AB (wpAny_layCells _ (fun name kind cells=>by cases hkc:kind==NameKind.cell<;>simp [hkc]) _ _ _ _ ?_)
  rw [show({ sB with heap:=sB.heap.push { cls:=.type "frame",data:=.dict #[] } }:Shared).heap.objs.size=sB.heap.objs.size+1 from FM ..]
  dsimp only
  have hk2:∀ b o,sB.heap.get? b=some o->(pushCells (sB.heap.push { cls:=.type "frame",data:=.dict #[] }) fd.scope.names).get? b=some o:=fun b o e=>FD _ _ _ _ (AU _ e)
  generalize hcenv:({ scope:=fd.scope,locals:=sB.heap.objs.size,globals:=fd.globals,cells:=cellsFrom (sB.heap.objs.size+1) fd.scope.names [],qual:=fd.qualname++".<locals>.",func:=some (I.fA f),code:=fd.code,frame:=some sB.heap.objs.size,builtins:=fd.builtins }:Env)=cenv
  have hlk:∀ nk,nk∈fd.scope.names->fd.scope.names.lookup nk.1=some nk.2/\nk.2≠.free:=fun nk hm=>by
   have:=BA.mp ok.sc nk hm
   obtain⟨a,b⟩:=z0u this
   exact⟨BE.mp a,by simpa using b⟩
  have O2:z0j I (z3d sB.heap.objs.size fd.scope.names) cenv (fun _=>none) gb Z1 (pushCells (sB.heap.push { cls:=.type "frame",data:=.dict #[] }) fd.scope.names):=by
   subst hcenv
   refine y4x (Heap.Ns.new _ _) Rb rfl rfl ok.kind ok.glob ok.bi ok.code (fun x c hm=>(nomatch hm)) (fun x y c hm=>(nomatch hm)) (fun x hx=>?_) (fun j x hj hx=>rfl)
   ·rcases hx with hx | hx
    ·exact .inl (mem_of_lookup hx)
    ·exact absurd rfl (hlk _ (mem_of_lookup hx)).2
  have R2:SR I w.params gb Z1 H (pushCells (sB.heap.push { cls:=.type "frame",data:=.dict #[] }) fd.scope.names):=Rb.keepAll hk2
  have G2:z1c (z3d sB.heap.objs.size fd.scope.names) L gb Z1 H sB gb Z1 H { sB with heap:=pushCells (sB.heap.push { cls:=.type "frame",data:=.dict #[] }) fd.scope.names }:=z1c.keepAll (tk:=sB.toks) hk2
  have hsn:cenv.scope=fd.scope:=by rw [<- hcenv]
  have hsto:=j4a (env:=cenv) (names:=fd.scope.names) (k:=sB.heap.objs.size) (by rw [hsn]) (by rw [<- hcenv])
  refine AB (q1v (env:=cenv) (own:=z3d sB.heap.objs.size fd.scope.names) (L:=L) T.nd hsto _ (fun n v u=>rfl) hl (fun x hx=>by rw [hsn];exact hst x hx) R2 O2 _ _ fun _ gD Z3 s3 Gd Rd O3=>AJ ?_)
  have hAA:AOk (A.deeper cenv) lv:=⟨hA.handled,by
   show A.depth+1+12*lv<=800
   have:=hA.depth;lia,by
   show A.units+3+200*lv<=9000
   have:=hA.units;lia⟩
  refine⟨TF.nolim.keeps Rd.up,codeAny_func ?_⟩
  have hXX:j8s I prog w lv (sem I.P (z0h I.P lv) w1f).ex:=(x4v T W hC w1f).2.2.1
  refine z6x (env:=cenv) hXX hAA hsto Rd O3 (by rw [hsn];exact hcs) h1 _ _ fun fl' gE Z4 s4 Ge RE p4=>?_
  have freshS:∀ a,sB.heap.objs.size<=a->s.heap.get? a=none:=fun a ha=>by
   induction e:s.heap.get? a using Option.casesOn with
   | none=>rfl
   | some o=>
    obtain⟨o',h'⟩:=Gb.alive a o e
    exact absurd (CV h') (CF.mpr ha)
  have Gt:z1c [] L g Z H s gE Z4 Hb s4:=((Gb.own_le (by simp)).trans R (G2.trans Rb (Gd.trans R2 Ge))).leave fun a ha=>.inl (freshS _ (z5o ha))
  cases fl with
  | ret v=>
   obtain⟨y,rfl,hy⟩:=p4
   obtain⟨rfl,rfl⟩:=M.pure_some (L:=L) h2
   exact q y gE Z4 s4 Gt RE hy
  | next Y'=>
   obtain⟨rfl,_⟩:=p4
   obtain⟨rfl,rfl⟩:=M.pure_some (L:=L) h2
   exact q .none gE Z4 s4 Gt RE .none
  | brk Y'=>contradiction
end
theorem j4b:entryFor table "re.Pattern.search"=some Builtin.«re.Pattern.search»:=entryFor_of_tree (by kernel_rfl)
theorem x0i(a b:Value):argsOk "re.Pattern.search" ⟨[a,b],[]⟩:=by unfold argsOk;kernel_rfl
theorem x0j:typeOf (.builtin "re.Pattern.search")=pure (.type "method_descriptor"):=by show builtinType _=_;rw [builtinType_eq_fast];kernel_rfl
theorem j4c:PlainAttrs "re.Pattern":=
 ⟨⟨"object.__getattribute__",by rw [typeLookup_type,builtinLookup_eq_fast];kernel_rfl,by decide +kernel⟩,by rw [typeLookup_type,builtinLookup_eq_fast];kernel_rfl⟩
theorem q6y:Slot "re.Pattern" "search" "re.Pattern.search":=
 .of (owner:="re.Pattern") (n:="search") (by rw [typeLookup_type,builtinLookup_eq_fast];kernel_rfl) (by decide +kernel) (by decide +kernel) (by decide +kernel)
  (by first | exact .inl (by decide +kernel) | exact .inr (by decide +kernel)) (by rw [isSubtype_type];kernel_rfl)
noncomputable def j4d:Array Nat:=#[14,10,4,1,1,22,0,31,16,127,0,13,7,22,0,31,16,127,0,1]
section
variable {prog:Program} {w:World} {A:Around} {E:Value->Shared->Prop} {s:Shared}
open Builtin Builtin.Re in
theorem q1w{pa cl:Addr}{o oc:Obj}{vs:Array Value}{items:Array Value}{m:Nat}{x:Str}{t:Tok}{Q:Value->Shared->Prop}(ho:s.heap.get? pa=some o)(hc:o.cls=.type "re.Pattern")(hd:o.data=.fields vs)
 (h5:vs.getD 5 .none=.ref cl)(h6:reRawNat (vs.getD 6 .none)=0)(hoc:s.heap.get? cl=some oc)(hdc:oc.data=.seq items m)
 (h:wpAny (model prog w) A.in1 (reAnswer { pattern:=.ref pa,string:=.str x t,code:=(items.map reRawOf).map (·.toNat),text:=x.cps,kind:=0,groups:=reRawNat (vs.getD 2 .none),pos:=0,lim:=x.cps.size } (Sre.forSearch ((items.map reRawOf).map (·.toNat)) x.cps (reRawNat (vs.getD 2 .none)) 0 x.cps.size false)) (fun fin s'=>∃ v,fin=.done (.ret v)/\Q v s') E s)
 (hsz:x.cps.size<2^63):wpAny (model prog w) A (call (.builtin "re.Pattern.search") [.ref pa,.str x t]) Q E s:=by
 refine EY q6y (⟨o,ho,hc⟩:s.TypeIs (.ref pa) "re.Pattern") j4b ?_ (x0i _ _)
 unfold Builtin.«re.Pattern.search»
 have key:∀ {Q':ReTarget->Shared->Prop},Q' { pattern:=.ref pa,string:=.str x t,code:=(items.map reRawOf).map (·.toNat),text:=x.cps,kind:=0,groups:=reRawNat (vs.getD 2 .none),pos:=0,lim:=x.cps.size } s ->
   wpAny (model prog w) A.in1 (reTarget "re.Pattern.search" "search" ⟨[.ref pa,.str x t],[]⟩) Q' E s:=by
  intro Q' hq
  have e1:reNamed "re.Pattern.search" "search" ["string","pos","endpos"] 1 [.str x t] []=pure [some (.str x t),none,none]:=by rfl
  have e2:reTextOf (.str x t)=pure (x.cps,0):=by rfl
  unfold reTarget
  dsimp only
  rw [e1]
  refine AB (AJ ?_)
  refine AB (AJ (AB (AJ ?_)))
  refine AB (wpAny_fieldsOf ho hd ?_)
  rw [e2]
  refine AB (AJ ?_)
  dsimp only
  rw [h6]
  rw [AT (by decide),AT (by decide)]
  have e3:reNoCollectionInside (.str x t) 0=pure ():=by rfl
  rw [e3]
  refine AB (AJ ?_)
  unfold reRawItems
  rw [h5]
  refine AB (AB (wpAny_seqItems hoc hdc (AJ (AJ ?_))))
  have m1:Min.min (Int.toNat 0) x.cps.size=0:=by simp
  have m2:Min.min (2^63 - 1:Int).toNat x.cps.size=x.cps.size:=by lia
  rw [m1,m2]
  exact hq
 exact AB (key h)
open PySem.Sre in
theorem y0u(m:Sre.M)(h:∀ k seen,k<m.lim->∃ seen',Sre.inSet m.code (m.text.getD k 0) m.code.size 5 true seen=.ok (false,seen')):∀ (fuel s:Nat) (seen:Sre.Seen),∃ seen',M.admitted m fuel s seen=.ok (Option.none,seen')
 | 0,s,seen=>⟨seen,rfl⟩
 | fuel+1,s,seen=>by
  unfold M.admitted
  split
  ·exact⟨seen,rfl⟩
  ·rename_i hs
   obtain⟨seen',e⟩:=h s seen (by lia)
   rw [e]
   exact y0u m h fuel (s+1) seen'
noncomputable def j4e(m:Sre.M):Prop:=m.answer=some false/\m.frames=[]/\m.outcome.isSome=false
open PySem.Sre in
theorem y6i(m:Sre.M)(s:Nat)(first:Bool)(hf:m.hasFirstSet=true)(h:∀ k seen,k<m.lim->∃ seen',Sre.inSet m.code (m.text.getD k 0) m.code.size 5 true seen=.ok (false,seen'))(h1:m.frames=[])(h2:m.outcome.isSome=false):j4e (m.attemptFrom s first):=by
 unfold M.attemptFrom
 obtain⟨seen',e⟩:=y0u m h (m.lim+1 - s) s m.seen
 rw [hf,e]
 exact⟨rfl,h1,h2⟩
open PySem.Sre in
theorem q1x{code text:Array Nat}{groups:Nat}(hf:((match ops[code.getD 0 0]? with | some .INFO=>true | _=>false)&&code.getD 2 0==4)=true)
 (h:∀ k seen,k<text.size->∃ seen',Sre.inSet code (text.getD k 0) code.size 5 true seen=.ok (false,seen')):j4e (Sre.forSearch code text groups 0 text.size false):=by
 unfold Sre.forSearch
 dsimp only
 split
 ·exact⟨rfl,rfl,rfl⟩
 ·exact y6i _ _ _ hf h rfl rfl
section
variable {prog:Program} {w:World} {A:Around} {E:Value->Shared->Prop} {s:Shared}
open Builtin Builtin.Re in
theorem j4f{tt:ReTarget}{m:Sre.M}{Q:Fin->Shared->Prop}(hm:j4e m)(h:Q (.done (.ret .none)) s):wpAny (model prog w) A (reAnswer tt m) Q E s:=by
 obtain⟨a,f,o⟩:=hm
 have hstep:m.step={ m with outcome:=some .failed }:=by
  unfold Sre.M.step
  rw [AT (by rw [o];decide),a,f]
  rfl
 have hrun:m.runFor 4={ m with outcome:=some .failed }:=by
  unfold Sre.M.runFor
  rw [AT (by rw [o];decide),hstep]
  rfl
 have hdr:∀ n,reDrive (n+1) m=pure { m with outcome:=some .failed }:=by
  intro n
  unfold reDrive
  show(if(m.runFor 4).outcome.isSome then pure (m.runFor 4) else _)=_
  rw [hrun]
  exact AR rfl
 unfold reAnswer reRunToEnd
 have e64:(2^64:Nat)=18446744073709551615+1:=by decide
 rw [e64,hdr]
 refine AB (AB (AJ ?_))
 have loop:∀ (l:List Nat) (Q:PUnit->Shared->Prop) (f:Nat->PUnit->Sem (ForInStep PUnit)),(∀ i u,f i u=(if m.seen.has i=true then(PySem.rule (Sre.names.getD i "")>>=fun _=>pure (ForInStep.yield PUnit.unit)) else pure (ForInStep.yield PUnit.unit)))->Q ⟨⟩ s->wpAny (model prog w) A (forIn l PUnit.unit f) Q E s:=by
  intro l
  induction l with
  | nil=>intro Q f hf hq;exact AJ hq
  | cons i l ih=>
   intro Q f hf hq
   rw [FE,hf]
   refine AB ?_
   split
   ·exact AB (wpAny_rule (AJ (ih Q f hf hq)))
   ·exact AJ (ih Q f hf hq)
 refine AB (loop _ _ _ (fun i u=>rfl) ?_)
 exact AJ (AJ h)
end
end
noncomputable def q4o:Array Nat:=#[14,14,4,1,1,9,4294966783,0,0,2147483648,0,0,0,0,0,13,11,9,4294966783,0,0,2147483648,0,0,0,0,0,1]
theorem x7y{c:Nat}(h1:32<=c)(h2:c≠127)(seen:Sre.Seen):∃ seen',Sre.inSet j4d c j4d.size 5 true seen=.ok (false,seen'):=by
 have e:∃ a b d,Sre.inSet j4d c j4d.size 5 true seen=if(decide (0<=c)&&decide (c<=31))=true then .ok (true,a) else if(c==127)=true then .ok (true,b) else .ok (false,d):=⟨_,_,_,rfl⟩
 obtain⟨a,b,d,e⟩:=e
 exact⟨d,e.trans ((AT fun h=>Nat.not_succ_le_self 31 (AA h1 (AK (z0u h).2))).trans (AT fun h=>h2 (BE.mp h)))⟩
theorem k4h:∀ c,c<256->(32<=c\/c=9)->c≠127->(q4o.getD (5+(1+c / 32)) 0).testBit (c % 32)=false:=by decide +kernel
theorem x7z{c:Nat}(h1:32<=c\/c=9)(h2:c≠127)(seen:Sre.Seen):∃ seen',Sre.inSet q4o c q4o.size 5 true seen=.ok (false,seen'):=by
 have e:∃ a d,Sre.inSet q4o c q4o.size 5 true seen=if(decide (c<256)&&(q4o.getD (5+(1+c / 32)) 0).testBit (c % 32))=true then .ok (true,a) else .ok (false,d):=⟨_,_,rfl⟩
 obtain⟨a,d,e⟩:=e
 exact⟨d,e.trans (AT fun h=>absurd (k4h c (AK (z0u h).1) h1 h2) (by rw [(z0u h).2];exact Bool.noConfusion))⟩
noncomputable def okPat(b:Bool)(x:Str):Bool:=decide (x.cps.size<=1000000)&&x.cps.toList.all fun c=>if b then decide (32<=c/\c≠127) else decide ((32<=c\/c=9)/\c≠127)
noncomputable def j4g(b:Bool):Array Nat:=if b then j4d else q4o
theorem x8a{b:Bool}{x:Str}(h:okPat b x=true):∀ k seen,k<x.cps.size->∃ seen',Sre.inSet (j4g b) (x.cps.getD k 0) (j4g b).size 5 true seen=.ok (false,seen'):=by
 intro k seen hk
 have h2:=BA.mp (z0u h).2 (x.cps.getD k 0) (by
  rw [FH,FQ hk]
  exact EW hk)
 induction b using Bool.casesOn with
 | true=>have h3:=AK h2;exact x7y h3.1 h3.2 seen
 | false=>have h3:=AK h2;exact x7z h3.1 h3.2 seen
open Builtin Builtin.Re in
theorem j4h{prog:Program}{w:World}{A:Around}{E:Value->Shared->Prop}{s:Shared}{pa cl:Addr}{o oc:Obj}{vs:Array Value}{items:Array Value}{m:Nat}{b:Bool}{x:Str}{t:Tok}{Q:Value->Shared->Prop}(hok:okPat b x=true)
 (ho:s.heap.get? pa=some o)(hc:o.cls=.type "re.Pattern")(hd:o.data=.fields vs)
 (h5:vs.getD 5 .none=.ref cl)(h6:reRawNat (vs.getD 6 .none)=0)(hoc:s.heap.get? cl=some oc)(hdc:oc.data=.seq items m)(hcode:(items.map reRawOf).map (·.toNat)=j4g b)
 (q:Q .none s):wpAny (model prog w) A (call (.builtin "re.Pattern.search") [.ref pa,.str x t]) Q E s:=by
 refine q1w ho hc hd h5 h6 hoc hdc ?_ (by have:=AK (z0u hok).1;omega)
 rw [hcode]
 refine j4f (q1x ?_ (x8a hok)) ⟨_,rfl,q⟩
 induction b using Bool.casesOn<;>decide
theorem y5b{xs:List Str}{vs:List Value}(hl:vs.length=xs.length):∀ x,x∈xs->((xs.zip vs).lookup x).isSome=true:=by
 induction xs generalizing vs with
 | nil=>intro x h;contradiction
 | cons y ys ih=>
  induction vs using List.casesOn with
  | nil=>contradiction
  | cons v vs=>
   intro x h
   simp only [FY,List.lookup]
   split
   ·rfl
   ·rename_i hne
    rcases AQ.mp h with e | e
    ·subst e;simp at hne
    ·exact ih (by simpa using hl) x e
theorem y9a{xs:List Str}{vs:List Value}(hl:vs.length=xs.length)(hn:xs.Nodup):xs.filterMap (fun n=>((xs.zip vs).lookup n).map (n,·))=xs.zip vs:=by
 induction xs generalizing vs with
 | nil=>rfl
 | cons y ys ih=>
  induction vs using List.casesOn with
  | nil=>contradiction
  | cons v vs=>
   obtain⟨h1,h2⟩:=DL.mp hn
   have e:(List.filterMap (fun n=>(((y,v)::ys.zip vs).lookup n).map (n,·)) ys)=ys.filterMap (fun n=>((ys.zip vs).lookup n).map (n,·)):=by
    clear h2 hn hl ih
    generalize ys.zip vs=zs
    induction ys with
    | nil=>rfl
    | cons x ys ih=>
     have:(x==y)=false:=by
      induction h:x==y using Bool.casesOn with
      | false=>rfl
      | true=>exact(h1 (by rw [BE.mp h];exact AD)).elim
     have h':=ih (fun h=>h1 (AE _ h))
     simp only [List.lookup] at h'
     simp only [List.filterMap_cons,List.lookup,this,h']
   simp only [FY,List.filterMap_cons]
   rw [show((y,v)::ys.zip vs).lookup y=some v by simp [List.lookup]]
   simp only [GC]
   rw [e,ih (by simpa using hl) h2]
theorem w1q{c:Prop}[Decidable c]{V:Type}{a b r:V}(hc:¬ c)(h:b=r):(if c then a else b)=r:=(AT hc).trans h
theorem y3t{V Z:Type}{m:Sem V}{f:V->Sem Z}{a:V}{r:Sem Z}(h:m=pure a)(h2:f a=r):m>>=f=r:=by
 rw [h,pure_bind];exact h2
theorem q9z{V Z:Type}{k n:Nat}{l:List V}{ds:List Value}{b:Z}{f:V×Value->Z->Sem (ForInStep Z)}(h:ds=[]):forIn ((l.drop k).zip (ds.drop n)) b f=(pure b:Sem Z):=by
 subst h
 rw [FW,List.zip_nil_right]
 rfl
section
variable {I:z2s} {prog:Program} {w:World} {F:z4o} {fd:FuncData}
theorem j0a{vs:List Value}(h1:fd.params.posonlyargs=[])(h3:fd.params.vararg=none)(h4:fd.params.kwonlyargs=[])(h5:fd.params.kwarg=none)(hd:fd.defaults=.none)
 (hn:(fd.params.args.map (·.arg)).Nodup)(hl:vs.length=(fd.params.args.map (·.arg)).length):bindArgs fd ⟨vs,[]⟩=pure ((fd.params.args.map (·.arg)).zip vs):=by
 obtain⟨a1,a2,⟨b1,b2,b3,b4,b5,b6,b7⟩,a4,a5,a6,a7,a8,a9,a10,a11,a12,a13,a14⟩:=fd
 dsimp only at h1 h3 h4 h5 hd hn hl
 subst h1 h3 h4 h5 hd
 generalize hx:b2.map (·.arg)=xs at hn hl
 have hm:(xs.take (xs.length - 0)).filter (fun n=>((xs.zip vs).lookup n).isNone)=[]:=by
  rw [Nat.sub_zero,List.take_length]
  refine List.filter_eq_nil_iff.mpr fun x hx=>?_
  have:=y5b hl x hx
  rw [<- Option.not_isSome,this]
  exact CL
 subst hx
 unfold bindArgs
 refine y3t (a:=_) rfl ?_
 refine y3t (a:=none) rfl ?_
 refine w1q (by show ¬ (decide (vs.length > (b2.map (·.arg)).length)&&true)=true;rw [hl];simp) ?_
 refine w1q (by
  show ¬ (!((((b2.map (·.arg)).take ((b2.map (·.arg)).length - (List.drop (0 - (b2.map (·.arg)).length) ([]:List Value)).length)).filter fun n=>(((b2.map (·.arg)).zip vs).lookup n).isNone)).isEmpty)=true
  rw [FW]
  exact hm▸CL) ?_
 refine y3t (a:=(b2.map (·.arg)).zip vs) (q9z rfl) ?_
 refine y3t (a:=((b2.map (·.arg)).zip vs,[])) rfl ?_
 refine w1q CL ?_
 refine AP pure ?_
 exact(AP (List.filterMap _) (CG _)).trans (y9a hl hn)
theorem z5d:∀ {ks:List Nat} {ps:List PV} {Y Y':z0l},z4a Y ks ps=some Y'->ks.length=ps.length/\Y'=y0t Y (ks.zip ps)
 | [],[],Y,Y',h=>by injection h with h;subst h;exact⟨rfl,rfl⟩
 | [],_::_,_,_,h=>by contradiction
 | _::_,[],_,_,h=>by contradiction
 | k::ks,p::ps,Y,Y',h=>by
  obtain⟨a,b⟩:=z5d (ks:=ks) (ps:=ps) h
  exact⟨by simp [a],b⟩
theorem z8s{g:Fz}{Z:Bt}:∀ {vs:List Value} {ps:List PV},z0e I g Z vs ps->vs.length=ps.length
 | _,_,.nil=>rfl
 | _,_,.cons _ h=>by simp [z8s h]
theorem q1y{g:Fz}{Z:Bt}:∀ {xs:List Str} {ks:List Nat} {vs:List Value} {ps:List PV},z2j (fun x k=>I.nm[k]?==some x) xs ks=true->z0e I g Z vs ps->y6h I g Z (xs.zip vs) (ks.zip ps)
 | [],[],_,_,_,_=>by simp;exact .nil
 | [],_::_,_,_,h,_=>by contradiction
 | _::_,[],_,_,h,_=>by contradiction
 | x::xs,k::ks,_,_,h,.nil=>.nil
 | x::xs,k::ks,_,_,h,.cons h1 h2=>by
  obtain⟨a,b⟩:=z0u h
  exact .cons (BE.mp a) h1 (q1y b h2)
noncomputable def j4i(v:Value):Bool:=match v with | .none=>true | _=>false
noncomputable def q6z(I:z3x)(F:z4o)(fd:FuncData):Bool:=
 F.dfl.isEmpty&&F.kwo.isEmpty&&F.kwargs.isNone&&fd.params.posonlyargs.isEmpty&&fd.params.vararg.isNone&&fd.params.kwonlyargs.isEmpty&&fd.params.kwarg.isNone&&j4i fd.defaults &&
 decide ((fd.params.args.map (·.arg)).Nodup)&&z2j (fun x k=>I.nm[k]?==some x) (fd.params.args.map (·.arg)) F.pos&&(fd.params.args.map (·.arg)).all (z1k fd.scope.names)
theorem z1r{V:Type}{l:List V}(h:l.isEmpty=true):l=[]:=EZ.mp h
theorem z1m{V:Type}{l:Option V}(h:l.isNone=true):l=none:=Option.isNone_iff_eq_none.mp h
theorem y5c{v:Value}(h:j4i v=true):v=.none:=by induction v using Value.casesOn<;>first | rfl | contradiction
theorem y5d{pos:List PV}{kw:List (Nat×PV)}{Y:z0l}(h:q3s F pos kw=some Y):kw.map (·.1)=F.kwo/\pos.length<=F.pos.length/\∃ Y0,z4a (j1m F) F.kwo (kw.map (·.2))=some Y0 /\
  z4a Y0 F.pos (pos++F.dfl.drop (F.dfl.length - (F.pos.length - pos.length)))=some Y:=by
 obtain⟨h1,h2⟩:=z0o h
 obtain⟨Y0,h3,h4⟩:=z1e h2
 obtain⟨h5,h6⟩:=z0o h4
 exact⟨h1,h5,Y0,h3,h6⟩
theorem y7c{xs:List Str}{ks:List Nat}{vs:List Value}{ps:List PV}{g:Fz}{Z:Bt}{names:List (Str×NameKind)}(h1:z2j (fun x k=>I.nm[k]?==some x) xs ks=true)(h2:xs.all (z1k names)=true)(hr:z0e I g Z vs ps) :
  ∃ l,y6h I g Z (xs.zip vs) l/\y0t (fun _=>none) (ks.zip ps)=y0t (fun _=>none) l/\∀ x,x∈xs.zip vs->z1k names x.1=true:=
 ⟨_,q1y h1 hr,rfl,fun x hx=>BA.mp h2 x.1 (List.of_mem_zip hx).1⟩
theorem q1z(h:q6z I.t F fd=true):q1u I prog w F fd:=by
 intro A L g Z H s pos kw vs kvs Y R hr hk hb
 have c:=z0u h
 have c1:=z0u c.1
 have c2:=z0u c1.1
 have c3:=z5y c2.1
 have c4:=z5v c3.1
 obtain⟨e1,e2,Y0,e3,e4⟩:=y5d hb
 rw [z1r c4.2.1] at e1 e3
 have hkw:=GE.mp e1
 subst hkw
 cases hk
 unfold j1m at e3
 rw [z1m c4.2.2.1] at e3
 injection e3 with e3;subst e3
 rw [z1r c4.1,FW,CG] at e4
 obtain⟨hlen,e5⟩:=z5d e4
 rw [j0a (z1r c4.2.2.2) (z1m c3.2.1) (z1r c3.2.2.1) (z1m c3.2.2.2.1) (y5c c3.2.2.2.2) (AK c2.2) (by rw [z8s hr,y0l c1.2,hlen])]
 exact Go.pure R (e5▸y7c c1.2 c.2 hr)
end
theorem w7n{l:List Arg}{x:Str}(h:l.map (·.arg)=[x]):∃ p P,l=[⟨x,p,P⟩]:=by
 match l,h with
 | [⟨a,p,P⟩],h=>injection h with h;subst h;exact⟨p,P,rfl⟩
theorem w5u{l:List Arg}{x y:Str}(h:l.map (·.arg)=[x,y]):∃ p P q Q,l=[⟨x,p,P⟩,⟨y,q,Q⟩]:=by
 match l,h with
 | [⟨a,p,P⟩,⟨b,q,Q⟩],h=>cases h;exact⟨p,P,q,Q,rfl⟩
theorem w7o{l:List Arg}{x y z:Str}(h:l.map (·.arg)=[x,y,z]):∃ p P q Q r R,l=[⟨x,p,P⟩,⟨y,q,Q⟩,⟨z,r,R⟩]:=by
 match l,h with
 | [⟨a,p,P⟩,⟨b,q,Q⟩,⟨c,r,R⟩],h=>cases h;exact⟨p,P,q,Q,r,R,rfl⟩
theorem w7p{V:Type}{l:List V}(h:l.length=1):∃ a,l=[a]:=by
 match l,h with
 | [a],_=>exact⟨a,rfl⟩
theorem w0h{V:Type}{l:List V}(h:l.length=2):∃ a b,l=[a,b]:=by
 match l,h with
 | [a,b],_=>exact⟨a,b,rfl⟩
theorem w7q{V:Type}{l:List V}(h:l.length=3):∃ a b c,l=[a,b,c]:=by
 match l,h with
 | [a,b,c],_=>exact⟨a,b,c,rfl⟩
section
variable {I:z2s} {prog:Program} {w:World} {F:z4o} {fd:FuncData} {A:Around} {s:Shared} {d:Addr} {o:Obj} {n:Nat} {vs:List Value} {Q:List (Str×Value)->Shared->Prop} {E:Value->Shared->Prop}
theorem z7a{d:Addr}{o:Obj}{vs:Array Value}{n:Nat}{Q:Option (Array Value)->Shared->Prop}{E:Value->Shared->Prop}(ho:s.heap.get? d=some o)(hd:o.data=.seq vs n)(h:Q (some vs) s):wpAny (model prog w) A (seqItems? (.ref d)) Q E s:=by
 unfold seqItems?
 refine AB (wpAny_load ho ?_)
 rw [hd]
 exact AJ h
noncomputable def xsK:List Str:=["self","value","name"]
noncomputable def xs2:List Str:=["self","headers"]
noncomputable def xs3:List Str:=["self","name","default"]
noncomputable def xsS:List Str:=["self","_name","_value","_params"]
theorem x0k{v3:Value}(h1:fd.params.posonlyargs=[])(h2:fd.params.args.map (·.arg)=xsK.take 2)(h3:fd.params.vararg=none)(h4:fd.params.kwonlyargs.map (·.arg)=xsK.drop 2)(h5:fd.params.kwarg=none)(hd:fd.defaults=.none)(hl:vs.length=2) :
  bindArgs fd ⟨vs,[("name",v3)]⟩=pure (xsK.zip (vs++[v3])):=by
 obtain⟨v1,v2,rfl⟩:=w0h hl
 obtain⟨p,P,q,Q,e2⟩:=w5u h2
 obtain⟨r,R,e4⟩:=w7n h4
 clear h2 h4
 obtain⟨a1,a2,⟨b1,b2,b3,b4,b5,b6,b7⟩,a4,a5,a6,a7,a8,a9,a10,a11,a12,a13,a14⟩:=fd
 dsimp only at h1 e2 h3 e4 h5 hd
 subst h1 e2 h3 e4 h5 hd
 rfl
theorem j4j(h1:fd.params.posonlyargs=[])(h2:fd.params.args.map (·.arg)=xs2)(h3:fd.params.vararg=none)(h4:fd.params.kwonlyargs=[])(h5:fd.params.kwarg=none)(hd:fd.defaults=.ref d)(ho:s.heap.get? d=some o)(hod:o.data=.seq #[.none] n)
 {vs':List Value}(hv:vs.length=1/\vs'=vs++[.none]\/vs.length=2/\vs'=vs)(h:Q (xs2.zip vs') s):wpAny (model prog w) A (bindArgs fd ⟨vs,[]⟩) Q E s:=by
 obtain⟨p,P,q,Q',e2⟩:=w5u h2
 clear h2
 obtain⟨a1,a2,⟨b1,b2,b3,b4,b5,b6,b7⟩,a4,a5,a6,a7,a8,a9,a10,a11,a12,a13,a14⟩:=fd
 dsimp only at h1 e2 h3 h4 h5 hd
 subst h1 e2 h3 h4 h5 hd
 rcases hv with⟨hl,e⟩ | ⟨hl,e⟩
 ·obtain⟨v1,rfl⟩:=w7p hl
  subst e
  unfold bindArgs
  refine AB (m:=pure (xs2.zip [v1],([]:List (Str×Value)))) (AJ ?_)
  refine AB (z7a ho hod ?_)
  exact AJ (a:=xs2.zip [v1,.none]) h
 ·obtain⟨v1,v2,rfl⟩:=w0h hl
  subst e
  unfold bindArgs
  refine AB (m:=pure (xs2.zip [v1,v2],([]:List (Str×Value)))) (AJ ?_)
  refine AB (z7a ho hod ?_)
  exact AJ (a:=xs2.zip [v1,v2]) h
theorem j4k(h1:fd.params.posonlyargs=[])(h2:fd.params.args.map (·.arg)=xs3)(h3:fd.params.vararg=none)(h4:fd.params.kwonlyargs=[])(h5:fd.params.kwarg=none)(hd:fd.defaults=.ref d)(ho:s.heap.get? d=some o)(hod:o.data=.seq #[.none] n)
 {vs':List Value}(hv:vs.length=2/\vs'=vs++[.none]\/vs.length=3/\vs'=vs)(h:Q (xs3.zip vs') s):wpAny (model prog w) A (bindArgs fd ⟨vs,[]⟩) Q E s:=by
 obtain⟨p,P,q,Q',r,R,e2⟩:=w7o h2
 clear h2
 obtain⟨a1,a2,⟨b1,b2,b3,b4,b5,b6,b7⟩,a4,a5,a6,a7,a8,a9,a10,a11,a12,a13,a14⟩:=fd
 dsimp only at h1 e2 h3 h4 h5 hd
 subst h1 e2 h3 h4 h5 hd
 rcases hv with⟨hl,e⟩ | ⟨hl,e⟩
 ·obtain⟨v1,v2,rfl⟩:=w0h hl
  subst e
  unfold bindArgs
  refine AB (m:=pure (xs3.zip [v1,v2],([]:List (Str×Value)))) (AJ ?_)
  refine AB (z7a ho hod ?_)
  exact AJ (a:=xs3.zip [v1,v2,.none]) h
 ·obtain⟨v1,v2,v3,rfl⟩:=w7q hl
  subst e
  unfold bindArgs
  refine AB (m:=pure (xs3.zip [v1,v2,v3],([]:List (Str×Value)))) (AJ ?_)
  refine AB (z7a ho hod ?_)
  exact AJ (a:=xs3.zip [v1,v2,v3]) h
end
section
variable {I:z2s} {prog:Program} {w:World} {F:z4o} {fd:FuncData} {A:Around} {s:Shared}
noncomputable def q7a:PV->Bool
 | .none=>true
 | _=>false
theorem q2a{p:PV}(h:q7a p=true):p=.none:=by induction p using PV.casesOn<;>first | rfl | contradiction
noncomputable def q4p(l:List Value):Bool:=match l with
 | [v]=>j4i v
 | _=>false
theorem q4q{l:List Value}(h:q4p l=true):l=[.none]:=by
 match l,h with
 | [v],h=>rw [y5c (show j4i v=true from h)]
noncomputable def k4i(K:Frag)(v:Value):Bool:=match v with
 | .ref d=>dO (K.lookup d) fun o=>match o.data with
  | .seq vs _=>q4p vs.toList
  | _=>false
 | _=>false
theorem j4l{K:Frag}{v:Value}(h:k4i K v=true):∃ d o n,v=.ref d/\K.lookup d=some o/\o.data=.seq #[.none] n:=by
 cases v with
 | ref d=>
  obtain⟨o,ho,h1⟩:=z5i (show dO (K.lookup d) _=true from h)
  cases e:o.data with
  | seq vs n=>
   rw [e] at h1
   obtain⟨l⟩:=vs
   rw [q4q (show q4p l=true from h1)] at e
   exact⟨d,o,n,rfl,ho,e⟩
  | _=>rw [e] at h1;contradiction
 | _=>contradiction
noncomputable def y9b(I:z3x)(fd:FuncData)(xs:List Str)(ks:List Nat):Bool:=z2j (fun x k=>I.nm[k]?==some x) xs ks&&xs.all (z1k fd.scope.names)
noncomputable def x4w(I:z3x)(K:Frag)(F:z4o)(fd:FuncData):Bool:=
 d1 F.dfl q7a&&F.kwo.isEmpty&&F.kwargs.isNone&&(fd.params.posonlyargs.isEmpty&&fd.params.vararg.isNone&&fd.params.kwonlyargs.isEmpty&&fd.params.kwarg.isNone)&&(k4i K fd.defaults&&(fd.params.args.map (·.arg)==xs2 || fd.params.args.map (·.arg)==xs3)&&y9b I fd (fd.params.args.map (·.arg)) F.pos)
theorem x0l{g:Fz}{Z:Bt}{vs:List Value}{ps:List PV}{N:Nat}(hr:z0e I g Z vs ps)(hle:ps.length<=N)(h:N=(ps++[PV.none].drop (1 - (N - ps.length))).length) :
  ∃ vs',z0e I g Z vs' (ps++[PV.none].drop (1 - (N - ps.length)))/\(vs.length+1=N/\vs'=vs++[.none]\/vs.length=N/\vs'=vs):=by
 have hl:=z8s hr
 by_cases e:ps.length=N
 ·rw [e,Nat.sub_self,Nat.sub_zero,show[PV.none].drop 1=[] from rfl,CG]
  exact⟨vs,hr,.inr ⟨hl.trans e,rfl⟩⟩
 ·have h1:1 - (N - ps.length)=0:=Nat.sub_eq_zero_of_le (Nat.sub_pos_of_lt (Nat.lt_of_le_of_ne hle e))
  rw [h1] at h ⊢
  rw [AC] at h
  exact⟨vs++[.none],hr.append (.cons .none .nil),.inl ⟨by rw [hl];exact h.symm,rfl⟩⟩
theorem y0v{xs:List Str}{ks:List Nat}{vs:List Value}{ps:List PV}{g:Fz}{Z:Bt}(h:y9b I.t fd xs ks=true)(hr:z0e I g Z vs ps) :
  ∃ l,y6h I g Z (xs.zip vs) l/\y0t (fun _=>none) (ks.zip ps)=y0t (fun _=>none) l/\∀ x,x∈xs.zip vs->z1k fd.scope.names x.1=true:=y7c (z0u h).1 (z0u h).2 hr
theorem j0b(T:z0r I)(h:x4w I.t I.K F fd=true):q1u I prog w F fd:=by
 have c:=z5y h
 have r:=z3z c.2.2.2.2
 obtain⟨p,e0,hp⟩:=q6d c.1
 rw [q2a hp] at e0
 obtain⟨d,o,n,hdv,hdo,hdd⟩:=j4l r.1
 intro A L g Z H s pos kw vs kvs Y R hr hk hb
 obtain⟨e1,e2,Y0,e3,e4⟩:=y5d hb
 rw [z1r c.2.1] at e1 e3
 have hkw:=GE.mp e1
 subst hkw
 cases hk
 unfold j1m at e3
 rw [z1m c.2.2.1] at e3
 injection e3 with e3;subst e3
 rw [e0] at e4
 obtain⟨hlen,e5⟩:=z5d (show z4a (fun _=>none) F.pos (pos++[PV.none].drop (1 - (F.pos.length - pos.length)))=some Y from e4)
 obtain⟨vs',hr',hv⟩:=x0l hr e2 hlen
 rw [<- y0l (z0u r.2.2).1] at hv
 have fin:=y0v r.2.2 hr'
 have q:=z5v c.2.2.2.1
 rw [<- e5] at fin
 intro Q E k
 rcases CD.mp r.2.1 with hx | hx
 ·have hx':=BO hx
  rw [hx'] at fin hv
  exact j4j (z1r q.1) hx' (z1m q.2.1) (z1r q.2.2.1) (z1m q.2.2.2) hdv (T.there R _ _ hdo) hdd (hv.imp_left fun e=>⟨Nat.succ.inj e.1,e.2⟩) (k _ g Z s .refl R fin)
 ·have hx':=BO hx
  rw [hx'] at fin hv
  exact j4k (z1r q.1) hx' (z1m q.2.1) (z1r q.2.2.1) (z1m q.2.2.2) hdv (T.there R _ _ hdo) hdd (hv.imp_left fun e=>⟨Nat.succ.inj e.1,e.2⟩) (k _ g Z s .refl R fin)
noncomputable def x4x(I:z3x)(F:z4o)(fd:FuncData):Bool:=
 F.dfl.isEmpty&&F.kwargs.isNone&&(fd.params.posonlyargs.isEmpty&&fd.params.vararg.isNone&&fd.params.kwarg.isNone&&j4i fd.defaults)&&(fd.params.args.map (·.arg)==xsK.take 2&&fd.params.kwonlyargs.map (·.arg)==xsK.drop 2) &&
 d2 F.pos fun k1 k2=>d1 F.kwo fun k3=>k3 != k1&&k3 != k2&&y9b I fd xsK [k1,k2,k3]
theorem x0m{kw:List (Nat×PV)}{k:Nat}(h:kw.map (·.1)=[k]):∃ p,kw=[(k,p)]:=by
 match kw,h with
 | [(a,p)],h=>injection h with h;subst h;exact⟨p,rfl⟩
theorem j0c(h:x4x I.t F fd=true):q1u I prog w F fd:=by
 have c:=z5y h
 have q:=z5v c.2.2.1
 have x:=z0u c.2.2.2.1
 obtain⟨k1,k2,p0,h2⟩:=x4q c.2.2.2.2
 obtain⟨k3,p1,h3⟩:=q6d h2
 have y:=z3z h3
 intro A L g Z H s pos kw vs kvs Y R hr hk hb
 obtain⟨e1,e2,Y0,e3,e4⟩:=y5d hb
 rw [p1] at e1 e3
 obtain⟨p3,rfl⟩:=x0m e1
 unfold j1m at e3
 rw [z1m c.2.1] at e3
 injection e3 with e3;subst e3
 rw [p0,z1r c.1,FW,CG] at e4
 obtain⟨hlen,e5⟩:=z5d e4
 obtain⟨u1,u2,rfl⟩:=w0h hlen.symm
 obtain⟨x3,v3,hn,hv3,rfl⟩:∃ x3 v3,I.nm[k3]?=some x3/\Rel I g Z v3 p3/\kvs=[(x3,v3)]:=by
  cases hk with
  | cons a b r=>cases r;exact⟨_,_,a,b,rfl⟩
 have z:=z0u (z0u (z0u (z0u y.2.2).1).2).2
 have hx3:x3="name":=AF (hn.symm.trans (BO z.1))
 subst hx3
 rw [x0k (z1r q.1) (BO x.1) (z1m q.2.1) (BO x.2) (z1m q.2.2.1) (y5c q.2.2.2) (z8s hr)]
 have fin:=y0v y.2.2 (hr.append (.cons hv3 .nil))
 have e6:Y=y0t (fun _=>none) ([k1,k2,k3].zip ([u1,u2]++[p3])):=by
  rw [e5]
  show upd (upd (upd _ k3 p3) k1 u1) k2 u2=upd (upd (upd _ k1 u1) k2 u2) k3 p3
  rw [z8r (FX.mp y.1),z8r (FX.mp y.2.1)]
 rw [<- e6] at fin
 exact Go.pure R fin
noncomputable def q4r(I:z3x)(K:Frag)(F:z4o)(fd:FuncData):Bool:=q6z I F fd || x4w I K F fd || x4x I F fd
theorem j4m(T:z0r I)(h:q4r I.t I.K F fd=true):q1u I prog w F fd:=by
 rcases CD.mp h with h | h
 ·rcases CD.mp h with h | h
  ·exact q1z h
  ·exact j0b T h
 ·exact j0c h
end
structure y3u where
 fns:List z4o
 meths:List ((Nat×Nat)×Nat)
 gattrs:List (Nat×Str)
 flags:List (Int×Str)
 nm:List Str
 gv:List (Str×Value)
 fA:List Addr
 c0:Addr
 c1:Addr
 pT:Addr
 pF:Addr
 dA:Addr
 atts:List Nat
noncomputable def y3u.mp(D:y3u):MP:={ fn:=fun i=>D.fns[i]?,meth:=fun c m=>D.meths.lookup (c,m),gattr:=fun k=>D.gattrs.lookup k,flags:=D.flags,okPat:=okPat }
noncomputable def y3u.t(D:y3u):z3x:={ P:=D.mp,nm:=D.nm,gv:=D.gv,fA:=fun i=>D.fA.getD i 0,cA:=fun c=>match c with | 0=>D.c0 | _=>D.c1,pA:=fun b=>if b then D.pT else D.pF,dA:=D.dA,atts:=D.atts }
noncomputable def y3u.info(D:y3u)(K:Frag)(B:Heap):z2s:={ t:=D.t,K:=K,B:=B }
noncomputable def k4j(D:y3u)(K:Frag):Bool:=D.gv.all fun xv=>nsIn K mainGlobals xv.1==some (some xv.2) || (nsIn K mainGlobals xv.1==some none&&bootBuiltins xv.1==some xv.2&&!(xv.1==("__name__":Str)))
noncomputable def x8b(D:y3u):Bool:=decide D.nm.Nodup&&D.nm[0]?==some ("__init__":Str)&&D.nm[1]?==some ("__contains__":Str)&&D.nm[2]?==some ("__getitem__":Str)&&D.nm[3]?==some ("__setitem__":Str)&&D.nm[4]?==some ("__delitem__":Str)
noncomputable def y5e(D:y3u)(K:Frag)(C:Addr):Bool:=
 keepIn K (.ref C)&&plainGet K C Str.empty&&hasDictIn K C&&noSeq K C&&plainOver K C&&findIn K (.ref C) "__setattr__"==some (some (.builtin "object.__setattr__"))&&makesIn K C &&
 D.atts.all (fun k=>match D.nm[k]? with | some x=>findIn K (.ref C) x==some none | none=>true)
noncomputable def cAt(D:y3u)(c:Nat):Addr:=match c with | 0=>D.c0 | _=>D.c1
noncomputable def q4s(D:y3u)(K:Frag)(r:(Nat×Nat)×Nat):Bool:=match D.nm[r.1.2]? with
 | some x=>findIn K (.ref (cAt D r.1.1)) x==some (some (.ref (D.fA.getD r.2 0)))&&isFn K (.ref (D.fA.getD r.2 0))&&fnIn K (D.fA.getD r.2 0)&&!(D.atts.contains r.1.2)&&keepIn K (.ref (D.fA.getD r.2 0))
 | none=>true
noncomputable def x4y:Data->Option FuncData
 | .func f=>some f
 | _=>none
noncomputable def k4k:FuncBody->Option (List Stmt)
 | .stmts b=>some b
 | _=>none
noncomputable def w5v:Data->Option (Array Value)
 | .seq v _=>some v
 | _=>none
noncomputable def k4l:Data->Option (Array Value)
 | .fields v=>some v
 | _=>none
noncomputable def k4m:Data->Option (Array DictEntry)
 | .dict v _=>some v
 | _=>none
noncomputable def k4n:Value->Option Addr
 | .ref a=>some a
 | _=>none
noncomputable def k4o:Value->Option Int
 | .int k _=>some k
 | _=>none
noncomputable def x8c:Value->Option Str
 | .str k _=>some k
 | _=>none
noncomputable def k4p:CFound->Option Value
 | .val v=>some v
 | _=>none
theorem j0d{d:Data}{x:FuncData}(h:x4y d=some x):d=.func x:=by induction d using Data.casesOn<;>first | exact sn h | exact AP _ (AF h)
theorem j4n{d:FuncBody}{x:List Stmt}(h:k4k d=some x):d=.stmts x:=by induction d using FuncBody.casesOn<;>first | exact sn h | exact AP _ (AF h)
theorem x0n{d:Data}{x:Array Value}(h:w5v d=some x):∃ n,d=.seq x n:=by induction d using Data.casesOn<;>first | exact sn h | exact⟨_,AP (Data.seq · _) (AF h)⟩
theorem j4o{d:Data}{x:Array Value}(h:k4l d=some x):d=.fields x:=by induction d using Data.casesOn<;>first | exact sn h | exact AP _ (AF h)
theorem j4p{d:Data}{x:Array DictEntry}(h:k4m d=some x):∃ n,d=.dict x n:=by induction d using Data.casesOn<;>first | exact sn h | exact⟨_,AP (Data.dict · _) (AF h)⟩
theorem j4q{d:Value}{x:Addr}(h:k4n d=some x):d=.ref x:=by induction d using Value.casesOn<;>first | exact sn h | exact AP _ (AF h)
theorem j4r{d:Value}{x:Int}(h:k4o d=some x):∃ t,d=.int x t:=by induction d using Value.casesOn<;>first | exact sn h | exact⟨_,AP (Value.int · _) (AF h)⟩
theorem q2b{d:Value}{x:Str}(h:x8c d=some x):∃ t,d=.str x t:=by induction d using Value.casesOn<;>first | exact sn h | exact⟨_,AP (Value.str · _) (AF h)⟩
theorem j4s{d:CFound}{x:Value}(h:k4p d=some x):d=.val x:=by induction d using CFound.casesOn<;>first | exact sn h | exact AP _ (AF h)
noncomputable def x4z(D:y3u)(K:Frag):Bool:=D.gattrs.all fun r=>match D.nm[r.1]? with
 | some y=>dO (typeIn K (.ref D.c0)) fun mc=>readsIn K D.c0 mc&&dO (findCls K (.ref D.c0) mc y) fun l=>dO (k4p l) fun v=>x8c v==some r.2
 | none=>true
noncomputable def x8d(K:Frag)(fd:FuncData):Bool:=!fd.scope.isCoroutine&&(!fd.scope.isGenerator&&(fd.scope.kind==.function&&(fd.globals==mainGlobals&&(fd.builtins==builtinsNs&&(fd.closure.isEmpty&&(kdsCode K fd.code&&j3z fd.scope.names))))))
theorem x8e{K:Frag}{fd:FuncData}(h:x8d K fd=true):w5t K fd:=by
 have h1:=z0u h
 have h2:=z0u h1.2
 have h3:=z0u h2.2
 have h4:=z0u h3.2
 have h5:=z0u h4.2
 have h6:=z0u h5.2
 have h7:=z0u h6.2
 exact⟨q0b h1.1,q0b h2.1,BO h3.1,BO h4.1,BO h5.1,z1r h6.1,h7.1,h7.2⟩
noncomputable def x8f(D:y3u)(K:Frag)(F:z4o)(a:Addr):Bool:=dO (K.lookup a) fun o=>dO (x4y o.data) fun fd=>dO (k4k fd.body) fun body=>codeIn K fd.code fd.qualname&&x8d K fd&&z2j (y0k D.t 60 fd.scope.names) body F.body&&q4r D.t K F fd
noncomputable def j4t(e:DictEntry)(r:Int×Str):Bool:=k4o e.key==some r.1&&x8c e.val==some r.2&&e.hash==hashInt r.1
noncomputable def j4u(D:y3u)(K:Frag):Bool:=!(D.dA==sysModules)&&decide ((D.flags.map (·.1)).Nodup)&&dO (K.lookup D.dA) fun o=>(o.cls==.type "dict"&&o.dict.isNone&&decide (o.slots.toList.length=0))&&dO (k4m o.data) fun es=>z2j j4t es.toList D.flags
noncomputable def y5f(K:Frag)(b:Bool)(a:Addr):Bool:=dO (K.lookup a) fun o=>(o.cls==.type "re.Pattern"&&o.dict.isNone)&&dO (k4l o.data) fun vs=>dO (k4n (vs.getD 5 .none)) fun cl=>dO (K.lookup cl) fun oc=>dO (w5v oc.data) fun items=>
 decide (Builtin.Re.reRawNat (vs.getD 6 .none)=0)&&decide (((items.map Builtin.Re.reRawOf).map (·.toNat)).toList=(j4g b).toList)
inductive FnC(D:y3u)(K:Frag)(F:z4o)(a:Addr):Prop
 | mk (o:Obj) (fd:FuncData) (body:List Stmt) (ho:K.lookup a=some o) (hd:o.data=.func fd) (hb:fd.body=.stmts body) (h:(codeIn K fd.code fd.qualname&&x8d K fd&&z2j (y0k D.t 60 fd.scope.names) body F.body&&q4r D.t K F fd)=true)
inductive w7r(K:Frag)(b:Bool)(a:Addr):Prop
 | mk (o:Obj) (vs:Array Value) (cl:Addr) (oc:Obj) (items:Array Value) (m:Nat) (ho:K.lookup a=some o) (hc:o.cls=.type "re.Pattern") (hd:o.dict=none) (hv:o.data=.fields vs) (h5:vs.getD 5 .none=.ref cl) (h6:Builtin.Re.reRawNat (vs.getD 6 .none)=0)
  (hoc:K.lookup cl=some oc) (hi:oc.data=.seq items m) (he:(items.map Builtin.Re.reRawOf).map (·.toNat)=j4g b)
theorem j0e{V:Type}{a:Array V}(h:a.toList.length=0):a=#[]:=by
 cases a with
 | mk l=>simp at h;rw [h]
section
variable {D:y3u} {K:Frag} {B:Heap} {prog:Program} {w:World}
theorem y9c{V A8:Type}{f:V->A8->Bool}:∀ {as:List V} {bs:List A8} {i:Nat} {a:V},z2j f as bs=true->as[i]?=some a->∃ b,bs[i]?=some b/\f a b=true
 | [],_,i,a,_,h=>by simp at h
 | _::_,[],i,a,h,_=>by contradiction
 | x::as,y::bs,0,a,h,e=>by
  simp at e;subst e
  exact⟨y,rfl,(z0u h).1⟩
 | x::as,y::bs,i+1,a,h,e=>by
  obtain⟨b,e1,e2⟩:=y9c (i:=i) (z0u h).2 (by simpa using e)
  exact⟨b,by simpa using e1,e2⟩
theorem z9p{V A8:Type}[BEq V][LawfulBEq V]{l:List (V×A8)}{k:V}{v:A8}(h:l.lookup k=some v):(k,v)∈l:=by
 induction l with
 | nil=>contradiction
 | cons p l ih=>
  obtain⟨j,u⟩:=p
  simp only [List.lookup] at h
  split at h
  ·rename_i e;injection h with h;subst h;rw [BE.mp e];exact AD
  ·exact AE _ (ih h)
theorem q7b:∀ {es:List DictEntry} {fl:List (Int×Str)},z2j j4t es fl=true->∃ kvs,Pairs (intKind prog w) es kvs/\kvs.map (·.1)=fl.map (·.1)/\(∀ k,match fl.lookup k with | some x=>∃ t,valueAt kvs k=some (.str x t) | none=>valueAt kvs k=none) /\
  (∀ e,e∈es->∃ k,(intKind prog w).is k e.key=true/\e.hash=(intKind prog w).hash k)
 | [],[],_=>⟨[],.nil,rfl,fun k=>rfl,fun e h=>(nomatch h)⟩
 | [],_::_,h=>by contradiction
 | _::_,[],h=>by contradiction
 | e::es,r::fl,h=>by
  obtain⟨h1,h2⟩:=z0u h
  obtain⟨kvs,p,q,v,hh⟩:=q7b h2
  obtain⟨hk,hv,hhash⟩:=z3z h1
  obtain⟨t,ek⟩:=j4r (BO hk)
  obtain⟨t',ev⟩:=q2b (BO hv)
  have hhash:=BO hhash
  obtain⟨rk,rx⟩:=r
  have is1:(intKind prog w).is rk e.key=true:=by rw [ek];exact intKind_is prog w rk t
  refine⟨(rk,.str rx t')::kvs,.cons is1 ev p,by simp [q],fun j=>?_,fun e' he'=>?_⟩
  ·have:=v j
   by_cases hj:j=rk
   ·subst hj
    simp [List.lookup,valueAt]
   ·have e1:(j==rk)=false:=by simpa using hj
    have e2:(rk=j)=False:=by simpa using fun h=>hj h.symm
    simp only [List.lookup,e1]
    unfold valueAt at this ⊢
    simp only [List.find?,e2,decide_false]
    exact this
  ·rcases AQ.mp he' with rfl | he'
   ·exact⟨rk,is1,hhash⟩
   ·exact hh e' he'
structure q2c(D:y3u)(K:Frag):Prop where
 nm:x8b D=true
 gv:k4j D K=true
 c0:y5e D K D.c0=true
 c1:y5e D K D.c1=true
 meths:D.meths.all (q4s D K)=true
 gat:x4z D K=true
 fns:z2j (x8f D K) D.fns D.fA=true
 flag:j4u D K=true
 pT:y5f K true D.pT=true
 pF:y5f K false D.pF=true
theorem z8t{C:Addr}(h:y5e D K C=true):keepIn K (.ref C)=true/\(plainGet K C Str.empty=true/\hasDictIn K C=true/\noSeq K C=true/\plainOver K C=true/\findIn K (.ref C) "__setattr__"=some (some (.builtin "object.__setattr__")))/\makesIn K C=true /\
  ∀ k x,D.atts.contains k=true->D.nm[k]?=some x->findIn K (.ref C) x=some none:=by
 unfold y5e at h
 simp only [EK,BE] at h
 obtain⟨⟨⟨⟨⟨⟨⟨a,b⟩,c⟩,d⟩,e⟩,f⟩,g⟩,i⟩:=h
 refine⟨a,⟨b,c,d,e,f⟩,g,fun k x hk hx=>?_⟩
 have:=BA.mp i k (by simpa using hk)
 rw [hx] at this
 exact BE.mp this
theorem q2d{F:z4o}{a:Addr}(h:x8f D K F a=true):FnC D K F a:=by
 obtain⟨o,ho,h⟩:=z5i h
 obtain⟨fd,hd,h⟩:=z5i h
 obtain⟨body,hb,h⟩:=z5i h
 exact⟨o,fd,body,ho,j0d hd,j4n hb,h⟩
theorem j4v{p:Program}{loose:List Str}{mean:ExcName->Option Value}{mg mb:Str->Option Value}(c:q2c D K)(X:K.In B)(T:Top p loose mean mg mb B):z0r (D.info K B):=by
 have hn:=c.nm
 unfold x8b at hn
 simp only [EK,BE] at hn
 obtain⟨⟨⟨⟨⟨n0,n1⟩,n2⟩,n3⟩,n4⟩,n5⟩:=hn
 have C:∀ i,y5e D K ((D.info K B).cA i)=true:=fun i=>match i with
  | 0=>c.c0
  | _+1=>c.c1
 refine { nd:=AK n0,kin:=X,glob:=⟨mg,mb,T.g,T.b,fun x v hx=>?_⟩,keepF:=fun f hf=>?_,keepC:=fun i=>(z8t (C i)).1,n0:=n1,n1:=n2,n2:=n3,n3:=n4,n4:=n5,meths:=fun i m f x hm hx=>?_,plainC:=fun i=>(z8t (C i)).2.1,makesC:=fun i f _=>(z8t (C i)).2.2.1,attsC:=fun i k x hk hx=>(z8t (C i)).2.2.2 k x hk hx,gat:=fun k x y hk hy=>?_ }
 ·have:=BA.mp c.gv _ (z9p hx)
  simp only [Bool.or_eq_true,EK,BE,DJ] at this
  rcases this with h | ⟨⟨h1,h2⟩,h3⟩
  ·exact .inl (mg_of X T.g h)
  ·exact .inr ⟨mg_none_of X T.g h1,(T.builtins x (by simpa using h3)).trans h2⟩
 ·obtain⟨F,hF⟩:=Option.isSome_iff_exists.mp hf
  obtain⟨a,ha,hc⟩:=y9c c.fns hF
  obtain⟨o,fd,body,ho,hd,_,_⟩:=q2d hc
  have ea:(D.info K B).fA f=a:=by show D.fA.getD f 0=a;rw [AH,ha];rfl
  rw [ea]
  obtain⟨oc,od,odt,os⟩:=o
  dsimp only at hd
  subst hd
  show(match K.lookup a with | some ⟨_,_,.func _,_⟩=>true | some ⟨_,_,.cls _,_⟩=>_ | _=>false)=true
  rw [ho]
 ·have:=BA.mp c.meths _ (z9p hm)
  unfold q4s at this
  rw [show D.nm[m]?=some x from hx] at this
  simp only [EK,BE,DJ] at this
  obtain⟨⟨⟨⟨a,b⟩,cc⟩,d⟩,e⟩:=this
  have ec:(D.info K B).cA i=cAt D i:=by induction i using Nat.casesOn<;>rfl
  rw [ec]
  exact⟨a,b,cc,d,e⟩
 ·have:=BA.mp c.gat _ (z9p hk)
  rw [show D.nm[k]?=some y from hy] at this
  obtain⟨mc,hmc,h⟩:=z5i this
  obtain⟨a,h⟩:=z0u h
  obtain⟨l,hl,h⟩:=z5i h
  obtain⟨v,hv,h⟩:=z5i h
  obtain⟨t,rfl⟩:=q2b (BO h)
  exact⟨mc,t,hmc,a,hl.trans (AP some (j4s hv))⟩
theorem x0o(c:q2c D K)(X:K.In B)(T:z0r (D.info K B))(hlim:B.NoLimit):x7x (D.info K B) prog w where
 nolim:=hlim
 fns:=fun f F hF=>by
  obtain⟨a,ha,hc⟩:=y9c c.fns hF
  obtain⟨o,fd,body,ho,hd,hb,h⟩:=q2d hc
  have ea:(D.info K B).fA f=a:=by show D.fA.getD f 0=a;rw [AH,ha];rfl
  rw [ea]
  have q:=z5v h
  exact⟨o,fd,body,60,X _ _ ho,hd,hb,codeRec_of X q.1,x8e q.2.1,q.2.2.1,j4m T q.2.2.2⟩
theorem y7d{b:Bool}{a:Addr}(h:y5f K b a=true):w7r K b a:=by
 obtain⟨o,ho,h⟩:=z5i h
 obtain⟨h1,h⟩:=z0u h
 obtain⟨vs,hv,h⟩:=z5i h
 obtain⟨cl,h5,h⟩:=z5i h
 obtain⟨oc,hoc,h⟩:=z5i h
 obtain⟨items,hi,h⟩:=z5i h
 obtain⟨m,hi⟩:=x0n hi
 exact⟨o,vs,cl,oc,items,m,ho,BO (z0u h1).1,z1m (z0u h1).2,j4o hv,j4q h5,AK (z0u h).1,hoc,hi,Array.toList_inj.mp (AK (z0u h).2)⟩
theorem x0p(c:q2c D K)(X:K.In B):q1d (D.info K B) prog w where
 flags:=by
  have h:=c.flag
  obtain⟨h0,h1,h2⟩:=z3z h
  obtain⟨o,ho,h2⟩:=z5i h2
  obtain⟨h3,h2⟩:=z0u h2
  obtain⟨c1,c2,c3⟩:=z3z h3
  obtain⟨es,he,h4⟩:=z5i h2
  obtain⟨n,he⟩:=j4p he
  obtain⟨kvs,p,q,v,hh⟩:=q7b (prog:=prog) (w:=w) h4
  exact⟨kvs,⟨o,es,n,X _ _ ho,⟨BO c1,z1m c2,j0e (AK c3)⟩,he,fun e he=>hh e (ES.mpr he),p,by rw [q];exact AK h1⟩,q0b h0,v⟩
 pats:=fun b=>by
  have hb:y5f K b ((D.info K B).pA b)=true:=by cases b;exact c.pF;exact c.pT
  obtain⟨o,vs,cl,oc,items,m,ho,h1,h2,_,_,_,_,_,_⟩:=y7d hb
  exact⟨o,X _ _ ho,h1,h2⟩
 patA:=j4c
 patS:=q6y
 patT:=x0j
 search:=fun b x t A s Q E hok hup q=>by
  have hb:y5f K b ((D.info K B).pA b)=true:=by cases b;exact c.pF;exact c.pT
  obtain⟨o,vs,cl,oc,items,m,ho,h1,h2,h3,h4,h5,h6,h7,h8⟩:=y7d hb
  exact j4h hok (hup _ _ (X _ _ ho)) h1 h3 h4 h5 (hup _ _ (X _ _ h6)) h7 h8 (q s.toks)
end
noncomputable def z8d(h:Heap)(n:Nat):Frag:=(List.range n).filterMap fun a=>(h.get? a).map fun o=>(a,o)
theorem y5g{h:Heap}:∀ {l:List Nat} {a:Addr} {o:Obj},(l.filterMap fun a=>(h.get? a).map fun o=>(a,o)).lookup a=some o->h.get? a=some o
 | [],_,_,e=>by contradiction
 | b::l,a,o,e=>by
  rw [List.filterMap_cons] at e
  induction hb:h.get? b using Option.casesOn with
  | none=>rw [hb] at e;exact y5g (l:=l) e
  | some x=>
   rw [hb] at e
   have e:List.lookup a ((b,x)::_)=some o:=e
   rw [DX] at e
   induction q:a==b using Bool.casesOn with
   | true=>rw [q] at e;injection e with e;subst e;rw [BO q];exact hb
   | false=>rw [q] at e;exact y5g (l:=l) e
theorem j4w(h:Heap)(n:Nat):(z8d h n).In h:=fun a o e=>y5g e
noncomputable def q4t(D:y3u)(lid n:Nat)(s:Shared):Bool:=x8b D&&k4j D (z8d s.heap n)&&y5e D (z8d s.heap n) D.c0&&y5e D (z8d s.heap n) D.c1&&D.meths.all (q4s D (z8d s.heap n))&&x4z D (z8d s.heap n)&&j4u D (z8d s.heap n)&&y5f (z8d s.heap n) true D.pT&&y5f (z8d s.heap n) false D.pF &&
 nsIn (z8d s.heap n) mainGlobals ("law":Str)==some (some (.ref (D.fA.getD lid 0)))
noncomputable def j0f(D:y3u)(n:Nat)(s:Shared):Bool:=z2j (x8f D (z8d s.heap n)) D.fns D.fA
noncomputable def Seen(D:y3u)(lid:Nat)(h:Heap):Prop:=∃ K:Frag,K.In h/\q2c D K/\nsIn K mainGlobals ("law":Str)=some (some (.ref (D.fA.getD lid 0)))
theorem x8g{D:y3u}{lid n:Nat}{s:Shared}(h1:q4t D lid n s=true)(h2:j0f D n s=true):Seen D lid s.heap:=by
 unfold q4t at h1
 simp only [EK] at h1
 obtain⟨⟨⟨⟨⟨⟨⟨⟨⟨h1,h3⟩,h4⟩,h5⟩,h6⟩,h7⟩,h8⟩,h9⟩,h10⟩,h11⟩:=h1
 exact⟨_,j4w s.heap n,⟨h1,h3,h4,h5,h6,h7,h2,h8,h9,h10⟩,BO h11⟩
theorem j4x{V Z A8 C0:Type}{o:Option V}{f:V->Z}{g:V->A8}{k:V->C0}{a:Z}{b:A8}{c:C0}(h1:o.map (fun x=>(f x,g x))=some (a,b))(h2:o.map k=some c):o.map (fun x=>(f x,g x,k x))=some (a,b,c):=by
 induction o using Option.casesOn with
 | none=>contradiction
 | some x=>
  injection h1 with h1
  injection h2 with h2
  injection h1 with e1 e2
  exact AP some (e1▸e2▸h2▸rfl)
theorem Seen.keeps{D:y3u}{lid:Nat}{h h':Heap}(S:Seen D lid h)(k:∀ b o,h.get? b=some o->h'.get? b=some o):Seen D lid h':=
 let ⟨K,a,b⟩:=S;⟨K,fun x o e=>k x o (a x o e),b⟩
theorem j4y{P:Params}{h:Heap}{a:Addr}{d:WData}{xs:List PyData}(hw:Well P h (.ref a) d)(hd:d=ofPy (.list xs)):∀ o,h.get? a=some o->o.cls=.type "list"->o.dict=none:=by
 intro o ho hc
 cases hw with
 | list h1 _=>rw [h1] at ho;injection ho with ho;subst ho;rfl
 | bytearray h1=>rw [h1] at ho;injection ho with ho;subst ho;rfl
 | tuple h1 _=>rw [h1] at ho;injection ho with ho;subst ho;rfl
 | dict h1 _=>rw [h1] at ho;injection ho with ho;subst ho;rfl
 | set h1 _ _ _=>rw [h1] at ho;injection ho with ho;subst ho;rfl
 | frozenset h1 _ _ _=>rw [h1] at ho;injection ho with ho;subst ho;rfl
 | _=>simp [ofPy] at hd
theorem x0q{I:z2s}{g:Fz}{Z:Bt}{vs:List Value}{ns:List Int}(h:IntsAre vs ns):z0e I g Z vs (ns.map .int):=by
 induction h with
 | nil=>exact .nil
 | cons n t _ ih=>exact .cons (.int n t) ih
theorem x0r{vs:List Value}{ns:List Int}(h:IntsAre vs ns):vs.length=ns.length:=by
 induction h with
 | nil=>rfl
 | cons n t _ ih=>simp [ih]
theorem law_walks{D:y3u}{K:Frag}{prog:Program}{w:World}{s:Shared}{p:Program}{loose:List Str}{mean:ExcName->Option Value}{mg mb:Str->Option Value}{l fa:Addr}{vals:List Value}{ns:List Int}{lid:Nat}{xs:List PyData}{d:WData}{A:Around}
 {Q:Value->Shared->Prop}{E:Value->Shared->Prop}(c:q2c D K)(X:K.In s.heap)(T:Top p loose mean mg mb s.heap)(hL:s.heap.IsList l vals.toArray)(hw:Well w.params s.heap (.ref l) d)(hd:d=ofPy (.list xs))(hI:IntsAre vals ns)(hlen:ns.length<=63)
 (hA:k1x A 20)(hfa:fa=D.fA.getD lid 0)(hrun:∃ H',z0h D.mp 20 lid [.lst (ns.map .int)] [] ⟨0,0⟩ []=some (.bool true,H'))
 (q:∀ s',(∀ b o,s.heap.get? b=some o->s'.heap.get? b=some o)->s'.os=s.os->s'.gens=s.gens->Q (.bool true) s'):wpAny (model prog w) A (call (.ref fa) [.ref l]) Q E s:=by
 have TT:=j4v c X T
 have TF:x7x (D.info K s.heap) prog w:=x0o c X TT T.nolimit
 have TW:q1d (D.info K s.heap) prog w:=x0p c X
 obtain⟨H',hrun⟩:=hrun
 obtain⟨o,ho,hc,n,hod⟩:=hL
 have R:SR (D.info K s.heap) w.params (fun a=>s.heap.get? a) (fun _=>none) [] s.heap:=
  { base:=fun a o h=>h,sub:=fun a o h=>h,dom:=fun i hi=>absurd hi (EP _),lt:=fun i a h=>(nomatch h),inj:=fun i j a h=>(nomatch h),off:=fun i a h=>(nomatch h),cell:=fun i a c h=>(nomatch h) }
 have RA:z0e (D.info K s.heap) (fun a=>s.heap.get? a) (fun _=>none) [.ref l] [.lst (ns.map .int)]:=
  .cons (.lst ho ⟨hc,n,hod,j4y hw hd o ho hc⟩ (by rw [x0r hI];exact AA hlen (by decide)) (x0q hI)) .nil
 have G:=x0h TT TW TF 20 (A:=A) (L:=⟨0,0⟩) hA R RA .nil hrun
 rw [show fa=(D.info K s.heap).fA lid from hfa]
 refine wpAny_call (G _ fun v g' Z' s' Gr R' rv=>?_)
 cases rv
 refine q s' (fun b o h=>Gr.kept b o h (by simp) fun i e=>(nomatch e)) ?_ ?_
 ·rw [Gr.rest]
 ·rw [Gr.rest]
end Mine
end
section
open PySem
namespace Mine
@[simp] theorem w1r{V:Type}(a:V)(L:Lim)(H:z0b):M.pure a L H=some (a,H):=rfl
@[simp] theorem w1s{V:Type}(L:Lim)(H:z0b):(M.fail:M V) L H=none:=rfl
@[simp] theorem x0s{V:Type}(a:V)(L:Lim)(H:z0b):M.ofOpt (some a) L H=some (a,H):=rfl
@[simp] theorem x0t(L:Lim)(H:z0b):z4v L H=some (H,H):=rfl
@[simp] theorem y0w{V Z:Type}(m:M V)(f:V->M Z)(L:Lim)(H:z0b):M.bind m f L H=match m L H with | some (a,H')=>f a L H' | none=>none:=rfl
theorem z1b{V Z:Type}{m:M V}{f:V->M Z}{L:Lim}{H H':z0b}{a:V}(h:m L H=some (a,H')):M.bind m f L H=f a L H':=by rw [y0w,h]
@[simp] theorem k4q(Y:z0l)(k:Nat)(v:PV)(j:Nat):upd Y k v j=if j=k then some v else Y j:=rfl
@[simp] theorem k4r(i:Int)(L:Lim)(H:z0b):y6e (.int i) L H=some (i,H):=rfl
noncomputable def Lup(up:Bool)(L:Lim)(H:z0b):Lim:=if up then⟨H.length,H.length⟩ else L
@[simp] theorem j4z{V:Type}(up:Bool)(m:M V)(L:Lim)(H:z0b):M.raised up m L H=m (Lup up L H) H:=rfl
section
variable (P:MP) (C:z0g) (n:Nat) (Y:z0l) (L:Lim) (H:z0b)
@[simp] theorem w5w:(sem P C (n+1)).ev Y .none L H=some (.none,H):=rfl
@[simp] theorem w5x(b):(sem P C (n+1)).ev Y (.bool b) L H=some (.bool b,H):=rfl
@[simp] theorem w7s(i):(sem P C (n+1)).ev Y (.int i) L H=some (.int i,H):=rfl
@[simp] theorem w7t(x):(sem P C (n+1)).ev Y (.str x) L H=some (.str x,H):=rfl
@[simp] theorem w7u(k):(sem P C (n+1)).ev Y (.var k) L H=M.ofOpt (Y k) L H:=rfl
@[simp] theorem w7v(o a b):(sem P C (n+1)).ev Y (.bin o a b) L H=((((sem P C n).ev Y a).bind fun p=>((sem P C n).ev Y b).bind fun q=>z4v.bind fun H=>M.ofOpt (y5z o H p q)):M PV) L H:=rfl
@[simp] theorem w7w(o a b):(sem P C (n+1)).ev Y (.cmp o a b) L H=(((sem P C n).ev Y a).bind fun p=>((sem P C n).ev Y b).bind fun q=>z9e P C o p q:M PV) L H:=rfl
@[simp] theorem w0i(ng a):(sem P C (n+1)).ev Y (.isNone ng a) L H=(((sem P C n).ev Y a).bind fun p=>M.pure (.bool (z2v p != ng)):M PV) L H:=rfl
@[simp] theorem w5y(ng t a):(sem P C (n+1)).ev Y (.isTy ng t a) L H=(((sem P C n).ev Y a).bind fun p=>z4v.bind fun H=>(M.ofOpt (q3q H t p)).bind fun r=>M.pure (.bool (r != ng)):M PV) L H:=rfl
@[simp] theorem w7x(c a b):(sem P C (n+1)).ev Y (.ite c a b) L H=(((sem P C n).ts Y c).bind fun t=>if t then(sem P C n).ev Y a else(sem P C n).ev Y b:M PV) L H:=rfl
@[simp] theorem k4s(a i):(sem P C (n+1)).ev Y (.idx a i) L H=(((sem P C n).ev Y a).bind fun p=>((sem P C n).ev Y i).bind fun q=>j8r P C p q:M PV) L H:=rfl
@[simp] theorem w1t(a lo hi):(sem P C (n+1)).ev Y (.slice a lo hi) L H=(((sem P C n).ev Y a).bind fun p=>(j8w ((sem P C n).ev Y) lo).bind fun l=>(j8w ((sem P C n).ev Y) hi).bind fun h=>(z9d l).bind fun l=>(z9d h).bind fun h=>
   z4v.bind fun H=>M.ofOpt (z7m H p l h):M PV) L H:=rfl
@[simp] theorem w1u(l):(sem P C (n+1)).ev Y (.tup l) L H=((z3p ((sem P C n).ev Y) l).bind fun vs=>M.pure (.tup vs):M PV) L H:=rfl
@[simp] theorem w7y(l):(sem P C (n+1)).ev Y (.lst l) L H=((z3p ((sem P C n).ev Y) l).bind fun vs=>M.pure (.lst vs):M PV) L H:=rfl
@[simp] theorem w5z(l):(sem P C (n+1)).ev Y (.mlst l) L H=((z3p ((sem P C n).ev Y) l).bind fun vs=>z7x vs:M PV) L H:=rfl
@[simp] theorem w6a(a b):(sem P C (n+1)).ev Y (.mcat a b) L H=(((sem P C n).ev Y a).bind fun p=>((sem P C n).ev Y b).bind fun q=>z4v.bind fun H=>(M.ofOpt (z5u H p)).bind fun x=>(M.ofOpt (z5u H q)).bind fun y=>(M.ofOpt (sz (x++y))).bind fun l=>z7x l:M PV) L H:=rfl
@[simp] theorem w0j(a):(sem P C (n+1)).ev Y (.mslice a) L H=(((sem P C n).ev Y a).bind fun p=>z4v.bind fun H=>(M.ofOpt (z5u H p)).bind fun x=>z7x x:M PV) L H:=rfl
@[simp] theorem w6b(e):(sem P C (n+1)).ev Y (.pure e) L H=q8w ((sem P C n).ev Y e) L H:=rfl
@[simp] theorem w9c(e):(sem P C (n+1)).ev Y (.gc e) L H=gcM ((sem P C n).ev Y e) L H:=rfl
@[simp] theorem k4t(elt gs):(sem P C (n+1)).ev Y (.comp elt gs) L H=((z9y (sem P C n) elt Y gs).bind fun l=>M.pure (.lst l):M PV) L H:=rfl
@[simp] theorem w6c(f args):(sem P C (n+1)).ev Y (.call f args) L H=((z3p ((sem P C n).ev Y) args).bind fun vs=>C f vs []:M PV) L H:=rfl
@[simp] theorem w7z(c args):(sem P C (n+1)).ev Y (.new c args) L H=((M.ofOpt (P.meth c y4e)).bind fun f=>(z3p ((sem P C n).ev Y) args).bind fun vs=>y4d.bind fun i=>(C f (.inst c i::vs) []).bind fun r=>if z2v r then M.pure (.inst c i) else M.fail:M PV) L H:=rfl
@[simp] theorem w6d(c args):(sem P C (n+1)).ev Y (.newg c args) L H=((M.ofOpt (P.meth c y4e)).bind fun f=>(z3p ((sem P C n).ev Y) args).bind fun vs=>y4d.bind fun i=>(y2h i (C f (.inst c i::vs) [])).bind fun _=>M.pure (.inst c i):M PV) L H:=rfl
@[simp] theorem w6e(m o args):(sem P C (n+1)).ev Y (.meth m o args) L H=(((sem P C n).ev Y o).bind fun p=>(q3r p).bind fun _=>(z3p ((sem P C n).ev Y) args).bind fun vs=>y0a P C m p vs []:M PV) L H:=rfl
@[simp] theorem w1v(m o args k e):(sem P C (n+1)).ev Y (.methk m o args k e) L H=(((sem P C n).ev Y o).bind fun p=>(q3r p).bind fun _=>(z3p ((sem P C n).ev Y) args).bind fun vs=>((sem P C n).ev Y e).bind fun v=>y0a P C m p vs [(k,v)]:M PV) L H:=rfl
@[simp] theorem w6f(k o):(sem P C (n+1)).ev Y (.attr k o) L H=(((sem P C n).ev Y o).bind fun p=>j8x k p:M PV) L H:=rfl
@[simp] theorem w1w(k):(sem P C (n+1)).ev Y (.gattr k) L H=((M.ofOpt (P.gattr k)).bind fun x=>M.pure (.str x):M PV) L H:=rfl
@[simp] theorem w8a(b):(sem P C (n+1)).ev Y (.pat b) L H=some (.pat b,H):=rfl
@[simp] theorem w6g(p args):(sem P C (n+1)).ev Y (.prim p args) L H=((z3p ((sem P C n).ev Y) args).bind fun vs=>z4v.bind fun H=>M.ofOpt (z4p P p H vs):M PV) L H:=rfl
@[simp] theorem w8b(a):(sem P C (n+1)).ts Y (.notE a) L H=(((sem P C n).ts Y a).bind fun t=>M.pure (!t):M Bool) L H:=rfl
@[simp] theorem w1x(l):(sem P C (n+1)).ts Y (.andE l) L H=y4c ((sem P C n).ts Y) l L H:=rfl
@[simp] theorem w9d(l):(sem P C (n+1)).ts Y (.orE l) L H=x6l ((sem P C n).ts Y) l L H:=rfl
noncomputable def tsV(n:Nat)(e:ME):M Bool:=((sem P C n).ev Y e).bind fun p=>z4v.bind fun H=>M.ofOpt (z9c H p)
@[simp] theorem w8c(k):(sem P C (n+1)).ts Y (.var k) L H=tsV P C Y n (.var k) L H:=rfl
@[simp] theorem w6h(k):(sem P C (n+1)).ts Y (.bool k) L H=tsV P C Y n (.bool k) L H:=rfl
@[simp] theorem w1y(o a b):(sem P C (n+1)).ts Y (.cmp o a b) L H=tsV P C Y n (.cmp o a b) L H:=rfl
@[simp] theorem w0k(o a):(sem P C (n+1)).ts Y (.isNone o a) L H=tsV P C Y n (.isNone o a) L H:=rfl
@[simp] theorem w6i(o t a):(sem P C (n+1)).ts Y (.isTy o t a) L H=tsV P C Y n (.isTy o t a) L H:=rfl
@[simp] theorem w8d(o a b):(sem P C (n+1)).ts Y (.bin o a b) L H=tsV P C Y n (.bin o a b) L H:=rfl
@[simp] theorem w6j(p a):(sem P C (n+1)).ts Y (.prim p a) L H=tsV P C Y n (.prim p a) L H:=rfl
@[simp] theorem w6k(p a):(sem P C (n+1)).ts Y (.call p a) L H=tsV P C Y n (.call p a) L H:=rfl
@[simp] theorem w6l(p a):(sem P C (n+1)).ts Y (.attr p a) L H=tsV P C Y n (.attr p a) L H:=rfl
@[simp] theorem w6m(m o a):(sem P C (n+1)).ts Y (.meth m o a) L H=tsV P C Y n (.meth m o a) L H:=rfl
@[simp] theorem k4u(n e):tsV P C Y n e L H=(((sem P C n).ev Y e).bind fun p=>z4v.bind fun H=>M.ofOpt (z9c H p):M Bool) L H:=rfl
@[simp] theorem w8e(e):(sem P C (n+1)).ex Y (.ret e) L H=(((sem P C n).ev Y e).bind fun v=>M.pure (.ret v):M Fl) L H:=rfl
@[simp] theorem w6n(e):(sem P C (n+1)).ex Y (.expr e) L H=(((sem P C n).ev Y e).bind fun _=>M.pure (.next Y):M Fl) L H:=rfl
@[simp] theorem w0l(p e):(sem P C (n+1)).ex Y (.assign p e) L H=(((sem P C n).ev Y e).bind fun v=>(M.ofOpt (z1t Y p v)).bind fun Y'=>M.pure (.next Y'):M Fl) L H:=rfl
@[simp] theorem k4v(ks e):(sem P C (n+1)).ex Y (.assigns ks e) L H=(((sem P C n).ev Y e).bind fun v=>M.pure (.next (ks.foldl (fun Y k=>upd Y k v) Y)):M Fl) L H:=rfl
@[simp] theorem w8f(o k e):(sem P C (n+1)).ex Y (.aug o k e) L H=((M.ofOpt (Y k)).bind fun p=>((sem P C n).ev Y e).bind fun q=>z4v.bind fun H=>(M.ofOpt (x4f o p q)).bind fun r=>M.pure (.next (upd Y k r)):M Fl) L H:=rfl
@[simp] theorem k4w(o k e):(sem P C (n+1)).ex Y (.setAttr o k e) L H=(((sem P C n).ev Y e).bind fun v=>((sem P C n).ev Y o).bind fun p=>(y3e k p v).bind fun _=>M.pure (.next Y):M Fl) L H:=rfl
@[simp] theorem w0m(o i e):(sem P C (n+1)).ex Y (.setIdx o i e) L H=(((sem P C n).ev Y e).bind fun v=>((sem P C n).ev Y o).bind fun p=>((sem P C n).ev Y i).bind fun q=>(y4g P C p q v).bind fun _=>M.pure (.next Y):M Fl) L H:=rfl
@[simp] theorem w0n(o e):(sem P C (n+1)).ex Y (.setAll o e) L H=(((sem P C n).ev Y e).bind fun v=>((sem P C n).ev Y o).bind fun p=>(y8f p v).bind fun _=>M.pure (.next Y):M Fl) L H:=rfl
@[simp] theorem w0o(o i):(sem P C (n+1)).ex Y (.delIdx o i) L H=(((sem P C n).ev Y o).bind fun p=>((sem P C n).ev Y i).bind fun q=>(y0a P C y3d p [q] []).bind fun _=>M.pure (.next Y):M Fl) L H:=rfl
@[simp] theorem w0p(o e):(sem P C (n+1)).ex Y (.append o e) L H=(((sem P C n).ev Y o).bind fun p=>(j8y p).bind fun _=>((sem P C n).ev Y e).bind fun v=>(y8g p v).bind fun _=>M.pure (.next Y):M Fl) L H:=rfl
@[simp] theorem w8g(c a b):(sem P C (n+1)).ex Y (.ifs c a b) L H=(((sem P C n).ts Y c).bind fun t=>exs (sem P C n).ex Y (if t then a else b):M Fl) L H:=rfl
theorem x0u(p k src body orelse):(sem P C (n+1)).ex Y (.for_ p k src body orelse) L H=((z8z (sem P C n) Y k src).bind fun r=>(z3c (sem P C n).ex p body orelse Y r.1).raised r.2:M Fl) L H:=rfl
@[simp] theorem w8h:(sem P C (n+1)).ex Y .brk L H=some (.brk Y,H):=rfl
@[simp] theorem w1z(ex:z0l->MS->M Fl):exs ex Y [] L H=some (.next Y,H):=rfl
@[simp] theorem q7c(ex:z0l->MS->M Fl)(st r):exs ex Y (st::r) L H=((ex Y st).bind fun f=>match f with
  | .next Y'=>exs ex Y' r
  | f=>M.pure f:M Fl) L H:=rfl
@[simp] theorem w0q{V:Type}(f:ME->M V):z3p f [] L H=some ([],H):=rfl
@[simp] theorem k1y{V:Type}(f:ME->M V)(e es):z3p f (e::es) L H=((f e).bind fun a=>(z3p f es).bind fun as=>M.pure (a::as):M (List V)) L H:=rfl
@[simp] theorem w0r(f:ME->M Bool):y4c f [] L H=some (true,H):=rfl
@[simp] theorem y5h(f:ME->M Bool)(c cs):y4c f (c::cs) L H=((f c).bind fun ok=>if ok then y4c f cs else M.pure false:M Bool) L H:=rfl
@[simp] theorem w0s(f:ME->M Bool):x6l f [] L H=some (false,H):=rfl
@[simp] theorem k4x(f:ME->M Bool)(c cs):x6l f (c::cs) L H=((f c).bind fun ok=>if ok then M.pure true else x6l f cs:M Bool) L H:=rfl
theorem j0g(ex:z0l->MS->M Fl)(a b):exs ex Y (a++b) L H=((exs ex Y a).bind fun f=>match f with
  | .next Y'=>exs ex Y' b
  | f=>M.pure f:M Fl) L H:=by
 induction a generalizing Y H with
 | nil=>rfl
 | cons st r ih=>
  show exs ex Y (st::(r++b)) L H=_
  rw [q7c]
  simp only [y0w]
  rw [q7c,y0w]
  induction h:ex Y st L H using Option.casesOn with
  | none=>rfl
  | some x=>
   obtain⟨f,H'⟩:=x
   cases f with
   | next Y'=>simp only;rw [ih];rfl
   | brk Y'=>rfl
   | ret v=>rfl
end
section
variable {S:z6q} {Y:z0l} {L:Lim} {H:z0b}
theorem z7b{V:Type}{f:PV->M (List PV)}{enc:V->PV}{g:V->List PV}:∀ {xs:List V},(∀ x,x∈xs->f (enc x) L H=some (g x,H))->z4u f (xs.map enc) L H=some (xs.flatMap g,H)
 | [],_=>rfl
 | x::xs,h=>by
  exact(z1b (h x AD)).trans (z1b (z7b fun y hy=>h y (AE _ hy)))
theorem z9q{V A8:Type}(t:V->Bool)(o:V->A8):∀ xs:List V,(xs.flatMap fun x=>if t x=true then[o x] else[])=(xs.filter t).map o
 | []=>rfl
 | x::xs=>by
  rw [List.flatMap_cons,z9q t o xs]
  cases h:t x<;>simp [h]
theorem z8e{elt:ME}{pat:Pat}{ifs:List ME}{items:List PV}:z3b S elt Y pat ifs [] items=z4u (fun v=>match z1t Y pat v with
  | none=>M.fail
  | some Y'=>(y4c (S.ts Y') ifs).bind fun ok=>if ok then((S.ev Y' elt).bind fun r=>M.pure [r]) else M.pure []) items:=by kernel_rfl
theorem q2e{elt:ME}{pat:Pat}{k:z5w}{args ifs:List ME}:z9y S elt Y [(pat,k,args,ifs)] L H=((z8z S Y k args).bind fun r=>
  ((z3b S elt (clear Y (z2r pat++[])) pat ifs [] r.1).raised r.2).bind fun l=>if decide (l.length<=z2k) then M.pure l else M.fail:M (List PV)) L H:=rfl
theorem z7c{V:Type}{elt:ME}{pat:Pat}{k:z5w}{args ifs:List ME}{up:Bool}{xs:List V}{enc out:V->PV}{test:V->Bool}{env:V->z0l}
 (hsrc:z8z S Y k args L H=some ((xs.map enc,up),H))(hlen:xs.length<=z2k)
 (hb:∀ x,x∈xs->z1t (clear Y (z2r pat)) pat (enc x)=some (env x))
 (ht:∀ x,x∈xs->y4c (S.ts (env x)) ifs (Lup up L H) H=some (test x,H))
 (ho:∀ x,x∈xs->test x=true->S.ev (env x) elt (Lup up L H) H=some (out x,H)) :
  z9y S elt Y [(pat,k,args,ifs)] L H=some ((xs.filter test).map out,H):=by
 rw [q2e,z1b hsrc]
 simp only [CG]
 have key:(z3b S elt (clear Y (z2r pat)) pat ifs [] (xs.map enc)).raised up L H=some ((xs.filter test).map out,H):=by
  rw [j4z,z8e,<- z9q]
  refine z7b fun x hx=>?_
  rw [hb x hx]
  dsimp only
  rw [z1b (ht x hx)]
  induction h:test x using Bool.casesOn with
  | false=>rfl
  | true=>
   rw [AR rfl,z1b (ho x hx h)]
   simp [M.pure]
 have hk2:=z1b (f:=fun l=>if decide (l.length<=z2k) then M.pure l else M.fail) key
 refine hk2.trans ?_
 have:((xs.filter test).map out).length<=z2k:=by
  rw [AI]
  exact AA (CA _ _) hlen
 rw [AR (AV this)]
 rfl
theorem j0h(k:Nat)(v:PV):upd (clear Y [k]) k v=upd Y k v:=by
 funext j
 simp only [upd,clear]
 by_cases h:j=k
 ·simp [h]
 ·simp [h]
theorem j0i(a b:Nat)(u v:PV):upd (upd (clear Y [a,b]) a u) b v=upd (upd Y a u) b v:=by
 funext j
 simp only [upd,clear]
 by_cases h:j=b
 ·simp [h]
 ·by_cases h2:j=a
  ·simp [h2]
  ·simp [h,h2]
theorem j0j(a b c:Nat)(u v w:PV):upd (upd (upd (clear Y [a,b,c]) a u) b v) c w=upd (upd (upd Y a u) b v) c w:=by
 funext j
 simp only [upd,clear]
 by_cases h:j=c
 ·simp [h]
 ·by_cases h2:j=b
  ·simp [h2]
  ·by_cases h3:j=a
   ·simp [h3]
   ·simp [h,h2,h3]
theorem z1w{V:Type}{elt:ME}{v:Nat}{k:z5w}{args ifs:List ME}{up:Bool}{xs:List V}{enc out:V->PV}{test:V->Bool}
 (hsrc:z8z S Y k args L H=some ((xs.map enc,up),H))(hlen:xs.length<=z2k)
 (ht:∀ x,x∈xs->y4c (S.ts (upd Y v (enc x))) ifs (Lup up L H) H=some (test x,H))
 (ho:∀ x,x∈xs->test x=true->S.ev (upd Y v (enc x)) elt (Lup up L H) H=some (out x,H)) :
  z9y S elt Y [(.one v,k,args,ifs)] L H=some ((xs.filter test).map out,H):=
 z7c (env:=fun x=>upd Y v (enc x)) hsrc hlen (fun x _=>AP some (j0h _ _)) ht ho
theorem j5a{V:Type}{elt:ME}{a b:Nat}{k:z5w}{args ifs:List ME}{up:Bool}{xs:List V}{e1 e2 out:V->PV}{test:V->Bool}
 (hsrc:z8z S Y k args L H=some ((xs.map (fun x=>.tup [e1 x,e2 x]),up),H))(hlen:xs.length<=z2k)
 (ht:∀ x,x∈xs->y4c (S.ts (upd (upd Y a (e1 x)) b (e2 x))) ifs (Lup up L H) H=some (test x,H))
 (ho:∀ x,x∈xs->test x=true->S.ev (upd (upd Y a (e1 x)) b (e2 x)) elt (Lup up L H) H=some (out x,H)) :
  z9y S elt Y [(.tup [a,b],k,args,ifs)] L H=some ((xs.filter test).map out,H):=
 z7c (env:=fun x=>upd (upd Y a (e1 x)) b (e2 x)) hsrc hlen (fun x _=>AP some (j0i _ _ _ _)) ht ho
theorem j5b{V:Type}{elt:ME}{a b c:Nat}{k:z5w}{args ifs:List ME}{up:Bool}{xs:List V}{e1 e2 e3 out:V->PV}{test:V->Bool}
 (hsrc:z8z S Y k args L H=some ((xs.map (fun x=>.tup [e1 x,e2 x,e3 x]),up),H))(hlen:xs.length<=z2k)
 (ht:∀ x,x∈xs->y4c (S.ts (upd (upd (upd Y a (e1 x)) b (e2 x)) c (e3 x))) ifs (Lup up L H) H=some (test x,H))
 (ho:∀ x,x∈xs->test x=true->S.ev (upd (upd (upd Y a (e1 x)) b (e2 x)) c (e3 x)) elt (Lup up L H) H=some (out x,H)) :
  z9y S elt Y [(.tup [a,b,c],k,args,ifs)] L H=some ((xs.filter test).map out,H):=
 z7c (env:=fun x=>upd (upd (upd Y a (e1 x)) b (e2 x)) c (e3 x)) hsrc hlen (fun x _=>AP some (j0j _ _ _ _ _ _)) ht ho
theorem z1x{ex:z0l->MS->M Fl}{pat:Pat}{body orelse:List MS}{Y A9:z0l}{L:Lim}{H B4:z0b}{v:PV}{vs:List PV}{f:Fl}(h1:z1t Y pat v=some A9)(h2:exs ex A9 body L H=some (f,B4)) :
  z3c ex pat body orelse Y (v::vs) L H=(match(generalizing:=false) f with
   | .next Y''=>z3c ex pat body orelse Y'' vs
   | .brk Y''=>M.pure (.next Y'')
   | .ret v=>M.pure (.ret v):M Fl) L B4:=by
 rw [j1j,h1]
 exact z1b h2
theorem q2f{V:Type}{ex:z0l->MS->M Fl}{pat:Pat}{body orelse:List MS}{enc:V->PV}(I:z0l->Prop)(bad:V->Option PV) :
  ∀ (xs:List V) (Y:z0l),(∀ x,x∈xs->∀ Y,I Y->∃ A9,z1t Y pat (enc x)=some A9/\match bad x with
   | some v=>exs ex A9 body L H=some (.ret v,H)
   | none=>∃ B0,exs ex A9 body L H=some (.next B0,H)/\I B0)->I Y ->
  match xs.findSome? bad with
  | some v=>z3c ex pat body orelse Y (xs.map enc) L H=some (.ret v,H)
  | none=>∃ Y',I Y'/\z3c ex pat body orelse Y (xs.map enc) L H=exs ex Y' orelse L H
 | [],Y,_,h=>⟨Y,h,rfl⟩
 | x::xs,Y,step,h=>by
  obtain⟨A9,h1,h2⟩:=step x AD Y h
  rw [EG]
  induction hb:bad x using Option.casesOn with
  | some v=>
   rw [hb] at h2
   dsimp only at h2 ⊢
   exact z1x h1 h2
  | none=>
   rw [hb] at h2
   dsimp only at h2 ⊢
   obtain⟨B0,h3,h4⟩:=h2
   have:=q2f (orelse:=orelse) I bad xs B0 (fun y hy=>step y (AE _ hy)) h4
   rw [BP,z1x h1 h3]
   exact this
end
@[simp] theorem w0t(v:PV):w0f (.ret v)=M.pure v:=rfl
@[simp] theorem k4y(Y:z0l):w0f (.next Y)=M.pure .none:=rfl
theorem j5c{P:MP}{lv f:Nat}{F:z4o}{pos:List PV}{kw:List (Nat×PV)}{Y:z0l}{L:Lim}{H:z0b}(h1:P.fn f=some F)(h2:q3s F pos kw=some Y) :
  z0h P (lv+1) f pos kw L H=((exs (sem P (z0h P lv) 40).ex Y F.body).bind w0f:M PV) L H:=
 (z1b (show M.ofOpt (P.fn f) L H=some (F,H) by rw [h1];rfl)).trans (z1b (show M.ofOpt (q3s F pos kw) L H=some (Y,H) by rw [h2];rfl))
noncomputable abbrev y2y(a:Nat)(u:PV):z0l:=upd (fun _=>none) a u
noncomputable abbrev y3v(a:Nat)(u:PV)(b:Nat)(v:PV):z0l:=upd (upd (fun _=>none) a u) b v
noncomputable abbrev x8h(a:Nat)(u:PV)(b:Nat)(v:PV)(c:Nat)(w:PV):z0l:=upd (upd (upd (fun _=>none) a u) b v) c w
noncomputable abbrev w6o(a:Nat)(u:PV)(b:Nat)(v:PV)(c:Nat)(w:PV)(d:Nat)(x:PV):z0l:=upd (upd (upd (upd (fun _=>none) a u) b v) c w) d x
noncomputable def st(F:z4o)(i:Nat):MS:=F.body.getD i .stuck
section
variable {P:MP} {C:z0g} {n:Nat} {Y:z0l} {L:Lim} {H:z0b}
theorem z1p{S:z6q}{k:z5w}{args:List ME}{vs:List PV}{r:List PV×Bool}{H':z0b}(h1:z3p (S.ev Y) args L H=some (vs,H'))(h2:k1s k H' vs=some r):z8z S Y k args L H=some (r,H'):=by
 unfold z8z M.bind
 rw [h1]
 dsimp only
 rw [h2]
theorem q7d{V:Type}{p:Pat}{k:z5w}{src:List ME}{body orelse:List MS}{xs:List V}{enc:V->PV}{up:Bool}(I:z0l->Prop)(bad:V->Option PV)
 (hsrc:z8z (sem P C n) Y k src L H=some ((xs.map enc,up),H))
 (step:∀ x,x∈xs->∀ Y,I Y->∃ A9,z1t Y p (enc x)=some A9/\match bad x with
   | some v=>exs (sem P C n).ex A9 body (Lup up L H) H=some (.ret v,H)
   | none=>∃ B0,exs (sem P C n).ex A9 body (Lup up L H) H=some (.next B0,H)/\I B0)(h:I Y) :
  ∃ Y',I Y'/\(sem P C (n+1)).ex Y (.for_ p k src body orelse) L H=(match xs.findSome? bad with
   | some v=>some (.ret v,H)
   | none=>exs (sem P C n).ex Y' orelse (Lup up L H) H):=by
 have hs:(sem P C (n+1)).ex Y (.for_ p k src body orelse) L H=z3c (sem P C n).ex p body orelse Y (xs.map enc) (Lup up L H) H:=by
  rw [x0u,z1b hsrc]
  rfl
 have key:=q2f (L:=Lup up L H) (H:=H) (orelse:=orelse) I bad xs Y step h
 induction hb:xs.findSome? bad using Option.casesOn with
 | some v=>
  rw [hb] at key
  exact⟨Y,h,hs.trans key⟩
 | none=>
  rw [hb] at key
  obtain⟨Y',h1,h2⟩:=key
  exact⟨Y',h1,hs.trans h2⟩
end
end Mine
end
section
open PySem PySem.W PyProof.Rows
namespace Mine
noncomputable def w2a:z4o:={ pos:=[5,6],dfl:=[],kwo:=[],kwargs:=none,body:=[
  .setAttr (.var 5) 7 (.var 6),
  .assign (.tup [8,9]) (.tup [.gattr 8,.gattr 9]),
  .assign (.one 10) (.mlst []),
  .assigns [11,12,13] (.int 0),
  .for_ (.one 14) .over [.attr 7 (.var 5)] [.ifs (.cmp .eq (.var 14) (.var 8)) [.assign (.one 12) (.bin .add (.var 12) (.int 1)),.assign (.one 11) (.bin .add (.var 11) (.int 1))] [.ifs (.cmp .eq (.var 14) (.var 9)) [.assign (.one 12) (.bin .add (.var 12) (.int 1)),.assign (.one 13) (.bin .add (.var 13) (.int 1)),.ifs (.cmp .ge (.var 11) (.prim .len [.var 10])) [.assign (.one 10) (.mcat (.var 10) (.bin .mul (.lst [.int 0]) (.bin .add (.bin .sub (.var 11) (.prim .len [.var 10])) (.int 1))))] [],.setIdx (.var 10) (.var 11) (.bin .add (.idx (.var 10) (.var 11)) (.int 1)),.assign (.one 11) (.int 0)] [.brk]]] [],
  .setAttr (.var 5) 12 (.var 12),
  .setAttr (.var 5) 13 (.var 13),
  .setAttr (.var 5) 15 (.tup [.prim .tuple [.var 10],.var 11]),
  .setAttr (.var 5) 16 (.cmp .le (.prim .len [.var 10]) (.int 1))] }
noncomputable def w6p:z4o:={ pos:=[5],dfl:=[],kwo:=[],kwargs:=none,body:=[
  .assign (.tup [10,17]) (.attr 15 (.var 5)),
  .ret (.prim .max [.bin .sub (.prim .len [.var 10]) (.int 1),.var 17])] }
noncomputable def w6q:z4o:={ pos:=[5,18],dfl:=[],kwo:=[],kwargs:=none,body:=[
  .assign (.tup [10,17]) (.attr 15 (.var 5)),
  .assign (.one 19) (.int 0),
  .for_ (.one 20) .range [.var 18,.prim .len [.var 10]] [.assign (.one 19) (.bin .add (.var 19) (.bin .mul (.bin .fdiv (.var 20) (.var 18)) (.idx (.var 10) (.var 20))))] [],
  .ret (.bin .add (.var 17) (.bin .mul (.var 18) (.bin .add (.var 19) (.attr 13 (.var 5)))))] }
noncomputable def w6r:z4o:={ pos:=[58,32,45],dfl:=[],kwo:=[],kwargs:=none,body:=[
  .ret (.pure (.call 6 [.bin .shl (.bin .add (.bin .shl (.int 1) (.var 58)) (.bin .shl (.int 1) (.var 32))) (.var 45)]))] }
noncomputable def w2b:z4o:={ pos:=[56,45],dfl:=[],kwo:=[],kwargs:=none,body:=[
  .assign (.one 118) (.new 1 []),
  .for_ (.tup [58,32,48]) .over [.var 56] [.assign (.one 119) (.call 3 [.var 58,.var 32,.var 45]),.assign (.one 34) (.ite (.var 48) (.prim .upper [.var 119]) (.prim .lower [.var 119])),.ifs (.cmp .in_ (.var 34) (.var 118)) [.delIdx (.var 118) (.var 34)] [.setIdx (.var 118) (.var 34) (.bin .add (.idx (.str (Str.ofString "01234")) (.var 58)) (.idx (.str (Str.ofString "01234")) (.var 32)))]] [],
  .ret (.var 118)] }
noncomputable def w6s:z4o:={ pos:=[5,21],dfl:=[],kwo:=[],kwargs:=none,body:=[
  .ifs (.cmp .ge (.attr 12 (.var 5)) (.attr 12 (.var 21))) [.ret (.bool false)] [],
  .ifs (.andE [.attr 16 (.var 5),.attr 16 (.var 21)]) [.ret (.cmp .le (.attr 13 (.var 5)) (.attr 13 (.var 21)))] [],
  .assign (.one 12) (.bin .add (.prim .max [.meth 22 (.var 5) [],.meth 22 (.var 21) []]) (.int 1)),
  .for_ (.one 24) .range [.int 2,.bin .add (.var 12) (.int 1)] [.ifs (.cmp .ge (.meth 25 (.var 5) [.var 24]) (.meth 25 (.var 21) [.var 24])) [.ret (.bool false)] []] [],
  .ret (.bool true)] }
noncomputable def w0u:z4o:={ pos:=[26],dfl:=[],kwo:=[],kwargs:=none,body:=[
  .assign (.one 27) (.mlst []),
  .for_ (.one 20) .range [.int 32] [.assign (.one 28) (.bin .shl (.int 1) (.var 20)),.ifs (.bin .band (.var 26) (.var 28)) [.append (.var 27) (.prim .flagGet [.var 28,.prim .hex [.var 28]]),.aug .bxor 26 (.var 28),.ifs (.notE (.var 26)) [.brk] []] []] [.append (.var 27) (.prim .hex [.var 26])],
  .ret (.prim .join [.str (Str.ofString ", "),.var 27])] }
noncomputable def w6t:z4o:={ pos:=[5,29],dfl:=[.none],kwo:=[],kwargs:=none,body:=[
  .assign (.one 29) (.ite (.isNone true (.var 29)) (.var 29) (.mlst [])),
  .ifs (.isTy true false (.var 29)) [.stuck] [],
  .setAttr (.var 5) 30 (.var 29),
  .ifs (.bool true) [.for_ (.tup [31,32]) .over [.var 29] [.expr (.methk 33 (.var 5) [.var 31] 34 (.bool true)),.expr (.methk 33 (.var 5) [.var 32] 34 (.bool false))] []] []] }
noncomputable def w6u:z4o:={ pos:=[5,35],dfl:=[],kwo:=[34],kwargs:=none,body:=[
  .ifs (.isTy false true (.var 35)) [.assign (.one 36) (.ite (.var 34) (.pat true) (.pat false)),.ifs (.prim .search [.var 36,.var 35]) [.stuck] [],.ret (.var 35)] [],
  .stuck] }
noncomputable def w6v:z4o:={ pos:=[5,34,37],dfl:=[],kwo:=[],kwargs:=none,body:=[
  .delIdx (.var 5) (.var 34),
  .append (.attr 30 (.var 5)) (.tup [.methk 33 (.var 5) [.var 34] 34 (.bool true),.methk 33 (.var 5) [.var 37] 34 (.bool false)])] }
noncomputable def k4z:z4o:={ pos:=[5,34],dfl:=[],kwo:=[],kwargs:=none,body:=[
  .assign (.one 34) (.methk 33 (.var 5) [.prim .lower [.var 34]] 34 (.bool true)),
  .setAll (.attr 30 (.var 5)) (.comp (.var 38) [(.one 38,.over,[.attr 30 (.var 5)],[.cmp .ne (.prim .lower [.idx (.var 38) (.int 0)]) (.var 34)])])] }
noncomputable def k5a:z4o:={ pos:=[5,34],dfl:=[],kwo:=[],kwargs:=none,body:=[
  .ret (.meth 39 (.var 5) [.var 34])] }
noncomputable def k5b:z4o:={ pos:=[5,34],dfl:=[],kwo:=[],kwargs:=none,body:=[
  .ret (.isNone true (.meth 39 (.var 5) [.var 34]))] }
noncomputable def x0v:z4o:={ pos:=[56],dfl:=[],kwo:=[],kwargs:=none,body:=[
  .assign (.one 98) (.lst []),
  .for_ (.one 120) .over [.var 56] [.ifs (.cmp .in_ (.slice (.var 120) none (some (.int 2))) (.comp (.slice (.var 60) none (some (.int 2))) [(.one 60,.over,[.var 98],[])])) [.assign (.one 98) (.comp (.var 60) [(.one 60,.over,[.var 98],[.cmp .ne (.slice (.var 60) none (some (.int 2))) (.slice (.var 120) none (some (.int 2)))])])] [.assign (.one 98) (.bin .add (.var 98) (.lst [.var 120]))]] [],
  .ret (.var 98)] }
noncomputable def k5c:z4o:={ pos:=[5,34,40],dfl:=[.none],kwo:=[],kwargs:=none,body:=[
  .assign (.one 34) (.methk 33 (.var 5) [.prim .lower [.var 34]] 34 (.bool true)),
  .for_ (.tup [31,32]) .over [.attr 30 (.var 5)] [.ifs (.cmp .eq (.prim .lower [.var 31]) (.var 34)) [.ret (.var 32)] []] [],
  .ret (.var 40)] }
noncomputable def k5d:z4o:={ pos:=[5],dfl:=[],kwo:=[],kwargs:=none,body:=[
  .ret (.comp (.var 31) [(.tup [31,32],.over,[.attr 30 (.var 5)],[])])] }
noncomputable def k5e:z4o:={ pos:=[5],dfl:=[],kwo:=[],kwargs:=none,body:=[
  .ret (.comp (.var 32) [(.tup [31,32],.over,[.attr 30 (.var 5)],[])])] }
noncomputable def k5f:z4o:={ pos:=[5],dfl:=[],kwo:=[],kwargs:=none,body:=[
  .ret (.mslice (.attr 30 (.var 5)))] }
noncomputable def k5g:z4o:={ pos:=[57],dfl:=[],kwo:=[],kwargs:=none,body:=[
  .for_ (.one 61) .range [.int 5] [.for_ (.one 62) .over [.idx (.var 57) (.var 61)] [.for_ (.one 64) .over [.idx (.var 57) (.var 62)] [.for_ (.one 65) .over [.idx (.var 57) (.var 64)] [.ifs (.andE [.cmp .ne (.var 64) (.var 61),.cmp .ne (.var 65) (.var 62),.cmp .nin (.var 64) (.idx (.var 57) (.var 61)),.cmp .nin (.var 65) (.idx (.var 57) (.var 62))]) [.ret (.bool false)] []] []] []] []] [],
  .ret (.bool true)] }
noncomputable def w2c:z4o:={ pos:=[45],dfl:=[],kwo:=[],kwargs:=none,body:=[
  .assign (.one 46) (.prim .split [.str (Str.ofString "OPTIMIZED NEWLOCALS VARARGS VARKEYWORDS NESTED GENERATOR NOFREE COROUTINE ITERABLE_COROUTINE ASYNC_GENERATOR"),.str (Str.ofString " ")]),
  .ret (.comp (.ite (.cmp .lt (.var 31) (.int 10)) (.idx (.var 46) (.var 31)) (.bin .add (.bin .add (.str (Str.ofString "0x")) (.idx (.str (Str.ofString "1248")) (.bin .mod (.var 31) (.int 4)))) (.bin .mul (.str (Str.ofString "0")) (.bin .fdiv (.var 31) (.int 4))))) [(.one 31,.range,[.var 45,.bin .add (.var 45) (.int 5)],[])])] }
noncomputable def k5h:z4o:={ pos:=[87,55,57],dfl:=[],kwo:=[],kwargs:=none,body:=[
  .assign (.one 70) (.comp (.comp (.var 47) [(.one 47,.over,[.prim .split [.var 75,.str (Str.ofString ", ")]],[.cmp .in_ (.var 47) (.var 55)])]) [(.one 75,.over,[.var 87],[])]),
  .for_ (.one 58) .range [.int 5] [.for_ (.one 32) .over [.idx (.var 57) (.var 58)] [.assign (.one 71) (.comp (.var 47) [(.one 47,.over,[.idx (.var 70) (.var 58)],[.andE [.cmp .ne (.var 47) (.idx (.var 55) (.var 32)),.cmp .nin (.var 47) (.idx (.var 70) (.var 32))]])]),.assign (.one 72) (.comp (.var 47) [(.one 47,.over,[.idx (.var 70) (.var 32)],[.andE [.cmp .ne (.var 47) (.idx (.var 55) (.var 58)),.cmp .nin (.var 47) (.idx (.var 70) (.var 58))]])]),.ifs (.andE [.cmp .ne (.var 71) (.lst []),.cmp .ne (.var 72) (.lst [])]) [.ret (.bool false)] []] []] [],
  .ret (.bool true)] }
noncomputable def k5i:z4o:={ pos:=[57,58],dfl:=[],kwo:=[],kwargs:=none,body:=[
  .ret (.comp (.var 121) [(.one 32,.over,[.idx (.var 57) (.var 58)],[]),(.one 121,.over,[.idx (.var 57) (.var 32)],[.andE [.cmp .ne (.var 121) (.var 58),.cmp .nin (.var 121) (.idx (.var 57) (.var 58))]])])] }
noncomputable def x0w:z4o:={ pos:=[63],dfl:=[],kwo:=[],kwargs:=none,body:=[
  .assign (.one 66) (.lst []),
  .for_ (.one 67) .range [.int 6] [.assign (.one 68) (.comp (.var 58) [(.one 58,.range,[.int 5],[.cmp .ne (.var 58) (.var 67)])]),.assign (.one 57) (.comp (.comp (.var 32) [(.one 32,.over,[.var 68],[.andE [.cmp .in_ (.var 58) (.var 68),.cmp .in_ (.tup [.var 58,.var 32]) (.var 63)]])]) [(.one 58,.range,[.int 5],[])]),.ifs (.cmp .eq (.comp (.var 58) [(.one 58,.over,[.var 68],[.cmp .eq (.call 21 [.var 57,.var 58]) (.lst [])])]) (.lst [])) [.assign (.one 66) (.bin .add (.var 66) (.var 68))] []] [],
  .ret (.var 66)] }
noncomputable def x0x:z4o:={ pos:=[103],dfl:=[],kwo:=[],kwargs:=none,body:=[
  .assign (.one 57) (.comp (.mlst []) [(.one 58,.range,[.int 5],[])]),
  .for_ (.one 35) .over [.var 103] [.append (.idx (.var 57) (.prim .int [.idx (.var 35) (.int 0)])) (.prim .int [.idx (.var 35) (.int 1)]),.append (.idx (.var 57) (.prim .int [.idx (.var 35) (.int 1)])) (.prim .int [.idx (.var 35) (.int 0)])] [],
  .ret (.var 57)] }
noncomputable def x0y:z4o:={ pos:=[73,45],dfl:=[],kwo:=[],kwargs:=none,body:=[
  .for_ (.one 122) .range [.int 5] [.assign (.one 57) (.pure (.call 23 [.pure (.meth 103 (.var 73) [])])),.assign (.one 123) (.comp (.var 58) [(.one 58,.range,[.int 5],[.andE [.cmp .ne (.idx (.var 57) (.var 58)) (.lst []),.cmp .eq (.call 21 [.var 57,.var 58]) (.lst [])]])]),.for_ (.one 32) .over [.ite (.cmp .ne (.var 123) (.lst [])) (.idx (.var 57) (.idx (.var 123) (.int 0))) (.lst [])] [.delIdx (.var 73) (.call 3 [.idx (.var 123) (.int 0),.var 32,.var 45])] []] []] }
noncomputable def x0z:z4o:={ pos:=[124,57,55,125],dfl:=[],kwo:=[],kwargs:=none,body:=[
  .assign (.one 90) (.new 1 []),
  .for_ (.one 31) .range [.int 5] [.assign (.one 126) (.comp (.var 58) [(.one 58,.over,[.slice (.var 124) none (some (.var 31))],[.cmp .in_ (.var 58) (.idx (.var 57) (.idx (.var 124) (.var 31)))])]),.assign (.tup [47,127,27]) (.tup [.prim .lower [.idx (.var 55) (.idx (.var 124) (.var 31))],.idx (.var 125) (.idx (.var 124) (.var 31)),.pure (.meth 102 (.var 90) [])]),.ifs (.cmp .eq (.var 126) (.lst [])) [.setIdx (.var 90) (.var 47) (.var 127)] [.assign (.one 128) (.idx (.var 55) (.idx (.var 126) (.neg (.int 1)))),.assign (.one 129) (.prim .index [.comp (.prim .lower [.var 34]) [(.one 34,.over,[.var 27],[])],.prim .lower [.var 128]]),.setIdx (.var 90) (.var 47) (.bin .add (.idx (.var 90) (.var 128)) (.var 127)),.for_ (.one 34) .over [.slice (.var 27) (some (.bin .add (.var 129) (.int 1))) none] [.setIdx (.var 90) (.prim .upper [.var 34]) (.idx (.var 90) (.var 34))] []]] [],
  .ret (.var 90)] }
noncomputable def x1a:z4o:={ pos:=[124,57,125],dfl:=[],kwo:=[],kwargs:=none,body:=[
  .assign (.one 59) (.lst []),
  .for_ (.one 31) .range [.int 5] [.assign (.one 32) (.idx (.var 124) (.var 31)),.assign (.one 126) (.comp (.var 58) [(.one 58,.over,[.slice (.var 124) none (some (.var 31))],[.cmp .in_ (.var 58) (.idx (.var 57) (.var 32))])]),.ifs (.cmp .eq (.var 126) (.lst [])) [.assign (.one 59) (.bin .add (.var 59) (.lst [.tup [.var 32,.idx (.var 125) (.var 32),.bool false,.lst []]]))] [.assign (.one 129) (.prim .index [.comp (.idx (.var 60) (.int 0)) [(.one 60,.over,[.var 59],[])],.idx (.var 126) (.neg (.int 1))]),.assign (.one 128) (.idx (.var 59) (.var 129)),.assign (.one 130) (.comp (.tup [.var 58,.var 131,.bool true,.var 132]) [(.tup [58,131,48,132],.over,[.slice (.var 59) (some (.bin .add (.var 129) (.int 1))) none],[])]),.assign (.one 59) (.bin .add (.bin .add (.slice (.var 59) none (some (.bin .add (.var 129) (.int 1)))) (.lst [.tup [.var 32,.bin .add (.idx (.var 128) (.int 1)) (.idx (.var 125) (.var 32)),.bool false,.bin .add (.idx (.var 128) (.int 3)) (.lst [.idx (.var 128) (.int 0)])]])) (.var 130))]] [],
  .ret (.var 59)] }
noncomputable def k5j:z4o:={ pos:=[27,133],dfl:=[],kwo:=[],kwargs:=none,body:=[
  .assign (.one 134) (.comp (.newg 0 [.bin .add (.bin .add (.var 131) (.var 34)) (.str (Str.ofString "\t"))]) [(.tup [34,131],.zip,[.var 27,.var 133],[])]),
  .ret (.comp (.tup [.var 20,.var 135]) [(.one 20,.range,[.int 5],[]),(.one 135,.range,[.bin .add (.var 20) (.int 1),.int 5],[.meth 72 (.idx (.var 134) (.var 20)) [.idx (.var 134) (.var 135)]])])] }
noncomputable def x1b:z4o:={ pos:=[85],dfl:=[],kwo:=[],kwargs:=none,body:=[
  .assign (.one 136) (.mlst []),
  .for_ (.one 20) .range [.int 5] [.assign (.one 135) (.bin .add (.var 20) (.int 1)),.while_ (.cmp .in_ (.tup [.var 20,.var 135]) (.var 85)) [.append (.var 136) (.tup [.var 20,.var 135]),.aug .add 135 (.int 1)]] [],
  .ret (.var 136)] }
noncomputable def x1c:z4o:={ pos:=[131,81],dfl:=[],kwo:=[],kwargs:=none,body:=[
  .assign (.one 137) (.int 0),
  .for_ (.one 138) .over [.var 131] [.assign (.one 137) (.ite (.cmp .eq (.var 138) (.str (Str.ofString " "))) (.bin .add (.var 137) (.int 1)) (.bin .add (.bin .mul (.bin .fdiv (.var 137) (.var 81)) (.var 81)) (.var 81)))] [],
  .ret (.var 137)] }
noncomputable def k5k:z4o:={ pos:=[133],dfl:=[],kwo:=[],kwargs:=none,body:=[
  .assign (.one 139) (.bin .add (.int 1) (.prim .max [.comp (.prim .len [.var 140]) [(.one 131,.over,[.var 133],[]),(.one 140,.over,[.prim .split [.var 131,.str (Str.ofString "\t")]],[])]])),
  .assign (.one 91) (.comp (.comp (.call 29 [.var 131,.var 81]) [(.one 81,.range,[.int 1,.bin .add (.var 139) (.int 1)],[])]) [(.one 131,.over,[.var 133],[])]),
  .assign (.one 99) (.comp (.tup [.var 20,.var 135]) [(.one 20,.range,[.int 5],[]),(.one 135,.range,[.bin .add (.var 20) (.int 1),.int 5],[])]),
  .ret (.comp (.tup [.var 20,.var 135]) [(.tup [20,135],.over,[.var 99],[.cmp .eq (.comp (.var 31) [(.one 31,.range,[.var 139],[.cmp .ge (.idx (.idx (.var 91) (.var 20)) (.var 31)) (.idx (.idx (.var 91) (.var 135)) (.var 31))])]) (.lst [])])])] }
noncomputable def x8i:z4o:={ pos:=[82],dfl:=[],kwo:=[],kwargs:=none,body:=[
  .assign (.one 83) (.prim .sum [.comp (.bin .fdiv (.var 84) (.int 20)) [(.one 84,.over,[.slice (.var 82) none (some (.int 10))],[])]]),
  .assign (.one 45) (.bin .mod (.bin .add (.int 7) (.var 83)) (.int 28)),
  .assign (.one 85) (.comp (.tup [.var 58,.var 32]) [(.one 58,.range,[.int 5],[]),(.one 32,.range,[.bin .add (.var 58) (.int 1),.int 5],[])]),
  .assign (.one 56) (.comp (.bin .add (.idx (.var 85) (.bin .mod (.var 84) (.int 10))) (.tup [.cmp .eq (.bin .mod (.bin .fdiv (.var 84) (.int 10)) (.int 2)) (.int 1)])) [(.one 84,.over,[.bin .add (.lst [.int 10,.int 1,.int 12,.int 7]) (.slice (.var 82) none (some (.int 10)))],[])]),
  .assign (.one 55) (.prim .split [.pure (.call 6 [.bin .shl (.int 31) (.var 45)]),.str (Str.ofString ", ")]),
  .ifs (.cmp .ne (.var 55) (.call 19 [.var 45])) [.ret (.bool false)] [],
  .assign (.one 118) (.call 4 [.var 56,.var 45]),
  .assign (.one 57) (.pure (.call 23 [.pure (.meth 103 (.var 118) [])])),
  .assign (.one 87) (.comp (.pure (.call 6 [.bin .shl (.prim .sum [.comp (.bin .shl (.int 1) (.var 32)) [(.one 32,.over,[.var 68],[])]]) (.var 45)])) [(.one 68,.over,[.var 57],[])]),
  .assign (.one 73) (.new 1 [.meth 88 (.var 118) []]),
  .expr (.gc (.call 24 [.var 73,.var 45])),
  .assign (.one 124) (.comp (.var 58) [(.one 10,.over,[.tup [.int 4,.int 3,.int 2,.int 1,.int 0]],[]),(.one 58,.range,[.int 5],[.cmp .eq (.prim .len [.idx (.var 57) (.var 58)]) (.var 10)])]),
  .assign (.one 125) (.comp (.idx (.tup [.str (Str.ofString "  "),.str (Str.ofString "\t"),.str (Str.ofString " \t")]) (.bin .mod (.bin .add (.var 32) (.bin .fdiv (.bin .fdiv (.var 83) (.int 28)) (.bin .pow (.int 3) (.var 32)))) (.int 3))) [(.one 32,.range,[.int 5],[])]),
  .assign (.one 90) (.call 25 [.var 124,.var 57,.var 55,.var 125]),
  .assign (.one 141) (.pure (.call 27 [.pure (.meth 102 (.var 90) []),.pure (.meth 103 (.var 90) [])])),
  .assign (.one 136) (.pure (.call 28 [.var 141])),
  .assign (.one 142) (.comp (.prim .lower [.var 47]) [(.one 47,.over,[.var 55],[])]),
  .assign (.one 143) (.comp (.prim .index [.var 142,.prim .lower [.var 34]]) [(.one 34,.over,[.pure (.meth 102 (.var 90) [])],[])]),
  .assign (.one 69) (.comp (.tup [.idx (.var 143) (.var 20),.idx (.var 143) (.var 135)]) [(.tup [20,135],.over,[.var 136],[])]),
  .assign (.one 98) (.call 13 [.var 56]),
  .assign (.one 63) (.bin .add (.comp (.tup [.var 58,.var 32]) [(.tup [58,32,48],.over,[.var 98],[])]) (.comp (.tup [.var 32,.var 58]) [(.tup [58,32,48],.over,[.var 98],[])])),
  .assign (.one 144) (.comp (.comp (.var 32) [(.one 32,.range,[.int 5],[.cmp .in_ (.tup [.var 58,.var 32]) (.var 63)])]) [(.one 58,.range,[.int 5],[])]),
  .assign (.one 145) (.cmp .eq (.prim .sorted [.bin .add (.var 69) (.comp (.tup [.var 62,.var 61]) [(.tup [61,62],.over,[.var 69],[])])]) (.prim .sorted [.var 63])),
  .ifs (.cmp .ne (.lst [.call 20 [.var 87,.var 55,.var 57],.cmp .eq (.pure (.meth 88 (.var 73) [])) (.lst []),.var 145]) (.bin .mul (.lst [.call 18 [.var 144]]) (.int 3))) [.ret (.bool false)] [],
  .assign (.one 146) (.comp (.bin .add (.bin .add (.idx (.var 55) (.var 58)) (.str (Str.ofString ", "))) (.idx (.var 55) (.var 32))) [(.tup [58,32,48],.over,[.var 98],[])]),
  .assign (.one 97) (.comp (.tup [.ite (.idx (.idx (.var 98) (.var 31)) (.int 2)) (.prim .upper [.idx (.var 146) (.var 31)]) (.prim .lower [.idx (.var 146) (.var 31)]),.bin .add (.idx (.str (Str.ofString "01234")) (.idx (.idx (.var 98) (.var 31)) (.int 0))) (.idx (.str (Str.ofString "01234")) (.idx (.idx (.var 98) (.var 31)) (.int 1)))]) [(.one 31,.range,[.prim .len [.var 98]],[])]),
  .ifs (.orE [.cmp .ne (.pure (.meth 88 (.var 118) [])) (.var 97),.cmp .ne (.var 87) (.comp (.ite (.cmp .ne (.var 68) (.lst [])) (.prim .join [.str (Str.ofString ", "),.comp (.idx (.var 55) (.var 32)) [(.one 32,.over,[.var 68],[])]]) (.str (Str.ofString "0x0"))) [(.one 68,.over,[.var 144],[])])]) [.ret (.bool false)] [],
  .assign (.one 66) (.call 22 [.var 63]),
  .ifs (.cmp .ne (.pure (.meth 88 (.var 73) [])) (.comp (.idx (.var 97) (.var 31)) [(.one 31,.range,[.prim .len [.var 98]],[.andE [.cmp .in_ (.idx (.idx (.var 98) (.var 31)) (.int 0)) (.var 66),.cmp .in_ (.idx (.idx (.var 98) (.var 31)) (.int 1)) (.var 66)]])])) [.ret (.bool false)] [],
  .assign (.one 59) (.call 26 [.var 124,.var 144,.var 125]),
  .ifs (.cmp .ne (.pure (.meth 88 (.var 90) [])) (.comp (.tup [.ite (.var 48) (.prim .upper [.idx (.var 55) (.var 32)]) (.prim .lower [.idx (.var 55) (.var 32)]),.var 131]) [(.tup [32,131,48,132],.over,[.var 59],[])])) [.ret (.bool false)] [],
  .ifs (.cmp .ne (.var 136) (.comp (.tup [.var 20,.var 135]) [(.one 20,.range,[.int 5],[]),(.one 135,.range,[.bin .add (.var 20) (.int 1),.int 5],[.cmp .in_ (.idx (.idx (.var 59) (.var 20)) (.int 0)) (.idx (.idx (.var 59) (.var 135)) (.int 3))])])) [.ret (.bool false)] [],
  .ret (.cmp .eq (.var 141) (.call 30 [.comp (.idx (.var 60) (.int 1)) [(.one 60,.over,[.var 59],[])]]))] }
noncomputable def w8i:List z4o:=[w2a,w6p,w6q,w6r,w2b,w6s,w0u,w6t,w6u,w6v,k4z,k5a,k5b,x0v,k5c,k5d,k5e,k5f,k5g,w2c,k5h,k5i,x0w,x0x,x0y,x0z,x1a,k5j,x1b,x1c,k5k,x8i]
noncomputable def k5l:List ((Nat×Nat)×Nat):=[((0,0),0),((0,22),1),((0,25),2),((0,72),5),((1,0),7),((1,33),8),((1,3),9),((1,4),10),((1,2),11),((1,1),12),((1,39),14),((1,102),15),((1,103),16),((1,88),17)]
noncomputable def x8j:List (Nat×Str):=[(8,Str.ofString " "),(9,Str.ofString "\t")]
noncomputable def q2g:List (Int×Str):=[(1,Str.ofString "OPTIMIZED"),(2,Str.ofString "NEWLOCALS"),(4,Str.ofString "VARARGS"),(8,Str.ofString "VARKEYWORDS"),(16,Str.ofString "NESTED"),(32,Str.ofString "GENERATOR"),(64,Str.ofString "NOFREE"),(128,Str.ofString "COROUTINE"),(256,Str.ofString "ITERABLE_COROUTINE"),(512,Str.ofString "ASYNC_GENERATOR")]
noncomputable def w8j:List Str:=[(Str.ofString "__init__"),(Str.ofString "__contains__"),(Str.ofString "__getitem__"),(Str.ofString "__setitem__"),(Str.ofString "__delitem__"),(Str.ofString "self"),(Str.ofString "ws"),(Str.ofString "raw"),(Str.ofString "S"),(Str.ofString "T"),(Str.ofString "count"),(Str.ofString "b"),(Str.ofString "n"),(Str.ofString "nt"),(Str.ofString "ch"),(Str.ofString "norm"),(Str.ofString "is_simple"),(Str.ofString "trailing"),(Str.ofString "tabsize"),(Str.ofString "il"),(Str.ofString "i"),(Str.ofString "other"),(Str.ofString "longest_run_of_spaces"),(Str.ofString "a"),(Str.ofString "ts"),(Str.ofString "indent_level"),(Str.ofString "flags"),(Str.ofString "names"),(Str.ofString "flag"),(Str.ofString "headers"),(Str.ofString "_headers"),(Str.ofString "k"),(Str.ofString "v"),(Str.ofString "_convert_string_type"),(Str.ofString "name"),(Str.ofString "value"),(Str.ofString "regex"),(Str.ofString "val"),(Str.ofString "kv"),(Str.ofString "get"),(Str.ofString "default"),(Str.ofString "_name"),(Str.ofString "_value"),(Str.ofString "_params"),(Str.ofString "parts"),(Str.ofString "base"),(Str.ofString "named"),(Str.ofString "word"),(Str.ofString "great"),(Str.ofString "table"),(Str.ofString "one"),(Str.ofString "get_all"),(Str.ofString "add_header"),(Str.ofString "gone"),(Str.ofString "stay"),(Str.ofString "words"),(Str.ofString "turns"),(Str.ofString "near"),(Str.ofString "u"),(Str.ofString "lines"),(Str.ofString "line"),(Str.ofString "p"),(Str.ofString "q"),(Str.ofString "ties"),(Str.ofString "r"),(Str.ofString "s"),(Str.ofString "held"),(Str.ofString "out"),(Str.ofString "some"),(Str.ofString "met"),(Str.ofString "cut"),(Str.ofString "more"),(Str.ofString "less"),(Str.ofString "left"),(Str.ofString "going"),(Str.ofString "row"),(Str.ofString "tied"),(Str.ofString "steps"),(Str.ofString "d"),(Str.ofString "counts"),(Str.ofString "low"),(Str.ofString "size"),(Str.ofString "script"),(Str.ofString "rest"),(Str.ofString "x"),(Str.ofString "pairs"),(Str.ofString "flagged"),(Str.ofString "rows"),(Str.ofString "items"),(Str.ofString "number"),(Str.ofString "page"),(Str.ofString "columns"),(Str.ofString "tall"),(Str.ofString "h"),(Str.ofString "bars"),(Str.ofString "typed"),(Str.ofString "equal"),(Str.ofString "due"),(Str.ofString "own"),(Str.ofString "both"),(Str.ofString "not_equal_witness"),(Str.ofString "pretty_flags"),(Str.ofString "keys"),(Str.ofString "values"),(Str.ofString "_law_words"),(Str.ofString "_law_dressed"),(Str.ofString "_law_turn"),(Str.ofString "_law_net"),(Str.ofString "_law_lines"),(Str.ofString "_law_firm"),(Str.ofString "_law_held"),(Str.ofString "_law_nested"),(Str.ofString "_law_emptied"),(Str.ofString "_law_told"),(Str.ofString "_law_bars"),(Str.ofString "_law_page"),(Str.ofString "_law_column"),(Str.ofString "law"),(Str.ofString "net"),(Str.ofString "title"),(Str.ofString "turn"),(Str.ofString "w"),(Str.ofString "again"),(Str.ofString "heads"),(Str.ofString "order"),(Str.ofString "pieces"),(Str.ofString "above"),(Str.ofString "piece"),(Str.ofString "head"),(Str.ofString "place"),(Str.ofString "behind"),(Str.ofString "lead"),(Str.ofString "over"),(Str.ofString "leads"),(Str.ofString "spaces"),(Str.ofString "j"),(Str.ofString "blocks"),(Str.ofString "column"),(Str.ofString "sign"),(Str.ofString "top"),(Str.ofString "run"),(Str.ofString "lesser"),(Str.ofString "small"),(Str.ofString "found"),(Str.ofString "beside"),(Str.ofString "same"),(Str.ofString "titles"),(Str.ofString "_law_title"),(Str.ofString "_law_own"),(Str.ofString "_law_free"),(Str.ofString "_law_far"),(Str.ofString "_law_near"),(Str.ofString "_law_pairs"),(Str.ofString "_law_blocks"),(Str.ofString "_law_lesser")]
noncomputable def D2:y3u:={ fns:=w8i,meths:=k5l,gattrs:=x8j,flags:=q2g,nm:=w8j,gv:=[((Str.ofString "_law_title"),.ref 261),((Str.ofString "_law_net"),.ref 268),((Str.ofString "pretty_flags"),.ref 112),((Str.ofString "_law_own"),.ref 273),((Str.ofString "_law_free"),.ref 280),((Str.ofString "_law_words"),.ref 254),((Str.ofString "_law_nested"),.ref 285),((Str.ofString "_law_far"),.ref 290),((Str.ofString "_law_held"),.ref 295),((Str.ofString "_law_near"),.ref 300),((Str.ofString "_law_emptied"),.ref 305),((Str.ofString "_law_page"),.ref 310),((Str.ofString "_law_lines"),.ref 315),((Str.ofString "_law_pairs"),.ref 320),((Str.ofString "_law_blocks"),.ref 327),((Str.ofString "_law_column"),.ref 334),((Str.ofString "_law_lesser"),.ref 339),((Str.ofString "law"),.ref 344),((Str.ofString "Whitespace"),.ref 100),((Str.ofString "Headers"),.ref 245),((Str.ofString "_name_disallowed_re"),.ref 117),((Str.ofString "_value_disallowed_re"),.ref 122),((Str.ofString "COMPILER_FLAG_NAMES"),.ref 105),((Str.ofString "len"),.builtin "len"),((Str.ofString "sum"),.builtin "sum"),((Str.ofString "max"),.builtin "max"),((Str.ofString "hex"),.builtin "hex"),((Str.ofString "sorted"),.builtin "sorted"),((Str.ofString "tuple"),.type "tuple"),((Str.ofString "range"),.type "range"),((Str.ofString "type"),.type "type"),((Str.ofString "str"),.type "str"),((Str.ofString "list"),.type "list"),((Str.ofString "int"),.type "int"),((Str.ofString "zip"),.type "zip")],fA:=[55,62,69,261,268,90,112,137,144,158,163,170,177,273,192,197,202,209,280,254,285,290,295,300,305,310,315,320,327,334,339,344],c0:=100,c1:=245,pT:=117,pF:=122,dA:=105,atts:=[7,12,13,15,16,30] }
noncomputable def mp2:MP:=D2.mp
noncomputable def lawId2:Nat:=31
theorem w2d:mp2.fn 0=some w2a:=rfl
theorem w2e:mp2.fn 1=some w6p:=rfl
theorem w2f:mp2.fn 2=some w6q:=rfl
theorem w2g:mp2.fn 3=some w6r:=rfl
theorem w2h:mp2.fn 4=some w2b:=rfl
theorem x8k:mp2.fn 5=some w6s:=rfl
theorem w2i:mp2.fn 6=some w0u:=rfl
theorem k5m:mp2.fn 7=some w6t:=rfl
theorem w2j:mp2.fn 8=some w6u:=rfl
theorem w2k:mp2.fn 9=some w6v:=rfl
theorem k5n:mp2.fn 10=some k4z:=rfl
theorem k5o:mp2.fn 11=some k5a:=rfl
theorem k5p:mp2.fn 12=some k5b:=rfl
theorem k5q:mp2.fn 13=some x0v:=rfl
theorem k5r:mp2.fn 14=some k5c:=rfl
theorem k5s:mp2.fn 15=some k5d:=rfl
theorem k5t:mp2.fn 16=some k5e:=rfl
theorem k5u:mp2.fn 17=some k5f:=rfl
theorem k5v:mp2.fn 18=some k5g:=rfl
theorem k5w:mp2.fn 20=some k5h:=rfl
theorem k5x:mp2.fn 21=some k5i:=rfl
theorem k5y:mp2.fn 22=some x0w:=rfl
theorem k5z:mp2.fn 23=some x0x:=rfl
theorem k6a:mp2.fn 24=some x0y:=rfl
theorem k6b:mp2.fn 25=some x0z:=rfl
theorem k6c:mp2.fn 26=some x1a:=rfl
theorem k6d:mp2.fn 27=some k5j:=rfl
theorem k6e:mp2.fn 28=some x1b:=rfl
theorem k6f:mp2.fn 29=some x1c:=rfl
theorem k6g:mp2.fn 30=some k5k:=rfl
theorem k6h:mp2.fn 31=some x8i:=rfl
@[simp] theorem k6i:mp2.meth 0 0=some 0:=rfl
@[simp] theorem x8l:mp2.meth 0 22=some 1:=rfl
@[simp] theorem x8m:mp2.meth 0 25=some 2:=rfl
@[simp] theorem x8n:mp2.meth 0 72=some 5:=rfl
@[simp] theorem j5d:mp2.meth 1 0=some 7:=rfl
@[simp] theorem w2l:mp2.meth 1 33=some 8:=rfl
@[simp] theorem q7e:mp2.meth 1 3=some 9:=rfl
@[simp] theorem j5e:mp2.meth 1 4=some 10:=rfl
@[simp] theorem k6j:mp2.meth 1 2=some 11:=rfl
@[simp] theorem k6k:mp2.meth 1 1=some 12:=rfl
@[simp] theorem w2m:mp2.meth 1 39=some 14:=rfl
@[simp] theorem x1d:mp2.meth 1 102=some 15:=rfl
@[simp] theorem x1e:mp2.meth 1 103=some 16:=rfl
@[simp] theorem j5f:mp2.meth 1 88=some 17:=rfl
@[simp] theorem w8k:mp2.gattr 8=some (Str.ofString " "):=rfl
@[simp] theorem w8l:mp2.gattr 9=some (Str.ofString "\t"):=rfl
@[simp] theorem k6l:mp2.flags=q2g:=rfl
@[simp] theorem w6w:mp2.okPat=okPat:=rfl
end Mine
end
section
open PySem
namespace Mine
theorem z0c{V Z:Type}{m:M V}{f:V->M Z}{L:Lim}{H Hb:z0b}{a:V}{r:Option (Z×z0b)}(h:m L H=some (a,Hb))(h2:f a L Hb=r):M.bind m f L H=r:=(z1b h).trans h2
theorem q7f{i:Nat}{l:List (Nat×PV)}{L:Lim}{H:z0b}(h:H[i]?=some (.att l)):y6d i L H=some (l,H):=by
 unfold y6d
 rw [h]
theorem y3w{i:Nat}{l:List PV}{L:Lim}{H:z0b}(h:H[i]?=some (.lst l)):y8d i L H=some (l,H):=by
 unfold y8d
 rw [h]
theorem z1f{i:Nat}{l:List PV}{H:z0b}(h:H[i]?=some (.lst l)):z1d H i=some l:=by
 unfold z1d
 rw [h]
theorem j5g{H J:z0b}{l:List PV}(h2:z1d J H.length=some l)(h3:z0t H.length l=true):frz H.length J (.ref H.length)=some (.lst l):=by
 show(if _ then _ else _)=_
 rw [AT (EV _),h2]
 exact AR h3
theorem z0w{V:Type}{o:Option V}{a:V}{L:Lim}{H:z0b}(h:o=some a):M.ofOpt o L H=some (a,H):=by rw [h];rfl
theorem x8o{l:List PV}(h:l.length<=z2k):sz l=some l:=AR h
theorem y5i{i:Nat}{l l0:List PV}{L:Lim}{H:z0b}(hb:L.b<=i)(hn:z0t 0 l=true)(h:H[i]?=some (.lst l0)):z9z i l L H=some ((),H.set i (.lst l)):=by
 unfold z9z
 rw [AR ⟨hb,hn⟩,h]
theorem j5h{i k:Nat}{v:PV}{l:List (Nat×PV)}{L:Lim}{H:z0b}(hb:L.ab<=i)(h:H[i]?=some (.att l))(hl:(z4q k v l).length<=900):j1k i k v L H=some ((),H.set i (.att (z4q k v l))):=by
 unfold j1k
 rw [AR hb,h]
 exact AR hl
theorem y5j{l:List PV}{L:Lim}{H:z0b}(hn:z0t 0 l=true):z7x l L H=some (.ref H.length,H++[.lst l]):=AR hn
theorem q7g{c i:Nat}{l:List (Nat×PV)}{L:Lim}{H:z0b}(h:H[i]?=some (.att l)):q3r (.inst c i) L H=some ((),H):=z0c (q7f h) rfl
theorem x1f{j:Nat}{l:List PV}{L:Lim}{H:z0b}(h:H[j]?=some (.lst l)):j8y (.ref j) L H=some ((),H):=z0c (y3w h) rfl
theorem j0k{j:Nat}{l:List PV}{v:PV}{L:Lim}{H:z0b}(h:H[j]?=some (.lst l))(hl:(l++[v]).length<=z2k)(hb:L.b<=j)(hn:z0t 0 (l++[v])=true):y8g (.ref j) v L H=some ((),H.set j (.lst (l++[v]))):=
 z0c (y3w h) (z0c (z0w (x8o hl)) (y5i hb hn h))
theorem j0l{j:Nat}{l l0:List PV}{L:Lim}{H:z0b}(h:H[j]?=some (.lst l0))(hl:(l0++l).length<=z2k)(hb:L.b<=j)(hn:z0t 0 l=true):y8f (.ref j) (.lst l) L H=some ((),H.set j (.lst l)):=
 z0c (y3w h) (z0c (z0w (x8o hl)) (y5i hb hn h))
theorem z0v{P:MP}{lv f:Nat}{F:z4o}{pos:List PV}{kw:List (Nat×PV)}{Y:z0l}{L:Lim}{H H':z0b}{v:PV}(h1:P.fn f=some F)(h2:q3s F pos kw=some Y)
 (h:exs (sem P (z0h P lv) 40).ex Y F.body L H=some (.ret v,H')):z0h P (lv+1) f pos kw L H=some (v,H'):=(j5c h1 h2).trans (z0c h rfl)
theorem z8u{P:MP}{lv f:Nat}{F:z4o}{pos:List PV}{kw:List (Nat×PV)}{Y Y':z0l}{L:Lim}{H H':z0b}(h1:P.fn f=some F)(h2:q3s F pos kw=some Y)
 (h:exs (sem P (z0h P lv) 40).ex Y F.body L H=some (.next Y',H')):z0h P (lv+1) f pos kw L H=some (.none,H'):=(j5c h1 h2).trans (z0c h rfl)
section
variable {P:MP} {C:z0g} {n:Nat} {Y Y':z0l} {L:Lim} {H Hb H2 Hd:z0b} {a e eC o:ME} {p q v w:PV} {vs:List PV} {args es:List ME} {k m c i f:Nat} {l:List (Nat×PV)} {R:Option (PV×z0b)}
theorem z4w:z3p ((sem P C n).ev Y) [] L H=some ([],H):=rfl
theorem z4z(h:(sem P C n).ev Y e L H=some (v,Hb))(h2:z3p ((sem P C n).ev Y) es L Hb=some (vs,H2)):z3p ((sem P C n).ev Y) (e::es) L H=some (v::vs,H2):=z0c h (z0c h2 rfl)
theorem z1h(h:(sem P C n).ev Y e L H=some (v,Hb)):z3p ((sem P C n).ev Y) [e] L H=some ([v],Hb):=z4z h rfl
theorem z2a(h:(sem P C n).ev Y e L H=some (v,Hb))(h2:(sem P C n).ev Y a L Hb=some (w,H2)):z3p ((sem P C n).ev Y) [e,a] L H=some ([v,w],H2):=z4z h (z1h h2)
theorem z0a(h:Y k=some v):(sem P C (n+1)).ev Y (.var k) L H=some (v,H):=z0w (L:=L) h
theorem z0f{o:BOp}{r:PV}(h1:(sem P C n).ev Y a L H=some (p,Hb))(h2:(sem P C n).ev Y e L Hb=some (q,H2))(h3:y5z o H2 p q=some r) :
  (sem P C (n+1)).ev Y (.bin o a e) L H=some (r,H2):=z0c h1 (z0c h2 (z0c rfl (z0w h3)))
theorem z0k{o:COp}{r:PV}(h1:(sem P C n).ev Y a L H=some (p,Hb))(h2:(sem P C n).ev Y e L Hb=some (q,H2))(h3:z9e P C o p q L H2=some (r,Hd)) :
  (sem P C (n+1)).ev Y (.cmp o a e) L H=some (r,Hd):=z0c h1 (z0c h2 h3)
theorem z7o{o:COp}{b:Bool}(h:(w1e o&&x4h q)=false)(h3:w0c o p q=some b):z9e P C o p q L H=some (.bool b,H):=by
 unfold z9e
 rw [h]
 exact z0c (z0w h3) rfl
theorem z0s{pr:q6a}{r:PV}(h:z3p ((sem P C n).ev Y) args L H=some (vs,Hb))(h2:z4p P pr Hb vs=some r):(sem P C (n+1)).ev Y (.prim pr args) L H=some (r,Hb):=z0c h (z0c rfl (z0w h2))
theorem y5k(h1:(sem P C n).ev Y o L H=some (.inst c i,Hb))(h2:Hb[i]?=some (.att l))(h3:l.lookup k=some v):(sem P C (n+1)).ev Y (.attr k o) L H=some (v,Hb):=
 z0c h1 (z0c (q7f h2) (z0w h3))
theorem y7e{x:Str}(h:P.gattr k=some x):(sem P C (n+1)).ev Y (.gattr k) L H=some (.str x,H):=z0c (z0w h) rfl
theorem z8v{kw:List (Nat×PV)}(hm:P.meth c m=some f)(h:C f (.inst c i::vs) kw L H=R):y0a P C m (.inst c i) vs kw L H=R:=by
 show((M.ofOpt (P.meth c m)).bind fun f=>C f (.inst c i::vs) kw) L H=R
 exact z0c (z0w hm) h
theorem z4f(h1:(sem P C n).ev Y o L H=some (.inst c i,Hb))(h2:Hb[i]?=some (.att l))(h3:z3p ((sem P C n).ev Y) args L Hb=some (vs,H2))(hm:P.meth c m=some f)(h:C f (.inst c i::vs) [] L H2=R) :
  (sem P C (n+1)).ev Y (.meth m o args) L H=R:=z0c h1 (z0c (q7g h2) (z0c h3 (z8v hm h)))
theorem j0m(h1:(sem P C n).ev Y o L H=some (.inst c i,Hb))(h2:Hb[i]?=some (.att l))(h3:z3p ((sem P C n).ev Y) args L Hb=some (vs,H2))(h4:(sem P C n).ev Y e L H2=some (v,Hd))(hm:P.meth c m=some f)(h:C f (.inst c i::vs) [(k,v)] L Hd=R) :
  (sem P C (n+1)).ev Y (.methk m o args k e) L H=R:=z0c h1 (z0c (q7g h2) (z0c h3 (z0c h4 (z8v hm h))))
theorem z1g(h3:z3p ((sem P C n).ev Y) args L H=some (vs,Hb))(h:C f vs [] L Hb=R):(sem P C (n+1)).ev Y (.call f args) L H=R:=z0c h3 h
theorem z6a{t:Bool}{c a e:ME}(h:(sem P C n).ts Y c L H=some (t,Hb))(h2:(sem P C n).ev Y (if t then a else e) L Hb=R):(sem P C (n+1)).ev Y (.ite c a e) L H=R:=by
 refine z0c h ?_
 induction t using Bool.casesOn<;>exact h2
theorem z9r{ng:Bool}(h:(sem P C n).ev Y a L H=some (p,Hb)):(sem P C (n+1)).ev Y (.isNone ng a) L H=some (.bool (z2v p != ng),Hb):=z0c h rfl
theorem y5l{ng t b:Bool}(h:(sem P C n).ev Y a L H=some (p,Hb))(h2:q3q Hb t p=some b):(sem P C (n+1)).ev Y (.isTy ng t a) L H=some (.bool (b != ng),Hb):=z0c h (z0c rfl (z0c (z0w h2) rfl))
theorem z1j(h:z3p ((sem P C n).ev Y) args L H=some (vs,Hb)):(sem P C (n+1)).ev Y (.tup args) L H=some (.tup vs,Hb):=z0c h rfl
theorem z1q(h:z3p ((sem P C n).ev Y) args L H=some (vs,Hb)):(sem P C (n+1)).ev Y (.lst args) L H=some (.lst vs,Hb):=z0c h rfl
theorem y0x(h:z3p ((sem P C n).ev Y) args L H=some (vs,Hb))(hn:z0t 0 vs=true):(sem P C (n+1)).ev Y (.mlst args) L H=some (.ref Hb.length,Hb++[.lst vs]):=z0c h (y5j hn)
theorem q4u(h:(sem P C n).ev Y a L H=some (p,Hb))(hl:z5u Hb p=some vs)(hn:z0t 0 vs=true):(sem P C (n+1)).ev Y (.mslice a) L H=some (.ref Hb.length,Hb++[.lst vs]):=z0c h (z0c rfl (z0c (z0w hl) (y5j hn)))
theorem z0i{elt:ME}{gs:List (Pat×z5w×List ME×List ME)}(h:z9y (sem P C n) elt Y gs L H=some (vs,Hb)):(sem P C (n+1)).ev Y (.comp elt gs) L H=some (.lst vs,Hb):=z0c h rfl
theorem z6i{j:Nat}(h1:(sem P C n).ev Y a L H=some (p,Hb))(h2:(sem P C n).ev Y e L Hb=some (.int j,H2))(hp:j8r P C p (.int j) L H2=some (v,H2)):(sem P C (n+1)).ev Y (.idx a e) L H=some (v,H2):=z0c h1 (z0c h2 hp)
theorem z3u{t:Bool}(h0:(sem P C (n+1)).ts Y e L H=tsV P C Y n e L H)(h:(sem P C n).ev Y e L H=some (p,Hb))(ht:z9c Hb p=some t):(sem P C (n+1)).ts Y e L H=some (t,Hb):=h0.trans (z0c h (z0c rfl (z0w ht)))
theorem x1g{t:Bool}(h:(sem P C n).ts Y e L H=some (t,Hb)):(sem P C (n+1)).ts Y (.notE e) L H=some (!t,Hb):=z0c h rfl
theorem z2z{t:Bool}(h:(sem P C n).ts Y e L H=some (t,Hb)):y4c ((sem P C n).ts Y) [e] L H=some (t,Hb):=by
 refine z0c h ?_
 induction t using Bool.casesOn<;>rfl
theorem z7d{x y:Bool}(h:(sem P C n).ts Y e L H=some (x,H))(h2:y4c ((sem P C n).ts Y) es L H=some (y,H)):y4c ((sem P C n).ts Y) (e::es) L H=some (x&&y,H):=by
 refine z0c h ?_
 cases x
 ·rfl
 ·exact h2
theorem z7e{x:Bool}(h:y4c ((sem P C n).ts Y) es L H=some (x,H)):(sem P C (n+1)).ts Y (.andE es) L H=some (x,H):=h
variable {rest x y:List MS} {Q:Option (Fl×z0b)} {ps:List Nat} {fl:Fl}
theorem z4g{s:MS}(h:(sem P C (n+1)).ex Y s L H=some (.next Y',Hb))(hr:exs (sem P C (n+1)).ex Y' rest L Hb=Q):exs (sem P C (n+1)).ex Y (s::rest) L H=Q:=z0c h hr
theorem q7h{s:MS}(h:(sem P C (n+1)).ex Y s L H=some (.ret v,Hb)):exs (sem P C (n+1)).ex Y (s::rest) L H=some (.ret v,Hb):=z0c h rfl
theorem k6m:exs (sem P C (n+1)).ex Y (.brk::rest) L H=some (.brk Y,H):=rfl
theorem z4i(h:(sem P C n).ev Y e L H=some (v,Hb)):exs (sem P C (n+1)).ex Y (.ret e::rest) L H=some (.ret v,Hb):=q7h (z0c h rfl)
theorem j5i(h:(sem P C n).ev Y e L H=some (v,Hb))(hr:exs (sem P C (n+1)).ex Y rest L Hb=Q):exs (sem P C (n+1)).ex Y (.expr e::rest) L H=Q:=z4g (z0c h rfl) hr
theorem z0d(h:(sem P C n).ev Y e L H=some (v,Hb))(hr:exs (sem P C (n+1)).ex (upd Y k v) rest L Hb=Q):exs (sem P C (n+1)).ex Y (.assign (.one k) e::rest) L H=Q:=z4g (z0c h rfl) hr
theorem y0y(h:(sem P C n).ev Y e L H=some (.tup vs,Hb))(hb:z4a Y ps vs=some Y')(hr:exs (sem P C (n+1)).ex Y' rest L Hb=Q):exs (sem P C (n+1)).ex Y (.assign (.tup ps) e::rest) L H=Q:=z4g (z0c h (z0c (z0w hb) rfl)) hr
theorem x8p{o:BOp}(h1:Y k=some p)(h:(sem P C n).ev Y e L H=some (q,Hb))(h3:x4f o p q=some v)(hr:exs (sem P C (n+1)).ex (upd Y k v) rest L Hb=Q):exs (sem P C (n+1)).ex Y (.aug o k e::rest) L H=Q:=z4g (z0c (z0w h1) (z0c h (z0c rfl (z0c (z0w h3) rfl)))) hr
theorem z8f(h:(sem P C n).ev Y e L H=some (v,Hb))(h1:(sem P C n).ev Y o L Hb=some (.inst c i,H2))(hb:L.ab<=i)(h2:H2[i]?=some (.att l))(hl:(z4q k v l).length<=900)(hr:exs (sem P C (n+1)).ex Y rest L (H2.set i (.att (z4q k v l)))=Q) :
  exs (sem P C (n+1)).ex Y (.setAttr o k e::rest) L H=Q:=z4g (z0c h (z0c h1 (z0c (j5h hb h2 hl) rfl))) hr
theorem x1h{j:Nat}{l0:List PV}(h:(sem P C n).ev Y e L H=some (.lst vs,Hb))(h1:(sem P C n).ev Y o L Hb=some (.ref j,H2))(h2:H2[j]?=some (.lst l0))(hl:(l0++vs).length<=z2k)(hb:L.b<=j)(hn:z0t 0 vs=true)(hr:exs (sem P C (n+1)).ex Y rest L (H2.set j (.lst vs))=Q) :
  exs (sem P C (n+1)).ex Y (.setAll o e::rest) L H=Q:=z4g (z0c h (z0c h1 (z0c (j0l h2 hl hb hn) rfl))) hr
theorem y0z{j:Nat}{l0 l1:List PV}(h1:(sem P C n).ev Y o L H=some (.ref j,Hb))(hc:Hb[j]?=some (.lst l1))(h:(sem P C n).ev Y e L Hb=some (v,H2))(h2:H2[j]?=some (.lst l0))(hl:(l0++[v]).length<=z2k)(hb:L.b<=j)(hn:z0t 0 (l0++[v])=true)(hr:exs (sem P C (n+1)).ex Y rest L (H2.set j (.lst (l0++[v])))=Q) :
  exs (sem P C (n+1)).ex Y (.append o e::rest) L H=Q:=z4g (z0c h1 (z0c (x1f hc) (z0c h (z0c (j0k h2 hl hb hn) rfl)))) hr
theorem y9d(h1:(sem P C n).ev Y o L H=some (.inst c i,Hb))(h:(sem P C n).ev Y e L Hb=some (v,H2))(hm:P.meth c y3d=some f)(hc:C f [.inst c i,v] [] L H2=some (w,Hd))(hr:exs (sem P C (n+1)).ex Y rest L Hd=Q) :
  exs (sem P C (n+1)).ex Y (.delIdx o e::rest) L H=Q:=z4g (z0c h1 (z0c h (z0c (z8v hm hc) rfl))) hr
theorem q2h{t:Bool}{g:ME}(h:(sem P C n).ts Y g L H=some (t,Hb))(ha:exs (sem P C n).ex Y (if t then x else y) L Hb=some (.next Y',H2))(hr:exs (sem P C (n+1)).ex Y' rest L H2=Q):exs (sem P C (n+1)).ex Y (.ifs g x y::rest) L H=Q:=z4g (z0c h ha) hr
theorem j5j{t:Bool}{g:ME}(h:(sem P C n).ts Y g L H=some (t,Hb))(ha:exs (sem P C n).ex Y (if t then x else y) L Hb=some (.ret v,H2)):exs (sem P C (n+1)).ex Y (.ifs g x y::rest) L H=some (.ret v,H2):=q7h (z0c h ha)
theorem q2i{g:ME}(h:(sem P C n).ts Y g L H=some (false,Hb))(hr:exs (sem P C (n+1)).ex Y rest L Hb=Q):exs (sem P C (n+1)).ex Y (.ifs g x []::rest) L H=Q:=z4g (z0c h rfl) hr
theorem x5a{pt:Pat}{sk:z5w}{up:Bool}(h:z8z (sem P C n) Y sk args L H=some (([],up),Hb))(hr:exs (sem P C (n+1)).ex Y rest L Hb=Q):exs (sem P C (n+1)).ex Y (.for_ pt sk args x []::rest) L H=Q:=
 z4g ((x0u P C n Y L H pt sk args x []).trans (z0c h rfl)) hr
theorem x1i{t:Bool}{g:ME}(h:(sem P C n).ts Y g L H=some (t,Hb))(ha:exs (sem P C n).ex Y (if t then x else y) L Hb=some (.brk Y',H2)):exs (sem P C (n+1)).ex Y (.ifs g x y::rest) L H=some (.brk Y',H2):=z0c (z0c h ha) rfl
theorem y1a{pt:Pat}{sk:z5w}{up:Bool}{vs:List PV}{el:List MS}(h:z8z (sem P C n) Y sk args L H=some ((vs,up),Hb))(h2:z3c (sem P C n).ex pt x el Y vs (Lup up L Hb) Hb=some (.next Y',H2))(hr:exs (sem P C (n+1)).ex Y' rest L H2=Q):exs (sem P C (n+1)).ex Y (.for_ pt sk args x el::rest) L H=Q:=
 z4g ((x0u P C n Y L H pt sk args x el).trans (z0c h h2)) hr
theorem x8q{V:Type}{pt:Pat}{sk:z5w}{xs:List V}{enc:V->PV}{up:Bool}(I:z0l->Prop)(bad:V->Bool)(hsrc:z8z (sem P C n) Y sk args L H=some ((xs.map enc,up),H))
 (step:∀ z,z∈xs->∀ Y,I Y->∃ Y1,z1t Y pt (enc z)=some Y1/\((bad z=true/\exs (sem P C n).ex Y1 x (Lup up L H) H=some (.ret v,H))\/(bad z=false/\∃ Y2,exs (sem P C n).ex Y1 x (Lup up L H) H=some (.next Y2,H)/\I Y2)))(h:I Y) :
  (xs.any bad=true/\(sem P C (n+1)).ex Y (.for_ pt sk args x []) L H=some (.ret v,H))\/(xs.any bad=false/\∃ Y',I Y'/\(sem P C (n+1)).ex Y (.for_ pt sk args x []) L H=some (.next Y',H)):=by
 rw [x0u,z1b hsrc]
 clear hsrc
 show _\/(_/\∃ Y',I Y'/\z3c (sem P C n).ex pt x [] Y (xs.map enc) (Lup up L H) H=some (.next Y',H))
 show(_/\z3c (sem P C n).ex pt x [] Y (xs.map enc) (Lup up L H) H=some (.ret v,H))\/_
 generalize Lup up L H=LL at step ⊢
 induction xs generalizing Y with
 | nil=>exact .inr ⟨rfl,Y,h,rfl⟩
 | cons z zs ih=>
  obtain⟨Y1,h1,h2⟩:=step z AD Y h
  rw [List.any_cons,BP]
  rcases h2 with⟨hb,h3⟩ | ⟨hb,Y2,h3,h4⟩
  ·rw [hb,z1x h1 h3]
   exact .inl ⟨rfl,rfl⟩
  ·rw [hb,z1x h1 h3]
   exact ih h4 fun y hy=>step y (AE _ hy)
end
@[simp] theorem w6x(S:z6q)(Y:z0l)(k:z5w)(args:List ME)(L:Lim)(H:z0b):z8z S Y k args L H=(match z3p (S.ev Y) args L H with
  | some (vs,H')=>(match k1s k H' vs with | some r=>some (r,H') | none=>none)
  | none=>none):=by
 unfold z8z M.bind
 induction z3p (S.ev Y) args L H using Option.casesOn with
 | none=>rfl
 | some x=>rfl
@[simp] theorem w8m{V:Type}(c:Prop)[Decidable c](m1 m2:M V)(L:Lim)(H:z0b):(if c then m1 else m2:M V) L H=if c then m1 L H else m2 L H:=by split<;>rfl
@[simp] theorem j0n(H:z0b)(b:Bool):z9c H (.bool b)=some b:=rfl
@[simp] theorem k6n(H:z0b)(i:Int):z9c H (.int i)=some (i != 0):=rfl
@[simp] theorem k1z(H:z0b):z9c H .none=some false:=rfl
theorem x1j{C:z0g}{n:Nat}{Y:z0l}{L:Lim}{H Hb:z0b}{e:ME}{x:Str}(h:(sem mp2 C n).ev Y e L H=some (.str x,Hb))(hx:x.length<=100000) :
  (sem mp2 C (n+1)).ev Y (.prim .lower [e]) L H=some (.str (Txt.lower x),Hb):=z0s (z1h h) (AR hx)
theorem j5k(lv:Nat)(o:PV)(x:Str)(t:Bool)(L:Lim)(H:z0b)(h:okPat t x=true) :
  z0h mp2 (lv+1) 8 [o,.str x] [(34,.bool t)] L H=some (.str x,H):=by
 refine z0v (Y:=upd (upd (y2y 34 (.bool t)) 5 o) 35 (.str x)) w2j rfl (j5j (t:=true) (z3u (p:=.bool true) rfl (y5l (b:=true) (z0a rfl) rfl) rfl)
  (z0d (v:=.pat t) (z6a (t:=t) (z3u rfl (z0a rfl) rfl) ?_) (q2i (z3u (p:=.none) rfl (z0s (z2a (z0a rfl) (z0a rfl)) (AR h)) rfl) (z4i (z0a rfl)))))
 induction t using Bool.casesOn<;>rfl
noncomputable abbrev HL:=List (Str×Str)
noncomputable def z4h(h:Str×Str):PV:=.tup [.str h.1,.str h.2]
structure HAt(H:z0b)(i j:Nat)(hs:HL):Prop where
 a:H[i]?=some (.att [(30,.ref j)])
 l:H[j]?=some (.lst (hs.map z4h))
 n:hs.length<=1000
 ok:∀ h,h∈hs->h.1.length<=100000
@[simp] theorem w0v(c i:Nat)(L:Lim)(H:z0b):q3r (.inst c i) L H=(match H[i]? with | some (.att l)=>some ((),H) | _=>none):=by
 show((y6d i).bind fun _=>M.pure ()) L H=_
 rw [y0w]
 unfold y6d
 induction h:H[i]? using Option.casesOn with
 | none=>rfl
 | some c=>cases c<;>rfl
@[simp] theorem w0w(k c i:Nat)(L:Lim)(H:z0b):j8x k (.inst c i) L H=(match H[i]? with | some (.att l)=>M.ofOpt (l.lookup k) L H | _=>none):=by
 show((y6d i).bind fun l=>M.ofOpt (l.lookup k)) L H=_
 rw [y0w]
 unfold y6d
 induction h:H[i]? using Option.casesOn with
 | none=>rfl
 | some c=>cases c<;>rfl
@[simp] theorem w0x(P:MP)(C:z0g)(m c i:Nat)(args:List PV)(kw:List (Nat×PV))(L:Lim)(H:z0b):y0a P C m (.inst c i) args kw L H=(match P.meth c m with | some f=>C f (.inst c i::args) kw L H | none=>none):=by
 show((M.ofOpt (P.meth c m)).bind fun f=>C f (.inst c i::args) kw) L H=_
 cases P.meth c m<;>rfl
theorem y7f{lv n i:Nat}{Y:z0l}{L:Lim}{H Hb:z0b}{l:List (Nat×PV)}{e:ME}{x:Str}{t:Bool}(h5:Y 5=some (.inst 1 i))(ha:H[i]?=some (.att l))(he:(sem mp2 (z0h mp2 (lv+1)) (n+1)).ev Y e L H=some (.str x,Hb))(ho:okPat t x=true) :
  (sem mp2 (z0h mp2 (lv+1)) (n+2)).ev Y (.methk 33 (.var 5) [e] 34 (.bool t)) L H=some (.str x,Hb):=
 j0m (f:=8) (z0a h5) ha (z1h he) rfl rfl (j5k lv _ x t L Hb ho)
theorem y9e{C:z0g}{n i j:Nat}{hs:HL}{Y:z0l}{L:Lim}{H:z0b}(A0:HAt H i j hs)(h5:Y 5=some (.inst 1 i)):(sem mp2 C (n+2)).ev Y (.attr 30 (.var 5)) L H=some (.ref j,H):=
 y5k (z0a h5) A0.a rfl
theorem y1b{C:z0g}{n i j:Nat}{hs:HL}{Y:z0l}{L:Lim}{H:z0b}(A0:HAt H i j hs)(h5:Y 5=some (.inst 1 i)):z8z (sem mp2 C (n+2)) Y .over [.attr 30 (.var 5)] L H=some ((hs.map z4h,true),H):=
 z1p (z1h (y9e A0 h5)) (show(z1d H j).map _=_ by rw [z1f A0.l];rfl)
theorem x8r{C:z0g}{n k:Nat}{Y:z0l}{L:Lim}{H:z0b}{h:Str×Str}(hk:Y k=some (z4h h)):(sem mp2 C (n+2)).ev Y (.idx (.var k) (.int 0)) L H=some (.str h.1,H):=
 z6i (j:=0) (z0a hk) rfl rfl
noncomputable def q4v(hs:HL)(x:Str):Option Str:=hs.findSome? fun h=>if Txt.lower h.1==Txt.lower x then some h.2 else none
noncomputable def w6y:Option Str->PV
 | some v=>.str v
 | none=>.none
theorem j5l(x:Str):∀ hs:HL,hs.findSome? (fun h=>if Txt.lower h.1==Txt.lower x then some (PV.str h.2) else none)=(q4v hs x).map .str
 | []=>rfl
 | h::hs=>by
  have ih:=j5l x hs
  unfold q4v at ih ⊢
  rw [EG,EG,ih]
  by_cases e:Txt.lower h.1=Txt.lower x<;>simp [e]
theorem k6o(lv:Nat){x:Str}{i j:Nat}{hs:HL}{L:Lim}{H:z0b}(A0:HAt H i j hs)(hx:x.length<=100000)(ho:okPat true (Txt.lower x)=true) :
  z0h mp2 (lv+2) 14 [.inst 1 i,.str x] [] L H=some (w6y (q4v hs x),H):=by
 obtain⟨Y',⟨h1,h2⟩,h3⟩:=q7d (P:=mp2) (C:=z0h mp2 (lv+1)) (n:=39) (p:=.tup [31,32]) (k:=.over) (src:=[.attr 30 (.var 5)]) (body:=[.ifs (.cmp .eq (.prim .lower [.var 31]) (.var 34)) [.ret (.var 32)] []]) (orelse:=[])
  (Y:=upd (x8h 5 (.inst 1 i) 34 (.str x) 40 .none) 34 (.str (Txt.lower x))) (xs:=hs) (enc:=z4h) (up:=true) (fun Y=>Y 34=some (.str (Txt.lower x))/\Y 40=some .none) (fun h=>if Txt.lower h.1==Txt.lower x then some (.str h.2) else none)
  (y1b (L:=L) A0 rfl) (fun h hh Y ⟨a,b⟩=>⟨_,rfl,by
   have hc:(sem mp2 (z0h mp2 (lv+1)) 38).ts (upd (upd Y 31 (.str h.1)) 32 (.str h.2)) (.cmp .eq (.prim .lower [.var 31]) (.var 34)) (Lup true L H) H=some (Txt.lower h.1==Txt.lower x,H):=
    z3u rfl (z0k (x1j (z0a rfl) (A0.ok h hh)) (z0a a) (z7o rfl rfl)) rfl
   induction e:(Txt.lower h.1==Txt.lower x) using Bool.casesOn with
   | true=>exact j5j (e▸hc) (z4i (z0a rfl))
   | false=>exact⟨_,q2i (e▸hc) rfl,a,b⟩⟩) ⟨rfl,rfl⟩
 rw [j5l] at h3
 refine z0v (Y:=x8h 5 (.inst 1 i) 34 (.str x) 40 .none) k5r rfl (z0d (y7f rfl A0.a (x1j (z0a rfl) hx) ho) ?_)
 induction hg:q4v hs x using Option.casesOn with
 | some v=>rw [hg] at h3;exact q7h h3
 | none=>rw [hg] at h3;exact z4g h3 (z4i (z0a h2))
@[simp] theorem k6p(i:Nat)(l:List PV)(L:Lim)(H:z0b):z9z i l L H=if L.b<=i/\z0t 0 l=true then(match H[i]? with | some (.lst _)=>some ((),H.set i (.lst l)) | _=>none) else none:=rfl
@[simp] theorem k6q(l:List PV)(L:Lim)(H:z0b):z7x l L H=if z0t 0 l=true then some (.ref H.length,H++[.lst l]) else none:=rfl
@[simp] theorem k6r(L:Lim)(H:z0b):y4d L H=some (H.length,H++[.att []]):=rfl
@[simp] theorem x8s(k c i:Nat)(v:PV)(L:Lim)(H:z0b):y3e k (.inst c i) v L H=if L.ab<=i then(match H[i]? with
   | some (.att l)=>if(z4q k v l).length<=900 then some ((),H.set i (.att (z4q k v l))) else none
   | _=>none) else none:=rfl
theorem z5p(n:Nat):∀ hs:HL,z0t n (hs.map z4h)=true
 | []=>rfl
 | h::hs=>by
  show(y6c n (z4h h)&&z0t n (hs.map z4h))=true
  rw [z5p n hs];rfl
theorem HAt.set{H:z0b}{i j:Nat}{hs hs':HL}(A0:HAt H i j hs)(hn:hs'.length<=1000)(ho:∀ h,h∈hs'->h.1.length<=100000):HAt (H.set j (.lst (hs'.map z4h))) i j hs' where
 a:=by
  rw [DN (fun e=>?_)]
  ·exact A0.a
  ·have h1:=A0.a;have h2:=A0.l;rw [e,h1] at h2;cases h2
 l:=EH (AS.mp A0.l).1
 n:=hn
 ok:=ho
theorem j0o(lv:Nat){x:Str}{i j:Nat}{hs:HL}{L:Lim}{H:z0b}(A0:HAt H i j hs)(hx:x.length<=100000)(ho:okPat true (Txt.lower x)=true) :
  z0h mp2 (lv+3) 12 [.inst 1 i,.str x] [] L H=some (.bool (q4v hs x).isSome,H):=by
 refine(z0v (Y:=y3v 5 (.inst 1 i) 34 (.str x)) k5p rfl (z4i (z9r (z4f (f:=14) (z0a rfl) A0.a (z1h (z0a rfl)) rfl (k6o lv A0 hx ho))))).trans ?_
 cases q4v hs x<;>rfl
noncomputable def j1g(hs:HL)(x:Str):HL:=hs.filter fun h=>!(Txt.lower h.1==Txt.lower x)
theorem x1k{hs:HL}{x:Str}(hn:hs.length<=1000):(hs.map z4h++(j1g hs x).map z4h).length<=z2k:=by
 have h:=CA (fun h:Str×Str=>!(Txt.lower h.1==Txt.lower x)) hs
 rw [AC,AI,AI]
 exact AA (BM hn (AA h hn)) (by decide)
theorem x8t(lv:Nat){x:Str}{i j:Nat}{hs:HL}{L:Lim}{H:z0b}(A0:HAt H i j hs)(hx:x.length<=100000)(ho:okPat true (Txt.lower x)=true)(hb:L.b<=j) :
  z0h mp2 (lv+2) 10 [.inst 1 i,.str x] [] L H=some (.none,H.set j (.lst ((j1g hs x).map z4h))):=
 z8u (Y:=y3v 5 (.inst 1 i) 34 (.str x)) k5n rfl (z0d (y7f rfl A0.a (x1j (z0a rfl) hx) ho)
  (x1h (vs:=(j1g hs x).map z4h) (z0i (z1w (xs:=hs) (enc:=z4h) (up:=true) (test:=fun h=>!(Txt.lower h.1==Txt.lower x)) (out:=z4h) (y1b A0 rfl) (AA A0.n (by decide))
   (fun h hh=>z2z (z3u rfl (z0k (x1j (x8r rfl) (A0.ok h hh)) (z0a rfl) (z7o rfl rfl)) rfl)) (fun h hh _=>z0a rfl))) (y9e A0 rfl) A0.l (x1k A0.n) hb (z5p _ _) rfl))
theorem z7f{H:z0b}{i j:Nat}{c:z2u}(h:i≠j):(H.set j c)[i]?=H[i]?:=DN (Ne.symm h)
theorem z3v{H:z0b}{j:Nat}{c d:z2u}(h:H[j]?=some d):(H.set j c)[j]?=some c:=EH (AS.mp h).1
theorem q4w{H:z0b}{i:Nat}{c:z2u}{l:z0b}(h:H[i]?=some c):(H++l)[i]?=some c:=by rw [DH (AS.mp h).1];exact h
theorem z2h(H:z0b)(c:z2u):(H++[c])[H.length]?=some c:=by simp
theorem x8u{H:z0b}{j:Nat}{c d:z2u}{l:z0b}(h:H[j]?=some d):(H++l).set j c=H.set j c++l:=List.set_append_left _ _ (AS.mp h).1
theorem z8g(H:z0b)(c d:z2u):(H++[c]).set H.length d=H++[d]:=by simp
theorem j5m{H:z0b}{j:Nat}{c:z2u}(h:H[j]?=some c):j<H.length:=(AS.mp h).1
@[simp] theorem x8v(x:Str):z2v (.str x)=false:=rfl
@[simp] theorem x5b:z2v .none=true:=rfl
@[simp] theorem x8w(i:Nat):z2v (.ref i)=false:=rfl
@[simp] theorem x8x(l:List PV):z2v (.lst l)=false:=rfl
@[simp] theorem k6s(ex:z0l->MS->M Fl)(p:Pat)(b o:List MS)(Y:z0l):z3c ex p b o Y []=exs ex Y o:=rfl
theorem q2j{y:Str}{ts:List Str}(h:(ts.map (·.length)).sum+ts.length*y.length<=10000000):JoinOk y ts=true:=by
 unfold JoinOk
 rw [StrLaws.joinTotal,DJ]
 unfold Builtin.Str.tooLong
 have:sizeLine=16777216:=rfl
 exact DT (by omega)
theorem y9f(y v:Str):Txt.join y [v]=v:=by
 unfold Txt.join
 rw [EO]
 rfl
noncomputable def w2n(hs:HL)(nm v:Str):HL:=hs++[(nm,v)]
theorem k6t{m:M PV}{L:Lim}{H J:z0b}{v w:PV}(h:m ⟨L.b,H.length⟩ H=some (v,J))(hf:frz H.length J v=some w):gcM m L H=some (w,J.take H.length):=by
 unfold gcM
 rw [h]
 dsimp only
 rw [hf]
theorem z7g{m:M PV}{L:Lim}{H J:z0b}{v w:PV}(h:m ⟨H.length,H.length⟩ H=some (v,J))(hf:frz H.length J v=some w):q8w m L H=some (w,H):=by
 unfold q8w
 rw [h]
 dsimp only
 rw [hf]
theorem x1l(H l:z0b)(n:Nat)(h:n=H.length):(H++l).take n=H:=by subst h;simp
theorem k6u{m:M PV}{L:Lim}{H J l:z0b}(h:m ⟨L.b,H.length⟩ H=some (.none,J++l))(hl:J.length=H.length):gcM m L H=some (.none,J):=by
 rw [k6t h rfl,x1l _ _ _ hl.symm]
theorem j5n(lv:Nat){i j:Nat}{hs:HL}{L:Lim}{H:z0b}(A0:HAt H i j hs) :
  z0h mp2 (lv+1) 17 [.inst 1 i] [] L H=some (.ref H.length,H++[.lst (hs.map z4h)]):=
 z0v (Y:=y2y 5 (.inst 1 i)) k5u rfl (z4i (q4u (y9e A0 rfl) (z1f A0.l) (z5p _ _)))
theorem j5o(lv:Nat){L:Lim}{H:z0b}(hb:L.ab<=H.length) :
  z0h mp2 (lv+2) 7 [.inst 1 H.length] [] L (H++[.att []])=some (.none,H++[.att [(30,.ref (H.length+1))],.lst []]):=by
 have hlen:(H++[z2u.att []]).length=H.length+1:=AC
 have ha:(H++[z2u.att []]++[z2u.lst []])[H.length]?=some (.att []):=q4w (z2h _ _)
 have hr:(H++[z2u.att []]++[z2u.lst []]).set H.length (.att [(30,.ref (H.length+1))])=H++[.att [(30,.ref (H.length+1))],.lst []]:=by
  rw [x8u (z2h _ _),z8g,AW];rfl
 have hl:(H++[z2u.att [(30,.ref (H.length+1))],.lst []])[H.length+1]?=some (.lst []):=by
  have h:=z2h (H++[z2u.att [(30,.ref (H.length+1))]]) (.lst [])
  rw [AW,AC] at h
  exact h
 have hm:(sem mp2 (z0h mp2 (lv+1)) 39).ev (y3v 5 (.inst 1 H.length) 29 .none) (.ite (.isNone true (.var 29)) (.var 29) (.mlst [])) L (H++[.att []])=some (.ref (H.length+1),H++[.att []]++[.lst []]):=by
  rw [<- hlen]
  exact z6a (t:=false) (z3u rfl (z9r (z0a rfl)) rfl) (y0x z4w rfl)
 refine z8u (Y:=y3v 5 (.inst 1 H.length) 29 .none) (Y':=upd (y3v 5 (.inst 1 H.length) 29 .none) 29 (.ref (H.length+1))) k5m rfl (z0d hm (q2i (z3u (p:=.bool false) rfl (y5l (b:=true) (z0a rfl) ?h1) rfl) (z8f (l:=[]) (z0a rfl) (z0a rfl) hb ha (by decide:1<=900) ?h2)))
 case h1=>
  show(z1d _ _).map _=_
  rw [z1f (by rw [<- hlen];exact z2h _ _)];rfl
 case h2=>
  show exs _ _ _ L ((H++[z2u.att []]++[z2u.lst []]).set H.length (.att [(30,.ref (H.length+1))]))=_
  rw [hr]
  exact q2h (t:=true) (z3u (p:=.bool true) rfl rfl rfl) (x5a (up:=true) (z1p (z1h (z0a rfl)) (show(z1d _ _).map _=_ by rw [z1f hl];rfl)) rfl) rfl
theorem x8y(lv:Nat){L:Lim}{H:z0b}{i r:Nat}{hs:HL}(hr:H[r]?=some (.lst (hs.map z4h)))(hi:H[i]?=some (.att []))(hb:L.ab<=i)(hok:∀ h,h∈hs->okPat true h.1=true/\okPat false h.2=true) :
  z0h mp2 (lv+2) 7 [.inst 1 i,.ref r] [] L H=some (.none,H.set i (.att [(30,.ref r)])):=by
 have hne:r≠i:=fun e=>by rw [e,hi] at hr;cases hr
 have hi':(H.set i (.att [(30,.ref r)]))[i]?=some (.att [(30,.ref r)]):=z3v hi
 obtain⟨Y',h1,h2⟩:=q7d (P:=mp2) (C:=z0h mp2 (lv+1)) (n:=38) (Y:=upd (y3v 5 (.inst 1 i) 29 (.ref r)) 29 (.ref r)) (L:=L) (H:=H.set i (.att [(30,.ref r)])) (p:=.tup [31,32]) (k:=.over) (src:=[.var 29]) (body:=[.expr (.methk 33 (.var 5) [.var 31] 34 (.bool true)),.expr (.methk 33 (.var 5) [.var 32] 34 (.bool false))]) (orelse:=[])
   (xs:=hs) (enc:=z4h) (up:=true) (fun Y=>Y 5=some (.inst 1 i)) (fun _=>none)
   (z1p (z1h (z0a rfl)) (show(z1d _ _).map _=_ by rw [z1f ((z7f hne).trans hr)];rfl)) (fun h hh Y h5=>⟨_,rfl,_,j5i (y7f (x:=h.1) h5 hi' (z0a rfl) (hok h hh).1) (j5i (y7f (x:=h.2) h5 hi' (z0a rfl) (hok h hh).2) rfl),h5⟩) rfl
 have hn:hs.findSome? (fun _=>(none:Option PV))=none:=List.findSome?_eq_none_iff.mpr fun _ _=>rfl
 rw [hn] at h2
 refine z8u (Y:=y3v 5 (.inst 1 i) 29 (.ref r)) k5m rfl (z0d (z6a (t:=true) (z3u rfl (z9r (z0a rfl)) rfl) (z0a rfl)) (q2i (z3u (p:=.bool false) rfl (y5l (b:=true) (z0a rfl) ?h1) rfl)
  (z8f (l:=[]) (z0a rfl) (z0a rfl) hb hi (by decide:1<=900) (q2h (t:=true) (z3u (p:=.bool true) rfl rfl rfl) (z4g h2 rfl) rfl))))
 show(z1d _ _).map _=_
 rw [z1f hr];rfl
noncomputable def wk(i:Nat):Str:=match q2g.lookup ((2^i:Nat):Int) with
 | some x=>x
 | none=>baseText "0x" 16 ((2^i:Nat):Int)
noncomputable def z4x:Nat->Nat->Nat->List Nat
 | 0,_,_=>[]
 | n+1,i,r=>if r.testBit i then i::(if r - 2^i=0 then[] else z4x n (i+1) (r - 2^i)) else z4x n (i+1) r
theorem x8z(r i:Nat):r &&& 2^i=(r.testBit i).toNat*2^i:=by
 refine Nat.eq_of_testBit_eq fun j=>?_
 rw [Nat.testBit_and,Nat.testBit_two_pow]
 induction h:r.testBit i using Bool.casesOn with
 | true=>
  simp only [Bool.toNat_true,Nat.one_mul,Nat.testBit_two_pow]
  by_cases e:i=j
  ·subst e;simp [h]
  ·simp [e]
 | false=>
  simp only [Bool.toNat_false,Nat.zero_mul,Nat.zero_testBit]
  by_cases e:i=j
  ·subst e;simp [h]
  ·simp [e]
theorem q7i(r i:Nat):Builtin.bitAnd (r:Int) ((2^i:Nat):Int)=(((r.testBit i).toNat*2^i:Nat):Int):=by
 unfold Builtin.bitAnd
 have h1:decide (0<=(r:Int))=true:=AV (DZ _)
 have h2:decide (0<=((2^i:Nat):Int))=true:=AV (DZ _)
 rw [h1,h2]
 dsimp only
 rw [ET,ET,x8z]
theorem x5c{r i:Nat}(h:r.testBit i=true):2^i<=r:=Nat.ge_two_pow_of_testBit h
theorem x1m{r i:Nat}(h:r.testBit i=true):Builtin.bitXor (r:Int) ((2^i:Nat):Int)=((r - 2^i:Nat):Int):=by
 rw [PyProof.Rows.bitXor_and,q7i,h]
 have:=x5c h
 simp only [Bool.toNat_true,Nat.one_mul]
 rw [Int.ofNat_sub this]
 lia
noncomputable def q7j:List MS:=match st w0u 1 with | .for_ _ _ _ b _=>b | _=>[]
noncomputable def j5p:List MS:=match st w0u 1 with | .for_ _ _ _ _ b=>b | _=>[]
theorem x1n(P:MP)(H:z0b){i:Nat}(h:i<32):z4p P .hex H [.int ((2^i:Nat):Int)]=some (.str (baseText "0x" 16 ((2^i:Nat):Int))):=
 AR (by rw [DM];exact Nat.pow_lt_pow_right (by decide) (BS h (by decide)))
theorem j5q(H:z0b)(i:Nat):z4p mp2 .flagGet H [.int ((2^i:Nat):Int),.str (baseText "0x" 16 ((2^i:Nat):Int))]=some (.str (wk i)):=by
 unfold wk
 show some (match q2g.lookup ((2^i:Nat):Int) with | some x=>PV.str x | none=>.str (baseText "0x" 16 ((2^i:Nat):Int)))=_
 cases q2g.lookup ((2^i:Nat):Int)<;>rfl
theorem y1s{i:Nat}(H:z0b)(h:i<32):y5z .shl H (.int 1) (.int (i:Int))=some (.int ((2^i:Nat):Int)):=by
 refine(AR ⟨DZ i,Int.ofNat_le.mpr (AA (BR h) (by decide)),by decide⟩).trans ?_
 rw [ET,Int.one_mul,Int.natCast_pow]
 rfl
theorem y5m(n:Nat):∀ ts:List Str,z0t n (ts.map PV.str)=true
 | []=>rfl
 | t::ts=>by show(y6c n (.str t)&&z0t n (ts.map PV.str))=true;rw [y5m n ts];rfl
section
variable {C:z0g} {n:Nat} {L:Lim} {H:z0b} {Y:z0l}
theorem j5r{i r:Nat}{acc:List Str}(hb:L.b<=H.length)(hl:acc.length<=1000)(hi:i<32)(h20:Y 20=some (.int (i:Int)))(h26:Y 26=some (.int (r:Int)))(h27:Y 27=some (.ref H.length)) :
  exs (sem mp2 C 39).ex Y q7j L (H++[.lst (acc.map .str)])=(if r.testBit i then
   (if r - 2^i=0 then some (.brk (upd (upd Y 28 (.int ((2^i:Nat):Int))) 26 (.int ((r - 2^i:Nat):Int))),H++[.lst ((acc++[wk i]).map .str)])
    else some (.next (upd (upd Y 28 (.int ((2^i:Nat):Int))) 26 (.int ((r - 2^i:Nat):Int))),H++[.lst ((acc++[wk i]).map .str)]))
   else some (.next (upd Y 28 (.int ((2^i:Nat):Int))),H++[.lst (acc.map .str)])):=by
 have hband:∀ H,y5z .band H (.int (r:Int)) (.int ((2^i:Nat):Int))=some (.int (((r.testBit i).toNat*2^i:Nat):Int)):=fun H=>AP (fun z=>some (PV.int z)) (q7i r i)
 induction hbit:r.testBit i using Bool.casesOn with
 | false=>
  rw [hbit,Bool.toNat_false,Nat.zero_mul] at hband
  exact z0d (z0f rfl (z0a h20) (y1s _ hi)) (q2i (z3u (t:=false) rfl (z0f (z0a h26) (z0a rfl) (hband _)) rfl) rfl)
 | true=>
  rw [hbit,Bool.toNat_true,Nat.one_mul] at hband
  have hne:z9c (H++[.lst (acc.map .str)]) (.int ((2^i:Nat):Int))=some true:=AP some (FX.mpr (Int.ne_of_gt (Int.natCast_pos.mpr (Nat.two_pow_pos i))))
  have hxor:x4f .bxor (.int (r:Int)) (.int ((2^i:Nat):Int))=some (.int ((r - 2^i:Nat):Int)):=AP (fun z=>some (PV.int z)) (x1m hbit)
  have e:acc.map PV.str++[PV.str (wk i)]=(acc++[wk i]).map .str:=(BF (f:=PV.str) (l₁:=acc) (l₂:=[wk i])).symm
  have hn:z0t 0 (acc.map PV.str++[PV.str (wk i)])=true:=by rw [e];exact y5m _ _
  have hle:(acc.map PV.str++[PV.str (wk i)]).length<=z2k:=by
   rw [AC,AI]
   exact AA (BZ hl 1) (by decide)
  have run:∀ {Q} (_:exs (sem mp2 C 38).ex (upd Y 28 (.int ((2^i:Nat):Int))) [.aug .bxor 26 (.var 28),.ifs (.notE (.var 26)) [.brk] []] L (H++[.lst ((acc++[wk i]).map .str)])=Q),
    exs (sem mp2 C 38).ex (upd Y 28 (.int ((2^i:Nat):Int))) [.append (.var 27) (.prim .flagGet [.var 28,.prim .hex [.var 28]]),.aug .bxor 26 (.var 28),.ifs (.notE (.var 26)) [.brk] []] L (H++[.lst (acc.map .str)])=Q:=fun h=>
   y0z (z0a h27) (z2h H _) (z0s (z2a (z0a rfl) (z0s (z1h (z0a rfl)) (x1n _ _ hi))) (j5q _ i)) (z2h H _) hle hb hn (by rw [z8g,e];exact h)
  have hz':∀ (J:z0b) (b:Bool),(((r - 2^i:Nat):Int) != 0)=b->(sem mp2 C 37).ts (upd (upd Y 28 (.int ((2^i:Nat):Int))) 26 (.int ((r - 2^i:Nat):Int))) (.notE (.var 26)) L J=some (!b,J):=fun J b h=>x1g (z3u rfl (z0a rfl) (AP some h))
  rw [AR rfl]
  by_cases hz:r - 2^i=0
  ·rw [AR hz]
   exact z0d (z0f rfl (z0a h20) (y1s _ hi)) (x1i (t:=true) (z3u rfl (z0f (z0a h26) (z0a rfl) (hband _)) hne) (run (x8p h26 (z0a rfl) hxor (x1i (t:=true) (hz' _ false (by rw [hz];rfl)) k6m))))
  ·rw [AT hz]
   exact z0d (z0f rfl (z0a h20) (y1s _ hi)) (q2h (t:=true) (z3u rfl (z0f (z0a h26) (z0a rfl) (hband _)) hne) (run (x8p h26 (z0a rfl) hxor (q2i (hz' _ true (FX.mpr fun h=>hz (Int.ofNat.inj h))) rfl))) rfl)
theorem q4x:∀ (k i r:Nat) (acc:List Str) (Y:z0l),L.b<=H.length->acc.length+k<=1000->i+k<=32->r % 2^i=0->r<2^(i+k)->0<r->Y 26=some (.int (r:Int))->Y 27=some (.ref H.length) ->
  ∃ Y',Y' 27=some (.ref H.length)/\z3c (sem mp2 C 39).ex (.one 20) q7j j5p Y ((List.range' i k).map fun(j:Nat)=>PV.int (j:Int)) L (H++[.lst (acc.map .str)])=some (.next Y',H++[.lst ((acc++(z4x k i r).map wk).map .str)])
 | 0,i,r,acc,Y,hb,hl,hk,hm,hr,h0,h26,h27=>by
  rw [Nat.add_zero] at hr
  rw [Nat.mod_eq_of_lt hr] at hm
  lia
 | k+1,i,r,acc,Y,hb,hl,hk,hm,hr,h0,h26,h27=>by
  have ht:=j5r (C:=C) (L:=L) (H:=H) (Y:=upd Y 20 (.int (i:Int))) (i:=i) (r:=r) (acc:=acc) hb (by lia) (by lia) rfl h26 h27
  have hf:z4x (k+1) i r=if r.testBit i then i::(if r - 2^i=0 then[] else z4x k (i+1) (r - 2^i)) else z4x k (i+1) r:=rfl
  rw [hf]
  clear hf
  induction hbit:r.testBit i using Bool.casesOn with
  | false=>
   rw [hbit,AT CL] at ht
   rw [AT CL]
   have h5:r % 2^(i+1)=0:=by
    have h1:=Nat.testBit_eq_decide_div_mod_eq (x:=r) (i:=i)
    rw [hbit] at h1
    have h2:¬ (r / 2^i % 2=1):=of_decide_eq_false h1.symm
    have h3:=Nat.div_add_mod r (2^i)
    rw [hm,Nat.add_zero] at h3
    have h4:2*(r / 2^i / 2)=r / 2^i:=by lia
    rw [<- h3,<- h4,Nat.pow_succ,<- Nat.mul_assoc,Nat.mul_comm (2^i) 2,Nat.mul_mod_right]
   obtain⟨Y',q1,q2⟩:=q4x k (i+1) r acc (upd (upd Y 20 (.int (i:Int))) 28 (.int ((2^i:Nat):Int))) hb (by lia) (by lia) h5 (BI i 1 k▸hr) h0 h26 h27
   exact⟨Y',q1,(z1x rfl ht).trans q2⟩
  | true=>
   rw [hbit,AR rfl] at ht
   rw [AR rfl]
   have hle:=x5c hbit
   by_cases hz:r - 2^i=0
   ·rw [AR hz] at ht
    rw [AR hz]
    refine⟨_,?_,z1x rfl ht⟩
    exact h27
   ·rw [AT hz] at ht
    rw [AT hz]
    obtain⟨Y',h1,h2⟩:=q4x k (i+1) (r - 2^i) (acc++[wk i]) (upd (upd (upd Y 20 (.int (i:Int))) 28 (.int ((2^i:Nat):Int))) 26 (.int ((r - 2^i:Nat):Int))) hb (by simp;lia) (by lia) (by
      have h1:=Nat.testBit_eq_decide_div_mod_eq (x:=r) (i:=i)
      rw [hbit] at h1
      have h2:r / 2^i % 2=1:=AK h1.symm
      have h3:=Nat.div_add_mod r (2^i)
      rw [hm,Nat.add_zero] at h3
      have h4:2*(r / 2^i / 2)+1=r / 2^i:=by lia
      have h5:r - 2^i=2^i*2*(r / 2^i / 2):=by
       rw [Nat.mul_assoc]
       have h6:2^i*(2*(r / 2^i / 2)+1)=r:=by rw [h4];exact h3
       rw [Nat.mul_add,Nat.mul_one] at h6
       exact Nat.sub_eq_of_eq_add h6.symm
      rw [h5,Nat.pow_succ,Nat.mul_mod_right]) (by
      exact AZ (Nat.sub_le _ _) (BI i 1 k▸hr)) (by lia) rfl h27
    refine⟨Y',h1,(z1x rfl ht).trans (h2.trans ?_)⟩
    rw [AW]
    rfl
theorem q7k:∀ (k i:Nat) (Y:z0l),L.b<=H.length->i+k<=32->Y 26=some (.int ((0:Nat):Int))->Y 27=some (.ref H.length) ->
  ∃ Y',Y' 27=some (.ref H.length)/\z3c (sem mp2 C 39).ex (.one 20) q7j j5p Y ((List.range' i k).map fun(j:Nat)=>PV.int (j:Int)) L (H++[.lst (([]:List Str).map .str)])=some (.next Y',H++[.lst ([baseText "0x" 16 0].map .str)])
 | 0,i,Y,hb,hk,h26,h27=>by
  refine⟨Y,h27,?_⟩
  exact y0z (z0a h27) (z2h H _) (z0s (z1h (z0a h26)) rfl) (z2h H _) (show(1:Nat)<=z2k by decide) hb rfl (by rw [z8g];rfl)
 | k+1,i,Y,hb,hk,h26,h27=>by
  have ht:=j5r (C:=C) (L:=L) (H:=H) (Y:=upd Y 20 (.int (i:Int))) (i:=i) (r:=0) (acc:=[]) hb (BK _) (by lia) rfl h26 h27
  rw [Nat.zero_testBit,AT (by decide)] at ht
  obtain⟨Y',q1,q2⟩:=q7k k (i+1) (upd (upd Y 20 (.int (i:Int))) 28 (.int ((2^i:Nat):Int))) hb (by lia) h26 h27
  exact⟨Y',q1,(z1x rfl ht).trans q2⟩
end
noncomputable def z3m(r:Nat):Str:=if r=0 then baseText "0x" 16 0 else Txt.join (Str.ofString ", ") ((z4x 32 0 r).map wk)
theorem y1t:∀ ts:List Str,z7v (ts.map .str)=some ts
 | []=>rfl
 | t::ts=>by show(z7v (ts.map .str)).map (t::·)=_;rw [y1t ts];rfl
theorem j5s{P:MP}{H:z0b}{x:Str}{i:Nat}{ts:List Str}(h:H[i]?=some (.lst (ts.map .str)))(hj:JoinOk x ts=true):z4p P .join H [.str x,.ref i]=some (.str (Txt.join x ts)):=by
 show((z1d H i).bind fun l=>(z7v l).bind fun ts=>if JoinOk x ts then some (PV.str (Txt.join x ts)) else none)=_
 rw [z1f h]
 show((z7v (ts.map .str)).bind fun ts=>if JoinOk x ts then some (PV.str (Txt.join x ts)) else none)=_
 rw [y1t]
 exact AR hj
theorem j0p{P:MP}{H:z0b}{x:Str}{ts:List Str}(hj:JoinOk x ts=true):z4p P .join H [.str x,.lst (ts.map .str)]=some (.str (Txt.join x ts)):=by
 show((z7v (ts.map .str)).bind fun ts=>if JoinOk x ts then some (PV.str (Txt.join x ts)) else none)=_
 rw [y1t]
 exact AR hj
theorem x1o(lv:Nat){r:Nat}{L:Lim}{H:z0b}(hr:r<2^32)(hb:L.b<=H.length)(hj:JoinOk (Str.ofString ", ") ((z4x 32 0 r).map wk)=true) :
  ∃ l,z0h mp2 (lv+1) 6 [.int (r:Int)] [] L H=some (.str (z3m r),H++[.lst l]):=by
 have key:∃ ts,∃ Y',Y' 27=some (.ref H.length)/\z3c (sem mp2 (z0h mp2 lv) 39).ex (.one 20) q7j j5p (upd (y2y 26 (.int (r:Int))) 27 (.ref H.length)) ((List.range' 0 32).map fun(j:Nat)=>PV.int (j:Int)) L (H++[.lst []])=some (.next Y',H++[.lst (ts.map .str)]) /\
   JoinOk (Str.ofString ", ") ts=true/\Txt.join (Str.ofString ", ") ts=z3m r:=by
  by_cases h0:r=0
  ·subst h0
   obtain⟨Y',h1,h2⟩:=q7k (C:=z0h mp2 lv) (L:=L) (H:=H) 32 0 (upd (y2y 26 (.int ((0:Nat):Int))) 27 (.ref H.length)) hb (by lia) rfl rfl
   exact⟨[baseText "0x" 16 0],Y',h1,h2,by decide +kernel,by rw [y9f];rfl⟩
  ·obtain⟨Y',h1,h2⟩:=q4x (C:=z0h mp2 lv) (L:=L) (H:=H) 32 0 r [] (upd (y2y 26 (.int (r:Int))) 27 (.ref H.length)) hb (by first | rfl | simp) (by lia) (by simp [Nat.mod_one]) (by simpa using hr) (by lia) (by first | rfl | simp) (by first | rfl | simp)
   exact⟨_,Y',h1,h2,hj,by unfold z3m;rw [AT h0];rfl⟩
 obtain⟨ts,Y',h1,h2,h3,h4⟩:=key
 refine⟨ts.map .str,?_⟩
 have hp:=j5s (P:=mp2) (H:=H++[.lst (ts.map .str)]) (x:=Str.ofString ", ") (ts:=ts) (z2h _ _) h3
 rw [h4] at hp
 exact z0v (Y:=y2y 26 (.int (r:Int))) w2i rfl (z0d (y0x z4w rfl) (y1a (up:=false) (z1p (z1h rfl) rfl) h2 (z4i (z0s (z2a rfl (z0a h1)) hp))))
section
open Builtin Builtin.Str StrLaws
noncomputable def stp(s sub:Str)(hi limit:Nat)(st:Array Nat×Nat)(i:Nat):Array Nat×Nat:=
 if((st.fst.size<limit/\st.snd<=i)/\i+sub.length<=hi)/\subAt s sub i=true then(st.fst.push i,i+sub.length) else st
theorem q2k(s sub:Str)(hi limit:Nat):∀ (l:List Nat) (st:Array Nat×Nat),(forIn l st (occBody s sub hi limit)).run=l.foldl (stp s sub hi limit) st
 | [],st=>rfl
 | a::l,st=>by
  rw [FE,DA,<- q2k s sub hi limit l]
  unfold occBody stp
  split<;>rfl
theorem y3x{s sub:Str}{hi limit:Nat}{st:Array Nat×Nat}:∀ (n a:Nat),(∀ i,a<=i->i<a+n->i<st.snd\/subAt s sub i=false)->(List.range' a n).foldl (stp s sub hi limit) st=st
 | 0,a,_=>rfl
 | n+1,a,h=>by
  rw [List.range'_succ,DA]
  have:stp s sub hi limit st a=st:=by
   unfold stp
   rw [AT]
   rintro⟨⟨⟨h1,h2⟩,h3⟩,h4⟩
   rcases h a (AL _) (by lia) with h5 | h5
   ·lia
   ·rw [h5] at h4;contradiction
  rw [this]
  exact y3x n (a+1) fun i h1 h2=>h i (BR ‹_›) (by lia)
noncomputable def z5q:List (List Nat)->List Nat
 | []=>[]
 | [w]=>w
 | w::v::ws=>w++[44,32]++z5q (v::ws)
noncomputable def y5n:Nat->List (List Nat)->List Nat
 | _,[]=>[]
 | _,[_]=>[]
 | i,w::v::ws=>(i+w.length)::y5n (i+w.length+2) (v::ws)
theorem q4y(w:List Nat):z5q [w]=w:=rfl
theorem q4z(i:Nat)(w:List Nat):y5n i [w]=[]:=rfl
theorem j5t(i:Nat)(w v:List Nat)(ws:List (List Nat)):y5n i (w::v::ws)=(i+w.length)::y5n (i+w.length+2) (v::ws):=rfl
theorem y1u(x:Str)(pre w post:List Nat)(h:x.cps.toList=pre++w++post):x.cps.extract pre.length (pre.length+w.length)=w.toArray:=by
 apply Array.toList_inj.mp
 rw [Array.toList_extract,h]
 simp [List.extract]
noncomputable def z5g:Str:=⟨#[44,32]⟩
theorem q7l{x:Str}{pre post:List Nat}{c:Nat}(h:x.cps.toList=pre++c::post)(hc:c≠44):subAt x z5g pre.length=false:=by
 unfold subAt
 induction e:x.cps.extract pre.length (pre.length+z5g.length)==z5g.cps using Bool.casesOn with
 | false=>rfl
 | true=>
  exfalso
  have e2:=AP Array.toList (BE.mp e)
  rw [Array.toList_extract,h] at e2
  have h2:z5g.length=2:=rfl
  rw [h2] at e2
  simp [List.extract,z5g] at e2
  induction post using List.casesOn with
  | nil=>simp at e2
  | cons d post=>simp at e2;exact hc e2.1
theorem j5u{x:Str}{pre:List Nat}(h:x.cps.toList=pre):subAt x z5g pre.length=false:=by
 unfold subAt
 induction e:x.cps.extract pre.length (pre.length+z5g.length)==z5g.cps using Bool.casesOn with
 | false=>rfl
 | true=>
  exfalso
  have e2:=AP Array.toList (BE.mp e)
  rw [Array.toList_extract,h] at e2
  simp [List.extract,z5g] at e2
theorem j5v{x:Str}{pre post:List Nat}(h:x.cps.toList=pre++[44,32]++post):subAt x z5g pre.length=true:=by
 unfold subAt
 have:=y1u x pre [44,32] post h
 have h2:z5g.length=2:=rfl
 rw [h2]
 rw [show pre.length+2=pre.length+[44,32].length from rfl,this]
 rfl
theorem w6z{x:Str}{limit:Nat}(hl:x.length<limit):∀ (ws:List (List Nat)) (w:List Nat) (pre:List Nat) (found:Array Nat) (free:Nat),x.cps.toList=pre++z5q (w::ws)->(∀ v,v∈w::ws->44∉v)->free<=pre.length->found.size<=pre.length ->
  ((List.range' pre.length ((z5q (w::ws)).length+1)).foldl (stp x z5g x.length limit) (found,free)).1.toList=found.toList++y5n pre.length (w::ws)
 | [],w,pre,found,free,hx,hc,hf,hs=>by
  have hw:44∉w:=hc w AD
  rw [y3x]
  ·simp [q4z,j5t]
  ·intro i h1 h2
   refine .inr ?_
   show subAt x z5g i=false
   simp only [q4y] at hx h2
   by_cases hi:i<pre.length+w.length
   ·obtain⟨c,hcw⟩:∃ c,w[i - pre.length]?=some c:=⟨w[i - pre.length]'(by lia),AN _⟩
    have e:w=w.take (i - pre.length)++c::w.drop (i - pre.length+1):=by
     have hlt:i - pre.length<w.length:=by lia
     have:w[i - pre.length]=c:=by rw [AN hlt] at hcw;exact AF hcw
     rw [<- this,List.getElem_cons_drop,List.take_append_drop]
    have hlen:(pre++w.take (i - pre.length)).length=i:=by simp;lia
    rw [<- hlen]
    refine q7l (c:=c) (post:=w.drop (i - pre.length+1)) ?_ (fun h=>hw (h▸CE hcw))
    rw [hx,AW,<- e]
   ·have:i=(pre++w).length:=by simp;lia
    rw [this]
    exact j5u hx
 | v::ws,w,pre,found,free,hx,hc,hf,hs=>by
  have hw:44∉w:=hc w AD
  have hj:z5q (w::v::ws)=w++[44,32]++z5q (v::ws):=rfl
  have hlen:(z5q (w::v::ws)).length+1=w.length+(1+(1+((z5q (v::ws)).length+1))):=by rw [hj];simp;lia
  have hxl:x.length=pre.length+(z5q (w::v::ws)).length:=by
   show x.cps.size=_
   rw [<- CM,hx];simp
  have s0:(List.range' pre.length w.length).foldl (stp x z5g x.length limit) (found,free)=(found,free):=by
   refine y3x w.length pre.length fun i h1 h2=>?_
   refine .inr ?_
   show subAt x z5g i=false
   obtain⟨c,hcw⟩:∃ c,w[i - pre.length]?=some c:=⟨w[i - pre.length]'(by lia),AN _⟩
   have e:w=w.take (i - pre.length)++c::w.drop (i - pre.length+1):=by
    have hlt:i - pre.length<w.length:=by lia
    have:w[i - pre.length]=c:=by rw [AN hlt] at hcw;exact AF hcw
    rw [<- this,List.getElem_cons_drop,List.take_append_drop]
   have hlen:(pre++w.take (i - pre.length)).length=i:=by simp;lia
   rw [<- hlen]
   refine q7l (c:=c) (post:=w.drop (i - pre.length+1)++[44,32]++z5q (v::ws)) ?_ (fun h=>hw (h▸CE hcw))
   rw [hx,hj]
   conv=>lhs;rw [e]
   simp
  rw [hlen,<- EU,DP,s0]
  rw [<- EU,DP]
  have s1:(List.range' (pre.length+w.length) 1).foldl (stp x z5g x.length limit) (found,free)=(found.push (pre.length+w.length),pre.length+w.length+2):=by
   show stp x z5g x.length limit (found,free) (pre.length+w.length)=_
   unfold stp
   have h2:z5g.length=2:=rfl
   rw [AR,h2]
   refine⟨⟨⟨?_,?_⟩,?_⟩,?_⟩
   ·show found.size<limit;lia
   ·show free<=_;lia
   ·rw [h2,hxl];lia
   ·have:=j5v (x:=x) (pre:=pre++w) (post:=z5q (v::ws)) (by rw [hx,hj];simp)
    rw [AC] at this
    exact this
  rw [s1,<- EU,DP]
  have s2:(List.range' (pre.length+w.length+1) 1).foldl (stp x z5g x.length limit) (found.push (pre.length+w.length),pre.length+w.length+2)=(found.push (pre.length+w.length),pre.length+w.length+2):=
   y3x 1 _ fun i h1 h2=>.inl (by show i<pre.length+w.length+2;lia)
  rw [s2]
  have ih:=w6z hl ws v (pre++w++[44,32]) (found.push (pre.length+w.length)) (pre.length+w.length+2) (by rw [hx,hj];simp) (fun u hu=>hc u (AE _ hu)) (by simp;lia) (by simp;lia)
  have e:(pre++w++[44,32]).length=pre.length+w.length+1+1:=by simp;lia
  rw [e] at ih
  rw [ih]
  simp [q4z,j5t]
theorem q7m{x:Str}:∀ (ws:List (List Nat)) (w pre:List Nat),x.cps.toList=pre++z5q (w::ws) ->
  (((pre.length::(y5n pre.length (w::ws)).map (·+2)).zip (y5n pre.length (w::ws)++[x.length])).map fun(p:Nat×Nat)=>strSub x p.1 p.2)=(w::ws).map fun v=>(⟨v.toArray⟩:Str)
 | [],w,pre,hx=>by
  have hxl:x.length=pre.length+w.length:=by
   show x.cps.size=_
   rw [<- CM,hx];simp [q4y]
  simp only [q4z,List.map_nil,List.nil_append,FY,List.zip_nil_left,BP,List.cons.injEq,and_true]
  unfold strSub
  rw [hxl,y1u x pre w [] (by rw [hx];simp [q4y])]
 | v::ws,w,pre,hx=>by
  have hj:z5q (w::v::ws)=w++[44,32]++z5q (v::ws):=rfl
  have ih:=q7m ws v (pre++w++[44,32]) (by rw [hx,hj];simp)
  have e:(pre++w++[44,32]).length=pre.length+w.length+2:=by simp;lia
  rw [e] at ih
  have h1:strSub x pre.length (pre.length+w.length)=⟨w.toArray⟩:=by
   unfold strSub
   rw [y1u x pre w ([44,32]++z5q (v::ws)) (by rw [hx,hj];simp)]
  show(((pre.length::(pre.length+w.length+2)::(y5n (pre.length+w.length+2) (v::ws)).map (·+2)).zip ((pre.length+w.length)::(y5n (pre.length+w.length+2) (v::ws)++[x.length]))).map _)=_
  rw [FY,BP,ih,h1]
  rfl
theorem z8h:∀ (ts:List Str),(Str.join z5g ts).cps.toList=z5q (ts.map fun t=>t.cps.toList)
 | []=>rfl
 | [t]=>rfl
 | t::u::ts=>by
  have ih:=z8h (u::ts)
  show(t.cps++z5g.cps++(Str.join z5g (u::ts)).cps).toList=t.cps.toList++[44,32]++z5q ((u::ts).map fun t=>t.cps.toList)
  rw [<- ih]
  simp [z5g]
theorem y1v{ts:List Str}(hne:ts≠[])(hc:∀ t,t∈ts->44∉t.cps.toList):Txt.split (Txt.join z5g ts) z5g=ts:=by
 generalize hx:Txt.join z5g ts=x
 have hxl:x.cps.toList=z5q (ts.map fun t=>t.cps.toList):=by
  rw [<- hx]
  unfold Txt.join
  rw [EO,z8h]
 have hsp:Txt.split x z5g=partsBetween x (occurrences x z5g 0 x.length (x.length+1)) z5g.length:=by
  have:=W.m_split x z5g (by rfl)
  have e2:(W.GW2.means .split (.str x) (.str z5g))=some (.list ((partsBetween x (occurrences x z5g 0 x.length (x.length+1)) z5g.length).map .str)):=rfl
  rw [e2] at this
  have h3:=W.WData.list.inj (AF this)
  exact(List.map_inj_right (fun a b h=>W.WData.str.inj h)).mp h3.symm
 rw [hsp,StrLaws.occ_eq,q2k]
 induction ts using List.casesOn with
 | nil=>exact(hne rfl).elim
 | cons t ts=>
  rw [BP] at hxl
  have hl:x.length=(z5q (t.cps.toList::ts.map fun t=>t.cps.toList)).length:=by
   show x.cps.size=_
   rw [<- CM,hxl]
  have hs:=w6z (x:=x) (limit:=x.length+1) (by lia) (ts.map fun t=>t.cps.toList) t.cps.toList [] #[] 0 (by simpa using hxl) (by
   intro v hv
   rw [<- BP (f:=fun t:Str=>t.cps.toList)] at hv
   obtain⟨u,hu,rfl⟩:=AY.mp hv
   exact hc u hu) (AL _) (AL _)
  rw [List.length_nil,<- hl] at hs
  rw [Nat.sub_zero,hs]
  have hp:=q7m (x:=x) (ts.map fun t=>t.cps.toList) t.cps.toList [] (by simpa using hxl)
  unfold partsBetween
  show(((0::(_:List Nat).map (·+2)).zip _).map _)=_
  rw [List.length_nil] at hp
  have e:(#[]:Array Nat).toList++y5n 0 (t.cps.toList::ts.map fun t=>t.cps.toList)=y5n 0 (t.cps.toList::ts.map fun t=>t.cps.toList):=rfl
  rw [e]
  refine hp.trans ?_
  have hid:((fun v:List Nat=>(⟨v.toArray⟩:Str))∘fun t:Str=>t.cps.toList)=_root_.id:=by
   funext u
   cases u;rfl
  rw [BP,AX,hid,List.map_id]
end
noncomputable def y2z{V:Type}[DecidableEq V](f:V->PV)(A6:V->Prop)(n:Nat):Prop:=
 ∃ d:V->PyData,∀ a,A6 a->z1n (f a)=some (d a)/\(d a).depth<=n/\∀ b,A6 b->PyData.eqv (d a) (d b)=decide (a=b)
theorem x1p{p q:PV}{d e:PyData}(hp:z1n p=some d)(hq:z1n q=some e)(h1:d.depth<=30)(h2:e.depth<=30):eqV p q=some (PyData.eqv d e):=by
 have gen:eqD p q=some (PyData.eqv d e):=by
  unfold eqD
  rw [hp,hq]
  exact AR ⟨h1,h2⟩
 induction p using PV.casesOn with
 | int a=>
  induction q using PV.casesOn with
  | int b=>cases(show some (PyData.int a)=some d from hp);cases(show some (PyData.int b)=some e from hq);rfl
  | _=>exact gen
 | bool a=>
  cases q with
  | bool b=>cases(show some (PyData.bool a)=some d from hp);cases(show some (PyData.bool b)=some e from hq);rfl
  | _=>exact gen
 | str a=>
  induction q using PV.casesOn with
  | str b=>
   have hp':=(z0o (show(if PyData.strOk a then some (PyData.str a) else none)=some d from hp)).2
   have hq':=(z0o (show(if PyData.strOk b then some (PyData.str b) else none)=some e from hq)).2
   injection hp' with hp';subst hp';injection hq' with hq';subst hq';rfl
  | _=>exact gen
 | _=>exact gen
section
variable {V Z A8:Type} [DecidableEq V] [DecidableEq Z] [DecidableEq A8] {f:V->PV} {g:Z->PV} {k:A8->PV} {A6:V->Prop} {U:Z->Prop} {T:A8->Prop} {n:Nat}
theorem z9i(E:y2z f A6 n)(hn:n<=30){a b:V}(ha:A6 a)(hb:A6 b):eqV (f a) (f b)=some (decide (a=b)):=by
 obtain⟨d,h⟩:=E
 obtain⟨a1,a2,a3⟩:=h a ha
 obtain⟨b1,b2,_⟩:=h b hb
 rw [x1p a1 b1 (by omega) (by omega),a3 b hb]
theorem z7h{d:V->PyData}(h:∀ a,A6 a->z1n (f a)=some (d a)):∀ l:List V,(∀ x,x∈l->A6 x)->z0n (l.map f)=some (l.map d)
 | [],_=>rfl
 | x::l,hl=>by
  show((z1n (f x)).bind fun d=>(z0n (l.map f)).map fun ds=>d::ds)=_
  rw [h x (hl x AD),z7h h l fun y hy=>hl y (AE _ hy)]
  rfl
theorem j5w{d:V->PyData}(h:∀ a,A6 a->∀ b,A6 b->PyData.eqv (d a) (d b)=decide (a=b)){a:V}(ha:A6 a):∀ l:List V,(∀ x,x∈l->A6 x)->(l.map d).any (fun y=>PyData.eqv y (d a))=decide (a∈l)
 | [],_=>rfl
 | x::l,hl=>by
  rw [BP,List.any_cons,j5w h ha l fun y hy=>hl y (AE _ hy),h x (hl x AD) a ha]
  by_cases e:x=a
  ·subst e;simp
  ·have:¬ a=x:=fun q=>e q.symm
   simp [e,this]
theorem q5a(E:y2z f A6 n)(hn:n<=30){a:V}{l:List V}(ha:A6 a)(hl:∀ x,x∈l->A6 x):inV (f a) (.lst (l.map f))=some (decide (a∈l)):=by
 obtain⟨d,h⟩:=E
 show inL (f a) (l.map f)=_
 unfold inL
 rw [z7h (fun a ha=>(h a ha).1) l hl,(h a ha).1]
 exact(AR (AA (h a ha).2.1 hn)).trans (AP some (j5w (fun a ha=>(h a ha).2.2) ha l hl))
theorem j5x:y2z PV.int (fun _=>True) 0:=⟨.int,fun a _=>⟨rfl,BK _,fun b _=>by
 show(a==b)=_
 rw [BT];simp⟩⟩
theorem y5o:y2z (fun n:Nat=>PV.int (n:Int)) (fun _=>True) 0:=⟨fun n=>.int (n:Int),fun a _=>⟨rfl,BK _,fun b _=>by
 show(((a:Int))==(b:Int))=_
 rw [BT,BE,BY];omega⟩⟩
theorem y5p:y2z PV.str (fun x=>PyData.strOk x=true) 0:=⟨.str,fun a h=>⟨AR h,BK _,fun b _=>by
 show(a==b)=_
 rw [BT];simp⟩⟩
theorem y7g{d:V->PyData}(h:∀ a,A6 a->∀ b,A6 b->PyData.eqv (d a) (d b)=decide (a=b)):∀ l m:List V,(∀ x,x∈l->A6 x)->(∀ x,x∈m->A6 x)->PyData.eqvAll (l.map d) (m.map d)=decide (l=m)
 | [],[],_,_=>rfl
 | [],_::_,_,_=>rfl
 | _::_,[],_,_=>rfl
 | x::l,y::m,hl,hm=>by
  show(PyData.eqv (d x) (d y)&&PyData.eqvAll (l.map d) (m.map d))=_
  rw [h x (hl x AD) y (hm y AD),y7g h l m (fun z hz=>hl z (AE _ hz)) fun z hz=>hm z (AE _ hz)]
  rw [BT];simp
theorem y5q{d:V->PyData}(h:∀ a,A6 a->(d a).depth<=n):∀ l:List V,(∀ x,x∈l->A6 x)->PyData.depthAll (l.map d)<=n
 | [],_=>BK _
 | x::l,hl=>by
  show max (d x).depth (PyData.depthAll (l.map d))<=n
  have h1:=h x (hl x AD)
  exact Nat.max_le.mpr ⟨h1,y5q h l fun y hy=>hl y (AE _ hy)⟩
theorem z5e(E:y2z f A6 n):y2z (fun l:List V=>PV.lst (l.map f)) (fun l=>∀ x,x∈l->A6 x) (n+1):=by
 obtain⟨d,h⟩:=E
 refine⟨fun l=>.list (l.map d),fun l hl=>⟨?_,?_,fun m hm=>?_⟩⟩
 ·show(z0n (l.map f)).map PyData.list=_
  rw [z7h (fun a ha=>(h a ha).1) l hl]
  rfl
 ·show PyData.depthAll (l.map d)+1<=n+1
  exact CI (y5q (fun a ha=>(h a ha).2.1) l hl)
 ·show PyData.eqvAll (l.map d) (m.map d)=_
  exact y7g (fun a ha=>(h a ha).2.2) l m hl hm
theorem q2l{p:PV}{ps:List PV}{d:PyData}{ds:List PyData}(h1:z1n p=some d)(h2:z0n ps=some ds):z0n (p::ps)=some (d::ds):=by
 show((z1n p).bind fun d=>(z0n ps).map fun ds=>d::ds)=_
 rw [h1,h2];rfl
theorem y9g{m:Nat}(E:y2z f A6 n)(F:y2z g U m):y2z (fun p:V×Z=>PV.tup [f p.1,g p.2]) (fun p=>A6 p.1/\U p.2) (max n m+1):=by
 obtain⟨d,h⟩:=E
 obtain⟨e,k⟩:=F
 refine⟨fun p=>.tuple [d p.1,e p.2],fun p hp=>⟨?_,?_,fun q hq=>?_⟩⟩
 ·show(z0n [f p.1,g p.2]).map PyData.tuple=_
  rw [q2l (h _ hp.1).1 (q2l (k _ hp.2).1 rfl)];rfl
 ·show PyData.depthAll [d p.1,e p.2]+1<=_
  have h1:=(h _ hp.1).2.1
  have h2:=(k _ hp.2).2.1
  exact CI (mmm h1 (Nat.max_le.mpr ⟨h2,BK _⟩))
 ·show(PyData.eqv (d p.1) (d q.1)&&(PyData.eqv (e p.2) (e q.2)&&true))=_
  rw [(h _ hp.1).2.2 _ hq.1,(k _ hp.2).2.2 _ hq.2,BT]
  obtain⟨p1,p2⟩:=p
  obtain⟨q1,q2⟩:=q
  simp
end
noncomputable def k6v(k:Nat):Bool:=
 let w:=wk k
 let lo:=Txt.lower w
 let up:=Txt.upper w
 decide (w.length<=100)&&decide (up.length<=100)&&decide (lo.length<=100)&&okPat true lo&&okPat true up&&okPat false w&&decide (Txt.lower lo=lo)&&decide (Txt.lower up=lo)&&!(w.cps.toList.contains 44)&&!(w.cps.toList.headD 32==32)&&!(w.cps.toList.headD 9==9)&&PyData.strOk w&&PyData.strOk lo&&PyData.strOk up
theorem j5y:(List.range 32).all k6v=true:=by decide +kernel
noncomputable def x1q:List Str:=(List.range 32).map fun k=>Txt.lower (wk k)
theorem j0q:x1q.Nodup:=by decide +kernel
structure x9a(w:Str):Prop where
 len:w.length<=100
 ulen:(Txt.upper w).length<=100
 llen:(Txt.lower w).length<=100
 okl:okPat true (Txt.lower w)=true
 oku:okPat true (Txt.upper w)=true
 okv:okPat false w=true
 ll:Txt.lower (Txt.lower w)=Txt.lower w
 lu:Txt.lower (Txt.upper w)=Txt.lower w
 nc:44∉w.cps.toList
 h1:w.cps.toList.headD 32≠32
 h2:w.cps.toList.headD 9≠9
 sok:PyData.strOk w=true
 sokl:PyData.strOk (Txt.lower w)=true
 soku:PyData.strOk (Txt.upper w)=true
theorem b32{b u:Nat}(hb:b<28)(hu:u<5):b+u<32:=FN hb (CP hu)
theorem z6d{k:Nat}(h:k<32):x9a (wk k):=by
 have:=BA.mp j5y k (by simpa using h)
 unfold k6v at this
 simp only [EK,decide_eq_true_eq,DJ,EX] at this
 obtain⟨⟨⟨⟨⟨⟨⟨⟨⟨⟨⟨⟨⟨a1,a2⟩,a3⟩,a4⟩,a5⟩,a6⟩,a7⟩,a8⟩,a9⟩,b1⟩,b2⟩,b3⟩,b4⟩,b5⟩:=this
 have nc:44∉(wk k).cps.toList:=fun hm=>by rw [CR.mpr hm] at a9;cases a9
 exact⟨a1,a2,a3,a4,a5,a6,a7,a8,nc,b1,b2,b3,b4,b5⟩
theorem y1w{j k:Nat}(hj:j<32)(hk:k<32)(h:Txt.lower (wk j)=Txt.lower (wk k)):j=k:=by
 have e1:x1q[j]?=some (Txt.lower (wk j)):=by unfold x1q;simp [hj]
 have e2:x1q[k]?=some (Txt.lower (wk k)):=by unfold x1q;simp [hk]
 have l1:j<x1q.length:=by simp [x1q,hj]
 have l2:k<x1q.length:=by simp [x1q,hk]
 rw [AN l1] at e1
 rw [AN l2] at e2
 have:=AF e1
 have:=AF e2
 have hp:=FP.mp j0q
 rcases Nat.lt_trichotomy j k with h1 | h1 | h1
 ·exact absurd (by simp_all) (hp j k l1 l2 h1)
 ·exact h1
 ·exact absurd (by simp_all) (hp k j l2 l1 h1)
theorem x5d{j k:Nat}(hj:j<32)(hk:k<32)(h:wk j=wk k):j=k:=y1w hj hk (by rw [h])
noncomputable def z1z(m:Nat):List Nat:=(List.range 5).filter fun i=>m.testBit i
theorem q5b:((List.range 28).all fun b=>(List.range 32).all fun m=>decide (z4x 32 0 (m*2^b)=(z1z m).map (b+·)))=true:=by decide +kernel
theorem j0r{b m:Nat}(hb:b<28)(hm:m<32):z4x 32 0 (m*2^b)=(z1z m).map (b+·):=by
 have:=BA.mp (BA.mp q5b b (by simpa using hb)) m (by simpa using hm)
 exact AK this
noncomputable def W(b:Nat):List Str:=(List.range 5).map fun i=>wk (b+i)
noncomputable def dr(g:Bool)(w:Str):Str:=if g then Txt.upper w else Txt.lower w
theorem y7h{g:Bool}{w:Str}(h:x9a w):Txt.lower (dr g w)=Txt.lower w:=by cases g;exact h.ll;exact h.lu
theorem y7i{g:Bool}{w:Str}(h:x9a w):(dr g w).length<=100:=by cases g;exact h.llen;exact h.ulen
theorem w2o{g:Bool}{w:Str}(h:x9a w):okPat true (dr g w)=true:=by cases g;exact h.okl;exact h.oku
structure HOk(hs:HL):Prop where
 n:hs.length<=500
 ok:∀ h,h∈hs->h.1.length<=100/\okPat true h.1=true/\x9a h.2
structure At(H:z0b)(i j:Nat)(hs:HL):Prop where
 a:H[i]?=some (.att [(30,.ref j)])
 l:H[j]?=some (.lst (hs.map z4h))
theorem At.set{H:z0b}{i j:Nat}{hs hs':HL}(A:At H i j hs):At (H.set j (.lst (hs'.map z4h))) i j hs':=by
 have hne:i≠j:=fun e=>by have h1:=A.a;have h2:=A.l;rw [e,h2] at h1;cases h1
 exact⟨(z7f hne).trans A.a,z3v A.l⟩
theorem HOk.add{hs:HL}{nm v:Str}(K:HOk hs)(h1:nm.length<=100)(h2:okPat true nm=true)(h3:x9a v)(hn:hs.length<500):HOk (w2n hs nm v):=by
 refine⟨by unfold w2n;rw [AC];simp;lia,fun h hh=>?_⟩
 unfold w2n at hh
 rcases BL.mp hh with hh | hh
 ·exact K.ok h hh
 ·simp at hh;subst hh;exact⟨h1,h2,h3⟩
theorem q7n(H:z0b)(j:Nat)(c d:z2u):(H.set j c).set j d=H.set j d:=List.set_set ..
noncomputable def z7s(s:MS):List MS:=match s with | .for_ _ _ _ b _=>b | _=>[]
section
variable {lv:Nat} {L:Lim} {i j:Nat} {H:z0b}
end
theorem At.refl_set{H:z0b}{i j:Nat}{hs:HL}(A:At H i j hs):H.set j (.lst (hs.map z4h))=H:=by
 obtain⟨hlt,e⟩:=AS.mp A.l
 rw [<- e];exact List.set_getElem_self hlt
theorem ne_str(P:MP)(C:z0g)(x y:Str)(L:Lim)(H:z0b):z9e P C .ne (.str x) (.str y) L H=some (.bool (!(x==y)),H):=rfl
theorem eq_str(P:MP)(C:z0g)(x y:Str)(L:Lim)(H:z0b):z9e P C .eq (.str x) (.str y) L H=some (.bool (x==y),H):=rfl
theorem eq_int(P:MP)(C:z0g)(x y:Int)(L:Lim)(H:z0b):z9e P C .eq (.int x) (.int y) L H=some (.bool (x==y),H):=rfl
theorem ne_int(P:MP)(C:z0g)(x y:Int)(L:Lim)(H:z0b):z9e P C .ne (.int x) (.int y) L H=some (.bool (!(x==y)),H):=rfl
section
variable {lv:Nat} {L:Lim} {i j:Nat} {H:z0b}
end
noncomputable abbrev Ln:=Nat×Nat×Bool
noncomputable def w2p(ls:List Ln)(p q:Nat)(g:Bool):List Ln:=ls.filter (fun l=>!(l.1==p))++(ls.filter fun l=>l.1==p&&!(l.2.1==q)).map fun l=>(p,l.2.1,g)
noncomputable def pq(l:Ln):Nat×Nat:=(l.1,l.2.1)
noncomputable def Pts(ls:List Ln):Prop:=∀ l,l∈ls->l.1<5/\l.2.1<5
theorem Pts.step{ls:List Ln}{p q:Nat}{g:Bool}(h:Pts ls)(hp:p<5):Pts (w2p ls p q g):=fun l hl=>by
 rcases BL.mp hl with hl | hl
 ·exact h l (BG.mp hl).1
 ·obtain⟨m,hm,rfl⟩:=AY.mp hl
  exact⟨hp,(h m (BG.mp hm).1).2⟩
section
variable {b:Nat}
theorem k6w(hb:b<28){p q:Nat}(hp:p<5)(hq:q<5):(wk (b+p)==wk (b+q))=(p==q):=by
 rw [BT,BE,BE]
 exact⟨fun e=>by have:=x5d (by lia) (by lia) e;lia,fun e=>by rw [e]⟩
end
theorem q5c{b u:Nat}(hu:u<5):((W b).map PV.str)[u]?=some (.str (wk (b+u))):=by
 unfold W
 simp [hu]
theorem q2m{n k:Nat}(h:k<n):z6r n (k:Int)=some k:=by
 unfold z6r
 rw [AR (by lia),AR (by lia)]
 rfl
theorem j5z{l:List PV}{k:Nat}{v:PV}(h:l[k]?=some v):((z6r l.length (k:Int)).bind fun j=>l[j]?)=some v:=by
 rw [q2m (AS.mp h).1]
 exact h
theorem x9b{H:z0b}{l:List PV}{k:Nat}{v:PV}(h:l[k]?=some v):j1f H (.lst l) (k:Int)=some v:=j5z h
theorem x9c{H:z0b}{l:List PV}{k:Nat}{v:PV}(h:l[k]?=some v):j1f H (.tup l) (k:Int)=some v:=j5z h
@[simp] theorem x1r(P:MP)(C:z0g)(l:List PV)(k:Int)(L:Lim)(H:z0b):j8r P C (.lst l) (.int k) L H=M.ofOpt (j1f H (.lst l) k) L H:=rfl
@[simp] theorem x1s(P:MP)(C:z0g)(l:List PV)(k:Int)(L:Lim)(H:z0b):j8r P C (.tup l) (.int k) L H=M.ofOpt (j1f H (.tup l) k) L H:=rfl
noncomputable def z8w(t:Ln):PV:=.tup [.int (t.1:Int),.int (t.2.1:Int),.bool t.2.2]
section
variable {lv b:Nat} {L:Lim} {H:z0b}
theorem y9h{P:MP}{C:z0g}{n c f:Nat}{Y:z0l}{args:List ME}{vs:List PV}{Hb H2:z0b}(hm:P.meth c y4e=some f)(h3:z3p ((sem P C n).ev Y) args L H=some (vs,Hb))(h:C f (.inst c Hb.length::vs) [] L (Hb++[.att []])=some (.none,H2)) :
  (sem P C (n+1)).ev Y (.new c args) L H=some (.inst c Hb.length,H2):=z0c (z0w hm) (z0c h3 (z0c rfl (z0c h rfl)))
end
noncomputable def z1s(x:Nat×Nat):PV:=.tup [.int (x.1:Int),.int (x.2:Int)]
theorem x1t:y2z z1s (fun _=>True/\True) 1:=y9g (f:=fun n:Nat=>PV.int (n:Int)) (g:=fun n:Nat=>PV.int (n:Int)) (n:=0) (m:=0) y5o y5o
theorem w7a{x:Nat×Nat}{l:List (Nat×Nat)}:inV (z1s x) (.lst (l.map z1s))=some (decide (x∈l)):=by
 have h:=q5a (f:=z1s) x1t (by decide) (a:=x) (l:=l) ⟨trivial,trivial⟩ fun _ _=>⟨trivial,trivial⟩
 rw [h]
 congr 1
 exact FO.mpr Iff.rfl
theorem w2q{p q:Nat}{l:List (Nat×Nat)}:inV (.tup [.int (p:Int),.int (q:Int)]) (.lst (l.map z1s))=some (decide ((p,q)∈l)):=w7a (x:=(p,q))
theorem j6a(p q:Nat):(((p:Int))==(q:Int))=(p==q):=by
 rw [BT,BE,BE];lia
theorem j6b(P:MP)(C:z0g){p q:Nat}{l:List (Nat×Nat)}(L:Lim)(H:z0b):z9e P C .in_ (.tup [.int (p:Int),.int (q:Int)]) (.lst (l.map z1s)) L H=some (.bool (decide ((p,q)∈l)),H):=by
 show((M.ofOpt (inV (.tup [.int (p:Int),.int (q:Int)]) (.lst (l.map z1s)))).bind fun r=>M.pure (.bool r):M PV) L H=_
 rw [w2q];rfl
theorem j0s(H:z0b)(t:Ln):z7m H (z8w t) none (some 2)=some (z1s (pq t)):=rfl
@[simp] theorem k6x(P:MP)(C:z0g)(t:Ln)(k:Int)(L:Lim)(H:z0b):j8r P C (z8w t) (.int k) L H=M.ofOpt (j1f H (z8w t) k) L H:=rfl
theorem w2r(Y:z0l)(a b c:Nat)(t:Ln):z1t Y (.tup [a,b,c]) (z8w t)=some (upd (upd (upd Y a (.int (t.1:Int))) b (.int (t.2.1:Int))) c (.bool t.2.2)):=rfl
theorem z7i(H:z0b)(a b:List PV)(h:(a++b).length<=z2k):y5z .add H (.lst a) (.lst b)=some (.lst (a++b)):=by
 show(sz (a++b)).map PV.lst=_
 unfold sz
 rw [AR h];rfl
theorem z2b{Y:z0l}{k:Nat}{l:List PV}{L:Lim}{H:z0b}{n:Nat}{P:MP}{C:z0g}(h:Y k=some (.lst l)):z8z (sem P C (n+1)) Y .over [.var k] L H=some ((l,false),H):=z1p (by simp [h];rfl) rfl
theorem j0t{n:Nat}(h:n<=1000):n<=z2k:=AA h (by decide)
section
variable {lv b:Nat} {L:Lim} {H:z0b} {C:z0g}
end
theorem x5e{k:Nat}{l:List Nat}:inV (.int (k:Int)) (.lst (l.map fun(n:Nat)=>PV.int (n:Int)))=some (l.contains k):=by
 have h:=q5a (f:=fun n:Nat=>PV.int (n:Int)) y5o (by decide) (a:=k) (l:=l) trivial fun _ _=>trivial
 rw [h]
 congr 1
 rw [BT];simp
theorem x9d(P:MP)(C:z0g){k:Nat}{l:List Nat}(L:Lim)(H:z0b):z9e P C .nin (.int (k:Int)) (.lst (l.map fun(n:Nat)=>PV.int (n:Int))) L H=some (.bool (!l.contains k),H):=by
 show((M.ofOpt ((inV (.int (k:Int)) (.lst (l.map fun(n:Nat)=>PV.int (n:Int)))).map (!·))).bind fun r=>M.pure (.bool r):M PV) L H=_
 rw [x5e];rfl
theorem y1c(P:MP)(C:z0g){k:Nat}{l:List Nat}(L:Lim)(H:z0b):z9e P C .in_ (.int (k:Int)) (.lst (l.map fun(n:Nat)=>PV.int (n:Int))) L H=some (.bool (l.contains k),H):=by
 show((M.ofOpt (inV (.int (k:Int)) (.lst (l.map fun(n:Nat)=>PV.int (n:Int))))).bind fun r=>M.pure (.bool r):M PV) L H=_
 rw [x5e];rfl
theorem j6c(P:MP)(H:z0b)(l:List PV):z4p P .len H [.lst l]=some (.int (l.length:Int)):=rfl
noncomputable abbrev z1a(l:List Nat):List PV:=l.map fun(n:Nat)=>PV.int (n:Int)
theorem y7j{H:z0b}{k:Nat}(hk:k<=1000):k1s .range H [.int (k:Int)]=some (z1a (List.range k),false):=by
 show Option.map (fun l=>(l,false)) (if(k:Int).natAbs<=1000000 then some (z4y 0 (k:Int)) else none)=_
 rw [AR (by rw [DM];exact AA hk (by decide))]
 show some (z4y 0 (k:Int),false)=_
 unfold z4y z1a
 congr 2
 rw [Int.sub_zero,ET]
 refine CH fun x _=>?_
 rw [Int.zero_add]
section
variable {lv b:Nat} {L:Lim} {H:z0b} {C:z0g}
end
noncomputable def z6j(out:Nat):List Nat:=(List.range 5).filter fun u=>!(u==out)
theorem z6k(out:Nat):(z6j out).length<=5:=by
 have:=CA (fun u=>!(u==out)) (List.range 5)
 simpa [z6j] using this
theorem z3f(l:List Nat):(z1a l).length=l.length:=AI ..
section
variable {lv b:Nat} {L:Lim} {H:z0b} {C:z0g}
theorem k6y(P:MP)(C:z0g)(x y:Nat)(L:Lim)(H:z0b):z9e P C .ne (.int (x:Int)) (.int (y:Int)) L H=some (.bool (!(x==y)),H):=by rw [ne_int,j6a]
theorem x5f{n out:Nat}{Y:z0l}(h67:Y 67=some (.int (out:Int))):(sem mp2 C (n+8)).ev Y (.comp (.var 58) [(.one 58,.range,[.int 5],[.cmp .ne (.var 58) (.var 67)])]) L H=some (.lst (z1a (z6j out)),H):=
 z0i (z1w (xs:=List.range 5) (enc:=fun(u:Nat)=>PV.int (u:Int)) (up:=false) (test:=fun u=>!(u==out)) (out:=fun u=>PV.int (u:Int)) rfl (by decide)
  (fun u hu=>z2z (z3u rfl (z0k (z0a rfl) (z0a h67) (k6y _ _ _ _ _ _)) rfl)) fun u hu _=>z0a rfl)
end
theorem z2c(H:z0b)(a b:Nat):y5z .add H (.int (a:Int)) (.int (b:Int))=some (.int ((a+b:Nat):Int)):=by
 show some (PV.int ((a:Int)+(b:Int)))=_
 rw [Int.natCast_add]
theorem q5d(H:z0b){a b:Nat}(ha:a<=1000000)(hb:b<=1000000):y5z .mul H (.int (a:Int)) (.int (b:Int))=some (.int ((a*b:Nat):Int)):=by
 show(if small (a:Int)&&small (b:Int) then some (PV.int ((a:Int)*(b:Int))) else none)=_
 have h1:small (a:Int)=true:=AV (by rw [DM];exact AZ ha (by decide))
 have h2:small (b:Int)=true:=AV (by rw [DM];exact AZ hb (by decide))
 rw [h1,h2,Int.natCast_mul];rfl
theorem j6d(H:z0b){a b:Nat}(hb:1<=b)(hb2:b<=100000):y5z .fdiv H (.int (a:Int)) (.int (b:Int))=some (.int ((a / b:Nat):Int)):=by
 show(if(b:Int)≠0/\(b:Int).natAbs<1000000 then some (PV.int ((a:Int).fdiv (b:Int))) else none)=_
 rw [AR ⟨by lia,by rw [DM];lia⟩,Int.fdiv_eq_ediv_of_nonneg _ (by lia),Int.natCast_ediv]
theorem z9s:∀ l:List Nat,z5h (z1a l)=some (l.map fun(n:Nat)=>(n:Int))
 | []=>rfl
 | x::l=>by
  show(z5h (z1a l)).map ((x:Int)::·)=_
  rw [z9s l];rfl
theorem q7o:∀ l:List Nat,(l.map fun(n:Nat)=>(n:Int)).sum=((l.sum:Nat):Int)
 | []=>rfl
 | x::l=>by rw [BP,FF,FF,q7o l];lia
theorem x1u(P:MP)(H:z0b)(l:List Nat):z4p P .sum H [.lst (z1a l)]=some (.int ((l.sum:Nat):Int)):=by
 show(z5h (z1a l)).map (fun ns=>PV.int ns.sum)=_
 rw [z9s,GC,q7o]
theorem q7p(P:MP)(C:z0g)(a b:Nat)(L:Lim)(H:z0b):z9e P C .ge (.int (a:Int)) (.int (b:Int)) L H=some (.bool (decide (b<=a)),H):=by
 show some (PV.bool (decide ((b:Int)<=(a:Int))),H)=_
 congr 3
 exact FO.mpr (by lia)
theorem q7q{k:Nat}(hk:k<=1000):x4g (k:Int)=some k:=by
 unfold x4g
 rw [AR ⟨by lia,by lia⟩]
 rfl
theorem z8x(H:z0b)(l:List PV){k:Nat}(hk:k<=1000):z7m H (.lst l) none (some (k:Int))=some (.lst (l.take k)):=by
 unfold z7m loK hiK
 dsimp only
 rw [q7q hk]
 rfl
theorem y7k(H:z0b)(l:List PV){k:Nat}(hk:k<=1000):z7m H (.lst l) (some (k:Int)) none=some (.lst (l.drop k)):=by
 unfold z7m loK hiK
 dsimp only
 rw [q7q hk]
 show some (PV.lst ((l.take l.length).drop k))=_
 rw [List.take_length]
theorem j6e(l:List Nat)(k:Nat):(z1a l).take k=z1a (l.take k):=by simp [z1a,List.map_take]
@[simp] theorem x9e(i:Int)(L:Lim)(H:z0b):z9d (some (.int i)) L H=some (some i,H):=rfl
@[simp] theorem x9f(L:Lim)(H:z0b):z9d none L H=some (none,H):=rfl
@[simp] theorem k6z{V:Type}(f:ME->M V)(L:Lim)(H:z0b):j8w f none L H=some (none,H):=rfl
@[simp] theorem k7a{V:Type}(f:ME->M V)(e:ME)(L:Lim)(H:z0b):j8w f (some e) L H=((f e).bind fun a=>M.pure (some a):M (Option V)) L H:=rfl
section
variable {lv b:Nat} {L:Lim} {H:z0b} {C:z0g}
theorem j6f{V:Type}{f:ME->M V}{e:ME}{L:Lim}{H Hb:z0b}{a:V}(h:f e L H=some (a,Hb)):z3p f [e] L H=some ([a],Hb):=z0c h rfl
theorem x5g{V:Type}{f:ME->M V}{e d:ME}{L:Lim}{H Hb H2:z0b}{a c:V}(h:f e L H=some (a,Hb))(h2:f d L Hb=some (c,H2)):z3p f [e,d] L H=some ([a,c],H2):=z0c h (z0c (j6f h2) rfl)
theorem y7l{P:MP}{C:z0g}{n:Nat}{Y:z0l}{L:Lim}{H:z0b}{a e:ME}{p r:PV}{k:Int}(h1:(sem P C n).ev Y a L H=some (p,H))(h2:(sem P C n).ev Y e L H=some (.int k,H))(h3:z7m H p (some k) none=some r) :
  (sem P C (n+1)).ev Y (.slice a (some e) none) L H=some (r,H):=by
 exact z0c h1 (z0c (z0c h2 rfl) (z0c rfl (z0c rfl (z0c rfl (z0c rfl (z0w h3))))))
theorem z6l{P:MP}{C:z0g}{n:Nat}{Y:z0l}{L:Lim}{H:z0b}{a e:ME}{p r:PV}{k:Int}(h1:(sem P C n).ev Y a L H=some (p,H))(h2:(sem P C n).ev Y e L H=some (.int k,H))(h3:z7m H p none (some k)=some r) :
  (sem P C (n+1)).ev Y (.slice a none (some e)) L H=some (r,H):=by
 exact z0c h1 (z0c rfl (z0c (z0c h2 rfl) (z0c rfl (z0c rfl (z0c rfl (z0w h3))))))
end
theorem z0q{P:MP}{C:z0g}{n:Nat}{Y:z0l}{L:Lim}{H:z0b}{a e:ME}{l:List PV}{k:Nat}{v:PV}(h1:(sem P C n).ev Y a L H=some (.lst l,H))(h2:(sem P C n).ev Y e L H=some (.int (k:Int),H))(h3:l[k]?=some v) :
  (sem P C (n+1)).ev Y (.idx a e) L H=some (v,H):=by
 rw [k4s,z1b h1,z1b h2,x1r,x9b h3];rfl
theorem q7r{P:MP}{C:z0g}{n:Nat}{Y:z0l}{L:Lim}{H:z0b}{o:COp}{a e:ME}{p q:PV}{b:Bool}(h1:(sem P C n).ev Y a L H=some (p,H))(h2:(sem P C n).ev Y e L H=some (q,H))(h3:z9e P C o p q L H=some (.bool b,H)) :
  (sem P C (n+2)).ts Y (.cmp o a e) L H=some (b,H):=by
 rw [w1y,k4u,z1b (z0k h1 h2 h3),z1b (x0t _ _),j0n];rfl
theorem k7b{P:MP}{C:z0g}{n:Nat}{Y:z0l}{L:Lim}{H:z0b}{a e:ME}{p q:PV}(h1:(sem P C n).ev Y a L H=some (p,H))(h2:(sem P C n).ev Y e L H=some (q,H)) :
  (sem P C (n+1)).ev Y (.tup [a,e]) L H=some (.tup [p,q],H):=by
 rw [w1u,z1b (x5g h1 h2)];rfl
theorem k7c{P:MP}{C:z0g}{n:Nat}{Y:z0l}{L:Lim}{H:z0b}{a e:ME}{x y:Bool}(h1:(sem P C n).ts Y a L H=some (x,H))(h2:(sem P C n).ts Y e L H=some (y,H)) :
  (sem P C (n+1)).ts Y (.andE [a,e]) L H=some (x&&y,H):=by
 rw [w1x,y5h,z1b h1]
 induction x using Bool.casesOn with
 | false=>rfl
 | true=>
  rw [AR rfl,y5h,z1b h2]
  induction y using Bool.casesOn<;>rfl
theorem x5h{v:Str}{l:List Str}(hv:PyData.strOk v=true)(hl:∀ x,x∈l->PyData.strOk x=true):inV (.str v) (.lst (l.map .str))=some (decide (v∈l)):=by
 rw [q5a (f:=PV.str) y5p (by decide) hv hl]
theorem x1v(P:MP)(C:z0g){v:Str}{l:List Str}(hv:PyData.strOk v=true)(hl:∀ x,x∈l->PyData.strOk x=true)(L:Lim)(H:z0b):z9e P C .in_ (.str v) (.lst (l.map .str)) L H=some (.bool (decide (v∈l)),H):=by
 show((M.ofOpt (inV (.str v) (.lst (l.map .str)))).bind fun r=>M.pure (.bool r):M PV) L H=_
 rw [x5h hv hl];rfl
theorem x9g(P:MP)(C:z0g){v:Str}{l:List Str}(hv:PyData.strOk v=true)(hl:∀ x,x∈l->PyData.strOk x=true)(L:Lim)(H:z0b):z9e P C .nin (.str v) (.lst (l.map .str)) L H=some (.bool (!decide (v∈l)),H):=by
 show((M.ofOpt ((inV (.str v) (.lst (l.map .str))).map (!·))).bind fun r=>M.pure (.bool r):M PV) L H=_
 rw [x5h hv hl];rfl
section
variable {lv b:Nat} {L:Lim} {H:z0b} {C:z0g}
end
noncomputable def z3r(b:Nat)(r:List Nat):List Str:=r.map fun q=>wk (b+q)
noncomputable def q5e(nbs:List (List Nat))(u v:Nat):List Nat:=(nbs.getD u []).filter fun q=>!(q==v)&&!((nbs.getD v []).contains q)
noncomputable def q5f(nbs:List (List Nat))(u v:Nat):Bool:=!(q5e nbs u v).isEmpty&&!(q5e nbs v u).isEmpty
theorem j6g(P:MP)(C:z0g){l:List Str}(hl:∀ x,x∈l->PyData.strOk x=true)(L:Lim)(H:z0b):z9e P C .ne (.lst (l.map .str)) (.lst []) L H=some (.bool (!l.isEmpty),H):=by
 show((M.ofOpt ((eqV (.lst (l.map .str)) (.lst [])).map (!·))).bind fun r=>M.pure (.bool r):M PV) L H=_
 have h:=z9i (f:=fun l:List Str=>PV.lst (l.map PV.str)) (z5e y5p) (by decide) (a:=l) (b:=[]) hl (fun x hx=>(nomatch hx))
 have h':eqV (.lst (l.map .str)) (.lst [])=some (decide (l=[])):=h
 rw [h']
 induction l using List.casesOn<;>rfl
theorem y1d{b:Nat}(hb:b<28){r:List Nat}(hr:∀ q,q∈r->q<5):∀ x,x∈z3r b r->PyData.strOk x=true:=fun x hx=>by
 obtain⟨q,hq,rfl⟩:=AY.mp hx
 have:=hr q hq
 exact(z6d (by lia)).sok
theorem j6h{b:Nat}(hb:b<28){r:List Nat}(hr:∀ q,q∈r->q<5){p:Nat}(hp:p<5):decide (wk (b+p)∈z3r b r)=r.contains p:=by
 rw [BT,BY,CR]
 constructor
 ·intro h
  obtain⟨q,hq,e⟩:=AY.mp h
  have h5:=hr q hq
  have:=x5d (by lia) (by lia) e
  have e2:q=p:=by lia
  exact e2▸hq
 ·intro h;exact AY.mpr ⟨p,h,rfl⟩
structure z3y(nbs:List (List Nat)):Prop where
 len:nbs.length=5
 ok:∀ r,r∈nbs->r.length<=100/\∀ q,q∈r->q<5
theorem z3y.get{nbs:List (List Nat)}(R:z3y nbs){u:Nat}(hu:u<5):nbs[u]?=some (nbs.getD u [])/\(nbs.getD u []).length<=100/\∀ q,q∈nbs.getD u []->q<5:=by
 have hl:u<nbs.length:=by rw [R.len];exact hu
 have e:nbs[u]?=some (nbs.getD u []):=by rw [AH,AN hl];rfl
 exact⟨e,R.ok _ (CE e)⟩
noncomputable def y5r(b:Nat)(nbs:List (List Nat)):List PV:=nbs.map fun r=>PV.lst ((z3r b r).map .str)
section
variable {lv b:Nat} {L:Lim} {H:z0b} {C:z0g}
theorem q7s{n:Nat}{nbs:List (List Nat)}{Y:z0l}{ku kv u v:Nat}(hb:b<28)(R:z3y nbs)(hu:u<5)(hv:v<5)(h70:Y 70=some (.lst (y5r b nbs)))(h55:Y 55=some (.lst ((W b).map .str)))
 (hk1:ku≠47)(hk2:kv≠47)(rku:Y ku=some (.int (u:Int)))(rkv:Y kv=some (.int (v:Int))) :
  (sem mp2 C (n+8)).ev Y (.comp (.var 47) [(.one 47,.over,[.idx (.var 70) (.var ku)],[.andE [.cmp .ne (.var 47) (.idx (.var 55) (.var kv)),.cmp .nin (.var 47) (.idx (.var 70) (.var kv))]])]) L H=some (.lst ((z3r b (q5e nbs u v)).map .str),H):=by
 obtain⟨g1,g2,g3⟩:=R.get hu
 obtain⟨k1,k2,k3⟩:=R.get hv
 have c1:(y5r b nbs)[u]?=some (.lst ((z3r b (nbs.getD u [])).map .str)):=by unfold y5r;rw [BD,g1];rfl
 have c2:(y5r b nbs)[v]?=some (.lst ((z3r b (nbs.getD v [])).map .str)):=by unfold y5r;rw [BD,k1];rfl
 have key:z9y (sem mp2 C (n+7)) (.var 47) Y [(.one 47,.over,[.idx (.var 70) (.var ku)],[.andE [.cmp .ne (.var 47) (.idx (.var 55) (.var kv)),.cmp .nin (.var 47) (.idx (.var 70) (.var kv))]])] L H=some (((nbs.getD u []).filter (fun q=>!(q==v)&&!((nbs.getD v []).contains q))).map (fun q=>PV.str (wk (b+q))),H):=by
  refine z1w (xs:=nbs.getD u []) (enc:=fun q=>PV.str (wk (b+q))) (up:=false) ?_ (j0t (by lia)) ?_ ?_
  ·refine z1p (j6f (z0q (n:=n+6) (z0a (n:=n+5) h70) (z0a (n:=n+5) rku) c1)) ?_
   show some ((z3r b (nbs.getD u [])).map PV.str,false)=_
   unfold z3r
   rw [AX];rfl
  ·intro q hq
   have hq5:=g3 q hq
   have q47:upd Y 47 (.str (wk (b+q))) 47=some (.str (wk (b+q))):=by simp
   have q70:upd Y 47 (.str (wk (b+q))) 70=some (.lst (y5r b nbs)):=by simp [h70]
   have q55:upd Y 47 (.str (wk (b+q))) 55=some (.lst ((W b).map .str)):=by simp [h55]
   have qkv:upd Y 47 (.str (wk (b+q))) kv=some (.int (v:Int)):=by rw [k4q,AT hk2];exact rkv
   have t1:(sem mp2 C (n+6)).ts (upd Y 47 (.str (wk (b+q)))) (.cmp .ne (.var 47) (.idx (.var 55) (.var kv))) (Lup false L H) H=some (!(q==v),H):=by
    have:=q7r (n:=n+4) (P:=mp2) (C:=C) (L:=Lup false L H) (H:=H) (o:=.ne) (z0a (n:=n+3) q47) (z0q (n:=n+3) (z0a (n:=n+2) q55) (z0a (n:=n+2) qkv) (q5c hv)) (ne_str _ _ _ _ _ _)
    rw [k6w hb hq5 hv] at this
    exact this
   have t2:(sem mp2 C (n+6)).ts (upd Y 47 (.str (wk (b+q)))) (.cmp .nin (.var 47) (.idx (.var 70) (.var kv))) (Lup false L H) H=some (!((nbs.getD v []).contains q),H):=by
    have:=q7r (n:=n+4) (P:=mp2) (C:=C) (L:=Lup false L H) (H:=H) (o:=.nin) (z0a (n:=n+3) q47) (z0q (n:=n+3) (z0a (n:=n+2) q70) (z0a (n:=n+2) qkv) c2) (x9g _ _ (z6d (by lia)).sok (y1d hb k3) _ _)
    rw [j6h hb k3 hq5] at this
    exact this
   have t3:=k7c (n:=n+6) t1 t2
   rw [y5h,z1b t3]
   cases !(q==v)&&!((nbs.getD v []).contains q)<;>rfl
  ·intro q hq _
   exact z0a (n:=n+6) rfl
 rw [k4t,z1b key]
 show some (PV.lst _,H)=_
 unfold z3r q5e
 rw [AX];rfl
end
structure WsS where
 b:Nat
 n:Nat
 nt:Nat
 c:List Nat
noncomputable def grow(c:List Nat)(b:Nat):List Nat:=if c.length<=b then c++List.replicate (b - c.length+1) 0 else c
noncomputable def q3p(c:List Nat)(b:Nat):List Nat:=(grow c b).set b ((grow c b).getD b 0+1)
noncomputable def wsF:List Nat->WsS->WsS
 | [],s=>s
 | ch::r,s=>if ch=32 then wsF r ⟨s.b+1,s.n+1,s.nt,s.c⟩ else if ch=9 then wsF r ⟨0,s.n+1,s.nt+1,q3p s.c s.b⟩ else s
theorem y7m(a:List PV):∀ n,listMul a n=(List.replicate n a).flatten
 | 0=>rfl
 | n+1=>by
  show a++listMul a n=_
  rw [y7m a n,DS];rfl
theorem y9i(H:z0b){k:Nat}(hk:k<=1000):y5z .mul H (.lst [.int 0]) (.int (k:Int))=some (.lst (z1a (List.replicate k 0))):=by
 show(if(k:Int).natAbs<=1000/\([PV.int 0]:List PV).length<=1000 then some (PV.lst (listMul [.int 0] (k:Int).toNat)) else none)=_
 rw [AR ⟨by lia,by simp⟩,y7m,ET]
 congr 2
 clear hk
 induction k with
 | zero=>rfl
 | succ k ih=>rw [DS,List.flatten_cons,ih,DS];rfl
theorem z4n(n:Nat):∀ l:List Nat,z0t n (z1a l)=true
 | []=>rfl
 | x::l=>by show(y6c n (.int x)&&z0t n (z1a l))=true;rw [z4n n l];rfl
theorem y9j(c:List Nat)(b:Nat):b<(grow c b).length/\(grow c b).length<=c.length+b+1:=by
 unfold grow
 split
 ·rw [AC,List.length_replicate,x4j ‹_›];exact⟨DY _,CI (CO _ _)⟩
 ·lia
theorem y9k(c:List Nat)(b:Nat):(q3p c b).length=(grow c b).length:=by unfold q3p;simp
theorem x5i(c d:Nat):(((⟨#[c]⟩:Str))==⟨#[d]⟩)=(c==d):=by
 rw [BT,BE,BE]
 constructor
 ·intro h;injection h with h;simpa using h
 ·intro h;rw [h]
theorem q7t:Str.ofString " "=⟨#[32]⟩:=by decide +kernel
theorem j6i:Str.ofString "\t"=⟨#[9]⟩:=by decide +kernel
section
variable {lv b:Nat} {L:Lim} {H:z0b} {C:z0g}
noncomputable def x1w:List MS:=z7s (st w2a 4)
structure WsI(Y:z0l)(J:z0b)(s:WsS)(r:Nat):Prop where
 e8:Y 8=some (.str ⟨#[32]⟩)
 e9:Y 9=some (.str ⟨#[9]⟩)
 e10:Y 10=some (.ref r)
 e11:Y 11=some (.int (s.b:Int))
 e12:Y 12=some (.int (s.n:Int))
 e13:Y 13=some (.int (s.nt:Int))
 cell:J[r]?=some (.lst (z1a s.c))
theorem z6m{P:MP}{C:z0g}{n:Nat}{Y:z0l}{L:Lim}{H:z0b}{a:ME}{p:q6a}{v r:PV}(h1:(sem P C n).ev Y a L H=some (v,H))(h2:z4p P p H [v]=some r):(sem P C (n+1)).ev Y (.prim p [a]) L H=some (r,H):=by
 exact z0s (j6f h1) h2
theorem j6j(P:MP){H:z0b}{r:Nat}{l:List PV}(h:H[r]?=some (.lst l)):z4p P .len H [.ref r]=some (.int (l.length:Int)):=by
 show(z1d H r).map (fun l=>PV.int (l.length:Int))=_
 rw [z1f h];rfl
theorem x9h{P:MP}{C:z0g}{H:z0b}{L:Lim}{r k:Nat}{l:List PV}{v:PV}(h:H[r]?=some (.lst l))(hk:l[k]?=some v):j8r P C (.ref r) (.int (k:Int)) L H=some (v,H):=by
 have e:j1f H (.ref r) (k:Int)=some v:=by
  show((z1d H r).bind fun l=>(z6r l.length (k:Int)).bind fun j=>l[j]?)=_
  rw [z1f h]
  exact j5z hk
 show((y6e (.int (k:Int))).bind fun k=>z4v.bind fun H=>M.ofOpt (j1f H (.ref r) k):M PV) L H=_
 exact z0c (a:=(k:Int)) rfl (z0c (a:=H) rfl (z0w e))
theorem x9i{P:MP}{C:z0g}{H:z0b}{L:Lim}{r k:Nat}{l:List PV}{v:PV}(h:H[r]?=some (.lst l))(hk:k<l.length)(hb:L.b<=r)(hn:z0t 0 (l.set k v)=true):y4g P C (.ref r) (.int (k:Int)) v L H=some ((),H.set r (.lst (l.set k v))):=by
 have h2:(if(0:Int)<=(k:Int) then z6r l.length (k:Int) else none)=some k:=by rw [AR (DZ k),q2m hk]
 show((y6e (.int (k:Int))).bind fun k=>(y8d r).bind fun l=>(M.ofOpt (if 0<=k then z6r l.length k else none)).bind fun n=>z9z r (l.set n v):M Unit) L H=_
 exact z0c (a:=(k:Int)) rfl (z0c (y3w h) (z0c (z0w h2) (y5i hb hn h)))
theorem x9j(H:z0b){a b:Nat}(h:b<=a):y5z .sub H (.int (a:Int)) (.int (b:Int))=some (.int ((a - b:Nat):Int)):=by
 show some (PV.int ((a:Int) - (b:Int)))=_
 rw [Int.ofNat_sub h]
theorem x9k{P:MP}{C:z0g}{n:Nat}{Y:z0l}{L:Lim}{H H':z0b}{k:Nat}{e:ME}{v:PV}(h:(sem P C n).ev Y e L H=some (v,H'))(rest:List MS)(ex:z0l->MS->M Fl)(hex:ex=(sem P C (n+1)).ex) :
  exs ex Y (.assign (.one k) e::rest) L H=exs ex (upd Y k v) rest L H':=by
 subst hex
 exact z0d h rfl
theorem w0y{P:MP}{C:z0g}{n:Nat}{Y:z0l}{L:Lim}{H:z0b}{c:ME}{t:Bool}{x y:List MS}(h:(sem P C n).ts Y c L H=some (t,H)):(sem P C (n+1)).ex Y (.ifs c x y) L H=exs (sem P C n).ex Y (if t then x else y) L H:=by
 exact z0c h rfl
end
theorem j6k{c:List Nat}{b:Nat}(hc:c.length<=400)(hb:b+1<=400):(grow c b).length<=400:=by
 unfold grow
 split
 ·rw [AC,List.length_replicate,<- Nat.add_assoc,DB ‹_›];exact hb
 ·exact hc
section
variable {lv b:Nat} {L:Lim} {H:z0b} {C:z0g}
theorem j6l{P:MP}{C:z0g}{n:Nat}{Y:z0l}{a e:ME}{p q:PV}{Hb H2:z0b}{vs ws:List PV}(h1:(sem P C n).ev Y a L H=some (p,Hb))(h2:(sem P C n).ev Y e L Hb=some (q,H2))(l1:z5u H2 p=some vs)(l2:z5u H2 q=some ws)(h3:(vs++ws).length<=z2k)(hn:z0t 0 (vs++ws)=true) :
  (sem P C (n+1)).ev Y (.mcat a e) L H=some (.ref H2.length,H2++[.lst (vs++ws)]):=z0c h1 (z0c h2 (z0c rfl (z0c (z0w l1) (z0c (z0w l2) (z0c (z0w (x8o h3)) (y5j hn))))))
inductive WsR(pre:Nat)(v5:PV)(J:z0b)(out:z0l->Fl)(run:Option (Fl×z0b))(s:WsS):Prop where
 | mk (Y':z0l) (J':z0b) (r':Nat):run=some (out Y',J')->WsI Y' J' s r'->Y' 5=some v5->pre<=r'->J'.take pre=J.take pre->WsR pre v5 J out run s
variable {Y:z0l} {J:z0b} {s:WsS} {r ch pre k c n:Nat} {v5:PV}
theorem t14(h:(upd Y 14 (.str ⟨#[ch]⟩)) k=some (.str ⟨#[c]⟩)):(sem mp2 C (n+3)).ts (upd Y 14 (.str ⟨#[ch]⟩)) (.cmp .eq (.var 14) (.var k)) L J=some (ch==c,J):=by
 rw [<- x5i];exact z3u rfl (z0k (z0a rfl) (z0a h) (eq_str _ _ _ _ _ _)) rfl
theorem t8(I:WsI Y J s r):(sem mp2 C (n+3)).ts (upd Y 14 (.str ⟨#[ch]⟩)) (.cmp .eq (.var 14) (.var 8)) L J=some (ch==32,J):=t14 (k:=8) (c:=32) I.e8
theorem t9(I:WsI Y J s r):(sem mp2 C (n+3)).ts (upd Y 14 (.str ⟨#[ch]⟩)) (.cmp .eq (.var 14) (.var 9)) L J=some (ch==9,J):=t14 (k:=9) (c:=9) I.e9
theorem w2s(I:WsI Y J s r)(h5:Y 5=some v5)(hr:pre<=r):WsR pre v5 J .next (exs (sem mp2 C 39).ex (upd Y 14 (.str ⟨#[32]⟩)) x1w L J) ⟨s.b+1,s.n+1,s.nt,s.c⟩:=
 .mk _ J r (q2h (t:=true) (t8 I) (z0d (z0f (z0a I.e12) rfl (z2c J s.n 1)) (z0d (z0f (z0a I.e11) rfl (z2c J s.b 1)) rfl)) rfl) ⟨I.e8,I.e9,I.e10,rfl,rfl,I.e13,I.cell⟩ h5 hr rfl
theorem x9l(I:WsI Y J s r)(h5:Y 5=some v5)(hr:pre<=r)(h1:ch≠32)(h2:ch≠9):WsR pre v5 J .brk (exs (sem mp2 C 39).ex (upd Y 14 (.str ⟨#[ch]⟩)) x1w L J) s:=by
 have a:=t8 (C:=C) (L:=L) (n:=35) (ch:=ch) I
 have b:=t9 (C:=C) (L:=L) (n:=34) (ch:=ch) I
 rw [ED h1] at a
 rw [ED h2] at b
 exact .mk _ J r (x1i a (x1i b k6m)) ⟨I.e8,I.e9,I.e10,I.e11,I.e12,I.e13,I.cell⟩ h5 hr rfl
theorem x5j{bb:Nat}{c:List Nat}(q10:Y 10=some (.ref r))(q11:Y 11=some (.int (bb:Int)))(cell:J[r]?=some (.lst (z1a (grow c bb))))(hL:L.b<=r) :
  exs (sem mp2 C 37).ex Y [.setIdx (.var 10) (.var 11) (.bin .add (.idx (.var 10) (.var 11)) (.int 1)),.assign (.one 11) (.int 0)] L J=some (.next (upd Y 11 (.int ((0:Nat):Int))),J.set r (.lst (z1a (q3p c bb)))):=by
 have gl:=(y9j c bb).1
 have hget:(z1a (grow c bb))[bb]?=some (.int (((grow c bb).getD bb 0:Nat):Int)):=by
  unfold z1a
  rw [BD,AH,AN gl];rfl
 have hset:(z1a (grow c bb)).set bb (.int (((grow c bb).getD bb 0+1:Nat):Int))=z1a (q3p c bb):=by
  unfold z1a q3p
  rw [List.map_set]
 have hsr:=x9i (P:=mp2) (C:=C) (L:=L) (v:=.int (((grow c bb).getD bb 0+1:Nat):Int)) cell (by rw [z3f];exact gl) hL (by rw [hset];exact z4n _ _)
 rw [hset] at hsr
 exact z4g (z0c (z0f (z6i (z0a q10) (z0a q11) (x9h cell hget)) rfl (z2c J _ 1)) (z0c (z0a q10) (z0c (z0a q11) (z0c hsr rfl)))) (z0d rfl rfl)
theorem w8n(I:WsI Y J s r)(hb:s.b+1<=400)(hc:s.c.length<=400)(hL:L.b<=pre)(hr:pre<=r)(h5:Y 5=some v5):WsR pre v5 J .next (exs (sem mp2 C 39).ex (upd Y 14 (.str ⟨#[9]⟩)) x1w L J) ⟨0,s.n+1,s.nt+1,q3p s.c s.b⟩:=by
 have tl:=AA hr (BR (j5m I.cell))
 let Y3:=upd (upd (upd Y 14 (.str ⟨#[9]⟩)) 12 (.int ((s.n+1:Nat):Int))) 13 (.int ((s.nt+1:Nat):Int))
 have i10:Y3 10=some (.ref r):=I.e10
 have i11:Y3 11=some (.int (s.b:Int)):=I.e11
 have len:∀ n,(sem mp2 C (n+2)).ev Y3 (.prim .len [.var 10]) L J=some (.int (s.c.length:Int),J):=fun n=>z6m (z0a i10) (by rw [j6j mp2 I.cell,z3f])
 have tg:(sem mp2 C 36).ts Y3 (.cmp .ge (.var 11) (.prim .len [.var 10])) L J=some (decide (s.c.length<=s.b),J):=z3u rfl (z0k (z0a i11) (len 32) (q7p _ _ _ _ _ _)) rfl
 by_cases h:s.c.length<=s.b
 ·rw [AV h] at tg
  have e3:z1a s.c++z1a (List.replicate (s.b - s.c.length+1) 0)=z1a (grow s.c s.b):=by
   unfold grow
   rw [AR h];exact BF.symm
  have hz:(sem mp2 C 35).ev Y3 (.mcat (.var 10) (.bin .mul (.lst [.int 0]) (.bin .add (.bin .sub (.var 11) (.prim .len [.var 10])) (.int 1)))) L J=some (.ref J.length,J++[.lst (z1a s.c++z1a (List.replicate (s.b - s.c.length+1) 0))]):=
   j6l (z0a i10) (z0f (p:=.lst [.int 0]) (q:=.int ((s.b - s.c.length+1:Nat):Int)) rfl (z0f (z0f (z0a i11) (len 29) (x9j _ h)) rfl (z2c J (s.b - s.c.length) 1)) (y9i J (AA (CI (Nat.sub_le _ _)) (AA hb (by decide))))) (z1f I.cell) rfl
    (by rw [e3,z3f];exact AA (j6k hc hb) (by decide)) (by rw [e3];exact z4n _ _)
  rw [e3] at hz
  exact .mk (upd (upd Y3 10 (.ref J.length)) 11 (.int ((0:Nat):Int))) _ J.length (q2h (t:=false) (t8 I) (q2h (t:=true) (t9 I) (z0d (z0f (z0a I.e12) rfl (z2c J s.n 1)) (z0d (z0f (z0a I.e13) rfl (z2c J s.nt 1)) (q2h tg (z0d hz rfl) (x5j rfl i11 (z2h _ _) (AA hL tl))))) rfl) rfl)
   ⟨I.e8,I.e9,rfl,rfl,rfl,rfl,z3v (z2h _ _)⟩ h5 tl (by rw [z8g,GB tl])
 ·rw [DT h] at tg
  exact .mk (upd Y3 11 (.int ((0:Nat):Int))) _ r (q2h (t:=false) (t8 I) (q2h (t:=true) (t9 I) (z0d (z0f (z0a I.e12) rfl (z2c J s.n 1)) (z0d (z0f (z0a I.e13) rfl (z2c J s.nt 1)) (q2h tg rfl (x5j i10 i11 (by unfold grow;rw [AT h];exact I.cell) (AA hL hr))))) rfl) rfl)
   ⟨I.e8,I.e9,i10,rfl,rfl,rfl,z3v I.cell⟩ h5 hr (List.take_set_of_le hr)
theorem q5g(hL:L.b<=pre):∀ (cs:List Nat) (s:WsS) (Y:z0l) (J:z0b) (r:Nat),WsI Y J s r->s.b+cs.length<=400->s.c.length<=400->pre<=r->Y 5=some v5 ->
  WsR pre v5 J .next (z3c (sem mp2 C 39).ex (.one 14) x1w [] Y (cs.map fun c=>PV.str ⟨#[c]⟩) L J) (wsF cs s)
 | [],s,Y,J,r,I,_,_,hr,h5=>.mk Y J r rfl I h5 hr rfl
 | ch::cs,s,Y,J,r,I,hb,hc,hr,h5=>by
  have hb':s.b+1+cs.length<=400:=by rw [BI,Nat.add_assoc];exact hb
  by_cases h1:ch=32
  ·subst h1
   obtain⟨A9,J1,r1,a1,a2,a3,a4,a5⟩:=w2s (C:=C) (L:=L) I h5 hr
   obtain⟨Y',J',r',b1,b2,b3,b4,b5⟩:=q5g hL cs _ A9 J1 r1 a2 hb' hc a4 a3
   exact .mk Y' J' r' ((z1x rfl a1).trans b1) b2 b3 b4 (b5.trans a5)
  ·by_cases h2:ch=9
   ·subst h2
    have h3:=AA (BC _ _) hb'
    obtain⟨A9,J1,r1,a1,a2,a3,a4,a5⟩:=w8n (C:=C) (L:=L) I h3 hc hL hr h5
    obtain⟨Y',J',r',b1,b2,b3,b4,b5⟩:=q5g hL cs _ A9 J1 r1 a2 (by rw [DE];exact AA (CO _ _) hb') (by rw [y9k];exact j6k hc h3) a4 a3
    exact .mk Y' J' r' ((z1x rfl a1).trans b1) b2 b3 b4 (b5.trans a5)
   ·obtain⟨A9,J1,r1,a1,a2,a3,a4,a5⟩:=x9l (C:=C) (L:=L) I h5 hr h1 h2
    rw [show wsF (ch::cs) s=s from(AT h1).trans (AT h2)]
    exact .mk A9 J1 r1 (z1x rfl a1) a2 a3 a4 a5
end
noncomputable def y6j(ws:Str)(s:WsS):List (Nat×PV):=[(7,.str ws),(12,.int (s.n:Int)),(13,.int (s.nt:Int)),(15,.tup [.tup (z1a s.c),.int (s.b:Int)]),(16,.bool (decide (s.c.length<=1)))]
noncomputable def ws0:WsS:=⟨0,0,0,[]⟩
section
variable {lv:Nat} {L:Lim} {H:z0b}
theorem x5k(P:MP)(C:z0g)(a b:Nat)(L:Lim)(H:z0b):z9e P C .le (.int (a:Int)) (.int (b:Int)) L H=some (.bool (decide (a<=b)),H):=
 z7o rfl (AP some (FO.mpr Int.ofNat_le))
theorem j6m{P:MP}{C:z0g}{n c i k:Nat}{Y:z0l}{J:z0b}{L:Lim}{e:ME}{v:PV}{l l0:List (Nat×PV)}{rest:List MS}{Q:Option (Fl×z0b)}(hi:J[i]?=some (.att l0))(he:(sem P C (n+1)).ev Y e L (J.set i (.att l))=some (v,J.set i (.att l)))(h5:Y 5=some (.inst c i))(hb:L.ab<=i)(hl:(z4q k v l).length<=900)
 (hr:exs (sem P C (n+2)).ex Y rest L (J.set i (.att (z4q k v l)))=Q):exs (sem P C (n+2)).ex Y (.setAttr (.var 5) k e::rest) L (J.set i (.att l))=Q:=z8f he (z0a h5) hb (z3v hi) hl (by rw [List.set_set];exact hr)
theorem x1x{ws:Str}(hL:L.b<=H.length)(hLa:L.ab<=H.length)(hn:ws.cps.toList.length<=400) :
  ∃ J,z0h mp2 (lv+1) 0 [.inst 0 H.length,.str ws] [] L (H++[.att []])=some (.none,J)/\J[H.length]?=some (.att (y6j ws (wsF ws.cps.toList ws0)))/\J.take (H.length+1)=H++[.att (y6j ws (wsF ws.cps.toList ws0))]:=by
 let B1:=y3v 5 (.inst 0 H.length) 6 (.str ws)
 let B2:z0b:=H++[.att [(7,.str ws)]]
 have l1:B2.length=H.length+1:=AC
 let Y3:=upd (upd (upd (upd (upd (upd B1 8 (.str ⟨#[32]⟩)) 9 (.str ⟨#[9]⟩)) 10 (.ref B2.length)) 11 (.int ((0:Nat):Int))) 12 (.int ((0:Nat):Int))) 13 (.int ((0:Nat):Int))
 have I0:WsI Y3 (B2++[.lst []]) ws0 B2.length:=⟨rfl,rfl,rfl,rfl,rfl,rfl,z2h _ _⟩
 obtain⟨Y4,J,r,b1,b2,b3,b4,b5⟩:=q5g (C:=z0h mp2 lv) (L:=L) (pre:=H.length+1) (v5:=.inst 0 H.length) (CB hL) ws.cps.toList ws0 Y3 _ B2.length I0 (by show 0+_<=400;rw [DE];exact hn) (BK _) (CJ l1.symm) rfl
 generalize wsF ws.cps.toList ws0=s at b2 ⊢
 have hpre:J.take (H.length+1)=B2:=b5.trans (by rw [<- l1];exact List.take_left)
 have hi:J[H.length]?=some (.att [(7,.str ws)]):=by
  have:(J.take (H.length+1))[H.length]?=some (.att [(7,.str ws)]):=by rw [hpre];exact z2h _ _
  rwa [List.getElem?_take_of_lt (DY _)] at this
 have hir:r≠H.length:=DO b4
 have hrc:∀ X,(J.set H.length X)[r]?=some (.lst (z1a s.c)):=fun X=>(z7f hir).trans b2.cell
 have h8:(sem mp2 (z0h mp2 lv) 38).ev B1 (.gattr 8) L B2=some (.str ⟨#[32]⟩,B2):=by rw [<- q7t];exact y7e w8k
 have h9:(sem mp2 (z0h mp2 lv) 38).ev B1 (.gattr 9) L B2=some (.str ⟨#[9]⟩,B2):=by rw [<- j6i];exact y7e w8l
 refine⟨J.set H.length (.att (y6j ws s)),z8u (Y':=Y4) w2d rfl (z8f (z0a rfl) (z0a rfl) hLa (z2h _ _) (BQ rfl) ?_),z3v hi,?_⟩
 ·rw [z8g]
  refine y0y (z1j (z2a h8 h9)) rfl (z0d (y0x z4w rfl) (z4g (Y':=Y3) rfl (y1a (up:=false) (z1p (z1h (y5k (z0a rfl) (q4w (z2h _ _)) rfl)) rfl) b1 ?_)))
  refine z8f (z0a b2.e12) (z0a b3) hLa hi (BQ rfl) (j6m hi (z0a b2.e13) b3 hLa (BQ rfl) (j6m hi (z1j (z2a (z6m (r:=.tup (z1a s.c)) (z0a b2.e10) ?_) (z0a b2.e11))) b3 hLa (BQ rfl) (j6m hi (z0k (q:=.int ((1:Nat):Int)) (z6m (z0a b2.e10) (by rw [j6j mp2 (hrc _),z3f])) rfl (x5k _ _ _ _ _ _)) b3 hLa (BQ rfl) rfl)))
  exact AP (Option.map PV.tup) (z1f (hrc _))
 ·rw [List.take_set,hpre];exact z8g _ _ _
end
theorem q5h:∀ (cs:List Nat) (s:WsS),(wsF cs s).c.length<=max s.c.length (s.b+cs.length)
 | [],s=>EC _ _
 | ch::cs,s=>by
  show(if ch=32 then _ else if ch=9 then _ else _:WsS).c.length<=_
  simp only [BH]
  split
  ·have:=q5h cs ⟨s.b+1,s.n+1,s.nt,s.c⟩
   exact AA this (mmm (AL _) (CJ (BI s.b 1 cs.length)))
  ·split
   ·have:=q5h cs ⟨0,s.n+1,s.nt+1,q3p s.c s.b⟩
    have h2:(q3p s.c s.b).length<=max s.c.length (s.b+1):=by
     rw [y9k]
     unfold grow
     split
     ·rw [AC,List.length_replicate,x4j ‹_›];exact EI _ _
     ·exact EC _ _
    exact AA this (Nat.max_le.mpr ⟨AA h2 (mmm (AL _) (CS (CO 1 _) _)),AA (BM (BK _) (FK _)) (EI _ _)⟩)
   ·exact EC _ _
theorem add_str(H:z0b){x y:Str}(h:x.length+y.length<=1000000):y5z .add H (.str x) (.str y)=some (.str (x++y)):=by
 show(if x.length+y.length<=z2k then some (PV.str (x++y)) else none)=_
 rw [AR (AA h (by decide))]
theorem z2q(x y:Str):(x++y).cps.toList=x.cps.toList++y.cps.toList:=by
 show(x.cps++y.cps).toList=_
 simp
theorem z5r(x:Str):x.length=x.cps.toList.length:=by simp [Str.length]
theorem j0u(n:Nat)(ws:Str)(s:WsS):z7y n (y6j ws s)=true:=by
 have h:=z4n n s.c
 show(true&&(true&&(true&&((z0t n (z1a s.c)&&(true&&true))&&(true&&true)))))=true
 rw [h]
 rfl
section
variable {lv b:Nat} {L:Lim} {H:z0b} {C:z0g}
end
noncomputable def k7d(c:List Nat)(ts:Nat):Nat:=((List.range' ts (c.length - ts)).map fun i=>i / ts*c.getD i 0).sum
theorem y3y{n:Nat}{Y:z0l}{L:Lim}{H:z0b}{P:MP}{C:z0g}{a b:Nat}{x y:ME}(hx:(sem P C n).ev Y x L H=some (.int (a:Int),H))(hy:(sem P C n).ev Y y L H=some (.int (b:Int),H))(ha:a<=1000)(hb:b<=1000) :
  z8z (sem P C n) Y .range [x,y] L H=some ((z1a (List.range' a (b - a)),false),H):=by
 refine z1p (x5g hx hy) ?_
 show Option.map (fun l=>(l,false)) (if(a:Int).natAbs<=1000000/\(b:Int).natAbs<=1000000 then some (z4y (a:Int) (b:Int)) else none)=_
 rw [AR ⟨by rw [DM];lia,by rw [DM];lia⟩]
 show some (z4y (a:Int) (b:Int),false)=_
 unfold z4y z1a
 congr 2
 rw [Int.toNat_sub,List.range'_eq_map_range,AX]
 refine CH fun k _=>?_
 simp
theorem j6n(P:MP)(H:z0b)(l:List PV):z4p P .len H [.tup l]=some (.int (l.length:Int)):=rfl
theorem z8i{P:MP}{C:z0g}{n:Nat}{Y:z0l}{L:Lim}{H:z0b}{a e:ME}{l:List PV}{k:Nat}{v:PV}(h1:(sem P C n).ev Y a L H=some (.tup l,H))(h2:(sem P C n).ev Y e L H=some (.int (k:Int),H))(h3:l[k]?=some v) :
  (sem P C (n+1)).ev Y (.idx a e) L H=some (v,H):=by
 rw [k4s,z1b h1,z1b h2,x1s,x9c h3];rfl
theorem k7e{c:List Nat}{ts:Nat}(hc:∀ k,c.getD k 0<=10)(hl:c.length<=30):∀ l:List Nat,(∀ i,i∈l->i<=30)->l.length<=30->(l.map fun i=>i / ts*c.getD i 0).sum<=300*l.length:=fun l=>by
 induction l with
 | nil=>intro _ _;simp
 | cons i l ih=>
  intro h1 h2
  simp only [BH] at h2
  have a:=ih (fun j hj=>h1 j (AE _ hj)) (by lia)
  have b:=h1 i AD
  have d:=hc i
  have e:i / ts<=30:=AA (Nat.div_le_self _ _) b
  have f:i / ts*c.getD i 0<=30*10:=CK e d
  simp only [BP,FF,BH]
  lia
section
variable {lv b:Nat} {L:Lim} {H:z0b} {C:z0g}
theorem q7u{ts:Nat}{c:List Nat}(h1:1<=ts)(h2:ts<=30)(hc:c.length<=30)(hce:∀ k,c.getD k 0<=10):∀ (ks:List Nat) (acc:Nat) (Y:z0l),(∀ k,k∈ks->k<c.length)->Y 19=some (.int (acc:Int))->Y 18=some (.int (ts:Int))->Y 10=some (.tup (z1a c)) ->
  ∃ Y',z3c (sem mp2 C 39).ex (.one 20) [.assign (.one 19) (.bin .add (.var 19) (.bin .mul (.bin .fdiv (.var 20) (.var 18)) (.idx (.var 10) (.var 20))))] [] Y (z1a ks) L H=some (.next Y',H)/\Y' 19=some (.int ((acc+(ks.map fun k=>k / ts*c.getD k 0).sum:Nat):Int))/\∀ j,j≠19->j≠20->Y' j=Y j
 | [],acc,Y,_,h19,_,_=>⟨Y,rfl,h19,fun _ _ _=>rfl⟩
 | x::ks,acc,Y,hk,h19,h18,h10=>by
  have hx:=hk x AD
  have hv:(z1a c)[x]?=some (.int ((c.getD x 0:Nat):Int)):=by
   unfold z1a
   rw [BD,AH,AN hx];rfl
  have d1:x / ts<=1000000:=AA (Nat.div_le_self _ _) (AA (BR hx) (lk hc rfl))
  obtain⟨Y',q1,q2,q3⟩:=q7u h1 h2 hc hce ks (acc+x / ts*c.getD x 0) (upd (upd Y 20 (.int (x:Int))) 19 (.int ((acc+x / ts*c.getD x 0:Nat):Int))) (fun k h=>hk k (AE _ h)) rfl h18 h10
  have st:exs (sem mp2 C 39).ex (upd Y 20 (.int (x:Int))) [.assign (.one 19) (.bin .add (.var 19) (.bin .mul (.bin .fdiv (.var 20) (.var 18)) (.idx (.var 10) (.var 20))))] L H=some (.next _,H):=
   z0d (z0f (z0a h19) (z0f (z0f (z0a rfl) (z0a h18) (j6d H h1 (lk h2 rfl))) (z8i (z0a h10) (z0a rfl) hv) (q5d H d1 (lk (hce x) rfl))) (z2c H _ _)) rfl
  exact⟨Y',(z1x rfl st).trans q1,q2.trans (by rw [Nat.add_assoc];rfl),fun j a b=>(q3 j a b).trans ((AT a).trans (AT b))⟩
end
theorem x9m(P:MP)(H:z0b)(a b:Nat):z4p P .max H [.int (a:Int),.int (b:Int)]=some (.int ((max a b:Nat):Int)):=by
 show some (PV.int (if(b:Int) > (a:Int) then(b:Int) else(a:Int)))=_
 congr 2
 split<;>lia
section
variable {lv b:Nat} {L:Lim} {H:z0b} {C:z0g}
end
noncomputable abbrev C1:z0g:=z0h mp2 19
noncomputable abbrev Lz:Lim:=⟨0,0⟩
noncomputable def prs:List (Nat×Nat):=[(0,1),(0,2),(0,3),(0,4),(1,2),(1,3),(1,4),(2,3),(2,4),(3,4)]
noncomputable def z6n(ns:List Int):Int:=((ns.take 10).map fun x=>x.fdiv 20).sum
noncomputable def y7n(ns:List Int):Nat:=((7+z6n ns).fmod 28).toNat
noncomputable def x5l(x:Int):Ln:=((prs.getD (x.fmod 10).toNat (0,1)).1,(prs.getD (x.fmod 10).toNat (0,1)).2,(x.fdiv 10).fmod 2==1)
theorem x9n(ns:List Int):y7n ns<28:=by
 unfold y7n
 rw [EN _ (by decide)]
 have h1:=Int.emod_nonneg (7+z6n ns) (by decide:(28:Int)≠0)
 have h2:=Int.emod_lt_of_pos (7+z6n ns) (by decide:(0:Int)<28)
 lia
theorem k7f(x:Int):(x.fmod 10).toNat<10/\x.fmod 10=(((x.fmod 10).toNat:Nat):Int):=by
 rw [EN _ (by decide)]
 have h1:=Int.emod_nonneg x (by decide:(10:Int)≠0)
 have h2:=Int.emod_lt_of_pos x (by decide:(0:Int)<10)
 lia
theorem k7g:∀ k,k<10->(prs.getD k (0,1)).1<5/\(prs.getD k (0,1)).2<5/\(prs.getD k (0,1)).1<(prs.getD k (0,1)).2:=by decide
theorem y7o:∀ l:List Int,z5h (l.map .int)=some l
 | []=>rfl
 | x::l=>by show(z5h (l.map .int)).map (x::·)=_;rw [y7o l];rfl
theorem x1y(P:MP)(H:z0b)(l:List Int):z4p P .sum H [.lst (l.map .int)]=some (.int l.sum):=by
 show(z5h (l.map .int)).map (fun ns=>PV.int ns.sum)=_
 rw [y7o];rfl
theorem y3z(H:z0b)(a:Int){b:Int}(h:b≠0)(h2:b.natAbs<1000000):y5z .fdiv H (.int a) (.int b)=some (.int (a.fdiv b)):=by
 show(if b≠0/\b.natAbs<1000000 then some (PV.int (a.fdiv b)) else none)=_
 rw [AR ⟨h,h2⟩]
theorem y4a(H:z0b)(a:Int){b:Int}(h:b≠0):y5z .mod H (.int a) (.int b)=some (.int (a.fmod b)):=by
 show(if b≠0 then some (PV.int (a.fmod b)) else none)=_
 rw [AR h]
theorem add_int(H:z0b)(a b:Int):y5z .add H (.int a) (.int b)=some (.int (a+b)):=rfl
section
variable {H:z0b} {Y:z0l} {ns:List Int}
end
theorem x9o(lv:Nat)(L:Lim)(H:z0b):z0h mp2 (lv+1) 19 [.int 0] [] L H=some (.lst ((W 0).map .str),H):=by kernel_rfl
theorem x9p(lv:Nat)(L:Lim)(H:z0b):z0h mp2 (lv+1) 19 [.int 1] [] L H=some (.lst ((W 1).map .str),H):=by kernel_rfl
theorem x9q(lv:Nat)(L:Lim)(H:z0b):z0h mp2 (lv+1) 19 [.int 2] [] L H=some (.lst ((W 2).map .str),H):=by kernel_rfl
theorem x9r(lv:Nat)(L:Lim)(H:z0b):z0h mp2 (lv+1) 19 [.int 3] [] L H=some (.lst ((W 3).map .str),H):=by kernel_rfl
theorem x9s(lv:Nat)(L:Lim)(H:z0b):z0h mp2 (lv+1) 19 [.int 4] [] L H=some (.lst ((W 4).map .str),H):=by kernel_rfl
theorem x9t(lv:Nat)(L:Lim)(H:z0b):z0h mp2 (lv+1) 19 [.int 5] [] L H=some (.lst ((W 5).map .str),H):=by kernel_rfl
theorem x9u(lv:Nat)(L:Lim)(H:z0b):z0h mp2 (lv+1) 19 [.int 6] [] L H=some (.lst ((W 6).map .str),H):=by kernel_rfl
theorem x9v(lv:Nat)(L:Lim)(H:z0b):z0h mp2 (lv+1) 19 [.int 7] [] L H=some (.lst ((W 7).map .str),H):=by kernel_rfl
theorem x9w(lv:Nat)(L:Lim)(H:z0b):z0h mp2 (lv+1) 19 [.int 8] [] L H=some (.lst ((W 8).map .str),H):=by kernel_rfl
theorem x9x(lv:Nat)(L:Lim)(H:z0b):z0h mp2 (lv+1) 19 [.int 9] [] L H=some (.lst ((W 9).map .str),H):=by kernel_rfl
theorem x1z(lv:Nat)(L:Lim)(H:z0b):z0h mp2 (lv+1) 19 [.int 10] [] L H=some (.lst ((W 10).map .str),H):=by kernel_rfl
theorem x2a(lv:Nat)(L:Lim)(H:z0b):z0h mp2 (lv+1) 19 [.int 11] [] L H=some (.lst ((W 11).map .str),H):=by kernel_rfl
theorem x2b(lv:Nat)(L:Lim)(H:z0b):z0h mp2 (lv+1) 19 [.int 12] [] L H=some (.lst ((W 12).map .str),H):=by kernel_rfl
theorem x2c(lv:Nat)(L:Lim)(H:z0b):z0h mp2 (lv+1) 19 [.int 13] [] L H=some (.lst ((W 13).map .str),H):=by kernel_rfl
theorem x2d(lv:Nat)(L:Lim)(H:z0b):z0h mp2 (lv+1) 19 [.int 14] [] L H=some (.lst ((W 14).map .str),H):=by kernel_rfl
theorem x2e(lv:Nat)(L:Lim)(H:z0b):z0h mp2 (lv+1) 19 [.int 15] [] L H=some (.lst ((W 15).map .str),H):=by kernel_rfl
theorem x2f(lv:Nat)(L:Lim)(H:z0b):z0h mp2 (lv+1) 19 [.int 16] [] L H=some (.lst ((W 16).map .str),H):=by kernel_rfl
theorem x2g(lv:Nat)(L:Lim)(H:z0b):z0h mp2 (lv+1) 19 [.int 17] [] L H=some (.lst ((W 17).map .str),H):=by kernel_rfl
theorem x2h(lv:Nat)(L:Lim)(H:z0b):z0h mp2 (lv+1) 19 [.int 18] [] L H=some (.lst ((W 18).map .str),H):=by kernel_rfl
theorem x2i(lv:Nat)(L:Lim)(H:z0b):z0h mp2 (lv+1) 19 [.int 19] [] L H=some (.lst ((W 19).map .str),H):=by kernel_rfl
theorem x2j(lv:Nat)(L:Lim)(H:z0b):z0h mp2 (lv+1) 19 [.int 20] [] L H=some (.lst ((W 20).map .str),H):=by kernel_rfl
theorem x2k(lv:Nat)(L:Lim)(H:z0b):z0h mp2 (lv+1) 19 [.int 21] [] L H=some (.lst ((W 21).map .str),H):=by kernel_rfl
theorem x2l(lv:Nat)(L:Lim)(H:z0b):z0h mp2 (lv+1) 19 [.int 22] [] L H=some (.lst ((W 22).map .str),H):=by kernel_rfl
theorem x2m(lv:Nat)(L:Lim)(H:z0b):z0h mp2 (lv+1) 19 [.int 23] [] L H=some (.lst ((W 23).map .str),H):=by kernel_rfl
theorem x2n(lv:Nat)(L:Lim)(H:z0b):z0h mp2 (lv+1) 19 [.int 24] [] L H=some (.lst ((W 24).map .str),H):=by kernel_rfl
theorem x2o(lv:Nat)(L:Lim)(H:z0b):z0h mp2 (lv+1) 19 [.int 25] [] L H=some (.lst ((W 25).map .str),H):=by kernel_rfl
theorem x2p(lv:Nat)(L:Lim)(H:z0b):z0h mp2 (lv+1) 19 [.int 26] [] L H=some (.lst ((W 26).map .str),H):=by kernel_rfl
theorem x2q(lv:Nat)(L:Lim)(H:z0b):z0h mp2 (lv+1) 19 [.int 27] [] L H=some (.lst ((W 27).map .str),H):=by kernel_rfl
theorem x9y(lv:Nat){b:Nat}(hb:b<28)(L:Lim)(H:z0b):z0h mp2 (lv+1) 19 [.int (b:Int)] [] L H=some (.lst ((W b).map .str),H):=
 match b,hb with
 | 0,_=>x9o lv L H
 | 1,_=>x9p lv L H
 | 2,_=>x9q lv L H
 | 3,_=>x9r lv L H
 | 4,_=>x9s lv L H
 | 5,_=>x9t lv L H
 | 6,_=>x9u lv L H
 | 7,_=>x9v lv L H
 | 8,_=>x9w lv L H
 | 9,_=>x9x lv L H
 | 10,_=>x1z lv L H
 | 11,_=>x2a lv L H
 | 12,_=>x2b lv L H
 | 13,_=>x2c lv L H
 | 14,_=>x2d lv L H
 | 15,_=>x2e lv L H
 | 16,_=>x2f lv L H
 | 17,_=>x2g lv L H
 | 18,_=>x2h lv L H
 | 19,_=>x2i lv L H
 | 20,_=>x2j lv L H
 | 21,_=>x2k lv L H
 | 22,_=>x2l lv L H
 | 23,_=>x2m lv L H
 | 24,_=>x2n lv L H
 | 25,_=>x2o lv L H
 | 26,_=>x2p lv L H
 | 27,_=>x2q lv L H
 | n+28,h=>absurd h (by omega)
theorem y5s:Str.ofString ", "=z5g:=by decide +kernel
noncomputable def q5i:Str:=baseText "0x" 16 0
theorem x2r:((List.range 32).all fun k=>!(wk k==q5i))=true:=by decide +kernel
theorem x9z:PyData.strOk q5i=true:=by decide +kernel
theorem k0a{k:Nat}(h:k<32):wk k≠q5i:=by
 have:=BA.mp x2r k (by simpa using h)
 simpa using this
noncomputable def z2d(b m:Nat):List Str:=if m=0 then[q5i] else z3r b (z1z m)
theorem z8j(m:Nat):∀ q,q∈z1z m->q<5:=fun q hq=>AM.mp (BG.mp hq).1
theorem z5f(m:Nat):(z1z m).length<=5:=by
 have:=CA (fun i=>m.testBit i) (List.range 5)
 simpa [z1z] using this
theorem q7v{b m:Nat}(hb:b<28)(hm:m<32):(z4x 32 0 (m*2^b)).map wk=z3r b (z1z m):=by
 rw [j0r hb hm,AX];rfl
theorem j6o:∀ m,m<32->m≠0->z1z m≠[]:=by decide
theorem z8k{b m:Nat}(hb:b<28)(hm:m<32):z3m (m*2^b)=Txt.join z5g (z2d b m):=by
 unfold z3m z2d
 by_cases h:m=0
 ·subst h;rw [AR (by simp),AR rfl,y9f];rfl
 ·have:m*2^b≠0:=Nat.mul_ne_zero h (DO (Nat.two_pow_pos b))
  rw [AT this,AT h,q7v hb hm,y5s]
theorem k0b:44∉q5i.cps.toList:=by decide +kernel
theorem x2s{b m:Nat}(hb:b<28):∀ t,t∈z2d b m->44∉t.cps.toList:=fun t ht=>by
 unfold z2d at ht
 split at ht
 ·simp at ht;subst ht;exact k0b
 ·obtain⟨q,hq,rfl⟩:=AY.mp ht
  have:=z8j m q hq
  exact(z6d (lk (FN ‹_› (CP ‹_›)) rfl)).nc
theorem x2t{b m:Nat}(hm:m<32):z2d b m≠[]:=by
 unfold z2d
 split
 ·simp
 ·rename_i h
  have:=j6o m hm h
  unfold z3r
  simpa using this
theorem y2s{b m:Nat}(hb:b<28)(hm:m<32):Txt.split (z3m (m*2^b)) z5g=z2d b m:=by
 rw [z8k hb hm,y1v (x2t hm) (x2s hb)]
theorem y7p{V:Type}(f:V->Nat)(c:Nat):∀ l:List V,(∀ x,x∈l->f x<=c)->(l.map f).sum<=c*l.length
 | [],_=>by simp
 | x::l,h=>by
  have h1:=y7p f c l fun y hy=>h y (AE _ hy)
  have h2:=h x AD
  simp only [BP,FF,BH,Nat.mul_add,Nat.mul_one]
  lia
theorem y1x{b:Nat}(hb:b<28){r:List Nat}(hr:∀ q,q∈r->q<5):((z3r b r).map (·.length)).sum<=100*r.length:=by
 have:=y7p (fun x:Str=>x.length) 100 (z3r b r) fun x hx=>by
  obtain⟨q,hq,rfl⟩:=AY.mp hx
  have:=hr q hq
  exact(z6d (lk (FN ‹_› (CP ‹_›)) rfl)).len
 simpa [z3r] using this
theorem q2n:∀ ws:List (List Nat),(z5q ws).length<=(ws.map (·.length)).sum+2*ws.length
 | []=>AL _
 | [w]=>by show w.length<=w.length+0+2;lia
 | w::v::ws=>by
  have:=q2n (v::ws)
  show(w++[44,32]++z5q (v::ws)).length<=_
  simp only [AC,BH,List.length_nil,BP,FF] at this ⊢
  lia
theorem y7q{b m:Nat}(hb:b<28)(hm:m<32):(z3m (m*2^b)).length<=600:=by
 rw [z8k hb hm,z5r]
 unfold Txt.join
 rw [EO,z8h]
 have h:=q2n ((z2d b m).map fun t=>t.cps.toList)
 have h1:(((z2d b m).map fun t=>t.cps.toList).map (·.length)).sum<=500:=by
  rw [AX]
  unfold z2d
  split
  ·decide +kernel
  ·have:=y1x hb (z8j m)
   have h5:=z5f m
   have e:(z3r b (z1z m)).map ((fun x:List Nat=>x.length)∘fun t:Str=>t.cps.toList)=(z3r b (z1z m)).map (·.length):=CH fun x _=>by simp [Str.length]
   rw [e];lia
 have h2:((z2d b m).map fun t=>t.cps.toList).length<=5:=by
  rw [AI]
  unfold z2d
  split
  ·simp
  ·unfold z3r;rw [AI];exact z5f m
 lia
section
variable {H:z0b} {Y:z0l} {L:Lim} {b:Nat}
theorem q5j(H:z0b){m b:Nat}(hm:m<2^40)(hb:b<=1000):y5z .shl H (.int (m:Int)) (.int (b:Int))=some (.int ((m*2^b:Nat):Int)):=by
 refine(AR ⟨DZ b,Int.ofNat_le.mpr (AA hb (by decide)),by rw [DM];exact BN hm (by decide)⟩).trans ?_
 rw [ET,Int.natCast_mul,Int.natCast_pow]
 rfl
theorem j0v{P:MP}(H:z0b){x:Str}(h:x.length<=100000):z4p P .split H [.str x,.str (Str.ofString ", ")]=some (.lst ((Txt.split x z5g).map .str)):=by
 rw [y5s]
 show(if x.length<=100000/\z5g.length≠0 then some (PV.lst ((Txt.split x z5g).map .str)) else none)=_
 rw [AR ⟨h,by decide⟩]
theorem k7h(b:Nat):W b=z3r b (List.range 5):=rfl
theorem k0c(b:Nat):z2d b 31=W b:=rfl
theorem k0d(hb:b<28):∀ x,x∈W b->PyData.strOk x=true:=by
 rw [k7h];exact y1d hb fun q hq=>AM.mp hq
theorem j6p(P:MP)(C:z0g){l m:List Str}(hl:∀ x,x∈l->PyData.strOk x=true)(hm:∀ x,x∈m->PyData.strOk x=true)(L:Lim)(H:z0b):z9e P C .ne (.lst (l.map .str)) (.lst (m.map .str)) L H=some (.bool (!decide (l=m)),H):=by
 have h:=z9i (f:=fun l:List Str=>PV.lst (l.map PV.str)) (z5e y5p) (by decide) (a:=l) (b:=m) hl hm
 show((M.ofOpt ((eqV (.lst (l.map .str)) (.lst (m.map .str))).map (!·))).bind fun r=>M.pure (.bool r):M PV) L H=_
 have h':eqV (.lst (l.map .str)) (.lst (m.map .str))=some (decide (l=m)):=h
 rw [h'];rfl
end
noncomputable def w8o(ls:List Ln)(p:Nat):List Nat:=(ls.filter fun l=>l.1==p).map fun l=>l.2.1
noncomputable def adj(ls:List Ln)(p q:Nat):Bool:=!(p==q)&&(w8o ls p).contains q
noncomputable def nbL(ls:List Ln)(p:Nat):List Nat:=(List.range 5).filter fun q=>adj ls p q
theorem k7i:∀ a b c d e:Bool,z1z (((List.range 5).filter fun i=>[a,b,c,d,e].getD i false).map fun q=>2^q).sum=((List.range 5).filter fun i=>[a,b,c,d,e].getD i false)/\(((List.range 5).filter fun i=>[a,b,c,d,e].getD i false).map fun q=>2^q).sum<32:=by decide +kernel
theorem k0e(f:Nat->Bool):(List.range 5).filter f=(List.range 5).filter fun i=>[f 0,f 1,f 2,f 3,f 4].getD i false:=by
 refine CQ fun i hi=>?_
 have:=AM.mp hi
 match i,this with
 | 0,_=>rfl
 | 1,_=>rfl
 | 2,_=>rfl
 | 3,_=>rfl
 | 4,_=>rfl
 | n+5,h=>lia
theorem k7j(f:Nat->Bool):z1z (((List.range 5).filter f).map fun q=>2^q).sum=(List.range 5).filter f/\(((List.range 5).filter f).map fun q=>2^q).sum<32:=by
 rw [k0e f]
 exact k7i _ _ _ _ _
noncomputable def nbs(ls:List Ln):List (List Nat):=(List.range 5).map (nbL ls)
theorem y7r{x:Str}(h:PyData.strOk x=true):z1n (.str x)=some (.str x):=AR h
theorem q7w(d x:PyData)(r:List PyData):z7w d (x::r)=if PyData.eqv x d then some 0 else(z7w d r).map (·+1):=rfl
section
variable {H:z0b} {Y:z0l} {b i j:Nat} {ls ts:List Ln}
theorem w2t(b:Nat):(W b).map PV.str=(List.range 5).map fun p=>PV.str (wk (b+p)):=by unfold W;rw [AX];rfl
theorem q2o(hb:b<28)(m:Nat):∀ x,x∈z2d b m->PyData.strOk x=true:=fun x hx=>by
 unfold z2d at hx
 split at hx
 ·simp at hx;subst hx;exact x9z
 ·exact y1d hb (z8j m) x hx
theorem j6q(hb:b<28)(m:Nat):(z2d b m).filter (fun x=>decide (x∈W b))=z3r b (z1z m):=by
 unfold z2d
 split
 ·rename_i h
  subst h
  have:decide (q5i∈W b)=false:=DT fun hm=>by
   obtain⟨q,hq,e⟩:=AY.mp hm
   exact k0a (by have:=AM.mp hq;lia) e
  rw [FA,this];rfl
 ·refine FU.mpr fun x hx=>AV ?_
  obtain⟨q,hq,rfl⟩:=AY.mp hx
  exact AY.mpr ⟨q,AM.mpr (z8j m q hq),rfl⟩
theorem q5k(b m:Nat):(z2d b m).length<=5:=by
 unfold z2d
 split
 ·simp
 ·unfold z3r;rw [AI];exact z5f m
end
theorem y1e{l m:List Nat}{k:Nat}:(l++m).getD (l.length+k) 0=m.getD k 0:=by
 rw [AH,AH,CY (by lia)]
 congr 2;lia
noncomputable def SN(N:Nat)(c:List Nat)(ts:Nat):Nat:=((List.range N).map fun i=>i / ts*c.getD i 0).sum
theorem y1f{l:List Nat}{f:Nat->Nat}(h:∀ i,i∈l->f i=0):(l.map f).sum=0:=by
 induction l with
 | nil=>rfl
 | cons x l ih=>
  rw [BP,FF,h x AD,ih fun i hi=>h i (AE _ hi)]
theorem w2u{N ts:Nat}{c:List Nat}(hN:c.length<=N)(ht:1<=ts):SN N c ts=k7d c ts:=by
 have hz:∀ i,c.length<=i->c.getD i 0=0:=fun i hi=>by rw [AH,DC hi];rfl
 unfold SN k7d
 by_cases h:ts<=c.length
 ·have e:List.range N=List.range' 0 ts++(List.range' ts (c.length - ts)++List.range' c.length (N - c.length)):=by
   rw [List.range_eq_range']
   have e1:List.range' ts (c.length - ts)++List.range' c.length (N - c.length)=List.range' ts (N - ts):=by
    have:=EU (s:=ts) (m:=c.length - ts) (n:=N - c.length)
    rw [DB h,Nat.add_comm (c.length - ts),Nat.sub_add_sub_cancel hN h] at this
    exact this
   rw [e1]
   have:=EU (s:=0) (m:=ts) (n:=N - ts)
   rw [DE,DB (AA h hN)] at this
   exact this.symm
  rw [e,BF,BF,List.sum_append,List.sum_append]
  rw [y1f (l:=List.range' 0 ts) fun i hi=>by
   have:=(CU.mp hi).2
   rw [Nat.div_eq_of_lt (by lia),Nat.zero_mul]]
  rw [y1f (l:=List.range' c.length (N - c.length)) fun i hi=>by
   rw [hz i (CU.mp hi).1,Nat.mul_zero]]
  lia
 ·have e:c.length - ts=0:=by lia
  rw [e]
  show _=0
  refine y1f fun i hi=>?_
  by_cases h2:i<c.length
  ·rw [Nat.div_eq_of_lt (by lia),Nat.zero_mul]
  ·rw [hz i (by lia),Nat.mul_zero]
theorem q2p(c:List Nat)(b i:Nat):(grow c b).getD i 0=c.getD i 0:=by
 unfold grow
 split
 ·by_cases h:i<c.length
  ·rw [AH,AH,DH h]
  ·have:=y1e (l:=c) (m:=List.replicate (b - c.length+1) 0) (k:=i - c.length)
   rw [show c.length+(i - c.length)=i by lia] at this
   rw [this,AH,AH,DC (l:=c) (by lia)]
   by_cases h2:i - c.length<b - c.length+1
   ·rw [List.getElem?_replicate,AR h2];rfl
   ·rw [List.getElem?_replicate,AT h2]
 ·rfl
theorem q2q(c:List Nat)(b i:Nat):(q3p c b).getD i 0=c.getD i 0+(if i=b then 1 else 0):=by
 unfold q3p
 have hl:=(y9j c b).1
 by_cases h:i=b
 ·subst h
  rw [AR rfl,AH,EH hl,q2p];rfl
 ·rw [AT h,AH,DN (Ne.symm h),<- AH,q2p];rfl
theorem j6r:∀ (N b:Nat) (g:Nat->Nat),b<N->((List.range N).map fun i=>if i=b then g i else 0).sum=g b
 | 0,b,g,h=>absurd h (EP _)
 | N+1,b,g,h=>by
  rw [List.range_succ,BF,List.sum_append]
  by_cases e:b=N
  ·subst e
   rw [y1f (l:=List.range b) fun i hi=>by
    have:=AM.mp hi
    rw [AT (by lia)]]
   simp
  ·rw [j6r N b g (by lia)]
   have:¬ N=b:=fun h=>e h.symm
   simp [this]
theorem k0f(l:List Nat)(f g:Nat->Nat):(l.map fun i=>f i+g i).sum=(l.map f).sum+(l.map g).sum:=by
 induction l with
 | nil=>rfl
 | cons x l ih=>simp only [BP,FF,ih];lia
theorem k0g{N b ts:Nat}(c:List Nat)(h:b<N):SN N (q3p c b) ts=SN N c ts+b / ts:=by
 unfold SN
 have e:(fun i=>i / ts*(q3p c b).getD i 0)=fun i=>i / ts*c.getD i 0+(if i=b then i / ts else 0):=by
  funext i
  rw [q2q]
  split<;>simp [Nat.mul_add]
 rw [e,k0f,j6r N b (fun i=>i / ts) h]
section
variable {i j:Nat} {hs:HL} {L:Lim} {H:z0b}
noncomputable def k7k(hs:HL)(x v:Str):HL:=j1g hs x++[(x,v)]
theorem k0h(A0:HAt H i j hs)(x:Str):HAt (H.set j (.lst ((j1g hs x).map z4h))) i j (j1g hs x):=
 A0.set (AA (CA _ _) A0.n) fun h hh=>A0.ok h (BG.mp hh).1
theorem k7l(lv:Nat){x v:Str}(A0:HAt H i j hs)(hx:x.length<=100000)(ho:okPat true (Txt.lower x)=true)(ho2:okPat true x=true)(hv:okPat false v=true)(hb:L.b<=j) :
  z0h mp2 (lv+3) 9 [.inst 1 i,.str x,.str v] [] L H=some (.none,H.set j (.lst ((k7k hs x v).map z4h))):=by
 have H1:=k0h A0 x
 have e:(j1g hs x).map z4h++[z4h (x,v)]=(k7k hs x v).map z4h:=by unfold k7k;rw [BF];rfl
 have hl:((j1g hs x).map z4h++[z4h (x,v)]).length<=z2k:=by
  rw [AC,AI]
  exact AA (BZ H1.n 1) (by decide)
 exact z8u (Y:=x8h 5 (.inst 1 i) 34 (.str x) 37 (.str v)) w2k rfl (y9d (z0a rfl) (z0a rfl) j5e (x8t lv A0 hx ho hb)
  (y0z (v:=z4h (x,v)) (y9e H1 rfl) H1.l (z1j (z2a (y7f (lv:=lv+1) rfl H1.a (z0a rfl) ho2) (y7f (lv:=lv+1) rfl H1.a (z0a rfl) hv))) H1.l hl hb (e▸z5p 0 _) (by rw [q7n,e];rfl)))
theorem j6s(lv:Nat){x:Str}(A0:HAt H i j hs)(hx:x.length<=100000)(ho:okPat true (Txt.lower x)=true) :
  z0h mp2 (lv+3) 11 [.inst 1 i,.str x] [] L H=some (w6y (q4v hs x),H):=
 z0v (Y:=y3v 5 (.inst 1 i) 34 (.str x)) k5o rfl (z4i (z4f (f:=14) (z0a rfl) A0.a (z1h (z0a rfl)) rfl (k6o lv A0 hx ho)))
theorem k7m(lv:Nat)(A0:HAt H i j hs):z0h mp2 (lv+1) 15 [.inst 1 i] [] L H=some (.lst ((hs.map (·.1)).map .str),H):=by
 have key:=z7c (S:=sem mp2 (z0h mp2 lv) 38) (elt:=.var 31) (Y:=y2y 5 (.inst 1 i)) (pat:=.tup [31,32]) (k:=.over) (args:=[.attr 30 (.var 5)]) (ifs:=[]) (L:=L) (H:=H) (up:=true) (xs:=hs) (enc:=z4h) (out:=fun h=>.str h.1) (test:=fun _=>true)
  (env:=fun h=>upd (upd (clear (y2y 5 (.inst 1 i)) [31,32]) 31 (.str h.1)) 32 (.str h.2)) (y1b A0 rfl) (AA A0.n (by decide)) (fun h _=>rfl) (fun h _=>rfl) (fun h _ _=>z0a rfl)
 rw [PySem.W.filter_all] at key
 have e:(hs.map (·.1)).map PV.str=hs.map fun h=>PV.str h.1:=AX
 exact z0v (Y:=y2y 5 (.inst 1 i)) k5s rfl (z4i (z0i (e▸key)))
theorem x2u(lv:Nat)(A0:HAt H i j hs):z0h mp2 (lv+1) 16 [.inst 1 i] [] L H=some (.lst ((hs.map (·.2)).map .str),H):=by
 have key:=z7c (S:=sem mp2 (z0h mp2 lv) 38) (elt:=.var 32) (Y:=y2y 5 (.inst 1 i)) (pat:=.tup [31,32]) (k:=.over) (args:=[.attr 30 (.var 5)]) (ifs:=[]) (L:=L) (H:=H) (up:=true) (xs:=hs) (enc:=z4h) (out:=fun h=>.str h.2) (test:=fun _=>true)
  (env:=fun h=>upd (upd (clear (y2y 5 (.inst 1 i)) [31,32]) 31 (.str h.1)) 32 (.str h.2)) (y1b A0 rfl) (AA A0.n (by decide)) (fun h _=>rfl) (fun h _=>rfl) (fun h _ _=>z0a rfl)
 rw [PySem.W.filter_all] at key
 have e:(hs.map (·.2)).map PV.str=hs.map fun h=>PV.str h.2:=AX
 exact z0v (Y:=y2y 5 (.inst 1 i)) k5t rfl (z4i (z0i (e▸key)))
end
noncomputable def tl(b u v:Nat):Str:=z3m ((2^u+2^v)*2^b)
noncomputable def dg(u v:Nat):Str:=⟨#[48+u,48+v]⟩
theorem k7n(b u v:Nat):tl b u v=tl b v u:=AP (fun n=>z3m (n*2^b)) (Nat.add_comm _ _)
structure w2v(w:Str):Prop where
 len:w.length<=100
 ulen:(Txt.upper w).length<=100
 llen:(Txt.lower w).length<=100
 okl:okPat true (Txt.lower w)=true
 oku:okPat true (Txt.upper w)=true
 ll:Txt.lower (Txt.lower w)=Txt.lower w
 lu:Txt.lower (Txt.upper w)=Txt.lower w
 sokl:PyData.strOk (Txt.lower w)=true
 soku:PyData.strOk (Txt.upper w)=true
noncomputable def loC(c:Nat):Nat:=if 65<=c/\c<=90 then c+32 else c
noncomputable def upC(c:Nat):Nat:=if 97<=c/\c<=122 then c - 32 else c
noncomputable def k7o(c:Nat):Bool:=decide (Unicode.lowerOf c=[loC c])&&decide (Unicode.upperOf c=[upC c])&&decide (loC (loC c)=loC c)&&decide (loC (upC c)=loC c)&&Nat.ble 32 (loC c)&&Nat.blt (loC c) 127&&Nat.ble 32 (upC c)&&Nat.blt (upC c) 127&&(Nat.beq c 44 || !Nat.beq (loC c) 44)&&decide (upC (loC c)=upC c)&&decide (upC (upC c)=upC c)
theorem k0i:(List.range' 32 95).all k7o=true:=by decide +kernel
structure w2w(c:Nat):Prop where
 lo:Unicode.lowerOf c=[loC c]
 up:Unicode.upperOf c=[upC c]
 ll:loC (loC c)=loC c
 lu:loC (upC c)=loC c
 l1:32<=loC c
 l2:loC c<127
 u1:32<=upC c
 u2:upC c<127
 ne:c≠44->loC c≠44
 ul:upC (loC c)=upC c
 uu:upC (upC c)=upC c
theorem z9j{c:Nat}(h1:32<=c)(h2:c<127):w2w c:=by
 have h:=BA.mp k0i c (CU.mpr ⟨h1,h2⟩)
 obtain⟨h,b2⟩:=AG.mp h
 obtain⟨h,b1⟩:=AG.mp h
 obtain⟨h,a9⟩:=AG.mp h
 obtain⟨h,a8⟩:=AG.mp h
 obtain⟨h,a7⟩:=AG.mp h
 obtain⟨h,a6⟩:=AG.mp h
 obtain⟨h,a5⟩:=AG.mp h
 obtain⟨h,a4⟩:=AG.mp h
 obtain⟨h,a3⟩:=AG.mp h
 obtain⟨a1,a2⟩:=AG.mp h
 refine⟨AK a1,AK a2,AK a3,AK a4,BQ a5,BQ a6,BQ a7,BQ a8,fun n e=>?_,AK b1,AK b2⟩
 rw [e] at a9
 rcases CD.mp a9 with a | a
 ·exact n (Nat.eq_of_beq_eq_true a)
 ·cases a
noncomputable abbrev Pr(x:Str):Prop:=∀ c,c∈x.cps.toList->32<=c/\c<127
theorem y1y{x y:Str}(h:x.cps.toList=y.cps.toList):x=y:=AP Str.mk (Array.toList_inj.mp h)
theorem y7s{x:Str}{f:Nat->Nat->List Nat}{g:Nat->Nat}(h:∀ i (hi:i<x.cps.size),f i x.cps[i]=[g x.cps[i]]):(⟨placed x f⟩:Str).cps.toList=x.cps.toList.map g:=by
 have e:(x.cps.mapIdx fun i c=>(f i c).toArray)=x.cps.map fun c=>#[g c]:=by
  refine Array.ext (by rw [Array.size_mapIdx,Array.size_map]) fun i h1 h2=>?_
  rw [Array.getElem_mapIdx,Array.getElem_map,h]
 show((x.cps.mapIdx fun i c=>(f i c).toArray).flatten).toList=_
 rw [e,Array.toList_flatten,Array.toList_map,AX]
 induction x.cps.toList with
 | nil=>rfl
 | cons c l ih=>exact AP (g c::·) ih
theorem z3o{x:Str}(h:Pr x):(Txt.lower x).cps.toList=x.cps.toList.map loC:=y7s fun i hi=>by
 have hc:=h _ (EW hi)
 unfold Unicode.lowerAt
 rw [FQ hi]
 have n:(x.cps[i]==0x3A3)=false:=ED fun e=>by rw [e] at hc;exact absurd hc.2 (by decide)
 dsimp only
 rw [n,Bool.false_and]
 exact(z9j hc.1 hc.2).lo
theorem z8l{x:Str}(h:Pr x):(Txt.upper x).cps.toList=x.cps.toList.map upC:=y7s fun i hi=>(z9j (h _ (EW hi)).1 (h _ (EW hi)).2).up
theorem q7x{x:Str}(h:Pr x):Pr (Txt.lower x):=fun c hc=>by
 rw [z3o h] at hc
 obtain⟨d,hd,rfl⟩:=AY.mp hc
 have k:=z9j (h d hd).1 (h d hd).2
 exact⟨k.l1,k.l2⟩
theorem x2v{x:Str}(h:Pr x):Pr (Txt.upper x):=fun c hc=>by
 rw [z8l h] at hc
 obtain⟨d,hd,rfl⟩:=AY.mp hc
 have k:=z9j (h d hd).1 (h d hd).2
 exact⟨k.u1,k.u2⟩
theorem x5m{x:Str}(h:Pr x)(hl:x.length<=100)(b:Bool):okPat b x=true:=AG.mpr ⟨AV (AA hl (by decide)),BA.mpr fun c hc=>by
 have k:=h c hc
 have n:c≠127:=DK k.2
 induction b using Bool.casesOn
 ·exact AV ⟨.inl k.1,n⟩
 ·exact AV ⟨k.1,n⟩⟩
theorem x5n{x:Str}(h:Pr x)(hl:x.length<=100):PyData.strOk x=true:=DQ.mpr fun c hc=>AV (BS (h c (ES.mpr hc)).2 (by decide))
theorem w2x{x:Str}(h:Pr x)(hl:x.length<=100):w2v x:=by
 have l1:(Txt.lower x).length<=100:=by rw [z5r,z3o h,AI,<- z5r];exact hl
 have l2:(Txt.upper x).length<=100:=by rw [z5r,z8l h,AI,<- z5r];exact hl
 refine⟨hl,l2,l1,x5m (q7x h) l1 _,x5m (x2v h) l2 _,y1y ?_,y1y ?_,x5n (q7x h) l1,x5n (x2v h) l2⟩
 ·rw [z3o (q7x h),z3o h,AX]
  exact CH fun c hc=>(z9j (h c hc).1 (h c hc).2).ll
 ·rw [z3o (x2v h),z8l h,z3o h,AX]
  exact CH fun c hc=>(z9j (h c hc).1 (h c hc).2).lu
theorem w2y{x:Str}(h:Pr x)(g:Bool):Txt.upper (dr g x)=Txt.upper x:=y1y (by
 induction g using Bool.casesOn with
 | false=>
  show(Txt.upper (Txt.lower x)).cps.toList=_
  rw [z8l (q7x h),z3o h,z8l h,AX]
  exact CH fun c hc=>(z9j (h c hc).1 (h c hc).2).ul
 | true=>
  show(Txt.upper (Txt.upper x)).cps.toList=_
  rw [z8l (x2v h),z8l h,AX]
  exact CH fun c hc=>(z9j (h c hc).1 (h c hc).2).uu)
theorem k7p:((List.range 32).all fun k=>Nat.ble (wk k).length 40&&(wk k).cps.toList.all fun c=>Nat.ble 32 c&&Nat.blt c 127)=true:=by decide +kernel
theorem y1z{k:Nat}(h:k<32):Pr (wk k)/\(wk k).length<=40:=by
 obtain⟨h1,h2⟩:=AG.mp (BA.mp k7p k (AM.mpr h))
 exact⟨fun c hc=>by
  obtain⟨a,b⟩:=AG.mp (BA.mp h2 c hc)
  exact⟨BQ a,BQ b⟩,BQ h1⟩
theorem x2w:∀ v,v<5->∀ u,u<v->z1z (2^u+2^v)=[u,v]/\2^u+2^v<32:=by decide
theorem k0j{b u v:Nat}(hb:b<28)(h:u<v)(hv:v<5):tl b u v=Txt.join z5g [wk (b+u),wk (b+v)]:=by
 obtain⟨h1,h2⟩:=x2w v hv u h
 refine(z8k hb h2).trans ?_
 unfold z2d
 rw [AT (DO (BN (Nat.two_pow_pos u) (BC _ _))),h1]
 rfl
theorem z6o(x y:Str):(Txt.join z5g [x,y]).cps.toList=x.cps.toList++[44,32]++y.cps.toList:=by
 unfold Txt.join
 rw [EO,z8h];rfl
theorem q7y{x y:Str}(hx:Pr x)(hy:Pr y):Pr (Txt.join z5g [x,y]):=fun c hc=>by
 rw [z6o] at hc
 rcases BL.mp hc with hc | hc
 ·rcases BL.mp hc with hc | hc
  ·exact hx c hc
  ·rcases AQ.mp hc with e | hc
   ·subst e;exact⟨by decide,by decide⟩
   ·rw [AO.mp hc];exact⟨by decide,by decide⟩
 ·exact hy c hc
theorem q7z{x y:Str}(hx:Pr x)(hy:Pr y):Txt.lower (Txt.join z5g [x,y])=Txt.join z5g [Txt.lower x,Txt.lower y]:=y1y (by
 rw [z3o (q7y hx hy),z6o,z6o,z3o hx,z3o hy,BF,BF];rfl)
theorem x5o{k:Nat}(h:k<32):44∉(Txt.lower (wk k)).cps.toList:=fun hm=>by
 have p:=(y1z h).1
 rw [z3o p] at hm
 obtain⟨d,hd,e⟩:=AY.mp hm
 exact(z9j (p d hd).1 (p d hd).2).ne (fun e=>(z6d h).nc (e▸hd)) e
noncomputable abbrev Up(l:Ln):Prop:=l.1<l.2.1/\l.2.1<5
theorem q5l:∀ v,v<5->∀ u,u<v->(u,v)∈prs:=by decide
theorem Up.mem{l:Ln}(h:Up l):pq l∈prs:=q5l _ h.2 _ h.1
theorem x5p:∀ p,p∈prs->p.1<p.2/\p.2<5:=by decide
theorem j6t{b:Nat}(hb:b<28){p:Nat×Nat}(hp:p∈prs):w2v (tl b p.1 p.2)/\∀ q,q∈prs->(p==q)=(Txt.lower (tl b p.1 p.2)==Txt.lower (tl b q.1 q.2)):=by
 obtain⟨p1,p2⟩:=x5p p hp
 have a1:=b32 hb (BS p1 p2)
 have a2:=b32 hb p2
 rw [k0j hb p1 p2]
 refine⟨w2x (q7y (y1z a1).1 (y1z a2).1) ?_,fun q hq=>?_⟩
 ·rw [z5r,z6o,AC,AC,<- z5r,<- z5r]
  exact AA (BM (BM (y1z a1).2 (AL 2)) (y1z a2).2) (by decide)
 ·obtain⟨q1,q2⟩:=x5p q hq
  have b1:=b32 hb (BS q1 q2)
  have b2:=b32 hb q2
  rw [k0j hb q1 q2,q7z (y1z a1).1 (y1z a2).1,q7z (y1z b1).1 (y1z b2).1,BT,BE,BE]
  refine⟨fun e=>by rw [e],fun e=>?_⟩
  have nc:∀ {i j:Nat},i<32->j<32->∀ t,t∈[Txt.lower (wk i),Txt.lower (wk j)]->44∉t.cps.toList:=fun hi hj t ht=>by
   rcases AQ.mp ht with e | ht
   ·rw [e];exact x5o hi
   ·rw [AO.mp ht];exact x5o hj
  have k:=(y1v (DV _ _) (nc a1 a2)).symm.trans ((AP (fun x=>Txt.split x z5g) e).trans (y1v (DV _ _) (nc b1 b2)))
  injection k with k1 k2
  injection k2 with k2
  exact Prod.ext (EF (y1w a1 b1 k1)) (EF (y1w a2 b2 k2))
theorem k0k{b:Nat}(hb:b<28){l:Ln}(h:Up l):w2v (tl b l.1 l.2.1):=(j6t hb h.mem).1
structure w8p(b:Nat)(p:Nat×Nat)(x:Str):Prop where
 len:x.length<=100000
 ok:okPat true x=true
 okl:okPat true (Txt.lower x)=true
 low:Txt.lower x=Txt.lower (tl b p.1 p.2)
 sok:PyData.strOk x=true
theorem j6u{b:Nat}(hb:b<28){l:Ln}(h:Up l)(g:Bool):w8p b (pq l) (dr g (tl b l.1 l.2.1)):=by
 have t:=k0k hb h
 induction g using Bool.casesOn with
 | false=>exact⟨AA t.llen (by decide),t.okl,t.ll.symm▸t.okl,t.ll,t.sokl⟩
 | true=>exact⟨AA t.ulen (by decide),t.oku,t.lu.symm▸t.okl,t.lu,t.soku⟩
noncomputable def lnT(b:Nat)(l:Ln):Str×Str:=(dr l.2.2 (tl b l.1 l.2.1),dg l.1 l.2.1)
noncomputable abbrev Ups(ls:List Ln):Prop:=∀ l,l∈ls->Up l
theorem j6v{b:Nat}(hb:b<28){l:Ln}(h:Up l){p:Nat×Nat}(hp:p∈prs){x:Str}(hx:Txt.lower x=Txt.lower (tl b p.1 p.2)):(Txt.lower (lnT b l).1==Txt.lower x)=(pq l==p):=by
 rw [hx,(j6t hb h.mem).2 p hp]
 show(Txt.lower (dr l.2.2 (tl b l.1 l.2.1))==_)=_
 rw [(j6u hb h _).low]
theorem y9l{b:Nat}(hb:b<28){p:Nat×Nat}(hp:p∈prs){x:Str}(hx:Txt.lower x=Txt.lower (tl b p.1 p.2)):∀ {ls:List Ln},Ups ls->j1g (ls.map (lnT b)) x=(ls.filter fun l=>!(pq l==p)).map (lnT b)
 | [],_=>rfl
 | l::ls,h=>by
  have ih:=y9l hb hp hx (ls:=ls) fun m hm=>h m (AE _ hm)
  have e:=j6v hb (h l AD) hp hx
  unfold j1g at ih ⊢
  rw [BP,FA,FA,e,ih]
  induction pq l==p using Bool.casesOn<;>rfl
theorem x5q{b:Nat}(hb:b<28){p:Nat×Nat}(hp:p∈prs){x:Str}(hx:Txt.lower x=Txt.lower (tl b p.1 p.2)):∀ {ls:List Ln},Ups ls->(q4v (ls.map (lnT b)) x).isSome=ls.any fun l=>pq l==p
 | [],_=>rfl
 | l::ls,h=>by
  have ih:=x5q hb hp hx (ls:=ls) fun m hm=>h m (AE _ hm)
  have e:=j6v hb (h l AD) hp hx
  unfold q4v at ih ⊢
  rw [BP,EG,e,List.any_cons]
  induction pq l==p using Bool.casesOn with
  | true=>rfl
  | false=>rw [<- ih];rfl
theorem At.t{H:z0b}{i j b:Nat}{ls:List Ln}(hb:b<28)(A:At H i j (ls.map (lnT b)))(h:Ups ls)(hn:ls.length<=500):HAt H i j (ls.map (lnT b)):=⟨A.a,A.l,by rw [AI];exact AA hn (by decide),fun x hx=>by
 obtain⟨l,hl,rfl⟩:=AY.mp hx
 exact(j6u hb (h l hl) _).len⟩
noncomputable def w2z(u v:Nat):Bool:=okPat false (dg u v)&&PyData.strOk (dg u v)
theorem k7q:∀ u,u<5->∀ v,v<5->w2z u v=true:=by decide +kernel
theorem k0l{l:Ln}(h:Up l):okPat false (dg l.1 l.2.1)=true/\PyData.strOk (dg l.1 l.2.1)=true:=AG.mp (k7q _ (BS h.1 h.2) _ h.2)
theorem w7b(H:z0b):∀ {u:Nat},u<5->j1f H (.str (Str.ofString "01234")) (u:Int)=some (.str ⟨#[48+u]⟩)
 | 0,_=>by kernel_rfl
 | 1,_=>by kernel_rfl
 | 2,_=>by kernel_rfl
 | 3,_=>by kernel_rfl
 | 4,_=>by kernel_rfl
 | n+5,h=>absurd h (CF.mpr (CO 5 n))
section
variable {P:MP} {C:z0g} {n:Nat} {Y:z0l} {L:Lim} {H Hb:z0b} {e:ME}
theorem w7c{x:Str}(h:(sem P C n).ev Y e L H=some (.str x,Hb))(hx:x.length<=100000):(sem P C (n+1)).ev Y (.prim .upper [e]) L H=some (.str (Txt.upper x),Hb):=z0s (z1h h) (AR hx)
theorem k2a{x:Str}(h:(sem P C n).ev Y e L H=some (.str x,Hb))(hx:x.length<=100000):(sem P C (n+1)).ev Y (.prim .lower [e]) L H=some (.str (Txt.lower x),Hb):=z0s (z1h h) (AR hx)
theorem q5m{g:Bool}{x:Str}{d:ME}(hg:(sem P C (n+1)).ts Y d L H=some (g,H))(h:(sem P C n).ev Y e L H=some (.str x,H))(hx:x.length<=100000) :
  (sem P C (n+2)).ev Y (.ite d (.prim .upper [e]) (.prim .lower [e])) L H=some (.str (dr g x),H):=by
 refine z6a hg ?_
 induction g using Bool.casesOn
 ·exact k2a h hx
 ·exact w7c h hx
theorem w7d{u v:Nat}{a:ME}(h:(sem P C (n+1)).ev Y e L H=some (.int (u:Int),H))(h2:(sem P C (n+1)).ev Y a L H=some (.int (v:Int),H))(hu:u<5)(hv:v<5) :
  (sem P C (n+3)).ev Y (.bin .add (.idx (.str (Str.ofString "01234")) e) (.idx (.str (Str.ofString "01234")) a)) L H=some (.str (dg u v),H):=
 z0f (z6i rfl h (z0w (L:=L) (w7b H hu))) (z6i rfl h2 (z0w (L:=L) (w7b H hv))) rfl
end
noncomputable def z7j(ls:List Ln)(t:Ln):List Ln:=if ls.any (fun l=>pq l==pq t) then ls.filter (fun l=>!(pq l==pq t)) else ls++[t]
theorem y5t{ls:List Ln}{t:Ln}(h:Ups ls)(ht:Up t):Ups (z7j ls t):=fun l hl=>by
 unfold z7j at hl
 split at hl
 ·exact h l (BG.mp hl).1
 ·rcases BL.mp hl with hl | hl
  ·exact h l hl
  ·rw [AO.mp hl];exact ht
theorem y5u(ls:List Ln)(t:Ln):(z7j ls t).length<=ls.length+1:=by
 unfold z7j
 split
 ·exact CB (CA _ _)
 ·rw [AC];exact AL _
theorem q5n{ls:List Ln}{t:Ln}(h:ls.any (fun l=>pq l==pq t)=false):(ls.filter fun l=>!(pq l==pq t))=ls:=FU.mpr fun l hl=>by rw [ER.mpr (List.any_eq_false.mp h l hl)];rfl
section
variable {C:z0g} {lv n b i j:Nat} {L:Lim} {H:z0b} {Y Y':z0l}
theorem w3a{m:Nat}{e:ME}(hb:b<28)(hm:m<32)(he:(sem mp2 (z0h mp2 (lv+1)) n).ev Y e ⟨H.length,H.length⟩ H=some (.int ((m*2^b:Nat):Int),H)):(sem mp2 (z0h mp2 (lv+1)) (n+2)).ev Y (.pure (.call 6 [e])) L H=some (.str (z3m (m*2^b)),H):=by
 have hr:m*2^b<2^32:=AZ (CK (CP hm) (Nat.pow_le_pow_right (by decide) (CP hb))) (by decide)
 have hj:JoinOk (Str.ofString ", ") ((z4x 32 0 (m*2^b)).map wk)=true:=by
  rw [q7v hb hm]
  refine q2j (AA (BM (y1x hb (z8j m)) (AL _)) ?_)
  have h3:(Str.ofString ", ").length=2:=by decide +kernel
  rw [h3,show(z3r b (z1z m)).length=(z1z m).length from AI ..]
  exact AA (BM (CK (AL 100) (z5f m)) (CK (z5f m) (AL 2))) (by decide)
 obtain⟨l,hc⟩:=x1o lv (L:=⟨H.length,H.length⟩) (H:=H) hr (AL _) hj
 exact z7g (L:=L) (v:=.str (z3m (m*2^b))) (J:=H++[.lst l]) (z1g (z1h he) hc) rfl
theorem j6w{u v:Nat}(hb:b<28)(hu:u<5)(hv:v<5)(hm:2^u+2^v<32):z0h mp2 (lv+2) 3 [.int (u:Int),.int (v:Int),.int (b:Int)] [] L H=some (.str (tl b u v),H):=
 z0v (Y:=x8h 58 (.int (u:Int)) 32 (.int (v:Int)) 45 (.int (b:Int))) w2g rfl (z4i (w3a hb hm (z0f (z0f (z0f rfl (z0a rfl) (y1s H (BS hu (by decide)))) (z0f rfl (z0a rfl) (y1s H (BS hv (by decide)))) (z2c H _ _)) (z0a rfl) (q5j H (BS hm (by decide)) (AA (BR hb) (by decide))))))
theorem w3b{hs:HL}{x:Str}(A0:HAt H i j hs)(hx:x.length<=100000)(ho:okPat true (Txt.lower x)=true):z9e mp2 (z0h mp2 (lv+3)) .in_ (.str x) (.inst 1 i) L H=some (.bool (q4v hs x).isSome,H):=
 show((y0a mp2 (z0h mp2 (lv+3)) y4f (.inst 1 i) [.str x] []).bind fun r=>(q6c r).bind fun b=>M.pure (.bool b):M PV) L H=_ from z0c (z8v k6k (j0o lv A0 hx ho)) rfl
theorem y1g{P:MP}{C:z0g}{o a e:ME}{v q w:PV}{c f:Nat}{rest:List MS}{Hb H2 Hd H4:z0b}{Q:Option (Fl×z0b)}(h:(sem P C n).ev Y e L H=some (v,Hb))(h1:(sem P C n).ev Y o L Hb=some (.inst c i,H2))(h2:(sem P C n).ev Y a L H2=some (q,Hd))(hm:P.meth c y8e=some f)(hc:C f [.inst c i,q,v] [] L Hd=some (w,H4))(hr:exs (sem P C (n+1)).ex Y rest L H4=Q) :
  exs (sem P C (n+1)).ex Y (.setIdx o a e::rest) L H=Q:=z4g (z0c h (z0c h1 (z0c h2 (z0c (z0c (z8v hm hc) rfl) rfl)))) hr
noncomputable def j1h(H:z0b)(b:Nat)(cur:List Ln):z0b:=H++[.att [(30,.ref (H.length+1))],.lst ((cur.map (lnT b)).map z4h)]
theorem k0m(cur:List Ln):At (j1h H b cur) H.length (H.length+1) (cur.map (lnT b)):=
 ⟨by unfold j1h;rw [CY (AL _),Nat.sub_self];rfl,by unfold j1h;rw [CY (BC H.length 1),CW];rfl⟩
theorem q8a(cur new:List Ln):(j1h H b cur).set (H.length+1) (.lst ((new.map (lnT b)).map z4h))=j1h H b new:=by
 unfold j1h
 rw [List.set_append_right _ _ (BC H.length 1),CW]
 rfl
noncomputable def x5r:List MS:=z7s (st w2b 1)
theorem j0w{l:Ln}(h:Up l):2^l.1+2^l.2.1<32:=(x2w _ h.2 _ h.1).2
theorem x2x{cur:List Ln}{t:Ln}(hb:b<28)(hLb:L.b<=H.length)(hu:Ups cur)(ht:Up t)(hn:cur.length<=400)(h58:Y 58=some (.int (t.1:Int)))(h32:Y 32=some (.int (t.2.1:Int)))(h48:Y 48=some (.bool t.2.2))(h45:Y 45=some (.int (b:Int)))(h118:Y 118=some (.inst 1 H.length)) :
  exs (sem mp2 (z0h mp2 (lv+3)) 39).ex Y x5r L (j1h H b cur)=some (.next (upd (upd Y 119 (.str (tl b t.1 t.2.1))) 34 (.str (dr t.2.2 (tl b t.1 t.2.1)))),j1h H b (z7j cur t)):=by
 have h5:=BS ht.1 ht.2
 have d:=j6u hb ht t.2.2
 have A0:=(k0m (H:=H) (b:=b) cur).t hb hu (AA hn (by decide))
 have hin:=w3b (lv:=lv) (L:=L) A0 d.len d.okl
 rw [x5q hb ht.mem d.low hu] at hin
 have hd:=y9l hb ht.mem d.low hu
 refine z0d (z1g (z4z (z0a h58) (z2a (z0a h32) (z0a h45))) (j6w hb h5 ht.2 (j0w ht))) (z0d (q5m (z3u rfl (z0a h48) rfl) (z0a rfl) (AA (k0k hb ht).len (by decide))) (q2h (z3u rfl (z0k (z0a rfl) (z0a h118) hin) rfl) ?_ rfl))
 unfold z7j
 induction e:cur.any fun l=>pq l==pq t using Bool.casesOn with
 | true=>
  rw [AR rfl,AR rfl]
  refine y9d (z0a h118) (z0a rfl) j5e (x8t (lv+1) A0 d.len d.okl (CB hLb)) ?_
  rw [hd,q8a];rfl
 | false=>
  rw [AT CL,AT CL]
  refine y1g (w7d (z0a h58) (z0a h32) h5 ht.2) (z0a h118) (z0a rfl) q7e (k7l lv A0 d.len d.okl d.ok (k0l ht).1 (CB hLb)) ?_
  unfold k7k
  rw [hd,q5n e,show(cur.map (lnT b)++[(dr t.2.2 (tl b t.1 t.2.1),dg t.1 t.2.1)])=(cur++[t]).map (lnT b) from(BF (l₁:=cur) (l₂:=[t]) (f:=lnT b)).symm,q8a];rfl
theorem q8b(hb:b<28)(hLb:L.b<=H.length):∀ (ts cur:List Ln) (Y:z0l),Ups ts->Ups cur->cur.length+ts.length<=400->Y 45=some (.int (b:Int))->Y 118=some (.inst 1 H.length) ->
  ∃ Y',z3c (sem mp2 (z0h mp2 (lv+3)) 39).ex (.tup [58,32,48]) x5r [] Y (ts.map z8w) L (j1h H b cur)=some (.next Y',j1h H b (ts.foldl z7j cur))/\Y' 118=some (.inst 1 H.length)
 | [],cur,Y,_,_,_,_,h118=>⟨Y,rfl,h118⟩
 | t::ts,cur,Y,ht,hu,hn,h45,h118=>by
  have t0:=ht t AD
  obtain⟨Y',q,r⟩:=q8b hb hLb ts (z7j cur t) (upd (upd (upd (upd (upd Y 58 (.int (t.1:Int))) 32 (.int (t.2.1:Int))) 48 (.bool t.2.2)) 119 (.str (tl b t.1 t.2.1))) 34 (.str (dr t.2.2 (tl b t.1 t.2.1))))
   (fun l hl=>ht l (AE _ hl)) (y5t hu t0) (AA (BZ (y5u cur t) _) (BI _ _ _▸hn)) h45 h118
  exact⟨Y',(z1x (w2r Y 58 32 48 t) (x2x hb hLb hu t0 (AA (BC _ _) hn) rfl rfl rfl h45 h118)).trans q,r⟩
noncomputable abbrev y9m(ts:List Ln):List Ln:=ts.foldl z7j []
theorem w3c{ts:List Ln}(hb:b<28)(ht:Ups ts)(hn:ts.length<=100)(hLb:L.b<=H.length)(hLa:L.ab<=H.length) :
  z0h mp2 (lv+4) 4 [.lst (ts.map z8w),.int (b:Int)] [] L H=some (.inst 1 H.length,j1h H b (y9m ts)):=by
 obtain⟨Y',q2,q3⟩:=q8b (lv:=lv) (L:=L) (H:=H) hb hLb ts [] (upd (y3v 56 (.lst (ts.map z8w)) 45 (.int (b:Int))) 118 (.inst 1 H.length)) ht (fun l hl=>(nomatch hl)) (AA (CJ (DE _)) (AA hn (by decide))) rfl rfl
 exact z0v (Y:=y3v 56 (.lst (ts.map z8w)) 45 (.int (b:Int))) w2h rfl (z0d (y9h j5d z4w (j5o (lv+1) hLa)) (y1a (up:=false) (z1p (z1h (z0a rfl)) rfl) q2 (z4i (z0a q3))))
end
theorem w3d(x y:Nat×Nat):(x==y)=decide (x=y):=by
 rw [BT,BE,BY]
theorem w3e(P:MP)(C:z0g)(x y:Nat×Nat)(L:Lim)(H:z0b):z9e P C .ne (z1s x) (z1s y) L H=some (.bool (!(x==y)),H):=
 z7o rfl ((AP (Option.map (!·)) (z9i (f:=z1s) x1t (by decide) ⟨trivial,trivial⟩ ⟨trivial,trivial⟩)).trans (by rw [w3d];rfl))
theorem w3f(P:MP)(C:z0g){x:Nat×Nat}{l:List (Nat×Nat)}(L:Lim)(H:z0b):z9e P C .in_ (z1s x) (.lst (l.map z1s)) L H=some (.bool (decide (x∈l)),H):=z7o rfl w7a
section
variable {C:z0g} {lv n:Nat} {L:Lim} {H:z0b} {Y:z0l}
theorem q8c{k:Nat}{t:Ln}(h:Y k=some (z8w t)):(sem mp2 C (n+2)).ev Y (.slice (.var k) none (some (.int 2))) L H=some (z1s (pq t),H):=
 z6l (z0a h) rfl (j0s H t)
theorem x2y{cur:List Ln}{t:Ln}(hn:cur.length<=400)(h120:Y 120=some (z8w t))(h98:Y 98=some (.lst (cur.map z8w))) :
  exs (sem mp2 C 39).ex Y (z7s (st x0v 1)) L H=some (.next (upd Y 98 (.lst ((z7j cur t).map z8w))),H):=by
 have hl:cur.length<=z2k:=AA hn (by decide)
 have k1:=z0i (z1w (S:=sem mp2 C 35) (elt:=.slice (.var 60) none (some (.int 2))) (Y:=Y) (L:=L) (H:=H) (v:=60) (ifs:=[]) (xs:=cur) (enc:=z8w) (up:=false) (test:=fun _=>true) (out:=fun l=>z1s (pq l)) (z2b h98) hl (fun _ _=>rfl) fun l _ _=>q8c (n:=33) rfl)
 rw [PySem.W.filter_all,show(cur.map fun l=>z1s (pq l))=(cur.map pq).map z1s from(AX (g:=z1s) (f:=pq) (l:=cur)).symm] at k1
 have ha:decide (pq t∈cur.map pq)=cur.any fun l=>pq l==pq t:=by
  rw [BT,BY,AY,DG]
  exact⟨fun⟨l,h1,h2⟩=>⟨l,h1,by rw [h2,DF]⟩,fun⟨l,h1,h2⟩=>⟨l,h1,BO h2⟩⟩
 refine q2h (z3u rfl (z0k (q8c (n:=34) h120) k1 (w3f _ _ _ _)) rfl) ?_ rfl
 rw [ha]
 unfold z7j
 induction cur.any fun l=>pq l==pq t using Bool.casesOn with
 | true=>
  rw [AR rfl,AR rfl]
  exact z0d (z0i (z1w (xs:=cur) (enc:=z8w) (up:=false) (test:=fun l=>!(pq l==pq t)) (out:=z8w) (z2b h98) hl (fun l _=>z2z (z3u rfl (z0k (q8c (n:=32) rfl) (q8c (n:=32) h120) (w3e _ _ _ _ _ _)) rfl)) fun l _ _=>z0a rfl)) rfl
 | false=>
  rw [AT CL,AT CL]
  refine z0d (z0f (z0a h98) (z1q (z1h (z0a h120))) (z7i H _ _ ?_)) (by rw [BF];rfl)
  rw [AC,AI]
  exact AA (BZ hn 1) (by decide)
theorem q8d:∀ (ts cur:List Ln) (Y:z0l),cur.length+ts.length<=400->Y 98=some (.lst (cur.map z8w)) ->
  ∃ Y',z3c (sem mp2 C 39).ex (.one 120) (z7s (st x0v 1)) [] Y (ts.map z8w) L H=some (.next Y',H)/\Y' 98=some (.lst ((ts.foldl z7j cur).map z8w))
 | [],cur,Y,_,h98=>⟨Y,rfl,h98⟩
 | t::ts,cur,Y,hn,h98=>by
  obtain⟨Y',q,r⟩:=q8d ts (z7j cur t) (upd (upd Y 120 (z8w t)) 98 (.lst ((z7j cur t).map z8w))) (AA (BZ (y5u cur t) _) (BI _ _ _▸hn)) rfl
  exact⟨Y',(z1x (A9:=upd Y 120 (z8w t)) rfl (x2y (t:=t) (AA (BC _ _) hn) rfl h98)).trans q,r⟩
theorem w3g{ts:List Ln}(hn:ts.length<=100):z0h mp2 (lv+1) 13 [.lst (ts.map z8w)] [] L H=some (.lst ((y9m ts).map z8w),H):=by
 obtain⟨Y',q2,q3⟩:=q8d (C:=z0h mp2 lv) (L:=L) (H:=H) ts [] (upd (y2y 56 (.lst (ts.map z8w))) 98 (.lst [])) (AA (CJ (DE _)) (AA hn (by decide))) rfl
 exact z0v (Y:=y2y 56 (.lst (ts.map z8w))) k5q rfl (z0d rfl (y1a (up:=false) (z1p (z1h (z0a rfl)) rfl) q2 (z4i (z0a q3))))
end
noncomputable def FB(bad:Bool)(run:Option (Fl×z0b))(v:PV)(H:z0b)(I:z0l->Prop):Prop:=(bad=true/\run=some (.ret v,H))\/(bad=false/\∃ Y',I Y'/\run=some (.next Y',H))
theorem FB.mono{bad:Bool}{run:Option (Fl×z0b)}{v:PV}{H:z0b}{I A7:z0l->Prop}(h:FB bad run v H I)(k:∀ Y,I Y->A7 Y):FB bad run v H A7:=h.imp id fun⟨a,Y,b,c⟩=>⟨a,Y,k Y b,c⟩
noncomputable abbrev nb(N:List (List Nat))(p:Nat):List Nat:=N.getD p []
noncomputable abbrev z0x(N:List (List Nat)):PV:=.lst (N.map fun r=>.lst (z1a r))
section
variable {P:MP} {C:z0g} {n:Nat} {L:Lim} {H:z0b} {Y:z0l} {v:PV} {I:z0l->Prop}
theorem y5v{V:Type}{k:Nat}{sk:z5w}{args:List ME}{body:List MS}{xs:List V}{enc:V->PV}(bad:V->Bool)(hsrc:z8z (sem P C n) Y sk args L H=some ((xs.map enc,false),H))
 (step:∀ z,z∈xs->∀ Y,I Y->FB (bad z) (exs (sem P C n).ex (upd Y k (enc z)) body L H) v H I)(h:I Y):FB (xs.any bad) (exs (sem P C (n+1)).ex Y [.for_ (.one k) sk args body []] L H) v H I:=by
 refine(x8q (v:=v) I bad hsrc (fun z hz Y hi=>⟨_,rfl,?_⟩) h).imp (fun⟨a,b⟩=>⟨a,q7h b⟩) fun⟨a,Y',b,c⟩=>⟨a,Y',b,z4g c rfl⟩
 exact(step z hz Y hi).imp id fun⟨a,Y',b,c⟩=>⟨a,Y',c,b⟩
theorem k0n{t:Bool}{g e:ME}(h:(sem P C (n+1)).ts Y g L H=some (t,H))(he:(sem P C n).ev Y e L H=some (v,H))(hi:I Y):FB t (exs (sem P C (n+2)).ex Y [.ifs g [.ret e] []] L H) v H I:=by
 induction t using Bool.casesOn with
 | true=>exact .inl ⟨rfl,j5j h (z4i he)⟩
 | false=>exact .inr ⟨rfl,Y,hi,q2i h rfl⟩
theorem j6x{bad:Bool}{s:MS}(h:FB bad (exs (sem P C (n+2)).ex Y [s] L H) (.bool false) H I):exs (sem P C (n+2)).ex Y [s,.ret (.bool true)] L H=some (.ret (.bool (!bad)),H):=by
 have e:=j0g Y L H (sem P C (n+2)).ex [s] [.ret (.bool true)]
 rcases h with⟨a,b⟩ | ⟨a,Y',_,b⟩
 ·rw [a];exact e.trans (z0c b rfl)
 ·rw [a];exact e.trans (z0c b (z4i rfl))
theorem z3y.row{N:List (List Nat)}(R:z3y N){p:Nat}(hp:p<5):(N.map fun r=>PV.lst (z1a r))[p]?=some (.lst (z1a (nb N p))):=by rw [BD,(R.get hp).1];rfl
theorem x2z{N:List (List Nat)}{k j p:Nat}(R:z3y N)(hp:p<5)(hj:Y j=some (z0x N))(hk:Y k=some (.int (p:Int))):(sem P C (n+2)).ev Y (.idx (.var j) (.var k)) L H=some (.lst (z1a (nb N p)),H):=z0q (z0a hj) (z0a hk) (R.row hp)
theorem y2a{N:List (List Nat)}{k j p:Nat}(R:z3y N)(hp:p<5)(hj:Y j=some (z0x N))(hk:Y k=some (.int (p:Int))):z8z (sem P C (n+2)) Y .over [.idx (.var j) (.var k)] L H=some ((z1a (nb N p),false),H):=z1p (z1h (x2z R hp hj hk)) rfl
theorem k0o{N:List (List Nat)}{j k m p q:Nat}(R:z3y N)(hp:p<5)(hj:Y j=some (z0x N))(hk:Y k=some (.int (p:Int)))(hm:Y m=some (.int (q:Int))):(sem P C (n+4)).ts Y (.cmp .nin (.var m) (.idx (.var j) (.var k))) L H=some (!(nb N p).contains q,H):=
 z3u rfl (z0k (z0a hm) (x2z R hp hj hk) (x9d _ _ _ _)) rfl
theorem j6y{a b p q:Nat}(ha:Y a=some (.int (p:Int)))(hb:Y b=some (.int (q:Int))):(sem P C (n+3)).ts Y (.cmp .ne (.var a) (.var b)) L H=some (!(p==q),H):=z3u rfl (z0k (z0a ha) (z0a hb) (k6y _ _ _ _ _ _)) rfl
theorem y9n{S:z6q}{elt:ME}{pat pat':Pat}{ifs ifs' args:List ME}{k:z5w}{items:List PV}:z3b S elt Y pat ifs [(pat',k,args,ifs')] items=z4u (fun v=>match z1t Y pat v with
  | none=>M.fail
  | some Y'=>(y4c (S.ts Y') ifs).bind fun ok=>if ok then((z8z S Y' k args).bind fun r=>(z3b S elt Y' pat' ifs' [] r.1).raised r.2) else M.pure []) items:=by kernel_rfl
theorem z6p{S:z6q}{V Z:Type}{elt:ME}{a b:Nat}{k k2:z5w}{args args2 ifs2:List ME}{xs:List V}{enc:V->PV}(ys:V->List Z){enc2:V->Z->PV}(test:V->Z->Bool)(out:V->Z->PV)
 (h1:z8z S Y k args L H=some ((xs.map enc,false),H))
 (h2:∀ x,x∈xs->z8z S (upd (clear Y [a,b]) a (enc x)) k2 args2 L H=some (((ys x).map (enc2 x),false),H))
 (ht:∀ x,x∈xs->∀ y,y∈ys x->y4c (S.ts (upd (upd (clear Y [a,b]) a (enc x)) b (enc2 x y))) ifs2 L H=some (test x y,H))
 (ho:∀ x,x∈xs->∀ y,y∈ys x->test x y=true->S.ev (upd (upd (clear Y [a,b]) a (enc x)) b (enc2 x y)) elt L H=some (out x y,H))
 (hlen:(xs.flatMap fun x=>((ys x).filter (test x)).map (out x)).length<=z2k) :
  z9y S elt Y [(.one a,k,args,[]),(.one b,k2,args2,ifs2)] L H=some (xs.flatMap fun x=>((ys x).filter (test x)).map (out x),H):=by
 refine(z1b h1).trans ((z1b (a:=xs.flatMap fun x=>((ys x).filter (test x)).map (out x)) (H':=H) ?_).trans ?_)
 ·show z3b S elt (clear Y [a,b]) (.one a) [] [(.one b,k2,args2,ifs2)] (xs.map enc) L H=_
  rw [y9n]
  refine z7b fun x hx=>?_
  refine z0c (a:=true) (Hb:=H) rfl ((z1b (h2 x hx)).trans ?_)
  show z3b S elt _ (.one b) ifs2 [] ((ys x).map (enc2 x)) L H=_
  rw [z8e,<- z9q]
  refine z7b fun y hy=>?_
  refine z0c (ht x hx y hy) ?_
  induction h:test x y using Bool.casesOn with
  | false=>rfl
  | true=>exact z0c (ho x hx y hy h) rfl
 ·rw [AR (AV hlen)];rfl
end
noncomputable def j6z(N:List (List Nat))(p q r s:Nat):Bool:=!(r==p)&&(!(s==q)&&(!(nb N p).contains r&&!(nb N q).contains s))
noncomputable def z8m(N:List (List Nat)):Bool:=!((List.range 5).any fun p=>(nb N p).any fun q=>(nb N q).any fun r=>(nb N r).any fun s=>j6z N p q r s)
noncomputable def x3a(N:List (List Nat))(u:Nat):List Nat:=(nb N u).flatMap fun v=>(nb N v).filter fun w=>!(w==u)&&!(nb N u).contains w
section
variable {C:z0g} {lv n:Nat} {L:Lim} {H:z0b} {N:List (List Nat)}
theorem k7r(R:z3y N):z0h mp2 (lv+1) 18 [z0x N] [] L H=some (.bool (z8m N),H):=by
 refine z0v (Y:=y2y 57 (z0x N)) k5v rfl (j6x (y5v (I:=fun Y=>Y 57=some (z0x N)) (xs:=List.range 5) (enc:=fun(p:Nat)=>PV.int (p:Int)) _ rfl (fun p hp Y e57=>?_) rfl))
 have p5:=AM.mp hp
 refine FB.mono (y5v (I:=fun Y=>Y 57=some (z0x N)/\Y 61=some (.int (p:Int))) (enc:=fun(p:Nat)=>PV.int (p:Int)) _ (y2a R p5 e57 rfl) (fun q hq Y ⟨e57,e61⟩=>?_) ⟨e57,rfl⟩) fun _ h=>h.1
 have q5:=(R.get p5).2.2 q hq
 refine FB.mono (y5v (I:=fun Y=>(Y 57=some (z0x N)/\Y 61=some (.int (p:Int)))/\Y 62=some (.int (q:Int))) (enc:=fun(p:Nat)=>PV.int (p:Int)) _ (y2a R q5 e57 rfl) (fun r hr Y ⟨⟨e57,e61⟩,e62⟩=>?_) ⟨⟨e57,e61⟩,rfl⟩) fun _ h=>h.1
 have r5:=(R.get q5).2.2 r hr
 refine FB.mono (y5v (I:=fun Y=>((Y 57=some (z0x N)/\Y 61=some (.int (p:Int)))/\Y 62=some (.int (q:Int)))/\Y 64=some (.int (r:Int))) (enc:=fun(p:Nat)=>PV.int (p:Int)) (j6z N p q r) (y2a R r5 e57 rfl) (fun s hs Y ⟨⟨⟨e57,e61⟩,e62⟩,e64⟩=>?_) ⟨⟨⟨e57,e61⟩,e62⟩,rfl⟩) fun _ h=>h.1
 exact k0n (z7e (z7d (j6y e64 e61) (z7d (j6y rfl e62) (z7d (k0o R p5 e57 e61 e64) (z2z (k0o R q5 e57 e62 rfl)))))) rfl ⟨⟨⟨e57,e61⟩,e62⟩,e64⟩
theorem z7k{V Z:Type}(f:V->List Z)(c:Nat):∀ l:List V,(∀ x,x∈l->(f x).length<=c)->(l.flatMap f).length<=c*l.length
 | [],_=>BK _
 | x::l,h=>by
  rw [List.flatMap_cons,AC,BH,Nat.mul_succ,Nat.add_comm]
  exact BM (z7k f c l fun y hy=>h y (AE _ hy)) (h x AD)
theorem k0p(R:z3y N){u:Nat}(hu:u<5):(x3a N u).length<=z2k:=
 AA (z7k _ 100 _ fun v hv=>AA (CA _ _) (R.get ((R.get hu).2.2 v hv)).2.1) (AA (CK (AL 100) (R.get hu).2.1) (by decide))
theorem k7s(R:z3y N){u:Nat}(hu:u<5):z0h mp2 (lv+1) 21 [z0x N,.int (u:Int)] [] L H=some (.lst (z1a (x3a N u)),H):=by
 have e:((nb N u).flatMap fun v=>((nb N v).filter fun w=>!(w==u)&&!(nb N u).contains w).map fun(w:Nat)=>PV.int (w:Int))=z1a (x3a N u):=by
  unfold z1a x3a
  rw [EL]
 have key:=z6p (S:=sem mp2 (z0h mp2 lv) 38) (Y:=y3v 57 (z0x N) 58 (.int (u:Int))) (L:=L) (H:=H) (elt:=.var 121) (a:=32) (b:=121) (k:=.over) (k2:=.over) (args:=[.idx (.var 57) (.var 58)]) (args2:=[.idx (.var 57) (.var 32)]) (ifs2:=[.andE [.cmp .ne (.var 121) (.var 58),.cmp .nin (.var 121) (.idx (.var 57) (.var 58))]])
  (enc:=fun(w:Nat)=>PV.int (w:Int)) (fun v=>nb N v) (enc2:=fun _ (w:Nat)=>PV.int (w:Int)) (fun v w=>!(w==u)&&!(nb N u).contains w) (fun v (w:Nat)=>PV.int (w:Int)) (y2a R hu rfl rfl) (fun v hv=>y2a R ((R.get hu).2.2 v hv) rfl rfl)
  (fun v hv w hw=>z2z (z7e (z7d (j6y rfl rfl) (z2z (k0o R hu rfl rfl rfl))))) (fun v hv w hw _=>z0a rfl) (by rw [e,z3f];exact k0p R hu)
 rw [e] at key
 exact z0v (Y:=y3v 57 (z0x N) 58 (.int (u:Int))) k5x rfl (z4i (z0i key))
end
theorem y2b(P:MP)(C:z0g)(l:List Nat)(L:Lim)(H:z0b):z9e P C .eq (.lst (z1a l)) (.lst []) L H=some (.bool l.isEmpty,H):=
 z7o rfl ((z9i (f:=fun l:List Nat=>PV.lst (z1a l)) (z5e y5o) (by decide) (a:=l) (b:=[]) (fun _ _=>trivial) fun _ _=>trivial).trans (by cases l<;>rfl))
theorem y9o(P:MP)(C:z0g)(l:List Nat)(L:Lim)(H:z0b):z9e P C .ne (.lst (z1a l)) (.lst []) L H=some (.bool (!l.isEmpty),H):=
 z7o rfl ((AP (Option.map (!·)) (z9i (f:=fun l:List Nat=>PV.lst (z1a l)) (z5e y5o) (by decide) (a:=l) (b:=[]) (fun _ _=>trivial) fun _ _=>trivial)).trans (by cases l<;>rfl))
noncomputable def k2b(ties:List (Nat×Nat))(out:Nat):List (List Nat):=(List.range 5).map fun u=>(z6j out).filter fun v=>(z6j out).contains u&&decide ((u,v)∈ties)
noncomputable def j7a(N:List (List Nat))(us:List Nat):List Nat:=us.filter fun u=>(x3a N u).isEmpty
noncomputable def q2r(ties:List (Nat×Nat))(h:List Nat)(out:Nat):List Nat:=if(j7a (k2b ties out) (z6j out)).isEmpty then h++z6j out else h
noncomputable def j7b(ties:List (Nat×Nat)):List Nat:=(List.range 6).foldl (q2r ties) []
theorem y9p(out:Nat):∀ u,u∈z6j out->u<5:=fun u hu=>AM.mp (BG.mp hu).1
theorem q2s(ties:List (Nat×Nat))(out:Nat):z3y (k2b ties out):=⟨AI _,fun r hr=>by
 obtain⟨u,_,rfl⟩:=AY.mp hr
 exact⟨AA (CA _ _) (AA (z6k out) (by decide)),fun q hq=>y9p out q (BG.mp hq).1⟩⟩
theorem j7c(ties:List (Nat×Nat))(h:List Nat)(out:Nat):(q2r ties h out).length<=h.length+5:=by
 unfold q2r
 split
 ·rw [AC];exact CS (z6k out) _
 ·exact BC _ _
section
variable {C:z0g} {lv n:Nat} {L:Lim} {H:z0b} {Y:z0l} {ties:List (Nat×Nat)}
theorem k7t{out:Nat}(h68:Y 68=some (.lst (z1a (z6j out))))(h63:Y 63=some (.lst (ties.map z1s))) :
  (sem mp2 C (n+9)).ev Y (.comp (.comp (.var 32) [(.one 32,.over,[.var 68],[.andE [.cmp .in_ (.var 58) (.var 68),.cmp .in_ (.tup [.var 58,.var 32]) (.var 63)]])]) [(.one 58,.range,[.int 5],[])]) L H=some (z0x (k2b ties out),H):=by
 refine(z0i (z1w (xs:=List.range 5) (enc:=fun(u:Nat)=>PV.int (u:Int)) (up:=false) (test:=fun u=>true) (out:=fun u=>PV.lst (z1a ((z6j out).filter fun v=>(z6j out).contains u&&decide ((u,v)∈ties)))) rfl (by decide) (fun u hu=>rfl) fun u hu _=>?_)).trans ?_
 ·exact z0i (z1w (xs:=z6j out) (enc:=fun(u:Nat)=>PV.int (u:Int)) (up:=false) (test:=fun v=>(z6j out).contains u&&decide ((u,v)∈ties)) (out:=fun u=>PV.int (u:Int)) (z2b h68) (AA (z6k out) (by decide))
   (fun v hv=>z2z (z7e (z7d (z3u rfl (z0k (z0a rfl) (z0a h68) (y1c _ _ _ _)) rfl) (z2z (z3u rfl (z0k (z1j (z2a (z0a rfl) (z0a rfl))) (z0a h63) (j6b _ _ _ _)) rfl))))) fun v hv _=>z0a rfl)
 ·rw [PySem.W.filter_all]
  unfold z0x k2b
  rw [AX];rfl
theorem k0q{N:List (List Nat)}{us:List Nat}(R:z3y N)(h5:∀ u,u∈us->u<5)(hl:us.length<=100)(h57:Y 57=some (z0x N))(h68:Y 68=some (.lst (z1a us))) :
  (sem mp2 (z0h mp2 (lv+1)) (n+6)).ev Y (.comp (.var 58) [(.one 58,.over,[.var 68],[.cmp .eq (.call 21 [.var 57,.var 58]) (.lst [])])]) L H=some (.lst (z1a (j7a N us)),H):=
 z0i (z1w (xs:=us) (enc:=fun(u:Nat)=>PV.int (u:Int)) (up:=false) (test:=fun u=>(x3a N u).isEmpty) (out:=fun u=>PV.int (u:Int)) (z2b h68) (AA hl (by decide))
  (fun u hu=>z2z (z3u rfl (z0k (z1g (z2a (z0a h57) (z0a rfl)) (k7s R (h5 u hu))) rfl (y2b _ _ _ _ _)) rfl)) fun u hu _=>z0a rfl)
theorem j7d{N:List (List Nat)}{us:List Nat}(R:z3y N)(h5:∀ u,u∈us->u<5)(hl:us.length<=100)(h57:Y 57=some (z0x N))(h68:Y 68=some (.lst (z1a us))) :
  (sem mp2 (z0h mp2 (lv+1)) (n+8)).ts Y (.cmp .eq (.comp (.var 58) [(.one 58,.over,[.var 68],[.cmp .eq (.call 21 [.var 57,.var 58]) (.lst [])])]) (.lst [])) L H=some ((j7a N us).isEmpty,H):=
 z3u rfl (z0k (k0q R h5 hl h57 h68) (z1q z4w) (y2b _ _ _ _ _)) rfl
theorem j0x{out:Nat}{acc:List Nat}(hn:acc.length<=100)(h66:Y 66=some (.lst (z1a acc)))(h67:Y 67=some (.int (out:Int)))(h63:Y 63=some (.lst (ties.map z1s))) :
  ∃ Y',exs (sem mp2 (z0h mp2 (lv+1)) 39).ex Y (z7s (st x0w 1)) L H=some (.next Y',H)/\Y' 66=some (.lst (z1a (q2r ties acc out)))/\Y' 63=some (.lst (ties.map z1s)):=by
 unfold q2r
 induction ho:(j7a (k2b ties out) (z6j out)).isEmpty using Bool.casesOn with
 | true=>
  refine⟨_,z0d (x5f h67) (z0d (k7t rfl h63) (q2h (t:=true) (ho▸j7d (n:=30) (q2s ties out) (y9p out) (AA (z6k out) (by decide)) rfl rfl) (z0d (z0f (z0a h66) (z0a rfl) (z7i H _ _ ?_)) rfl) rfl)),?_,h63⟩
  ·rw [AC,z3f,z3f]
   exact AA (BM hn (z6k out)) (by decide)
  ·exact AP (fun l=>some (PV.lst l)) (BF (l₁:=acc) (l₂:=z6j out)).symm
 | false=>exact⟨_,z0d (x5f h67) (z0d (k7t rfl h63) (q2i (ho▸j7d (n:=30) (q2s ties out) (y9p out) (AA (z6k out) (by decide)) rfl rfl) rfl)),h66,h63⟩
theorem y7t:∀ (os:List Nat) (acc:List Nat) (Y:z0l),acc.length+5*os.length<=100->Y 66=some (.lst (z1a acc))->Y 63=some (.lst (ties.map z1s)) ->
  ∃ Y',z3c (sem mp2 (z0h mp2 (lv+1)) 39).ex (.one 67) (z7s (st x0w 1)) [] Y (z1a os) L H=some (.next Y',H)/\Y' 66=some (.lst (z1a (os.foldl (q2r ties) acc)))
 | [],acc,Y,_,h66,_=>⟨Y,rfl,h66⟩
 | o::os,acc,Y,hn,h66,h63=>by
  obtain⟨A9,a,b,c⟩:=j0x (lv:=lv) (L:=L) (H:=H) (Y:=upd Y 67 (.int (o:Int))) (out:=o) (AA (BC _ _) hn) h66 rfl h63
  have:=j7c ties acc o
  rw [BH] at hn
  obtain⟨Y',q,r⟩:=y7t os (q2r ties acc o) A9 (by lia) b c
  exact⟨Y',(z1x (A9:=upd Y 67 (.int (o:Int))) rfl a).trans q,r⟩
theorem k0r:z0h mp2 (lv+2) 22 [.lst (ties.map z1s)] [] L H=some (.lst (z1a (j7b ties)),H):=by
 obtain⟨Y',q2,q3⟩:=y7t (lv:=lv) (L:=L) (H:=H) (ties:=ties) (List.range 6) [] (upd (y2y 63 (.lst (ties.map z1s))) 66 (.lst [])) (by decide) rfl rfl
 exact z0v (Y:=y2y 63 (.lst (ties.map z1s))) k5y rfl (z0d rfl (y1a (up:=false) rfl q2 (z4i (z0a q3))))
end
noncomputable abbrev cells(f:Nat->List Nat):z0b:=(List.range 5).map fun p=>.lst (z1a (f p))
noncomputable abbrev x5s(k:Nat):List PV:=(List.range 5).map fun p=>.ref (k+p)
noncomputable def q5o(f:Nat->List Nat)(u v:Nat):Nat->List Nat:=fun p=>if p=u then f p++[v] else f p
section
variable {C:z0g} {lv n:Nat} {L:Lim} {H:z0b} {Y:z0l} {f:Nat->List Nat}
theorem y9q{u:Nat}(hu:u<5):(H++cells f)[H.length+u]?=some (.lst (z1a (f u))):=by
 rw [CY (BC _ _),CW,BD,EE hu];rfl
theorem j7e{u v:Nat}(hu:u<5):(H++cells f).set (H.length+u) (.lst (z1a (f u)++[.int (v:Int)]))=H++cells (q5o f u v):=by
 rw [List.set_append_right _ _ (BC _ _),CW]
 congr 1
 refine List.ext_getElem (by rw [List.length_set,AI,AI]) fun p h1 h2=>?_
 rw [List.getElem_set,EJ,EJ,List.getElem_range]
 unfold q5o
 by_cases e:u=p
 ·rw [AR e,AR e.symm,<- e]
  exact AP z2u.lst (BF (l₁:=f u) (l₂:=[v])).symm
 ·rw [AT e,AT (Ne.symm e)]
theorem k0s{k u:Nat}(hu:u<5):(x5s k)[u]?=some (.ref (k+u)):=by rw [BD,EE hu];rfl
theorem q8e{u:Nat}{e:ME}(hu:u<5)(h:(sem mp2 C n).ev Y e L H=some (.str ⟨#[48+u]⟩,H)):(sem mp2 C (n+1)).ev Y (.prim .int [e]) L H=some (.int (u:Int),H):=
 z0s (z1h h) (match u,hu with | 0,_=>rfl | 1,_=>rfl | 2,_=>rfl | 3,_=>rfl | 4,_=>rfl | n+5,h=>absurd h (CF.mpr (CO 5 n)))
theorem x5t{k u v:Nat}(h:Y k=some (.str (dg u v))):(sem mp2 C (n+2)).ev Y (.idx (.var k) (.int 0)) L H=some (.str ⟨#[48+u]⟩,H):=z6i (z0a h) (j:=0) rfl rfl
theorem x5u{k u v:Nat}(h:Y k=some (.str (dg u v))):(sem mp2 C (n+2)).ev Y (.idx (.var k) (.int 1)) L H=some (.str ⟨#[48+v]⟩,H):=z6i (z0a h) (j:=1) rfl rfl
theorem k7u{o e:ME}{u v:Nat}{rest:List MS}{Q:Option (Fl×z0b)}(hu:u<5)(hv:v<5)(hf:(f u).length<=1000)(hL:L.b<=H.length)(h57:Y 57=some (.lst (x5s H.length)))(ho:(sem mp2 C (n+3)).ev Y o L (H++cells f)=some (.int (u:Int),H++cells f))(he:(sem mp2 C (n+4)).ev Y e L (H++cells f)=some (.int (v:Int),H++cells f))
 (hr:exs (sem mp2 C (n+5)).ex Y rest L (H++cells (q5o f u v))=Q):exs (sem mp2 C (n+5)).ex Y (.append (.idx (.var 57) o) e::rest) L (H++cells f)=Q:=by
 refine y0z (z0q (z0a h57) ho (k0s hu)) (y9q hu) he (y9q hu) ?_ (AA hL (BC _ _)) ?_ (by rw [j7e hu];exact hr)
 ·rw [AC,z3f];exact AA (BZ hf 1) (by decide)
 ·exact(AP (z0t 0) (BF (l₁:=f u) (l₂:=[v])).symm).trans (z4n 0 _)
noncomputable abbrev dgs(ls:List Ln):List PV:=ls.map fun(l:Ln)=>PV.str (dg l.1 l.2.1)
noncomputable def y6a(ls:List Ln)(p:Nat):List Nat:=ls.flatMap fun l=>(if p=l.1 then[l.2.1] else[])++(if p=l.2.1 then[l.1] else[])
noncomputable def z1y(ls:List Ln):List (List Nat):=(List.range 5).map (y6a ls)
theorem w3h(f:Nat->List Nat)(u v p:Nat):q5o (q5o f u v) v u p=f p++((if p=u then[v] else[])++if p=v then[u] else[]):=by
 unfold q5o
 by_cases h1:p=u
 ·by_cases h2:p=v
  ·rw [AR h2,AR h1,AR h1,AR h2,AW]
  ·rw [AT h2,AR h1,AR h1,AT h2,CG]
 ·by_cases h2:p=v
  ·rw [AR h2,AT h1,AT h1,AR h2];rfl
  ·rw [AT h2,AT h1,AT h1,AT h2];exact(CG _).symm
theorem y9r(f:Nat->List Nat)(u v p:Nat):(q5o f u v p).length<=(f p).length+1:=by
 unfold q5o
 split
 ·rw [AC];exact AL _
 ·exact FK _
theorem q2t(hL:L.b<=H.length):∀ (ls:List Ln) (f:Nat->List Nat) (Y:z0l),Ups ls->(∀ p,(f p).length+2*ls.length<=999)->Y 57=some (.lst (x5s H.length)) ->
  ∃ Y',z3c (sem mp2 C 39).ex (.one 35) (z7s (st x0x 1)) [] Y (dgs ls) L (H++cells f)=some (.next Y',H++cells fun p=>f p++y6a ls p)/\Y' 57=some (.lst (x5s H.length))
 | [],f,Y,_,_,h57=>⟨Y,by rw [show(fun p=>f p++y6a [] p)=f from funext fun p=>CG _];rfl,h57⟩
 | l::ls,f,Y,hu,hn,h57=>by
  have u0:=hu l AD
  have h5:=BS u0.1 u0.2
  obtain⟨Y',q,r⟩:=q2t hL ls (q5o (q5o f l.1 l.2.1) l.2.1 l.1) (upd Y 35 (.str (dg l.1 l.2.1))) (fun m hm=>hu m (AE _ hm)) (fun p=>by
   have a:=y9r (q5o f l.1 l.2.1) l.2.1 l.1 p
   have b:=y9r f l.1 l.2.1 p
   have c:=hn p
   rw [BH] at c
   lia) h57
  have e:(fun p=>q5o (q5o f l.1 l.2.1) l.2.1 l.1 p++y6a ls p)=fun p=>f p++y6a (l::ls) p:=funext fun p=>by
   rw [w3h,AW];rfl
  rw [e] at q
  have b0:∀ p,(f p).length<=999:=fun p=>AA (BC _ _) (hn p)
  have st:exs (sem mp2 C 39).ex (upd Y 35 (.str (dg l.1 l.2.1))) (z7s (st x0x 1)) L (H++cells f)=some (.next (upd Y 35 (.str (dg l.1 l.2.1))),H++cells (q5o (q5o f l.1 l.2.1) l.2.1 l.1)):=
   k7u h5 u0.2 (CB (b0 _)) hL h57 (q8e h5 (x5t rfl)) (q8e u0.2 (x5u rfl)) (k7u u0.2 h5 (AA (y9r _ _ _ _) (CI (b0 _))) hL h57 (q8e u0.2 (x5u rfl)) (q8e h5 (x5t rfl)) rfl)
  exact⟨Y',(z1x rfl st).trans q,r⟩
theorem x3b:(sem mp2 C (n+4)).ev Y (.comp (.mlst []) [(.one 58,.range,[.int 5],[])]) L H=some (.lst (x5s H.length),H++cells fun _=>[]):=by
 have h:(sem mp2 C (n+4)).ev Y (.comp (.mlst []) [(.one 58,.range,[.int 5],[])]) L H=some (.lst [.ref H.length,.ref (H++[z2u.lst []]).length,.ref (H++[z2u.lst []]++[z2u.lst []]).length,.ref (H++[z2u.lst []]++[z2u.lst []]++[z2u.lst []]).length,.ref (H++[z2u.lst []]++[z2u.lst []]++[z2u.lst []]++[z2u.lst []]).length],H++[z2u.lst []]++[z2u.lst []]++[z2u.lst []]++[z2u.lst []]++[z2u.lst []]):=rfl
 rw [h]
 simp only [AW,AC]
 rfl
theorem x3c:frz H.length (H++cells f) (.lst (x5s H.length))=some (z0x ((List.range 5).map f)):=by
 have h:∀ u,u<5->frz H.length (H++cells f) (.ref (H.length+u))=some (.lst (z1a (f u))):=fun u hu=>by
  show(if _ then _ else _)=_
  rw [AT (CF.mpr (BC _ _)),z1f (y9q hu)]
  exact AR (z4n _ _)
 show(q8v H.length (H++cells f) (.ref (H.length+0)::.ref (H.length+1)::.ref (H.length+2)::.ref (H.length+3)::.ref (H.length+4)::[])).map PV.lst=_
 simp only [q8v,h 0 (by decide),h 1 (by decide),h 2 (by decide),h 3 (by decide),h 4 (by decide)]
 rfl
theorem k7v{ls:List Ln}{e:ME}(hu:Ups ls)(hn:ls.length<=400)(he:∀ L,(sem mp2 (z0h mp2 (lv+1)) n).ev Y e L H=some (.lst (dgs ls),H)) :
  (sem mp2 (z0h mp2 (lv+1)) (n+2)).ev Y (.pure (.call 23 [e])) L H=some (z0x (z1y ls),H):=by
 obtain⟨Y',q2,q3⟩:=q2t (C:=z0h mp2 lv) (L:=⟨H.length,H.length⟩) (H:=H) (AL _) ls (fun _=>[]) (upd (y2y 103 (.lst (dgs ls))) 57 (.lst (x5s H.length))) hu (fun p=>by show 0+_<=_;lia) rfl
 have hc:z0h mp2 (lv+1) 23 [.lst (dgs ls)] [] ⟨H.length,H.length⟩ H=some (.lst (x5s H.length),_):=z0v (Y:=y2y 103 (.lst (dgs ls))) k5z rfl (z0d x3b (y1a (up:=false) (z1p (z1h (z0a rfl)) rfl) q2 (z4i (z0a q3))))
 exact z7g (L:=L) (z1g (z1h (he _)) hc) x3c
end
noncomputable def z9t(N B:List (List Nat)):Bool:=!((List.range 5).any fun u=>(nb N u).any fun v=>q5f B u v)
noncomputable abbrev z3w(b:Nat)(M:Nat->Nat):List PV:=(List.range 5).map fun p=>.str (z3m (M p*2^b))
noncomputable abbrev z3a(M:Nat->Nat):List (List Nat):=(List.range 5).map fun p=>z1z (M p)
theorem q2u(M:Nat->Nat):z3y (z3a M):=⟨AI _,fun r hr=>by
 obtain⟨p,_,rfl⟩:=AY.mp hr
 exact⟨AA (z5f _) (by decide),z8j _⟩⟩
section
variable {C:z0g} {lv n b:Nat} {L:Lim} {H:z0b} {Y:z0l} {N:List (List Nat)} {M:Nat->Nat}
theorem k7w{e:ME}{x:Str}(he:(sem mp2 C (n+1)).ev Y e L H=some (.str x,H))(h:x.length<=100000):(sem mp2 C (n+2)).ev Y (.prim .split [e,.str (Str.ofString ", ")]) L H=some (.lst ((Txt.split x z5g).map .str),H):=
 z0s (z2a he rfl) (j0v _ h)
theorem w3i(hb:b<28)(hM:∀ p,p<5->M p<32)(h55:Y 55=some (.lst ((W b).map .str)))(h87:Y 87=some (.lst (z3w b M))) :
  (sem mp2 C (n+9)).ev Y (.comp (.comp (.var 47) [(.one 47,.over,[.prim .split [.var 75,.str (Str.ofString ", ")]],[.cmp .in_ (.var 47) (.var 55)])]) [(.one 75,.over,[.var 87],[])]) L H=some (.lst (y5r b (z3a M)),H):=by
 refine(z0i (z1w (xs:=List.range 5) (enc:=fun p=>PV.str (z3m (M p*2^b))) (up:=false) (test:=fun _=>true) (out:=fun p=>PV.lst ((z3r b (z1z (M p))).map .str)) (z2b h87) (by decide) (fun _ _=>rfl) fun p hp _=>?_)).trans ?_
 ·have hm:=hM p (AM.mp hp)
  have sp:=fun L=>k7w (C:=C) (L:=L) (H:=H) (Y:=upd Y 75 (.str (z3m (M p*2^b)))) (n:=n+5) (z0a (k:=75) (v:=.str (z3m (M p*2^b))) rfl) (AA (y7q hb hm) (by decide))
  rw [y2s hb hm] at sp
  have k2:=z1w (S:=sem mp2 C (n+7)) (elt:=.var 47) (Y:=upd Y 75 (.str (z3m (M p*2^b)))) (v:=47) (k:=.over) (ifs:=[.cmp .in_ (.var 47) (.var 55)]) (L:=Lup false L H) (H:=H)
   (xs:=z2d b (M p)) (enc:=PV.str) (up:=false) (test:=fun x=>decide (x∈W b)) (out:=PV.str) (z1p (z1h (sp _)) rfl) (AA (q5k b (M p)) (by decide))
   (fun x hx=>z2z (z3u rfl (z0k (z0a rfl) (z0a h55) (x1v _ _ (q2o hb _ x hx) (k0d hb) _ _)) rfl)) fun x hx _=>z0a rfl
  rw [j6q hb] at k2
  exact z0i k2
 ·rw [PySem.W.filter_all]
  unfold y5r z3a
  rw [AX];rfl
theorem k0t{B:List (List Nat)}{x y:List Nat}(hb:b<28)(h71:Y 71=some (.lst ((z3r b x).map .str)))(h72:Y 72=some (.lst ((z3r b y).map .str)))(hx:∀ q,q∈x->q<5)(hy:∀ q,q∈y->q<5) :
  (sem mp2 C (n+4)).ts Y (.andE [.cmp .ne (.var 71) (.lst []),.cmp .ne (.var 72) (.lst [])]) L H=some (!x.isEmpty&&!y.isEmpty,H):=by
 have e:∀ r:List Nat,(z3r b r).isEmpty=r.isEmpty:=fun r=>by cases r<;>rfl
 refine z7e (z7d (z3u rfl (z0k (z0a h71) (z1q z4w) (j6g _ _ (y1d hb hx) _ _)) ?_) (z2z (z3u rfl (z0k (z0a h72) (z1q z4w) (j6g _ _ (y1d hb hy) _ _)) ?_)))
 ·rw [e];rfl
 ·rw [e];rfl
theorem j7f(hb:b<28)(R:z3y N)(hM:∀ p,p<5->M p<32):z0h mp2 (lv+1) 20 [.lst (z3w b M),.lst ((W b).map .str),z0x N] [] L H=some (.bool (z9t N (z3a M)),H):=by
 have RB:=q2u M
 refine z0v (Y:=x8h 87 (.lst (z3w b M)) 55 (.lst ((W b).map .str)) 57 (z0x N)) k5w rfl (z0d (w3i hb hM rfl rfl) (j6x (y5v (I:=fun Y=>Y 57=some (z0x N)/\Y 55=some (.lst ((W b).map .str))/\Y 70=some (.lst (y5r b (z3a M)))) (xs:=List.range 5) (enc:=fun(p:Nat)=>PV.int (p:Int)) _ rfl (fun u hu Y ⟨e57,e55,e70⟩=>?_) ⟨rfl,rfl,rfl⟩)))
 have u5:=AM.mp hu
 refine FB.mono (y5v (I:=fun Y=>(Y 57=some (z0x N)/\Y 55=some (.lst ((W b).map .str))/\Y 70=some (.lst (y5r b (z3a M))))/\Y 58=some (.int (u:Int))) (enc:=fun(p:Nat)=>PV.int (p:Int)) (q5f (z3a M) u) (y2a R u5 e57 rfl) (fun v hv Y ⟨⟨e57,e55,e70⟩,e58⟩=>?_) ⟨⟨e57,e55,e70⟩,rfl⟩) fun _ h=>h.1
 have v5:=(R.get u5).2.2 v hv
 have m1:=q7s (C:=z0h mp2 lv) (L:=L) (H:=H) (n:=29) (Y:=upd Y 32 (.int (v:Int))) (ku:=58) (kv:=32) hb RB u5 v5 e70 e55 (by decide) (by decide) e58 rfl
 have m2:=q7s (C:=z0h mp2 lv) (L:=L) (H:=H) (n:=29) (Y:=upd (upd Y 32 (.int (v:Int))) 71 (.lst ((z3r b (q5e (z3a M) u v)).map .str))) (ku:=32) (kv:=58) hb RB v5 u5 e70 e55 (by decide) (by decide) rfl e58
 have key:FB (q5f (z3a M) u v) _ (.bool false) H _:=k0n (I:=fun Y=>(Y 57=some (z0x N)/\Y 55=some (.lst ((W b).map .str))/\Y 70=some (.lst (y5r b (z3a M))))/\Y 58=some (.int (u:Int))) (C:=z0h mp2 lv) (P:=mp2) (n:=36) (e:=.bool false) (L:=L)
  (k0t (n:=33) (B:=z3a M) (Y:=upd (upd (upd Y 32 (.int (v:Int))) 71 (.lst ((z3r b (q5e (z3a M) u v)).map .str))) 72 (.lst ((z3r b (q5e (z3a M) v u)).map .str))) hb rfl rfl (fun q hq=>(RB.get u5).2.2 q (BG.mp hq).1) fun q hq=>(RB.get v5).2.2 q (BG.mp hq).1) rfl ⟨⟨e57,e55,e70⟩,e58⟩
 exact key.imp (fun⟨a,b⟩=>⟨a,z0d m1 (z0d m2 b)⟩) fun⟨a,Y',b,c⟩=>⟨a,Y',b,z0d m1 (z0d m2 c)⟩
end
noncomputable def y2t(N:List (List Nat)):List Nat:=(List.range 5).filter fun u=>!(nb N u).isEmpty&&(x3a N u).isEmpty
noncomputable def prT(h v:Nat):Nat×Nat:=if h<v then(h,v) else(v,h)
noncomputable def k7x(cur:List Ln)(h v:Nat):List Ln:=cur.filter fun l=>!(pq l==prT h v)
noncomputable def y3a(cur:List Ln):List Ln:=match y2t (z1y cur) with
 | []=>cur
 | h::_=>cur.filter fun l=>!(l.1==h)&&!(l.2.1==h)
noncomputable def q2v(ls:List Ln):List Ln:=(List.range 5).foldl (fun c _=>y3a c) ls
theorem y2u{V Z:Type}(p:Z->V->Bool):∀ (vs:List Z) (cur:List V),vs.foldl (fun c v=>c.filter (p v)) cur=cur.filter fun l=>vs.all fun v=>p v l
 | [],cur=>(PySem.W.filter_all cur).symm
 | v::vs,cur=>by
  rw [DA,y2u p vs,List.filter_filter]
  refine CQ fun l _=>?_
  rw [List.all_cons,Bool.and_comm]
theorem y4b(f:Nat->List Nat){p:Nat}(hp:p<5):nb ((List.range 5).map f) p=f p:=by
 unfold nb
 rw [AH,BD,EE hp];rfl
theorem z3g{ls:List Ln}{p q:Nat}:q∈y6a ls p↔∃ l,l∈ls/\((p=l.1/\q=l.2.1)\/(p=l.2.1/\q=l.1)):=by
 unfold y6a
 rw [CX]
 refine⟨fun⟨l,h,k⟩=>⟨l,h,?_⟩,fun⟨l,h,k⟩=>⟨l,h,?_⟩⟩
 ·rcases BL.mp k with k | k
  ·by_cases e:p=l.1
   ·rw [AR e] at k;exact .inl ⟨e,AO.mp k⟩
   ·rw [AT e] at k;exact absurd k BB
  ·by_cases e:p=l.2.1
   ·rw [AR e] at k;exact .inr ⟨e,AO.mp k⟩
   ·rw [AT e] at k;exact absurd k BB
 ·rcases k with⟨a,b⟩ | ⟨a,b⟩
  ·rw [AR a,b];exact CN _ (AO.mpr rfl)
  ·rw [AR a,b];exact BU _ (AO.mpr rfl)
theorem z9u{ls:List Ln}(hu:Ups ls){p q:Nat}(h:q∈y6a ls p):q<5/\q≠p:=by
 obtain⟨l,hl,h⟩:=z3g.mp h
 have u:=hu l hl
 rcases h with⟨a,b⟩ | ⟨a,b⟩
 ·rw [a,b];exact⟨u.2,DO u.1⟩
 ·rw [a,b];exact⟨BS u.1 u.2,DK u.1⟩
theorem j7g{c:Prop}[Decidable c](x:Nat):(if c then[x] else[]).length<=1:=by
 split
 ·exact AL 1
 ·exact BK 1
theorem x3d{ls:List Ln}(p:Nat):(y6a ls p).length<=2*ls.length:=z7k _ 2 _ fun l _=>by
 rw [AC]
 exact BM (j7g _) (j7g _)
theorem y7u{ls:List Ln}(hu:Ups ls)(hn:ls.length<=50):z3y (z1y ls):=⟨AI _,fun r hr=>by
 obtain⟨p,_,rfl⟩:=AY.mp hr
 exact⟨AA (x3d p) (CK (AL 2) hn),fun q hq=>(z9u hu hq).1⟩⟩
theorem k7y{h v:Nat}(h5:h<5)(v5:v<5)(n:v≠h)(b:Nat):prT h v∈prs/\tl b h v=tl b (prT h v).1 (prT h v).2/\2^h+2^v<32:=by
 unfold prT
 by_cases e:h<v
 ·rw [AR e];exact⟨q5l _ v5 _ e,rfl,(x2w _ v5 _ e).2⟩
 ·have e':v<h:=Nat.lt_of_le_of_ne (CF.mp e) n
  rw [AT e];exact⟨q5l _ h5 _ e',k7n b h v,Nat.add_comm _ _▸(x2w _ h5 _ e').2⟩
theorem x3e{cur:List Ln}(hu:Ups cur)(h:Nat):(y6a cur h).foldl (k7x · h) cur=cur.filter fun l=>!(l.1==h)&&!(l.2.1==h):=by
 unfold k7x
 rw [y2u (fun v l=>!(pq l==prT h v))]
 refine CQ fun l hl=>?_
 have u:=hu l hl
 rw [BT,BA,EK]
 simp only [DJ,EX]
 constructor
 ·intro k
  refine⟨fun e=>k l.2.1 (z3g.mpr ⟨l,hl,.inl ⟨e.symm,rfl⟩⟩) ?_,fun e=>k l.1 (z3g.mpr ⟨l,hl,.inr ⟨e.symm,rfl⟩⟩) ?_⟩
  ·unfold prT;rw [<- e,AR u.1];rfl
  ·unfold prT;rw [<- e,AT (CF.mpr (BR u.1))];rfl
 ·rintro⟨a,b⟩ v hv e
  unfold prT at e
  split at e
  ·exact a (AP Prod.fst e)
  ·exact b (AP Prod.snd e)
theorem y9s(n:Nat)(H:z0b):∀ l:List Str,q8v n H (l.map .str)=some (l.map .str)
 | []=>rfl
 | x::l=>by
  show(frz n H (.str x)).bind (fun q=>(q8v n H (l.map .str)).map fun qs=>q::qs)=_
  rw [y9s n H l];rfl
noncomputable abbrev stT(H:z0b)(j b:Nat)(cur:List Ln):z0b:=H.set j (.lst ((cur.map (lnT b)).map z4h))
section
variable {lv n b i j:Nat} {L:Lim} {H:z0b} {Y:z0l}
theorem q8f{k:Nat}{hs:HL}(A0:HAt H i j hs)(hk:Y k=some (.inst 1 i)):(sem mp2 (z0h mp2 (lv+1)) (n+3)).ev Y (.pure (.meth 103 (.var k) [])) L H=some (.lst ((hs.map (·.2)).map .str),H):=
 z7g (L:=L) (z4f (z0a hk) A0.a z4w x1e (x2u lv A0)) (AP (Option.map PV.lst) (y9s _ _ _))
theorem j7h{k:Nat}{hs:HL}(A0:HAt H i j hs)(hk:Y k=some (.inst 1 i)):(sem mp2 (z0h mp2 (lv+1)) (n+3)).ev Y (.pure (.meth 102 (.var k) [])) L H=some (.lst ((hs.map (·.1)).map .str),H):=
 z7g (L:=L) (z4f (z0a hk) A0.a z4w x1d (k7m lv A0)) (AP (Option.map PV.lst) (y9s _ _ _))
theorem k7z(cur:List Ln):(((cur.map (lnT b)).map (·.2)).map PV.str)=dgs cur:=by rw [AX,AX];rfl
theorem j7i{k:Nat}{cur:List Ln}(hb:b<28)(hu:Ups cur)(hn:cur.length<=50)(A:At H i j (cur.map (lnT b)))(hk:Y k=some (.inst 1 i)):(sem mp2 (z0h mp2 (lv+1)) (n+5)).ev Y (.pure (.call 23 [.pure (.meth 103 (.var k) [])])) L H=some (z0x (z1y cur),H):=
 k7v hu (AA hn (by decide)) fun L=>(q8f (A.t hb hu (AA hn (by decide))) hk).trans (by rw [k7z])
theorem x3f{N:List (List Nat)}(R:z3y N)(h57:Y 57=some (z0x N)) :
  (sem mp2 (z0h mp2 (lv+1)) (n+8)).ev Y (.comp (.var 58) [(.one 58,.range,[.int 5],[.andE [.cmp .ne (.idx (.var 57) (.var 58)) (.lst []),.cmp .eq (.call 21 [.var 57,.var 58]) (.lst [])]])]) L H=some (.lst (z1a (y2t N)),H):=
 z0i (z1w (xs:=List.range 5) (enc:=fun(u:Nat)=>PV.int (u:Int)) (up:=false) (test:=fun u=>!(nb N u).isEmpty&&(x3a N u).isEmpty) (out:=fun u=>PV.int (u:Int)) rfl (by decide)
  (fun u hu=>z2z (z7e (z7d (z3u rfl (z0k (x2z R (AM.mp hu) h57 rfl) (z1q z4w) (y9o _ _ _ _ _)) rfl) (z2z (z3u rfl (z0k (z1g (z2a (z0a h57) (z0a rfl)) (k7s R (AM.mp hu))) (z1q z4w) (y2b _ _ _ _ _)) rfl))))) fun u hu _=>z0a rfl)
theorem x5v(A:∃ hs,At H i j hs)(cur:List Ln):At (stT H j b cur) i j (cur.map (lnT b)):=A.elim fun _ A=>A.set
theorem q8g{h:Nat}{t:List PV}(hb:b<28)(h5:h<5)(A:∃ hs,At H i j hs)(hL:L.b<=j):∀ (vs:List Nat) (cur:List Ln) (Y:z0l),Ups cur->cur.length<=50->(∀ v,v∈vs->v<5/\v≠h)->Y 73=some (.inst 1 i)->Y 123=some (.lst (.int (h:Int)::t))->Y 45=some (.int (b:Int)) ->
  ∃ Y',z3c (sem mp2 (z0h mp2 (lv+2)) 38).ex (.one 32) [.delIdx (.var 73) (.call 3 [.idx (.var 123) (.int 0),.var 32,.var 45])] [] Y (z1a vs) L (stT H j b cur)=some (.next Y',stT H j b (vs.foldl (k7x · h) cur))/\Y' 73=some (.inst 1 i)/\Y' 45=some (.int (b:Int))
 | [],cur,Y,_,_,_,h73,_,h45=>⟨Y,rfl,h73,h45⟩
 | v::vs,cur,Y,hu,hn,hv,h73,h123,h45=>by
  obtain⟨v5,vn⟩:=hv v AD
  obtain⟨p1,p2,p3⟩:=k7y h5 v5 vn b
  have A0:=(x5v A cur).t hb hu (AA hn (by decide))
  have tk:=(j6t hb p1).1
  have lo:Txt.lower (tl b h v)=Txt.lower (tl b (prT h v).1 (prT h v).2):=AP Txt.lower p2
  obtain⟨Y',q,r⟩:=q8g hb h5 A hL vs (k7x cur h v) (upd Y 32 (.int (v:Int))) (fun l hl=>hu l (BG.mp hl).1) (AA (CA _ _) hn) (fun w hw=>hv w (AE _ hw)) h73 h123 h45
  have hd:=x8t lv (x:=tl b h v) (L:=L) A0 (p2▸AA tk.len (by decide)) (lo▸tk.okl) hL
  rw [y9l hb p1 lo hu,q7n] at hd
  have st:exs (sem mp2 (z0h mp2 (lv+2)) 38).ex (upd Y 32 (.int (v:Int))) [.delIdx (.var 73) (.call 3 [.idx (.var 123) (.int 0),.var 32,.var 45])] L (stT H j b cur)=some (.next (upd Y 32 (.int (v:Int))),stT H j b (k7x cur h v)):=
   y9d (z0a h73) (z1g (z4z (z0q (k:=0) (z0a h123) rfl rfl) (z2a (z0a rfl) (z0a h45))) (j6w hb h5 v5 p3)) j5e hd rfl
  exact⟨Y',(z1x rfl st).trans q,r⟩
theorem j7j{cur:List Ln}(hb:b<28)(A:∃ hs,At H i j hs)(hL:L.b<=j)(hu:Ups cur)(hn:cur.length<=50)(h73:Y 73=some (.inst 1 i))(h45:Y 45=some (.int (b:Int))) :
  ∃ Y',exs (sem mp2 (z0h mp2 (lv+2)) 39).ex Y (z7s (st x0y 0)) L (stT H j b cur)=some (.next Y',stT H j b (y3a cur))/\Y' 73=some (.inst 1 i)/\Y' 45=some (.int (b:Int)):=by
 have R:=y7u hu hn
 have s1:=j7i (lv:=lv+1) (n:=33) (L:=L) (Y:=Y) hb hu hn (x5v A cur) h73
 have s2:=x3f (lv:=lv+1) (n:=30) (L:=L) (H:=stT H j b cur) (Y:=upd Y 57 (z0x (z1y cur))) R rfl
 have hb5:∀ u,u∈y2t (z1y cur)->u<5:=fun u hu=>AM.mp (BG.mp hu).1
 unfold y3a
 generalize y2t (z1y cur)=hs at s2 hb5
 induction hs using List.casesOn with
 | nil=>
  exact⟨upd (upd Y 57 (z0x (z1y cur))) 123 (.lst []),z0d s1 (z0d s2 (x5a (up:=false) (z1p (z1h (z6a (t:=false) (z3u rfl (z0k (z0a rfl) (z1q z4w) (y9o _ _ [] _ _)) rfl) (z1q z4w))) rfl) rfl)),h73,h45⟩
 | cons h t=>
  have h5:=hb5 h AD
  obtain⟨Y',q,r⟩:=q8g (lv:=lv) (t:=z1a t) hb h5 A hL (y6a cur h) cur (upd (upd Y 57 (z0x (z1y cur))) 123 (.lst (z1a (h::t)))) hu hn (fun v hv=>z9u hu hv) h73 rfl h45
  rw [x3e hu] at q
  refine⟨Y',z0d s1 (z0d s2 (y1a (up:=false) (z1p (z1h (z6a (t:=true) (z3u rfl (z0k (z0a rfl) (z1q z4w) (y9o _ _ (h::t) _ _)) rfl) (z0q (k:=h) (z0a rfl) (z0q (k:=0) (z0a rfl) rfl rfl) (R.row h5)))) ?_) q rfl)),r⟩
  unfold z1y
  rw [y4b _ h5];rfl
theorem j7k{cur:List Ln}:∀ l,l∈y3a cur->l∈cur:=fun l hl=>by
 unfold y3a at hl
 split at hl
 ·exact hl
 ·exact(BG.mp hl).1
theorem j7l(cur:List Ln):(y3a cur).length<=cur.length:=by
 unfold y3a
 split
 ·exact AL _
 ·exact CA _ _
theorem q2w(hb:b<28)(A:∃ hs,At H i j hs)(hL:L.b<=j):∀ (os:List Nat) (cur:List Ln) (Y:z0l),Ups cur->cur.length<=50->Y 73=some (.inst 1 i)->Y 45=some (.int (b:Int)) ->
  ∃ Y',z3c (sem mp2 (z0h mp2 (lv+2)) 39).ex (.one 122) (z7s (st x0y 0)) [] Y (z1a os) L (stT H j b cur)=some (.next Y',stT H j b (os.foldl (fun c _=>y3a c) cur))
 | [],cur,Y,_,_,_,_=>⟨Y,rfl⟩
 | o::os,cur,Y,hu,hn,h73,h45=>by
  obtain⟨A9,a,c,d⟩:=j7j (lv:=lv) (L:=L) (Y:=upd Y 122 (.int (o:Int))) hb A hL hu hn h73 h45
  obtain⟨Y',q⟩:=q2w hb A hL os (y3a cur) A9 (fun l hl=>hu l (j7k l hl)) (AA (j7l cur) hn) c d
  exact⟨Y',(z1x rfl a).trans q⟩
theorem j7m{ls:List Ln}(hb:b<28)(A:At H i j (ls.map (lnT b)))(hL:L.b<=j)(hu:Ups ls)(hn:ls.length<=50):z0h mp2 (lv+3) 24 [.inst 1 i,.int (b:Int)] [] L H=some (.none,stT H j b (q2v ls)):=by
 obtain⟨Y',q⟩:=q2w (lv:=lv) (L:=L) hb ⟨_,A⟩ hL (List.range 5) ls (y3v 73 (.inst 1 i) 45 (.int (b:Int))) hu hn rfl rfl
 rw [show stT H j b ls=H from A.refl_set] at q
 exact z8u (Y:=y3v 73 (.inst 1 i) 45 (.int (b:Int))) k6a rfl (y1a (up:=false) rfl q rfl)
end
noncomputable abbrev Pg:=Nat×Str×Bool×List Nat
noncomputable def gr(l:Pg):Pg:=(l.1,l.2.1,true,l.2.2.2)
noncomputable def ins(a:Nat)(f:Pg->Pg):List Pg->List Pg
 | []=>[]
 | l::r=>if l.1=a then l::f l::r.map gr else l::ins a f r
theorem y1h{a:Nat}{f:Pg->Pg}{l:Pg}{R:List Pg}(h:l.1=a):∀ {A:List Pg},(∀ m,m∈A->m.1≠a)->ins a f (A++l::R)=A++l::f l::R.map gr
 | [],_=>AR h
 | m::A,k=>(AT (k m AD)).trans (AP (m::·) (y1h h fun x hx=>k x (AE _ hx)))
theorem y9t{a:Nat}{S:List Pg}(h:a∈S.map (·.1)):∃ A l R,S=A++l::R/\l.1=a/\∀ m,m∈A->m.1≠a:=by
 induction S with
 | nil=>exact absurd h BB
 | cons m S ih=>
  by_cases e:m.1=a
  ·exact⟨[],m,S,rfl,e,fun _ h=>absurd h BB⟩
  ·rw [BP] at h
   obtain⟨A,l,R,h1,h2,h3⟩:=ih ((AQ.mp h).resolve_left (Ne.symm e))
   refine⟨m::A,l,R,by rw [h1];rfl,h2,fun x hx=>?_⟩
   rcases AQ.mp hx with e' | hx
   ·rw [e'];exact e
   ·exact h3 x hx
noncomputable def abv(order:List Nat)(N:List (List Nat))(k:Nat):List Nat:=(order.take k).filter fun u=>(nb N (order.getD k 0)).contains u
noncomputable def z2t(pc:Nat->Str)(v:Nat)(h:Pg):Pg:=(v,h.2.1++pc v,false,h.2.2.2++[h.1])
noncomputable def z5a(order:List Nat)(N:List (List Nat))(pc:Nat->Str)(S:List Pg)(k:Nat):List Pg:=match(abv order N k).getLast? with
 | none=>S++[(order.getD k 0,pc (order.getD k 0),false,[])]
 | some a=>ins a (z2t pc (order.getD k 0)) S
structure z2p(x:Str)(n:Nat):Prop where
 len:x.length<=n
 ok:∀ c,c∈x.cps.toList->c=32\/c=9
theorem z2p.add{x y:Str}{m n:Nat}(h:z2p x m)(k:z2p y n):z2p (x++y) (m+n):=⟨by rw [strLen_append];exact BM h.len k.len,fun c hc=>by
 rw [z2q] at hc
 exact(BL.mp hc).elim (h.ok c) (k.ok c)⟩
theorem z2p.pat{x:Str}{n:Nat}(h:z2p x n)(hn:n<=100):okPat false x=true:=AG.mpr ⟨AV (AA h.len (AA hn (by decide))),BA.mpr fun c hc=>by
 rcases h.ok c hc with e | e
 ·rw [e];rfl
 ·rw [e];rfl⟩
theorem z2p.sok{x:Str}{n:Nat}(h:z2p x n):PyData.strOk x=true:=DQ.mpr fun c hc=>AV (by
 rcases h.ok c (ES.mpr hc) with e | e
 ·rw [e];decide
 ·rw [e];decide)
structure y2c(order:List Nat)(pc:Nat->Str):Prop where
 len:order.length=5
 nd:order.Nodup
 lt:∀ u,u∈order->u<5
 pc:∀ v,v<5->z2p (pc v) 2
theorem y2c.at{order:List Nat}{pc:Nat->Str}(O:y2c order pc){k:Nat}(hk:k<5):order[k]?=some (order.getD k 0)/\order.getD k 0<5/\order.take (k+1)=order.take k++[order.getD k 0]/\order.getD k 0∉order.take k:=by
 have hl:k<order.length:=by rw [O.len];exact hk
 have e:order[k]?=some (order.getD k 0):=by rw [AH,AN hl];rfl
 have t:order.take (k+1)=order.take k++[order.getD k 0]:=by rw [List.take_add_one,e];rfl
 refine⟨e,O.lt _ (CE e),t,fun hm=>?_⟩
 have nd:=(List.take_sublist (k+1) order).nodup O.nd
 rw [t,DI] at nd
 exact nd.2.2 _ hm _ (AO.mpr rfl) rfl
structure y3b(order:List Nat)(k:Nat)(S:List Pg):Prop where
 mem:∀ u,u∈S.map (·.1)↔u∈order.take k
 nd:(S.map (·.1)).Nodup
 lead:∀ l,l∈S->z2p l.2.1 (2*k)
 len:S.length=k
theorem y3b.lt{order:List Nat}{pc:Nat->Str}(O:y2c order pc){k:Nat}{S:List Pg}(I:y3b order k S):∀ l,l∈S->l.1<5:=fun l hl=>O.lt _ (List.mem_of_mem_take ((I.mem _).mp (CT hl)))
theorem q5p{order:List Nat}{N:List (List Nat)}{k a:Nat}(h:(abv order N k).getLast?=some a):a∈order.take k:=(BG.mp (List.mem_of_getLast? h)).1
theorem z2p.mono{x:Str}{m n:Nat}(h:z2p x m)(k:m<=n):z2p x n:=⟨AA h.len k,h.ok⟩
theorem y3b.step{order:List Nat}{pc:Nat->Str}(O:y2c order pc){k:Nat}{S:List Pg}(I:y3b order k S)(hk:k<5)(N:List (List Nat)):y3b order (k+1) (z5a order N pc S k):=by
 obtain⟨e1,e2,e3,e4⟩:=O.at hk
 have up:∀ {x:Str},z2p x (2*k)->z2p x (2*(k+1)):=fun h=>h.mono (CK (AL 2) (FK k))
 unfold z5a
 induction h:(abv order N k).getLast? using Option.casesOn with
 | none=>
  refine⟨fun u=>?_,?_,fun l hl=>?_,?_⟩
  ·rw [BF,BL,e3,BL,I.mem];rfl
  ·rw [BF,DI]
   refine⟨I.nd,DL.mpr ⟨BB,DR⟩,fun x hx y hy e=>?_⟩
   rw [e,AO.mp hy] at hx
   exact e4 ((I.mem _).mp hx)
  ·rcases BL.mp hl with hl | hl
   ·exact up (I.lead l hl)
   ·rw [AO.mp hl];exact(O.pc _ e2).mono (CK (AL 2) (CI (BK k)))
  ·rw [AC,I.len];rfl
 | some a=>
  obtain⟨A,l,R,q1,q2,q3⟩:=y9t ((I.mem a).mpr (q5p h))
  obtain⟨mem,nd,lead,len⟩:=I
  subst q1
  have hg:(R.map gr).map (fun x:Pg=>x.1)=R.map (fun x=>x.1):=by rw [AX];rfl
  have e:(A++l::z2t pc (order.getD k 0) l::R.map gr).map (fun x:Pg=>x.1)=A.map (fun x=>x.1)++l.1::order.getD k 0::R.map (fun x=>x.1):=by rw [BF,BP,BP,hg];rfl
  have p:(A.map (fun x:Pg=>x.1)++l.1::order.getD k 0::R.map (fun x=>x.1)).Perm (order.getD k 0::(A++l::R).map (fun x=>x.1)):=by
   rw [BF,BP]
   exact(((List.Perm.swap _ _ _)).append_left _).trans List.perm_middle
  dsimp only
  rw [y1h q2 q3]
  refine⟨fun u=>?_,?_,fun m hm=>?_,?_⟩
  ·rw [e,p.mem_iff,AQ,mem,e3,BL,AO,Or.comm]
  ·rw [e,p.nodup_iff,DL]
   exact⟨fun hm=>e4 ((mem _).mp hm),nd⟩
  ·rcases BL.mp hm with hm | hm
   ·exact up (lead m (CN _ hm))
   ·rcases AQ.mp hm with hm | hm
    ·rw [hm];exact up (lead l (BU _ AD))
    ·rcases AQ.mp hm with hm | hm
     ·rw [hm];exact(lead l (BU _ AD)).add (O.pc _ e2)
     ·obtain⟨m',hm',rfl⟩:=AY.mp hm
      exact up (lead m' (BU _ (AE _ hm')))
  ·rw [<- len,AC,AC,BH,BH,BH,AI];rfl
theorem q2x{order:List Nat}{N B:List (List Nat)}(pc:Nat->Str)(S:List Pg)(k:Nat)(h:∀ u,u∈order->(nb N (order.getD k 0)).contains u=(nb B (order.getD k 0)).contains u):z5a order N pc S k=z5a order B pc S k:=by
 have e:abv order N k=abv order B k:=CQ fun u hu=>h u (List.mem_of_mem_take hu)
 unfold z5a
 rw [e]
noncomputable abbrev y6k(order:List Nat)(N:List (List Nat))(pc:Nat->Str)(k:Nat):List Pg:=(List.range k).foldl (z5a order N pc) []
theorem y7v(order:List Nat)(N:List (List Nat))(pc:Nat->Str)(k:Nat):y6k order N pc (k+1)=z5a order N pc (y6k order N pc k) k:=by
 unfold y6k
 rw [List.range_succ,DP];rfl
theorem q8h(order:List Nat):y3b order 0 []:=⟨fun u=>Iff.rfl,DR,fun l hl=>absurd hl BB,rfl⟩
noncomputable def lnP(b:Nat)(l:Pg):Str×Str:=(dr l.2.2.1 (wk (b+l.1)),l.2.1)
theorem y2d{V:Type}(l:V)(R:List V):∀ A:List V,(A++l::R).drop (A.length+1)=R
 | []=>rfl
 | _::A=>y2d l R A
theorem q2y{V:Type}(l:V)(R:List V):∀ A:List V,(A++l::R)[A.length]?=some l
 | []=>rfl
 | _::A=>q2y l R A
theorem k0u{b v:Nat}(hb:b<28){l:Pg}(h:l.1<5)(hv:v<5){x:Str}(hx:Txt.lower x=Txt.lower (wk (b+v))):(Txt.lower (lnP b l).1==Txt.lower x)=(l.1==v):=by
 have w:=z6d (b32 hb h)
 rw [hx,show Txt.lower (lnP b l).1=Txt.lower (wk (b+l.1)) from y7h w,BT,BE,BE]
 exact⟨fun e=>EF (y1w (b32 hb h) (b32 hb hv) e),fun e=>by rw [e]⟩
theorem k8a{b v:Nat}(hb:b<28)(hv:v<5){x:Str}(hx:Txt.lower x=Txt.lower (wk (b+v))):∀ {S:List Pg},(∀ l,l∈S->l.1<5)->j1g (S.map (lnP b)) x=(S.filter fun l=>!(l.1==v)).map (lnP b)
 | [],_=>rfl
 | l::S,h=>by
  have ih:=k8a hb hv hx (S:=S) fun m hm=>h m (AE _ hm)
  have e:=k0u hb (h l AD) hv hx
  unfold j1g at ih ⊢
  rw [BP,FA,FA,e,ih]
  induction l.1==v using Bool.casesOn<;>rfl
theorem k0v{b:Nat}(hb:b<28){l:Pg}{R:List Pg}(hv:l.1<5){x:Str}(hx:Txt.lower x=Txt.lower (wk (b+l.1))):∀ {A:List Pg},(∀ m,m∈A->m.1<5/\m.1≠l.1)->q4v ((A++l::R).map (lnP b)) x=some l.2.1
 | [],_=>by
  have e:=k0u hb hv hv hx
  unfold q4v
  rw [List.nil_append,BP,EG,e,DF];rfl
 | m::A,h=>by
  have ih:=k0v hb hv hx (R:=R) (A:=A) fun y hy=>h y (AE _ hy)
  have e:=k0u hb (h m AD).1 hv hx
  unfold q4v at ih ⊢
  rw [List.cons_append,BP,EG,e,ED (h m AD).2]
  exact ih
theorem z8n{S:List Pg}{v:Nat}(h:∀ m,m∈S->m.1≠v):(S.filter fun l=>!(l.1==v))=S:=FU.mpr fun m hm=>by rw [ED (h m hm)];rfl
noncomputable abbrev j7n(H:z0b)(hs:HL):z0b:=H++[.att [(30,.ref (H.length+1))],.lst (hs.map z4h)]
theorem x5w(H:z0b)(hs:HL):At (j7n H hs) H.length (H.length+1) hs:=
 ⟨by rw [CY (AL _),Nat.sub_self];rfl,by rw [CY (BC H.length 1),CW];rfl⟩
theorem k0w(H:z0b)(hs hs':HL):(j7n H hs).set (H.length+1) (.lst (hs'.map z4h))=j7n H hs':=by
 rw [List.set_append_right _ _ (BC H.length 1),CW]
 rfl
noncomputable abbrev z7u(H:z0b)(b:Nat)(S:List Pg):z0b:=j7n H (S.map (lnP b))
section
variable {lv n b:Nat} {L:Lim} {H:z0b} {Y:z0l} {N:List (List Nat)} {order:List Nat} {pc:Nat->Str}
theorem w0z{S:List Pg}(hb:b<28)(h5:∀ l,l∈S->l.1<5)(hn:S.length<=100):HAt (z7u H b S) H.length (H.length+1) (S.map (lnP b)):=⟨(x5w H _).a,(x5w H _).l,by rw [AI];exact AA hn (by decide),fun x hx=>by
 obtain⟨l,hl,rfl⟩:=AY.mp hx
 exact AA (y7i (z6d (b32 hb (h5 l hl)))) (by decide)⟩
theorem q2z{i j:Nat}{hs:HL}{o e:ME}{x v:Str}(A0:HAt H i j hs)(ho:(sem mp2 (z0h mp2 (lv+3)) n).ev Y o L H=some (.inst 1 i,H))(he:(sem mp2 (z0h mp2 (lv+3)) n).ev Y e L H=some (.str x,H))(hx:x.length<=100000)(hl:okPat true (Txt.lower x)=true)(hg:q4v hs x=some v) :
  (sem mp2 (z0h mp2 (lv+3)) (n+1)).ev Y (.idx o e) L H=some (.str v,H):=z0c ho (z0c he (z8v k6j ((j6s lv A0 hx hl).trans (by rw [hg];rfl))))
theorem k0x{S:List Pg}{x:Str}{l:Pg}(hb:b<28)(h5:∀ m,m∈S->m.1<5)(hn:S.length<=100)(hL:L.b<=H.length)(hv:l.1<5)(hx:x=dr l.2.2.1 (wk (b+l.1)))(hp:okPat false l.2.1=true) :
  z0h mp2 (lv+3) 9 [.inst 1 H.length,.str x,.str l.2.1] [] L (z7u H b S)=some (.none,z7u H b ((S.filter fun m=>!(m.1==l.1))++[l])):=by
 have w:=z6d (b32 hb hv)
 have lo:Txt.lower x=Txt.lower (wk (b+l.1)):=hx▸y7h w
 have h:=k7l (L:=L) lv (x:=x) (v:=l.2.1) (w0z hb h5 hn) (AA (hx▸y7i w) (by decide)) (lo▸w.okl) (hx▸w2o w) hp (CB hL)
 unfold k7k at h
 rw [k8a hb hv lo h5,k0w,hx] at h
 rw [hx]
 exact h.trans (AP (fun z=>some (PV.none,j7n H z)) (BF (l₁:=S.filter fun m=>!(m.1==l.1)) (l₂:=[l]) (f:=lnP b)).symm)
theorem j7o(hb:b<28)(hL:L.b<=H.length):∀ (R A T:List Pg) (Y:z0l),(∀ m,m∈A++R++T->m.1<5/\z2p m.2.1 100)->(A++R++T).length<=100->(∀ l,l∈R->(∀ m,m∈A->m.1≠l.1)/\∀ m,m∈T->m.1≠l.1)->R.Pairwise (fun l m=>m.1≠l.1)->Y 90=some (.inst 1 H.length) ->
  ∃ Y',z3c (sem mp2 (z0h mp2 (lv+3)) (n+4)).ex (.one 34) [.setIdx (.var 90) (.prim .upper [.var 34]) (.idx (.var 90) (.var 34))] [] Y (R.map fun l=>.str (lnP b l).1) L (z7u H b (A++R++T))=some (.next Y',z7u H b (A++T++R.map gr))/\∀ j,j≠34->Y' j=Y j
 | [],A,T,Y,_,_,_,_,h90=>⟨Y,by rw [List.map_nil,CG,List.map_nil,CG];rfl,fun _ _=>rfl⟩
 | l::R,A,T,Y,h5,hn,hd,hp,h90=>by
  obtain⟨d1,d2⟩:=hd l AD
  obtain⟨p1,p2⟩:=List.pairwise_cons.mp hp
  obtain⟨l5,ll⟩:=h5 l (CN _ (BU _ AD))
  have w:=z6d (b32 hb l5)
  have eS:A++l::R++T=A++l::(R++T):=by rw [AW];rfl
  have A0:=w0z (H:=H) hb (fun m hm=>(h5 m hm).1) hn
  have hs:=k0x (lv:=lv) (l:=gr l) (x:=Txt.upper (lnP b l).1) (L:=L) (S:=A++l::R++T) hb (fun m hm=>(h5 m hm).1) hn hL l5 (w2y (y1z (b32 hb l5)).1 _) (ll.pat (AL _))
  have ef:((A++l::R++T).filter fun m:Pg=>!(m.1==l.1))++[gr l]=A++R++(T++[gr l]):=by
   rw [eS,List.filter_append,z8n d1,FA,DF l.1]
   show A++(R++T).filter (fun m:Pg=>!(m.1==l.1))++[gr l]=_
   rw [List.filter_append,z8n p1,z8n d2,AW,AW,AW]
  have hs':=hs.trans (AP (fun z=>some (PV.none,z7u H b z)) ef)
  obtain⟨Y',q,r⟩:=j7o hb hL R A (T++[gr l]) (upd Y 34 (.str (lnP b l).1)) (fun m hm=>by
   rw [<- AW] at hm
   rcases BL.mp hm with hm | hm
   ·refine h5 m (eS▸?_)
    rcases BL.mp hm with hm | hm
    ·rcases BL.mp hm with hm | hm
     ·exact CN _ hm
     ·exact BU _ (AE _ (CN _ hm))
    ·exact BU _ (AE _ (BU _ hm))
   ·rw [AO.mp hm];exact⟨l5,ll⟩) (by
   refine AA (CJ ?_) hn
   rw [eS]
   simp only [AC,BH,List.length_nil,Nat.add_assoc,DE]) (fun m hm=>⟨(hd m (AE _ hm)).1,fun x hx=>by
    rcases BL.mp hx with hx | hx
    ·exact(hd m (AE _ hm)).2 x hx
    ·rw [AO.mp hx];exact Ne.symm (p1 m hm)⟩) p2 h90
  have hg:q4v ((A++l::R++T).map (lnP b)) (lnP b l).1=some l.2.1:=by
   rw [eS]
   exact k0v hb l5 (y7h w) fun m hm=>⟨(h5 m (CN _ (CN _ hm))).1,d1 m hm⟩
  have hx:(lnP b l).1.length<=100000:=AA (y7i w) (by decide)
  have st:exs (sem mp2 (z0h mp2 (lv+3)) (n+4)).ex (upd Y 34 (.str (lnP b l).1)) [.setIdx (.var 90) (.prim .upper [.var 34]) (.idx (.var 90) (.var 34))] L (z7u H b (A++l::R++T))=some (.next (upd Y 34 (.str (lnP b l).1)),z7u H b (A++R++(T++[gr l]))):=
   y1g (q2z A0 (z0a h90) (z0a rfl) hx ((y7h w (g:=l.2.2.1))▸w.okl) hg) (z0a h90) (w7c (z0a rfl) hx) q7e hs' rfl
  have eT:A++(T++[gr l])++R.map gr=A++T++gr l::R.map gr:=by
   rw [<- AW A T,AW (A++T)];rfl
  exact⟨Y',(z1x rfl st).trans (q.trans (AP (fun z=>some (Fl.next Y',z7u H b z)) eT)),fun j hj=>(r j hj).trans (AT hj)⟩
end
theorem x3g{P:MP}{C:z0g}{l:List PV}{v:PV}(h:l.getLast?=some v)(L:Lim)(H:z0b):j8r P C (.lst l) (.int (-1)) L H=some (v,H):=by
 rw [List.getLast?_eq_getElem?] at h
 have hl:=(AS.mp h).1
 have e:z6r l.length (-1)=some (l.length - 1):=by
  obtain⟨m,hm⟩:=Nat.exists_eq_succ_of_ne_zero (DO (AZ (BK _) hl))
  have e1:(-1:Int)+((m+1:Nat):Int)=(m:Int):=by rw [Int.natCast_add,Int.add_comm];exact Int.add_neg_cancel_right _ _
  rw [hm]
  unfold z6r
  rw [AT (by decide),e1,AR (DZ m)];rfl
 exact z0w (L:=L) (show((z6r l.length (-1)).bind fun j=>l[j]?)=some v by rw [e];exact h)
theorem q8i{V:Type}{f:V->PyData}{l:V}{R:List V}(hl:PyData.eqv (f l) (f l)=true):∀ {A:List V},(∀ m,m∈A->PyData.eqv (f m) (f l)=false)->z7w (f l) ((A++l::R).map f)=some A.length
 | [],_=>(q7w _ _ _).trans (AR hl)
 | m::A,h=>by
  exact(q7w _ _ _).trans ((AT (ER.mp (h m AD))).trans (AP (Option.map (·+1)) (q8i hl fun x hx=>h x (AE _ hx))))
theorem y5w{P:MP}{H:z0b}{V:Type}[DecidableEq V]{g:V->PV}{f:V->PyData}{l:V}{A R:List V}(hd:∀ m,m∈A++l::R->z1n (g m)=some (f m))(h0:(f l).depth=0)(hl:PyData.eqv (f l) (f l)=true)(h:∀ m,m∈A->PyData.eqv (f m) (f l)=false):z4p P .index H [.lst ((A++l::R).map g),g l]=some (.int ((A.length:Nat):Int)):=by
 have hds:z0n ((A++l::R).map g)=some ((A++l::R).map f):=z7h (A6:=fun m=>z1n (g m)=some (f m)) (fun a ha=>ha) _ hd
 show((z0n ((A++l::R).map g)).bind fun ds=>(z1n (g l)).bind fun d=>if d.depth=0 then(z7w d ds).map fun(n:Nat)=>PV.int (n:Int) else none)=_
 rw [hds,hd l (BU _ AD)]
 show(if(f l).depth=0 then(z7w (f l) ((A++l::R).map f)).map (fun(n:Nat)=>PV.int (n:Int)) else none)=_
 rw [AR h0,q8i hl h];rfl
theorem y2v{V:Type}:∀ {l:List V},l.isEmpty=l.getLast?.isNone
 | []=>rfl
 | a::l=>by rw [List.getLast?_eq_some_getLast (DV a l)];rfl
section
variable {C:z0g} {P:MP} {lv n b:Nat} {L:Lim} {H:z0b} {Y:z0l} {N:List (List Nat)} {order:List Nat} {pc:Nat->Str}
theorem x5x{k a:Nat}{l:List Nat}(h:l.getLast?=some a)(hk:Y k=some (.lst (z1a l))):(sem P C (n+3)).ev Y (.idx (.var k) (.neg (.int 1))) L H=some (.int (a:Int),H):=
 z0c (z0a hk) (z0c (a:=.int (-1)) (Hb:=H) rfl (x3g (by rw [List.getLast?_map,h];rfl) L H))
noncomputable abbrev j7p(pc:Nat->Str):List PV:=(List.range 5).map fun v=>.str (pc v)
theorem k0y(pc:Nat->Str){v:Nat}(hv:v<5):(j7p pc)[v]?=some (.str (pc v)):=by rw [BD,EE hv];rfl
theorem y9u{l:List Nat}{k v:Nat}(h:l[k]?=some v):(z1a l)[k]?=some (.int (v:Int)):=by rw [BD,h];rfl
theorem k8b{g:ME}{k:Nat}(R:z3y N)(O:y2c order pc)(hk:k<5)(h57:Y 57=some (z0x N))(h124:Y 124=some (.lst (z1a order)))(h31:Y 31=some (.int (k:Int)))(hg:∀ u:Nat,(sem P C (n+2)).ev (upd Y 58 (.int (u:Int))) g L H=some (.int (order.getD k 0:Int),H)) :
  (sem P C (n+6)).ev Y (.comp (.var 58) [(.one 58,.over,[.slice (.var 124) none (some (.var 31))],[.cmp .in_ (.var 58) (.idx (.var 57) g)])]) L H=some (.lst (z1a (abv order N k)),H):=
 z0i (z1w (xs:=order.take k) (enc:=fun(u:Nat)=>PV.int (u:Int)) (up:=false) (test:=fun u=>(nb N (order.getD k 0)).contains u) (out:=fun u=>PV.int (u:Int))
  (z1p (z1h (z6l (z0a h124) (z0a h31) (by rw [z8x H _ (AA (BR hk) (by decide)),j6e]))) rfl) (AA (FV _ _) (AA (BR hk) (by decide)))
  (fun u hu=>z2z (z3u rfl (z0k (z0a rfl) (z0q (z0a h57) (hg u) (R.row (O.at hk).2.1)) (y1c _ _ _ _)) rfl)) fun u hu _=>z0a rfl)
structure PgE(b:Nat)(order:List Nat)(N:List (List Nat))(pc:Nat->Str)(i:Nat)(Y:z0l):Prop where
 e124:Y 124=some (.lst (z1a order))
 e57:Y 57=some (z0x N)
 e55:Y 55=some (.lst ((W b).map .str))
 e125:Y 125=some (.lst (j7p pc))
 e90:Y 90=some (.inst 1 i)
theorem q5q(S:List Pg):((S.map (lnP b)).map (·.1)).map PV.str=S.map fun l=>.str (lnP b l).1:=by rw [AX,AX];rfl
theorem w3j{A R:List Pg}{l:Pg}(nd:((A++l::R).map (fun x:Pg=>x.1)).Nodup):(∀ m,m∈A->m.1≠l.1)/\(∀ m,m∈R->m.1≠l.1)/\(∀ m,m∈R->∀ x,x∈A->x.1≠m.1)/\R.Pairwise (fun l m=>m.1≠l.1):=by
 rw [BF,BP,DI,DL] at nd
 obtain⟨n1,⟨n2,n3⟩,n4⟩:=nd
 exact⟨fun m hm=>n4 _ (CT hm) _ AD,fun m hm e=>n2 (e▸CT (f:=fun x:Pg=>x.1) hm),fun m hm x hx=>n4 _ (CT hx) _ (AE _ (CT hm)),(List.pairwise_map.mp n3).imp Ne.symm⟩
theorem j7q{S:List Pg}{k:Nat}(hb:b<28)(hL:L.b<=H.length)(R:z3y N)(O:y2c order pc)(hk:k<5)(I:y3b order k S)(E:PgE b order N pc H.length Y)(h31:Y 31=some (.int (k:Int))) :
  ∃ Y',exs (sem mp2 (z0h mp2 (lv+3)) 39).ex Y (z7s (st x0z 1)) L (z7u H b S)=some (.next Y',z7u H b (z5a order N pc S k))/\PgE b order N pc H.length Y':=by
 obtain⟨e124,e57,e55,e125,e90⟩:=E
 obtain⟨o1,o2,o3,o4⟩:=O.at hk
 have h5:=I.lt O
 have hn:S.length<=5:=I.len▸BR hk
 have hn':S.length<=100:=AA hn (by decide)
 have w:=z6d (b32 hb o2)
 have wl:=AA w.len (by decide:100<=100000)
 have A0:=w0z (H:=H) hb h5 hn'
 have eo:∀ {m:Nat} {Y':z0l},Y' 124=Y 124->Y' 31=Y 31->(sem mp2 (z0h mp2 (lv+3)) (m+2)).ev Y' (.idx (.var 124) (.var 31)) L (z7u H b S)=some (.int ((order.getD k 0:Nat):Int),z7u H b S):=fun a c=>z0q (z0a (a.trans e124)) (z0a (c.trans h31)) (y9u o1)
 have s1:=k8b (P:=mp2) (C:=z0h mp2 (lv+3)) (n:=32) (Y:=Y) (L:=L) (H:=z7u H b S) (g:=.idx (.var 124) (.var 31)) R O hk e57 e124 h31 fun u=>eo rfl rfl
 have s2:(sem mp2 (z0h mp2 (lv+3)) 38).ev (upd Y 126 (.lst (z1a (abv order N k)))) (.tup [.prim .lower [.idx (.var 55) (.idx (.var 124) (.var 31))],.idx (.var 125) (.idx (.var 124) (.var 31)),.pure (.meth 102 (.var 90) [])]) L (z7u H b S)=some (.tup [.str (Txt.lower (wk (b+order.getD k 0))),.str (pc (order.getD k 0)),.lst (S.map fun l=>.str (lnP b l).1)],z7u H b S):=
  z1j (z4z (k2a (z0q (z0a e55) (eo (m:=33) rfl rfl) (q5c o2)) wl) (z2a (z0q (z0a e125) (eo (m:=34) rfl rfl) (k0y pc o2)) ((j7h (lv:=lv+2) (n:=34) (L:=L) (k:=90) A0 e90).trans (by rw [q5q]))))
 have hpc:=O.pc _ o2
 have hv:∀ m,m∈S->m.1≠order.getD k 0:=fun m hm e=>o4 ((I.mem _).mp (e▸CT (f:=fun x:Pg=>x.1) hm))
 let B0:=upd (upd (upd (upd Y 126 (.lst (z1a (abv order N k)))) 47 (.str (Txt.lower (wk (b+order.getD k 0))))) 127 (.str (pc (order.getD k 0)))) 27 (.lst (S.map fun l=>.str (lnP b l).1))
 have tt:(sem mp2 (z0h mp2 (lv+3)) 38).ts B0 (.cmp .eq (.var 126) (.lst [])) L (z7u H b S)=some ((abv order N k).getLast?.isNone,z7u H b S):=by
  rw [<- y2v]
  exact z3u rfl (z0k (z0a rfl) (z1q z4w) (y2b _ _ _ _ _)) rfl
 unfold z5a
 induction h:(abv order N k).getLast? using Option.casesOn with
 | none=>
  rw [h] at tt
  have hs:=k0x (lv:=lv) (L:=L) (H:=H) (S:=S) (l:=(order.getD k 0,pc (order.getD k 0),false,[])) hb h5 hn' hL o2 rfl (hpc.pat (by decide))
  rw [z8n hv] at hs
  exact⟨B0,z0d s1 (y0y s2 rfl (q2h tt (y1g (z0a rfl) (z0a e90) (z0a rfl) q7e hs rfl) rfl)),e124,e57,e55,e125,e90⟩
 | some a=>
  rw [h] at tt
  obtain⟨A,l,T,q1,q2,q3⟩:=y9t ((I.mem a).mpr (q5p h))
  obtain⟨mem,nd,lead,len⟩:=I
  subst q1
  obtain⟨n1,n2,n3,n4⟩:=w3j nd
  have l5:=h5 l (BU _ AD)
  have ll:=lead l (BU _ AD)
  have wa:=z6d (b32 hb l5)
  have wal:=AA wa.len (by decide:100<=100000)
  have a5:a<5:=q2▸l5
  let Y3:=upd B0 128 (.str (wk (b+a)))
  let Y4:=upd Y3 129 (.int ((A.length:Nat):Int))
  have t1:(sem mp2 (z0h mp2 (lv+3)) 37).ev B0 (.idx (.var 55) (.idx (.var 126) (.neg (.int 1)))) L (z7u H b (A++l::T))=some (.str (wk (b+a)),z7u H b (A++l::T)):=z0q (z0a e55) (x5x h rfl) (q5c a5)
  have t2:(sem mp2 (z0h mp2 (lv+3)) 37).ev Y3 (.prim .index [.comp (.prim .lower [.var 34]) [(.one 34,.over,[.var 27],[])],.prim .lower [.var 128]]) L (z7u H b (A++l::T))=some (.int ((A.length:Nat):Int),z7u H b (A++l::T)):=by
   have low:∀ m,m∈A++l::T->Txt.lower (lnP b m).1=Txt.lower (wk (b+m.1)):=fun m hm=>y7h (z6d (b32 hb (h5 m hm)))
   have c:=z0i (n:=35) (z1w (S:=sem mp2 (z0h mp2 (lv+3)) 35) (elt:=.prim .lower [.var 34]) (Y:=Y3) (v:=34) (k:=.over) (args:=[.var 27]) (ifs:=[]) (L:=L) (H:=z7u H b (A++l::T)) (xs:=A++l::T) (enc:=fun l=>.str (lnP b l).1) (up:=false) (test:=fun _=>true) (out:=fun m=>.str (Txt.lower (wk (b+m.1)))) (z2b rfl) (AA hn (by decide)) (fun _ _=>rfl)
    fun m hm _=>(k2a (z0a rfl) (AA (y7i (z6d (b32 hb (h5 m hm)))) (by decide))).trans (AP (fun z=>some (PV.str z,z7u H b (A++l::T))) (low m hm)))
   rw [PySem.W.filter_all] at c
   have lo:(sem mp2 (z0h mp2 (lv+3)) 36).ev Y3 (.prim .lower [.var 128]) L (z7u H b (A++l::T))=some (.str (Txt.lower (wk (b+l.1))),z7u H b (A++l::T)):=(k2a (z0a rfl) (q2▸wal)).trans (by rw [q2])
   exact z0s (z2a c lo) (y5w (g:=fun m:Pg=>PV.str (Txt.lower (wk (b+m.1)))) (f:=fun m=>.str (Txt.lower (wk (b+m.1)))) (fun m hm=>y7r (z6d (b32 hb (h5 m hm))).sokl) rfl (DF (Txt.lower (wk (b+l.1)))) fun m hm=>ED fun e=>n1 m hm (EF (y1w (b32 hb (h5 m (CN _ hm))) (b32 hb l5) e)))
  have hg:=k0v (x:=wk (b+l.1)) (R:=T) hb l5 rfl (A:=A) fun m hm=>⟨h5 m (CN _ hm),n1 m hm⟩
  have t3:(sem mp2 (z0h mp2 (lv+3)) 37).ev Y4 (.bin .add (.idx (.var 90) (.var 128)) (.var 127)) L (z7u H b (A++l::T))=some (.str (l.2.1++pc (order.getD k 0)),z7u H b (A++l::T)):=
   z0f (q2z A0 (z0a e90) (z0a (v:=.str (wk (b+l.1))) (by rw [q2];rfl)) wal wa.okl hg) (z0a rfl) (add_str _ (AA (BM ll.len hpc.len) (AA (BM (CK (AL 2) (BR hk)) (AL 2)) (by decide))))
  have hln:=ll.add hpc
  have hs:=k0x (lv:=lv) (L:=L) (H:=H) (S:=A++l::T) (l:=z2t pc (order.getD k 0) l) hb h5 hn' hL o2 rfl (hln.pat (AA (BM (CK (AL 2) (BR hk)) (AL 2)) (by decide)))
  have ef:((A++l::T).filter fun m:Pg=>!(m.1==(z2t pc (order.getD k 0) l).1))++[z2t pc (order.getD k 0) l]=(A++[l])++T++[z2t pc (order.getD k 0) l]:=by
   rw [show((A++l::T).filter fun m:Pg=>!(m.1==(z2t pc (order.getD k 0) l).1))=A++l::T from z8n hv,AW A [l]];rfl
  have hs':=hs.trans (AP (fun z=>some (PV.none,z7u H b z)) ef)
  have mem':∀ m,m∈(A++[l])++T++[z2t pc (order.getD k 0) l]->m.1<5/\z2p m.2.1 100:=fun m hm=>by
   rw [AW A [l]] at hm
   rcases BL.mp hm with hm | hm
   ·exact⟨h5 m hm,(lead m hm).mono (AA (CK (AL 2) (BR hk)) (by decide))⟩
   ·rw [AO.mp hm];exact⟨o2,hln.mono (AA (BM (CK (AL 2) (BR hk)) (AL 2)) (by decide))⟩
  obtain⟨Y',g,r⟩:=j7o (lv:=lv) (n:=33) hb hL T (A++[l]) [z2t pc (order.getD k 0) l] Y4 mem' (by
    rw [AW A [l],AC]
    exact AA (BZ hn 1) (by decide)) (fun m hm=>⟨fun x hx=>by
    rcases BL.mp hx with hx | hx
    ·exact n3 m hm x hx
    ·rw [AO.mp hx];exact Ne.symm (n2 m hm),fun x hx=>by
    rw [AO.mp hx];exact Ne.symm (hv m (BU _ (AE _ hm)))⟩) n4 e90
  have sr:z8z (sem mp2 (z0h mp2 (lv+3)) 37) Y4 .over [.slice (.var 27) (some (.bin .add (.var 129) (.int 1))) none] L (z7u H b ((A++[l])++T++[z2t pc (order.getD k 0) l]))=some ((T.map fun l=>.str (lnP b l).1,false),z7u H b ((A++[l])++T++[z2t pc (order.getD k 0) l])):=by
   refine z1p (z1h (y7l (z0a rfl) (z0f (z0a rfl) rfl (z2c _ A.length 1)) (y7k _ _ ?_))) ?_
   ·rw [AC] at hn
    exact AA (CI (AA (BC _ _) hn)) (by decide)
   ·have hd:=y2d (PV.str (lnP b l).1) (T.map fun l=>PV.str (lnP b l).1) (A.map fun l=>PV.str (lnP b l).1)
    rw [AI] at hd
    rw [BF,BP,hd];rfl
  have er:(A++[l])++[z2t pc (order.getD k 0) l]++T.map gr=ins a (z2t pc (order.getD k 0)) (A++l::T):=by
   rw [y1h q2 q3,AW,AW];rfl
  have g':=g.trans (AP (fun z=>some (Fl.next Y',z7u H b z)) er)
  exact⟨Y',z0d s1 (y0y s2 rfl (q2h tt (z0d t1 (z0d t2 (y1g t3 (z0a e90) (z0a rfl) q7e hs' (y1a sr g' rfl)))) rfl)),
   (r 124 (by decide)).trans e124,(r 57 (by decide)).trans e57,(r 55 (by decide)).trans e55,(r 125 (by decide)).trans e125,(r 90 (by decide)).trans e90⟩
theorem q3a(hb:b<28)(hL:L.b<=H.length)(R:z3y N)(O:y2c order pc):∀ (m k:Nat) (S:List Pg) (Y:z0l),k+m=5->y3b order k S->PgE b order N pc H.length Y ->
  ∃ Y',z3c (sem mp2 (z0h mp2 (lv+3)) 39).ex (.one 31) (z7s (st x0z 1)) [] Y (z1a (List.range' k m)) L (z7u H b S)=some (.next Y',z7u H b ((List.range' k m).foldl (z5a order N pc) S))/\Y' 90=some (.inst 1 H.length)
 | 0,k,S,Y,_,_,E=>⟨Y,rfl,E.e90⟩
 | m+1,k,S,Y,hk,I,E=>by
  have k5:k<5:=hk▸Nat.lt_add_of_pos_right (Nat.succ_pos m)
  obtain⟨A9,a,c⟩:=j7q (lv:=lv) (Y:=upd Y 31 (.int (k:Int))) hb hL R O k5 I ⟨E.e124,E.e57,E.e55,E.e125,E.e90⟩ rfl
  obtain⟨Y',q,r⟩:=q3a hb hL R O m (k+1) _ A9 (by rw [<- hk,BI];rfl) (I.step O k5 N) c
  exact⟨Y',(z1x rfl a).trans q,r⟩
theorem k8c(hb:b<28)(hL:L.b<=H.length)(hLa:L.ab<=H.length)(R:z3y N)(O:y2c order pc) :
  z0h mp2 (lv+4) 25 [.lst (z1a order),z0x N,.lst ((W b).map .str),.lst (j7p pc)] [] L H=some (.inst 1 H.length,z7u H b (y6k order N pc 5)):=by
 obtain⟨Y',q,r⟩:=q3a (lv:=lv) (L:=L) hb hL R O 5 0 [] (upd (w6o 124 (.lst (z1a order)) 57 (z0x N) 55 (.lst ((W b).map .str)) 125 (.lst (j7p pc))) 90 (.inst 1 H.length)) rfl (q8h order) ⟨rfl,rfl,rfl,rfl,rfl⟩
 exact z0v (Y:=w6o 124 (.lst (z1a order)) 57 (z0x N) 55 (.lst ((W b).map .str)) 125 (.lst (j7p pc))) k6b rfl (z0d (y9h j5d z4w (j5o (lv+1) hLa)) (y1a (up:=false) rfl q (z4i (z0a r))))
end
noncomputable def z6e(l:Pg):PV:=.tup [.int (l.1:Int),.str l.2.1,.bool l.2.2.1,.lst (z1a l.2.2.2)]
section
variable {C:z0g} {lv n:Nat} {L:Lim} {H:z0b} {Y:z0l} {N:List (List Nat)} {order:List Nat} {pc:Nat->Str}
structure LnE(order:List Nat)(N:List (List Nat))(pc:Nat->Str)(S:List Pg)(Y:z0l):Prop where
 e124:Y 124=some (.lst (z1a order))
 e57:Y 57=some (z0x N)
 e125:Y 125=some (.lst (j7p pc))
 e59:Y 59=some (.lst (S.map z6e))
theorem j7r{k j:Nat}{l:Pg}{v:PV}(hk:Y k=some (z6e l))(hv:[PV.int (l.1:Int),.str l.2.1,.bool l.2.2.1,.lst (z1a l.2.2.2)][j]?=some v):(sem mp2 C (n+2)).ev Y (.idx (.var k) (.int (j:Int))) L H=some (v,H):=z8i (z0a hk) rfl hv
noncomputable abbrev x3h(k:Nat)(S:List Pg):Prop:=∀ l,l∈S->l.2.2.2.length<=k
theorem x3h.step{k:Nat}{S:List Pg}(h:x3h k S):x3h (k+1) (z5a order N pc S k):=fun m hm=>by
 unfold z5a at hm
 induction e:(abv order N k).getLast? using Option.casesOn with
 | none=>
  rw [e] at hm
  rcases BL.mp hm with hm | hm
  ·exact CB (h m hm)
  ·rw [AO.mp hm];exact BK _
 | some a=>
  rw [e] at hm
  have key:∀ S,x3h k S->x3h (k+1) (ins a (z2t pc (order.getD k 0)) S):=fun S=>by
   induction S with
   | nil=>exact fun _ m hm=>absurd hm BB
   | cons l S ih=>
    intro h m hm
    unfold ins at hm
    by_cases el:l.1=a
    ·rw [AR el] at hm
     rcases AQ.mp hm with hm | hm
     ·rw [hm];exact CB (h l AD)
     ·rcases AQ.mp hm with hm | hm
      ·rw [hm]
       show(l.2.2.2++[l.1]).length<=_
       rw [AC];exact CI (h l AD)
      ·obtain⟨m',hm',rfl⟩:=AY.mp hm
       exact CB (h m' (AE _ hm'))
    ·rw [AT el] at hm
     rcases AQ.mp hm with hm | hm
     ·rw [hm];exact CB (h l AD)
     ·exact ih (fun x hx=>h x (AE _ hx)) m hm
  exact key S h m hm
theorem j0y{S:List Pg}{k:Nat}(R:z3y N)(O:y2c order pc)(hk:k<5)(I:y3b order k S)(A6:x3h k S)(E:LnE order N pc S Y)(h31:Y 31=some (.int (k:Int))) :
  ∃ Y',exs (sem mp2 C 39).ex Y (z7s (st x1a 1)) L H=some (.next Y',H)/\LnE order N pc (z5a order N pc S k) Y':=by
 obtain⟨e124,e57,e125,e59⟩:=E
 obtain⟨o1,o2,o3,o4⟩:=O.at hk
 have hn:S.length<=5:=I.len▸BR hk
 have s0:(sem mp2 C 38).ev Y (.idx (.var 124) (.var 31)) L H=some (.int ((order.getD k 0:Nat):Int),H):=z0q (z0a e124) (z0a h31) (y9u o1)
 have s1:=k8b (P:=mp2) (C:=C) (n:=32) (Y:=upd Y 32 (.int ((order.getD k 0:Nat):Int))) (L:=L) (H:=H) (g:=.var 32) R O hk e57 e124 h31 fun u=>z0a rfl
 have hpc:=O.pc _ o2
 let B0:=upd (upd Y 32 (.int ((order.getD k 0:Nat):Int))) 126 (.lst (z1a (abv order N k)))
 have tt:(sem mp2 C 38).ts B0 (.cmp .eq (.var 126) (.lst [])) L H=some ((abv order N k).getLast?.isNone,H):=by
  rw [<- y2v]
  exact z3u rfl (z0k (z0a rfl) (z1q z4w) (y2b _ _ _ _ _)) rfl
 unfold z5a
 induction h:(abv order N k).getLast? using Option.casesOn with
 | none=>
  rw [h] at tt
  refine⟨upd B0 59 (.lst ((S++[(order.getD k 0,pc (order.getD k 0),false,[])]).map z6e)),z0d s0 (z0d s1 (q2h tt (z0d (z0f (z0a e59) (z1q (z1h (z1j (z4z (z0a rfl) (z4z (z0q (z0a e125) (z0a rfl) (k0y pc o2)) (z2a rfl (z1q z4w))))))) (z7i H _ _ ?_)) ?_) rfl)),e124,e57,e125,rfl⟩
  ·rw [AC,AI];exact AA (BZ hn 1) (by decide)
  ·rw [BF];rfl
 | some a=>
  rw [h] at tt
  obtain⟨A,l,T,q1,q2,q3⟩:=y9t ((I.mem a).mpr (q5p h))
  obtain⟨mem,nd,lead,len⟩:=I
  subst q1
  have hl:=BU A (AD (a:=l) (l:=T))
  have ll:=lead l hl
  let Y3:=upd B0 129 (.int ((A.length:Nat):Int))
  let Y4:=upd Y3 128 (z6e l)
  let Y5:=upd Y4 130 (.lst ((T.map gr).map z6e))
  have t1:(sem mp2 C 37).ev B0 (.prim .index [.comp (.idx (.var 60) (.int 0)) [(.one 60,.over,[.var 59],[])],.idx (.var 126) (.neg (.int 1))]) L H=some (.int ((A.length:Nat):Int),H):=by
   have c:=z0i (n:=35) (z1w (S:=sem mp2 C 35) (elt:=.idx (.var 60) (.int 0)) (Y:=B0) (v:=60) (k:=.over) (args:=[.var 59]) (ifs:=[]) (L:=L) (H:=H) (xs:=A++l::T) (enc:=z6e) (up:=false) (test:=fun _=>true) (out:=fun m=>.int (m.1:Int)) (z2b e59) (AA hn (by decide)) (fun _ _=>rfl) fun m hm _=>j7r (j:=0) rfl rfl)
   rw [PySem.W.filter_all] at c
   exact z0s (z2a c ((x5x h rfl).trans (by rw [<- q2]))) (y5w (g:=fun m:Pg=>PV.int (m.1:Int)) (f:=fun m=>.int (m.1:Int)) (fun _ _=>rfl) rfl (DF (l.1:Int)) fun m hm=>ED fun e=>q3 m hm (q2▸Int.ofNat.inj e))
  have eg:((A++l::T).map z6e)[A.length]?=some (z6e l):=by
   rw [BF,BP]
   have:=q2y (z6e l) (T.map z6e) (A.map z6e)
   rw [AI] at this
   exact this
  have al:A.length+1<=5:=by
   refine AA ?_ hn
   rw [AC,BH]
   exact CS (CI (BK _)) _
  have dr:((A++l::T).map z6e).drop (A.length+1)=T.map z6e:=by rw [<- List.map_drop,y2d]
  have tk:((A++l::T).map z6e).take (A.length+1)=(A++[l]).map z6e:=by
   rw [<- List.map_take,show A++l::T=(A++[l])++T by rw [AW];rfl,GB (by rw [AC];exact AL _),FC (by rw [AC];exact AL _)]
  have one:∀ {m:Nat} {Y':z0l},Y' 129=some (.int ((A.length:Nat):Int))->(sem mp2 C (m+2)).ev Y' (.bin .add (.var 129) (.int 1)) L H=some (.int ((A.length+1:Nat):Int),H):=fun e=>z0f (z0a e) rfl (z2c H A.length 1)
  have t3:(sem mp2 C 37).ev Y4 (.comp (.tup [.var 58,.var 131,.bool true,.var 132]) [(.tup [58,131,48,132],.over,[.slice (.var 59) (some (.bin .add (.var 129) (.int 1))) none],[])]) L H=some (.lst ((T.map gr).map z6e),H):=by
   have c:=z0i (n:=36) (z7c (S:=sem mp2 C 36) (elt:=.tup [.var 58,.var 131,.bool true,.var 132]) (Y:=Y4) (pat:=.tup [58,131,48,132]) (k:=.over) (args:=[.slice (.var 59) (some (.bin .add (.var 129) (.int 1))) none]) (ifs:=[]) (L:=L) (H:=H) (up:=false) (xs:=T) (enc:=z6e) (out:=fun m=>z6e (gr m)) (test:=fun _=>true)
    (env:=fun m=>upd (upd (upd (upd (clear Y4 [58,131,48,132]) 58 (.int (m.1:Int))) 131 (.str m.2.1)) 48 (.bool m.2.2.1)) 132 (.lst (z1a m.2.2.2)))
    (z1p (z1h (y7l (z0a e59) (one rfl) (y7k _ _ (AA al (by decide))))) (by rw [dr];rfl)) (AA (by rw [AC,BH] at hn;exact AA (AA (FK _) (CO _ _)) hn) (by decide:5<=z2k)) (fun _ _=>rfl) (fun _ _=>rfl)
    fun m _ _=>z1j (z4z (z0a rfl) (z4z (z0a rfl) (z2a rfl (z0a rfl)))))
   rw [PySem.W.filter_all] at c
   rw [AX];exact c
  have ins':(A++[l]).map z6e++[z6e (z2t pc (order.getD k 0) l)]++(T.map gr).map z6e=(ins a (z2t pc (order.getD k 0)) (A++l::T)).map z6e:=by
   rw [y1h q2 q3,BF,BF,AW,AW];rfl
  have lnT:(T.map gr).length<=5:=by
   rw [AI]
   rw [AC,BH] at hn
   exact AA (AA (FK _) (CO _ _)) hn
  have t4:(sem mp2 C 37).ev Y5 (.bin .add (.bin .add (.slice (.var 59) none (some (.bin .add (.var 129) (.int 1)))) (.lst [.tup [.var 32,.bin .add (.idx (.var 128) (.int 1)) (.idx (.var 125) (.var 32)),.bool false,.bin .add (.idx (.var 128) (.int 3)) (.lst [.idx (.var 128) (.int 0)])]])) (.var 130)) L H=some (.lst ((ins a (z2t pc (order.getD k 0)) (A++l::T)).map z6e),H):=by
   have hnew:(sem mp2 C 34).ev Y5 (.tup [.var 32,.bin .add (.idx (.var 128) (.int 1)) (.idx (.var 125) (.var 32)),.bool false,.bin .add (.idx (.var 128) (.int 3)) (.lst [.idx (.var 128) (.int 0)])]) L H=some (z6e (z2t pc (order.getD k 0) l),H):=by
    have a1:(sem mp2 C 33).ev Y5 (.bin .add (.idx (.var 128) (.int 1)) (.idx (.var 125) (.var 32))) L H=some (.str (l.2.1++pc (order.getD k 0)),H):=z0f (j7r (j:=1) rfl rfl) (z0q (z0a e125) (z0a rfl) (k0y pc o2)) (add_str H (AA (BM ll.len hpc.len) (AA (BM (CK (AL 2) (BR hk)) (AL 2)) (by decide))))
    have a2:(sem mp2 C 33).ev Y5 (.bin .add (.idx (.var 128) (.int 3)) (.lst [.idx (.var 128) (.int 0)])) L H=some (.lst (z1a (l.2.2.2++[l.1])),H):=z0f (j7r (j:=3) rfl rfl) (z1q (z1h (j7r (j:=0) rfl rfl))) ((z7i H _ _ (by rw [AC,z3f];exact AA (BZ (AA (A6 l hl) (BR hk)) 1) (by decide))).trans (by unfold z1a;rw [BF];rfl))
    exact z1j (z4z (z0a rfl) (z4z a1 (z2a rfl a2)))
   have h1:(sem mp2 C 36).ev Y5 (.bin .add (.slice (.var 59) none (some (.bin .add (.var 129) (.int 1)))) (.lst [.tup [.var 32,.bin .add (.idx (.var 128) (.int 1)) (.idx (.var 125) (.var 32)),.bool false,.bin .add (.idx (.var 128) (.int 3)) (.lst [.idx (.var 128) (.int 0)])]])) L H=some (.lst ((A++[l]).map z6e++[z6e (z2t pc (order.getD k 0) l)]),H):=
    z0f (z6l (z0a e59) (one rfl) ((z8x H _ (AA al (by decide))).trans (AP (fun z=>some (PV.lst z)) tk))) (z1q (z1h hnew)) (z7i H _ _ (by rw [AC,AI,AC];exact AA (BZ al 1) (by decide)))
   have hlen:((A++[l]).map z6e++[z6e (z2t pc (order.getD k 0) l)]++(T.map gr).map z6e).length<=z2k:=by
    rw [AC,AC,AI,AI,AC]
    exact AA (BM (BZ al 1) lnT) (by decide)
   have h3:y5z .add H (.lst ((A++[l]).map z6e++[z6e (z2t pc (order.getD k 0) l)])) (.lst ((T.map gr).map z6e))=some (.lst ((ins a (z2t pc (order.getD k 0)) (A++l::T)).map z6e)):=ins'▸z7i H _ _ hlen
   exact z0f h1 (z0a rfl) h3
  exact⟨upd Y5 59 (.lst ((ins a (z2t pc (order.getD k 0)) (A++l::T)).map z6e)),z0d s0 (z0d s1 (q2h tt (z0d t1 (z0d (z0q (z0a e59) (z0a rfl) eg) (z0d t3 (z0d t4 rfl)))) rfl)),e124,e57,e125,rfl⟩
theorem y7w(R:z3y N)(O:y2c order pc):∀ (m k:Nat) (S:List Pg) (Y:z0l),k+m=5->y3b order k S->x3h k S->LnE order N pc S Y ->
  ∃ Y',z3c (sem mp2 C 39).ex (.one 31) (z7s (st x1a 1)) [] Y (z1a (List.range' k m)) L H=some (.next Y',H)/\Y' 59=some (.lst (((List.range' k m).foldl (z5a order N pc) S).map z6e))
 | 0,k,S,Y,_,_,_,E=>⟨Y,rfl,E.e59⟩
 | m+1,k,S,Y,hk,I,A6,E=>by
  have k5:k<5:=hk▸Nat.lt_add_of_pos_right (Nat.succ_pos m)
  obtain⟨A9,a,c⟩:=j0y (C:=C) (L:=L) (H:=H) (Y:=upd Y 31 (.int (k:Int))) R O k5 I A6 ⟨E.e124,E.e57,E.e125,E.e59⟩ rfl
  obtain⟨Y',q,r⟩:=y7w R O m (k+1) _ A9 (by rw [<- hk,BI];rfl) (I.step O k5 N) A6.step c
  exact⟨Y',(z1x rfl a).trans q,r⟩
theorem k0z(R:z3y N)(O:y2c order pc):z0h mp2 (lv+1) 26 [.lst (z1a order),z0x N,.lst (j7p pc)] [] L H=some (.lst ((y6k order N pc 5).map z6e),H):=by
 obtain⟨Y',q,r⟩:=y7w (C:=z0h mp2 lv) (L:=L) (H:=H) R O 5 0 [] (upd (x8h 124 (.lst (z1a order)) 57 (z0x N) 125 (.lst (j7p pc))) 59 (.lst [])) rfl (q8h order) (fun l hl=>absurd hl BB) ⟨rfl,rfl,rfl,rfl⟩
 exact z0v (Y:=x8h 124 (.lst (z1a order)) 57 (z0x N) 125 (.lst (j7p pc))) k6c rfl (z0d rfl (y1a (up:=false) rfl q (z4i (z0a r))))
end
structure WsK(H:z0b)(i:Nat)(s:WsS):Prop where
 at':∃ ws,H[i]?=some (.att (y6j ws s))
 b:s.b<=20
 cl:s.c.length<=20
 ce:∀ k,s.c.getD k 0<=10
 ntl:s.nt<=20
noncomputable def z2l(s:WsS):Nat:=max (s.c.length - 1) s.b
noncomputable def x3i(s:WsS)(ts:Nat):Nat:=s.b+ts*(k7d s.c ts+s.nt)
noncomputable def q3b(s t:WsS):Bool:=if t.n<=s.n then false else if decide (s.c.length<=1)&&decide (t.c.length<=1) then decide (s.nt<=t.nt) else !((List.range' 2 (max (z2l s) (z2l t)+1+1 - 2)).any fun ts=>decide (x3i t ts<=x3i s ts))
section
variable {lv n i j:Nat} {L:Lim} {H:z0b} {C:z0g} {Y:z0l} {s t:WsS}
theorem x3j{k a:Nat}{v:PV}(W:WsK H i s)(hk:Y k=some (.inst 0 i))(ha:∀ ws,(y6j ws s).lookup a=some v):(sem mp2 C (n+2)).ev Y (.attr a (.var k)) L H=some (v,H):=W.at'.elim fun ws h=>y5k (z0a hk) h (ha ws)
theorem k8d(W:WsK H i s):z0h mp2 (lv+1) 1 [.inst 0 i] [] L H=some (.int ((z2l s:Nat):Int),H):=by
 refine z0v (Y:=y2y 5 (.inst 0 i)) w2e rfl (y0y (x3j W rfl fun _=>rfl) rfl (z4i (z0s (z2a (z0f (q:=.int ((1:Nat):Int)) (z6m (z0a rfl) (by rw [j6n,z3f])) rfl rfl) (z0a rfl)) ?_)))
 show some (PV.int (if(s.b:Int) > (s.c.length:Int) - ((1:Nat):Int) then(s.b:Int) else(s.c.length:Int) - ((1:Nat):Int)))=_
 unfold z2l
 refine AP (fun z=>some (PV.int z)) ?_
 by_cases h:s.c.length<=s.b
 ·rw [AR (Int.lt_of_lt_of_le (Int.sub_lt_self _ (by decide)) (Int.ofNat_le.mpr h)),Nat.max_eq_right (AA (Nat.sub_le _ _) h)]
 ·have h:=Nat.not_le.mp h
  rw [<- Int.ofNat_sub (AZ (BK _) h),AT (fun k=>CF.mpr (Nat.le_sub_one_of_lt h) (Int.ofNat_lt.mp k)),Nat.max_eq_left (Nat.le_sub_one_of_lt h)]
theorem w3k{ts:Nat}(W:WsK H i s)(h1:1<=ts)(h2:ts<=30):z0h mp2 (lv+1) 2 [.inst 0 i,.int (ts:Int)] [] L H=some (.int ((x3i s ts:Nat):Int),H):=by
 have hcl:s.c.length<=30:=AA W.cl (by decide)
 have hin:∀ k,k∈List.range' ts (s.c.length - ts)->k<s.c.length:=fun k hk=>by
  obtain⟨a,b⟩:=CU.mp hk
  by_cases h:ts<=s.c.length
  ·rw [DB h] at b;exact b
  ·rw [Nat.sub_eq_zero_of_le (Nat.le_of_not_le h)] at b;exact absurd a (Nat.not_le.mpr b)
 have hlen:(List.range' ts (s.c.length - ts)).length<=30:=by rw [FZ];exact AA (Nat.sub_le _ _) hcl
 have hs:k7d s.c ts<=9000:=AA (k7e (ts:=ts) W.ce hcl _ (fun k hk=>AA (BR (hin k hk)) hcl) hlen) (CK (AL 300) hlen)
 obtain⟨Y',q1,q2,q3⟩:=q7u (C:=z0h mp2 lv) (L:=L) (H:=H) h1 h2 hcl W.ce _ 0 (upd (upd (upd (y3v 5 (.inst 0 i) 18 (.int (ts:Int))) 10 (.tup (z1a s.c))) 17 (.int (s.b:Int))) 19 (.int ((0:Nat):Int))) hin rfl rfl rfl
 rw [DE] at q2
 have hr:=z0f (C:=z0h mp2 lv) (L:=L) (n:=38) (z0a ((q3 17 (by decide) (by decide)).trans rfl)) (z0f (z0a ((q3 18 (by decide) (by decide)).trans rfl)) (z0f (z0a q2) (x3j (a:=13) W ((q3 5 (by decide) (by decide)).trans rfl) fun _=>rfl) (z2c H _ _)) (q5d H (lk h2 rfl) (AA (BM hs W.ntl) (by decide)))) (z2c H s.b _)
 exact z0v w2f rfl (y0y (x3j W rfl fun _=>rfl) rfl (z0d rfl (y1a (up:=false) (y3y (z0a rfl) (z6m (z0a rfl) (by rw [j6n,z3f])) (lk h2 rfl) (lk hcl rfl)) q1 (z4i hr))))
theorem k8e{k x:Nat}(W:WsK H i s)(hk:Y k=some (.inst 0 i))(h24:Y 24=some (.int (x:Int)))(h1:1<=x)(h2:x<=30):(sem mp2 (z0h mp2 (lv+1)) (n+2)).ev Y (.meth 25 (.var k) [.var 24]) L H=some (.int ((x3i s x:Nat):Int),H):=
 W.at'.elim fun _ h=>z4f (z0a hk) h (z1h (z0a h24)) x8m (w3k W h1 h2)
theorem x5y{k:Nat}(W:WsK H i s)(hk:Y k=some (.inst 0 i)):(sem mp2 (z0h mp2 (lv+1)) (n+2)).ev Y (.meth 22 (.var k) []) L H=some (.int ((z2l s:Nat):Int),H):=
 W.at'.elim fun _ h=>z4f (z0a hk) h z4w x8l (k8d W)
theorem j7s(W:WsK H i s):z2l s<=20:=Nat.max_le.mpr ⟨AA (Nat.sub_le _ _) W.cl,W.b⟩
theorem k8f(W:WsK H i s)(A6:WsK H j t):z0h mp2 (lv+2) 5 [.inst 0 i,.inst 0 j] [] L H=some (.bool (q3b s t),H):=by
 have t0:(sem mp2 (z0h mp2 (lv+1)) 39).ts (y3v 5 (.inst 0 i) 21 (.inst 0 j)) (.cmp .ge (.attr 12 (.var 5)) (.attr 12 (.var 21))) L H=some (decide (t.n<=s.n),H):=z3u rfl (z0k (x3j W rfl fun _=>rfl) (x3j A6 rfl fun _=>rfl) (q7p _ _ _ _ _ _)) rfl
 have t1:(sem mp2 (z0h mp2 (lv+1)) 39).ts (y3v 5 (.inst 0 i) 21 (.inst 0 j)) (.andE [.attr 16 (.var 5),.attr 16 (.var 21)]) L H=some (decide (s.c.length<=1)&&decide (t.c.length<=1),H):=z7e (z7d (z3u rfl (x3j W rfl fun _=>rfl) rfl) (z2z (z3u rfl (x3j A6 rfl fun _=>rfl) rfl)))
 unfold q3b
 by_cases h0:t.n<=s.n
 ·rw [AR h0]
  rw [AV h0] at t0
  exact z0v (Y:=y3v 5 (.inst 0 i) 21 (.inst 0 j)) x8k rfl (j5j t0 (z4i rfl))
 ·rw [AT h0]
  rw [DT h0] at t0
  induction h1:(decide (s.c.length<=1)&&decide (t.c.length<=1)) using Bool.casesOn with
  | true=>
   rw [h1] at t1
   exact z0v (Y:=y3v 5 (.inst 0 i) 21 (.inst 0 j)) x8k rfl (q2i t0 (j5j t1 (z4i (z0k (x3j W rfl fun _=>rfl) (x3j A6 rfl fun _=>rfl) (x5k _ _ _ _ _ _)))))
  | false=>
   rw [h1] at t1
   have hm:max (z2l s) (z2l t)+1<=21:=CI (Nat.max_le.mpr ⟨j7s W,j7s A6⟩)
   have hr:∀ {Y':z0l},Y' 12=some (.int ((max (z2l s) (z2l t)+1:Nat):Int))->z8z (sem mp2 (z0h mp2 (lv+1)) 39) Y' .range [.int 2,.bin .add (.var 12) (.int 1)] L H=some ((z1a (List.range' 2 (max (z2l s) (z2l t)+1+1 - 2)),false),H):=fun e=>y3y (a:=2) rfl (z0f (z0a e) rfl (z2c H (max (z2l s) (z2l t)+1) 1)) (by decide) (AA (CI hm) (by decide))
   refine z0v (Y:=y3v 5 (.inst 0 i) 21 (.inst 0 j)) x8k rfl (q2i t0 (q2i t1 (z0d (z0f (z0s (z2a (x5y W rfl) (x5y A6 rfl)) (x9m _ _ _ _)) rfl (z2c H (max (z2l s) (z2l t)) 1)) (j6x (y5v (I:=fun Y=>Y 5=some (.inst 0 i)/\Y 21=some (.inst 0 j)) (enc:=fun(p:Nat)=>PV.int (p:Int)) (fun ts=>decide (x3i t ts<=x3i s ts)) (hr rfl) (fun ts hts Y ⟨e5,e21⟩=>?_) ⟨rfl,rfl⟩)))))
   obtain⟨a,c⟩:=CU.mp hts
   have a1:1<=ts:=AA (by decide) a
   have c1:ts<=30:=AA (BR c) (by lia)
   exact k0n (z3u rfl (z0k (k8e W e5 rfl a1 c1) (k8e A6 e21 rfl a1 c1) (q7p _ _ _ _ _ _)) rfl) rfl ⟨e5,e21⟩
end
noncomputable def y6l(t col ch:Nat):Nat:=if ch=32 then col+1 else col / t*t+t
noncomputable abbrev z7t(cs:List Nat)(t:Nat):Nat:=cs.foldl (y6l t) 0
noncomputable abbrev Blk(cs:List Nat):Prop:=∀ c,c∈cs->c=32\/c=9
theorem Blk.tl{c:Nat}{cs:List Nat}(h:Blk (c::cs)):Blk cs:=fun x hx=>h x (AE _ hx)
theorem x3k{c:Nat}(r:List Nat)(s:WsS)(h1:c≠32)(h2:c≠9):wsF (c::r) s=s:=(AT h1).trans (AT h2)
theorem y9v:∀ (xs ys:List Nat) (s:WsS),Blk xs->wsF (xs++ys) s=wsF ys (wsF xs s)
 | [],_,_,_=>rfl
 | c::xs,ys,s,h=>by
  rcases h c AD with e | e<;>subst e
  ·exact y9v xs ys _ h.tl
  ·exact y9v xs ys _ h.tl
theorem k1a:∀ (xs:List Nat) (s:WsS),Blk xs->(wsF xs s).n=s.n+xs.length
 | [],_,_=>rfl
 | c::xs,s,h=>by
  rcases h c AD with e | e<;>subst e
  ·exact(k1a xs _ h.tl).trans (BI s.n 1 xs.length)
  ·exact(k1a xs _ h.tl).trans (BI s.n 1 xs.length)
theorem j7t:∀ (xs:List Nat) (s:WsS) (m:Nat),Blk xs->s.b<=m->s.nt<=m->(∀ k,s.c.getD k 0<=m)->(wsF xs s).b<=m+xs.length/\(wsF xs s).nt<=m+xs.length/\∀ k,(wsF xs s).c.getD k 0<=m+xs.length
 | [],_,_,_,h1,h2,h3=>⟨h1,h2,h3⟩
 | c::xs,s,m,h,h1,h2,h3=>by
  rw [show m+(c::xs).length=(m+1)+xs.length from BI m xs.length 1]
  rcases h c AD with e | e<;>subst e
  ·exact j7t xs _ (m+1) h.tl (CI h1) (CB h2) fun k=>CB (h3 k)
  ·refine j7t xs _ (m+1) h.tl (BK _) (CI h2) fun k=>?_
   rw [q2q]
   exact BM (h3 k) (by split<;>decide)
theorem j7u{N t:Nat}(ht:1<=t):∀ (cs:List Nat) (s:WsS),Blk cs->s.b+cs.length<N->cs.foldl (y6l t) (s.b+t*(SN N s.c t+s.nt))=(wsF cs s).b+t*(SN N (wsF cs s).c t+(wsF cs s).nt)
 | [],_,_,_=>rfl
 | c::cs,s,h,hN=>by
  rw [BH] at hN
  rcases h c AD with e | e<;>subst e
  ·have e1:y6l t (s.b+t*(SN N s.c t+s.nt)) 32=s.b+1+t*(SN N s.c t+s.nt):=BI _ _ 1
   rw [DA,e1]
   exact j7u ht cs ⟨s.b+1,s.n+1,s.nt,s.c⟩ h.tl (BI s.b 1 cs.length▸hN)
  ·have e1:y6l t (s.b+t*(SN N s.c t+s.nt)) 9=0+t*(SN N (q3p s.c s.b) t+(s.nt+1)):=by
    show(s.b+t*(SN N s.c t+s.nt)) / t*t+t=_
    rw [Nat.add_mul_div_left _ _ ht,k0g s.c (AZ (BC _ _) hN),DE,Nat.mul_comm _ t,<- Nat.mul_succ]
    congr 1;lia
   rw [DA,e1]
   exact j7u ht cs ⟨0,s.n+1,s.nt+1,q3p s.c s.b⟩ h.tl (AZ (by show 0+cs.length<=_;lia) hN)
noncomputable abbrev wsL(cs:List Nat):WsS:=wsF cs ws0
theorem k8g{t:Nat}(ht:1<=t){cs:List Nat}(h:Blk cs):z7t cs t=(wsL cs).b+t*(SN (cs.length+1) (wsL cs).c t+(wsL cs).nt):=by
 have:=j7u (N:=cs.length+1) ht cs ws0 h (by show 0+cs.length<_;lia)
 rw [show ws0.b+t*(SN (cs.length+1) ws0.c t+ws0.nt)=0 by
  rw [show SN (cs.length+1) ws0.c t=0 from y1f fun i _=>Nat.mul_zero _]
  exact Nat.mul_zero t] at this
 exact this
theorem j7v(cs:List Nat):(wsL cs).c.length<=cs.length:=AA (q5h cs ws0) (Nat.max_le.mpr ⟨BK _,CJ (DE _)⟩)
theorem x5z{t:Nat}(ht:1<=t){cs:List Nat}(h:Blk cs):z7t cs t=x3i (wsL cs) t:=by
 rw [k8g ht h,w2u (CB (j7v cs)) ht];rfl
theorem y9w:∀ (cs:List Nat) (a:Nat),cs.foldl (y6l 1) a=a+cs.length
 | [],_=>rfl
 | c::cs,a=>by
  have e:y6l 1 a c=a+1:=by
   unfold y6l
   split
   ·rfl
   ·rw [Nat.div_one,Nat.mul_one]
  rw [DA,e,y9w cs,BI];rfl
theorem y2e{s:WsS}{t:Nat}(h:s.c.length<=t):x3i s t=s.b+t*s.nt:=by
 unfold x3i k7d
 rw [Nat.sub_eq_zero_of_le h]
 exact AP (fun z=>s.b+t*z) (DE _)
theorem w7e{a a' b b' n:Nat}(h:b+n*a<b'+n*a')(hb:b'<n):a<=a':=by
 refine CF.mp fun k=>?_
 have:=Nat.mul_le_mul_left n (show a'+1<=a from k)
 rw [Nat.mul_succ] at this
 lia
theorem w7f{a a' b b' n t:Nat}(h:b+n*a<b'+n*a')(ha:a<=a')(hn:n<=t):b+t*a<b'+t*a':=by
 obtain⟨k,rfl⟩:=Nat.exists_eq_add_of_le hn
 have:=Nat.mul_le_mul_left k ha
 rw [Nat.add_mul,Nat.add_mul]
 lia
theorem x3l{xs ys:List Nat}{top:Nat}(hx:Blk xs)(hy:Blk ys)(tx:z2l (wsL xs)<top)(ty:z2l (wsL ys)<top):q3b (wsL xs) (wsL ys)=true↔∀ t,1<=t->t<=top->z7t xs t<z7t ys t:=by
 have c1:∀ {zs},Blk zs->z7t zs 1=(wsL zs).n:=fun {zs} hz=>(y9w zs 0).trans (k1a zs ws0 hz).symm
 have h1:1<=top:=AZ (BK _) tx
 have cx:=fun t (ht:1<=t)=>x5z ht hx
 have cy:=fun t (ht:1<=t)=>x5z ht hy
 have c1x:=c1 hx
 have c1y:=c1 hy
 have lc:∀ {s:WsS} {n:Nat},z2l s<n->s.c.length<=n/\s.b<n:=fun {s n} h=>by
  have a:=AZ (EC (s.c.length - 1) s.b) h
  exact⟨by lia,AZ (EI _ _) h⟩
 generalize wsL xs=S at *
 generalize wsL ys=T at *
 unfold q3b
 by_cases h0:T.n<=S.n
 ·rw [AR h0]
  exact⟨fun h=>absurd h CL,fun h=>absurd (c1x▸c1y▸h 1 (AL _) h1) (CF.mpr h0)⟩
 ·rw [AT h0]
  have l1:z7t xs 1<z7t ys 1:=c1x▸c1y▸Nat.not_le.mp h0
  by_cases hs:(decide (S.c.length<=1)&&decide (T.c.length<=1))=true
  ·rw [AR hs,BY]
   obtain⟨a,b⟩:=AG.mp hs
   have a:=AK a
   have b:=AK b
   have ex:=fun t (ht:1<=t)=>(cx t ht).trans (y2e (AA a ht))
   have ey:=fun t (ht:1<=t)=>(cy t ht).trans (y2e (AA b ht))
   rw [ex 1 (AL _),ey 1 (AL _)] at l1
   constructor
   ·intro h t ht _
    rw [ex t ht,ey t ht]
    exact w7f l1 h ht
   ·intro h
    have:=h top h1 (AL _)
    rw [ex top h1,ey top h1] at this
    exact w7e this (lc ty).2
  ·rw [AT hs,DJ,List.any_eq_false]
   have ln:z2l S<max (z2l S) (z2l T)+1/\z2l T<max (z2l S) (z2l T)+1:=⟨Nat.lt_succ_of_le (EC _ _),Nat.lt_succ_of_le (EI _ _)⟩
   have lt:max (z2l S) (z2l T)+1<=top:=Nat.max_lt.mpr ⟨tx,ty⟩
   generalize max (z2l S) (z2l T)+1=n at ln lt
   obtain⟨n1,n2⟩:=ln
   have hn:1<=n:=AZ (BK _) n1
   constructor
   ·intro h
    have mid:∀ t,1<=t->t<=n->z7t xs t<z7t ys t:=fun t ht hl=>by
     by_cases e:t=1
     ·rw [e];exact l1
     ·rw [cx t ht,cy t ht]
      have:=h t (CU.mpr ⟨by lia,by lia⟩)
      rw [BY] at this
      exact Nat.not_le.mp this
    intro t ht _
    by_cases e:t<=n
    ·exact mid t ht e
    ·have e':n<=t:=Nat.le_of_not_le e
     have q:=mid n hn (AL _)
     rw [cx n hn,cy n hn,y2e (lc n1).1,y2e (lc n2).1] at q
     rw [cx t ht,cy t ht,y2e (AA (lc n1).1 e'),y2e (AA (lc n2).1 e')]
     exact w7f q (w7e q (lc n2).2) e'
   ·intro h t ht
    obtain⟨a,b⟩:=CU.mp ht
    have a1:1<=t:=AA (by decide) a
    have:=h t a1 (AA (by lia) lt)
    rw [cx t a1,cy t a1] at this
    rw [BY]
    exact Nat.not_le.mpr this
theorem j7w{t:Nat}(ht:1<=t)(a c:Nat):a<y6l t a c:=by
 unfold y6l
 split
 ·exact DY _
 ·have:=Nat.div_add_mod a t
  have m:=Nat.mod_lt a ht
  rw [Nat.mul_comm] at this
  lia
theorem q5r{t:Nat}(ht:1<=t):∀ (cs:List Nat) (a:Nat),a<=cs.foldl (y6l t) a
 | [],_=>AL _
 | c::cs,a=>AA (BR (j7w ht a c)) (q5r ht cs _)
theorem j7x{t:Nat}(ht:1<=t)(xs:List Nat){c:Nat}(cs:List Nat):z7t xs t<z7t (xs++c::cs) t:=by
 unfold z7t
 rw [DP]
 exact BN (j7w ht _ c) (q5r ht cs _)
noncomputable abbrev P3:List (List Nat):=[[32,32],[9],[32,9]]
theorem x3m{x p q r:List Nat}{top:Nat}(hx:Blk x)(hp:p∈P3)(hq:q∈P3)(ht:z2l (wsL (x++q))<top):∃ t,1<=t/\t<=top/\z7t (x++q) t<=z7t (x++p++r) t:=by
 have h1:1<=top:=AZ (BK _) ht
 by_cases hl:q.length<=p.length
 ·refine⟨1,AL _,h1,?_⟩
  unfold z7t
  rw [y9w,y9w,AC,AC,AC]
  exact CS (AA (CS hl _) (BC _ _)) 0
 ·have ep:p=[9]:=by
   rcases AQ.mp hp with e | hp
   ·subst e
    rcases AQ.mp hq with e | hq
    ·exact absurd (CJ (AP _ e)) hl
    ·rcases AQ.mp hq with e | hq
     ·rw [e] at hl;exact absurd (by decide) hl
     ·rw [AO.mp hq] at hl;exact absurd (by decide) hl
   ·rcases AQ.mp hp with e | hp
    ·exact e
    ·rw [AO.mp hp] at hl
     rcases AQ.mp hq with e | hq
     ·rw [e] at hl;exact absurd (by decide) hl
     ·rcases AQ.mp hq with e | hq
      ·rw [e] at hl;exact absurd (by decide) hl
      ·rw [AO.mp hq] at hl;exact absurd (by decide) hl
  subst ep
  refine⟨top,h1,AL _,?_⟩
  have hc:=k8g h1 hx
  rw [show wsL (x++q)=wsF q (wsL x) from y9v x q ws0 hx] at ht
  have e:∀ ys,z7t (x++ys) top=ys.foldl (y6l top) (z7t x top):=fun ys=>DP
  rw [AW,e,e]
  generalize SN (x.length+1) (wsL x).c top+(wsL x).nt=X at hc
  generalize z7t x top=c at hc
  have hd:∀ k,(wsL x).b+k<top->(c+k) / top*top=top*X:=fun k hk=>by
   rw [hc,BI,Nat.add_mul_div_left _ _ h1,Nat.div_eq_of_lt hk,DE,Nat.mul_comm]
  refine AA ?_ (q5r h1 r _)
  show _<=c / top*top+top
  rcases AQ.mp hq with e | hq
  ·subst e
   have hb:(wsL x).b+1+1<top:=AZ (EI _ _) ht
   have:=hd 0 (AZ (BC _ 2) hb)
   rw [Nat.add_zero] at this
   rw [this]
   show c+1+1<=_
   rw [hc,BI,BI (wsL x).b,BI _ (top*X),Nat.add_comm _ (top*X)]
   exact CS (BR hb) _
  ·rcases AQ.mp hq with e | hq
   ·rw [e] at hl;exact absurd (by decide) hl
   ·have e:=AO.mp hq
    subst e
    have hb:(q3p (wsL x).c ((wsL x).b+1)).length - 1<top:=AZ (EC _ _) ht
    rw [y9k] at hb
    have g:=AZ (Nat.le_sub_one_of_lt (y9j (wsL x).c ((wsL x).b+1)).1) hb
    have a:=hd 0 (AZ (FK _) g)
    have b:=hd 1 g
    rw [Nat.add_zero] at a
    rw [a]
    show(c+1) / top*top+top<=_
    rw [b];exact AL _
theorem k8h{c:Nat}(h:c≠32):loC c≠32:=by
 unfold loC
 split
 ·exact fun e=>absurd (Nat.add_eq_right.mp e) (DO (BN (by decide:0<65) (And.left ‹_›)))
 ·exact h
theorem k8i{c:Nat}(h:c≠32):upC c≠32:=by
 unfold upC
 split
 ·exact DO (BN (by decide:32<65) (Nat.le_sub_of_add_le (And.left ‹_›)))
 ·exact h
theorem k1b{k:Nat}(hk:k<32)(g:Bool):∃ c r,(dr g (wk k)).cps.toList=c::r/\c≠32/\c≠9:=by
 have p:=(y1z hk).1
 have h1:=(z6d hk).h1
 have e:(dr g (wk k)).cps.toList=(wk k).cps.toList.map (if g then upC else loC):=by
  induction g using Bool.casesOn
  ·exact z3o p
  ·exact z8l p
 rw [e]
 induction hl:(wk k).cps.toList using List.casesOn with
 | nil=>rw [hl] at h1;exact absurd rfl h1
 | cons c r=>
  rw [hl] at h1
  have pc:=p c (hl▸AD)
  have k:=z9j pc.1 pc.2
  refine⟨_,_,rfl,?_,?_⟩
  ·induction g using Bool.casesOn
   ·exact k8h h1
   ·exact k8i h1
  ·induction g using Bool.casesOn
   ·exact DO (BN (by decide) k.l1)
   ·exact DO (BN (by decide) k.u1)
noncomputable abbrev ldS(x:Str):WsS:=wsL x.cps.toList
theorem k1c{x:Str}{n k:Nat}(hx:z2p x n)(hk:k<32)(g:Bool):wsF ((x++dr g (wk k))++Str.ofString "\t").cps.toList ws0=ldS x:=by
 obtain⟨c,r,e,h1,h2⟩:=k1b hk g
 rw [z2q,z2q,e,AW,y9v _ _ _ hx.ok]
 exact x3k _ _ h1 h2
theorem k8j{H:z0b}{i:Nat}{x:Str}(hx:z2p x 10)(h:∃ ws,H[i]?=some (.att (y6j ws (ldS x)))):WsK H i (ldS x):=by
 have hl:x.cps.toList.length<=10:=z5r x▸hx.len
 obtain⟨a,b,c⟩:=j7t x.cps.toList ws0 0 hx.ok (BK _) (BK _) fun k=>BK _
 rw [DE] at a b c
 exact⟨h,AA a (AA hl (by decide)),AA (j7v _) (AA hl (by decide)),fun k=>AA (c k) hl,AA b (AA hl (by decide))⟩
theorem y5x{f:PV->M (List PV)}{V:Type}{enc:V->PV}{cell:V->z2u}{c:Nat}{L:Lim}:∀ (xs:List V) (J:z0b),L.b<=J.length->L.ab<=J.length->(∀ x,x∈xs->∀ J:z0b,L.b<=J.length->L.ab<=J.length->f (enc x) L J=some ([.inst c J.length],J++[cell x])) ->
  z4u f (xs.map enc) L J=some ((List.range' J.length xs.length).map (.inst c),J++xs.map cell)
 | [],J,_,_,_=>AP (fun z=>some (([]:List PV),z)) (CG J).symm
 | x::xs,J,hb,ha,h=>by
  have hl:(J++[cell x]).length=J.length+1:=AC
  have ih:=y5x xs (J++[cell x]) (hl▸CB hb) (hl▸CB ha) fun y hy=>h y (AE _ hy)
  rw [hl,AW] at ih
  exact(z1b (h x AD J hb ha)).trans (z1b ih)
section
variable {lv n b i j:Nat} {L:Lim} {H:z0b} {C:z0g} {Y:z0l}
theorem j7y{P:MP}{C:z0g}{c f:Nat}{args:List ME}{vs:List PV}{w:PV}{Hb H2:z0b}(hm:P.meth c y4e=some f)(h3:z3p ((sem P C n).ev Y) args L H=some (vs,Hb))(h:y2h Hb.length (C f (.inst c Hb.length::vs) []) L (Hb++[.att []])=some (w,H2)) :
  (sem P C (n+1)).ev Y (.newg c args) L H=some (.inst c Hb.length,H2):=z0c (z0w hm) (z0c h3 (z0c rfl (z0c h rfl)))
theorem w8q{e:ME}{ws:Str}(ha:(sem mp2 (z0h mp2 (lv+1)) n).ev Y e L H=some (.str ws,H))(hn:ws.length<=400)(hL:L.b<=H.length)(hLa:L.ab<=H.length) :
  (sem mp2 (z0h mp2 (lv+1)) (n+1)).ev Y (.newg 0 [e]) L H=some (.inst 0 H.length,H++[.att (y6j ws (wsF ws.cps.toList ws0))]):=by
 rw [z5r] at hn
 obtain⟨J,i1,i2,i3⟩:=x1x (lv:=lv) (L:=⟨L.b,H.length⟩) (H:=H) (ws:=ws) hL (AL _) hn
 have hs:(H++[z2u.att []]).length=H.length+1:=AC
 have hg:y2h H.length (z0h mp2 (lv+1) 0 [.inst 0 H.length,.str ws] []) L (H++[.att []])=some (.none,H++[.att (y6j ws (wsF ws.cps.toList ws0))]):=by
  unfold y2h
  rw [i1]
  dsimp only
  rw [i2]
  dsimp only
  rw [AR ⟨hLa,hs.symm,j0u _ _ _,rfl⟩,hs,i3]
 exact j7y k6i (z1h ha) hg
noncomputable def z7p(S:List Pg):List (Nat×Nat):=(List.range 5).flatMap fun i=>((List.range' (i+1) (5 - (i+1))).filter fun j=>q3b (ldS (S.getD i (0,wk 0,false,[])).2.1) (ldS (S.getD j (0,wk 0,false,[])).2.1)).map fun j=>(i,j)
theorem k8k(n:Nat)(H:z0b):∀ l:List (Nat×Nat),q8v n H (l.map z1s)=some (l.map z1s)
 | []=>rfl
 | x::l=>by
  show(frz n H (z1s x)).bind (fun q=>(q8v n H (l.map z1s)).map fun qs=>q::qs)=_
  rw [k8k n H l];rfl
structure x3n(b:Nat)(S:List Pg):Prop where
 b:b<28
 len:S.length=5
 lt:∀ l,l∈S->l.1<5
 lead:∀ l,l∈S->z2p l.2.1 10
theorem x3n.at{S:List Pg}(O:x3n b S){i:Nat}(hi:i<5):S[i]?=some (S.getD i (0,wk 0,false,[]))/\z2p (S.getD i (0,wk 0,false,[])).2.1 10:=by
 have e:S[i]?=some (S.getD i (0,wk 0,false,[])):=by rw [AH,AN (O.len.symm▸hi)];rfl
 exact⟨e,O.lead _ (CE e)⟩
noncomputable def y2w(b:Nat)(l:Pg):z2u:=.att (y6j ((l.2.1++(lnP b l).1)++Str.ofString "\t") (ldS l.2.1))
theorem r15{i j:Nat}(h:j∈List.range' (i+1) (5 - (i+1))):i<j/\j<5:=by
 obtain⟨a,c⟩:=CU.mp h
 refine⟨a,?_⟩
 by_cases k:i+1<=5
 ·rw [DB k] at c;exact c
 ·rw [Nat.sub_eq_zero_of_le (Nat.le_of_not_le k)] at c;exact absurd a (Nat.not_le.mpr c)
theorem j7z{k:Nat}(hk:Y k=some (.int (i:Int)))(hi:i<5):z8z (sem mp2 C (n+3)) Y .range [.bin .add (.var k) (.int 1),.int 5] L H=some ((z1a (List.range' (i+1) (5 - (i+1))),false),H):=
 y3y (b:=5) (z0f (z0a hk) rfl (z2c H i 1)) rfl (AA hi (by decide)) (by decide)
theorem k1d{V:Type}(f:Nat->Nat->Bool)(g:Nat->Nat->V):((List.range 5).flatMap fun i=>((List.range' (i+1) (5 - (i+1))).filter (f i)).map (g i)).length<=z2k:=
 AA (z7k _ 5 _ fun i _=>by
  rw [AI]
  exact AA (CA _ _) (by rw [FZ];exact Nat.sub_le _ _)) (by decide)
theorem k1e{S:List Pg}(O:x3n b S)(hL:L.b<=H.length)(hLa:L.ab<=H.length) :
  z0h mp2 (lv+3) 27 [.lst (S.map fun l=>.str (lnP b l).1),.lst (S.map fun l=>.str l.2.1)] [] L H=some (.lst ((z7p S).map z1s),H++S.map (y2w b)):=by
 let B1:=y3v 27 (.lst (S.map fun l=>.str (lnP b l).1)) 133 (.lst (S.map fun l=>.str l.2.1))
 have hl5:S.length<=5:=CJ O.len
 have hsrc:z8z (sem mp2 (z0h mp2 (lv+2)) 38) B1 .zip [.var 27,.var 133] L H=some ((S.map fun l=>.tup [.str (lnP b l).1,.str l.2.1],false),H):=by
  refine z1p (z2a (z0a rfl) (z0a rfl)) ?_
  show some (((S.map fun l=>PV.str (lnP b l).1).zip (S.map fun l=>PV.str l.2.1)).map (fun q=>PV.tup [q.1,q.2]),false)=_
  rw [List.zip_map',AX];rfl
 have t1:(sem mp2 (z0h mp2 (lv+2)) 39).ev B1 (.comp (.newg 0 [.bin .add (.bin .add (.var 131) (.var 34)) (.str (Str.ofString "\t"))]) [(.tup [34,131],.zip,[.var 27,.var 133],[])]) L H=some (.lst ((List.range' H.length S.length).map (.inst 0)),H++S.map (y2w b)):=by
  refine z0i ((q2e).trans ((z1b hsrc).trans ((z1b (a:=(List.range' H.length S.length).map (PV.inst 0)) (H':=H++S.map (y2w b)) ?_).trans ?_)))
  ·show z3b _ _ (clear B1 [34,131]) (.tup [34,131]) [] [] (S.map fun l=>.tup [.str (lnP b l).1,.str l.2.1]) L H=_
   rw [z8e]
   refine y5x S H hL hLa fun l hl J h1 h2=>?_
   have w:=z6d (b32 O.b (O.lt l hl))
   have ld:=O.lead l hl
   have n1:l.2.1.length+(lnP b l).1.length<=110:=BM ld.len (y7i w)
   have tb:(Str.ofString "\t").length=1:=by rw [j6i];rfl
   have ha:(sem mp2 (z0h mp2 (lv+2)) 37).ev (upd (upd (clear B1 [34,131]) 34 (.str (lnP b l).1)) 131 (.str l.2.1)) (.bin .add (.bin .add (.var 131) (.var 34)) (.str (Str.ofString "\t"))) L J=some (.str ((l.2.1++(lnP b l).1)++Str.ofString "\t"),J):=
    z0f (z0f (z0a rfl) (z0a rfl) (add_str J (AA n1 (by decide)))) rfl (add_str J (by rw [strLen_append,tb];exact AA (BZ n1 1) (by decide)))
   have hs:=w8q (lv:=lv+1) ha (by rw [strLen_append,strLen_append,tb];exact AA (BZ n1 1) (by decide)) h1 h2
   rw [show wsF ((l.2.1++(lnP b l).1)++Str.ofString "\t").cps.toList ws0=ldS l.2.1 from k1c ld (b32 O.b (O.lt l hl)) _] at hs
   exact z0c (a:=true) (Hb:=J) rfl (z0c hs rfl)
  ·rw [AR (AV (by rw [AI,FZ];exact AA hl5 (by decide)))];rfl
 have kk:∀ i,i<5->WsK (H++S.map (y2w b)) (H.length+i) (ldS (S.getD i (0,wk 0,false,[])).2.1):=fun i hi=>by
  obtain⟨e,ld⟩:=O.at hi
  have h:(H++S.map (y2w b))[H.length+i]?=some (y2w b (S.getD i (0,wk 0,false,[]))):=by
   rw [CY (BC _ _),CW,BD,e];rfl
  exact k8j ld ⟨_,h⟩
 have at5:∀ i,i<5->((List.range' H.length S.length).map (PV.inst 0))[i]?=some (.inst 0 (H.length+i)):=fun i hi=>by
  rw [BD,List.getElem?_range' (O.len.symm▸hi),Nat.one_mul];rfl
 have key:=z6p (S:=sem mp2 (z0h mp2 (lv+2)) 38) (Y:=upd B1 134 (.lst ((List.range' H.length S.length).map (.inst 0)))) (L:=L) (H:=H++S.map (y2w b)) (elt:=.tup [.var 20,.var 135]) (a:=20) (b:=135) (k:=.range) (k2:=.range) (args:=[.int 5]) (args2:=[.bin .add (.var 20) (.int 1),.int 5]) (ifs2:=[.meth 72 (.idx (.var 134) (.var 20)) [.idx (.var 134) (.var 135)]])
  (xs:=List.range 5) (enc:=fun(w:Nat)=>PV.int (w:Int)) (fun i=>List.range' (i+1) (5 - (i+1))) (enc2:=fun _ (w:Nat)=>PV.int (w:Int)) (fun i j=>q3b (ldS (S.getD i (0,wk 0,false,[])).2.1) (ldS (S.getD j (0,wk 0,false,[])).2.1)) (fun i j=>z1s (i,j)) rfl
  (fun i hi=>j7z rfl (AM.mp hi))
  (fun i hi j hj=>by
   have i5:=AM.mp hi
   have j5:=(r15 hj).2
   exact(kk i i5).at'.elim fun _ h=>z2z (z3u rfl (z4f (z0q (z0a rfl) (z0a rfl) (at5 i i5)) h (z1h (z0q (z0a rfl) (z0a rfl) (at5 j j5))) x8n (k8f (kk i i5) (kk j j5))) rfl))
  (fun i hi j hj _=>z1j (z2a (z0a rfl) (z0a rfl))) (k1d _ _)
 refine z0v (Y:=B1) k6d rfl (z0d t1 (z4i ((z0i key).trans ?_)))
 unfold z7p
 rw [EL]
 exact AP (fun f=>some (PV.lst ((List.range 5).flatMap f),H++S.map (y2w b))) (funext fun i=>(AX (f:=fun j=>(i,j)) (g:=z1s)).symm)
end
noncomputable def q8j(ps:List (Nat×Nat))(i:Nat):Nat->Nat->List (Nat×Nat)
 | 0,_=>[]
 | n+1,j=>if decide ((i,j)∈ps) then(i,j)::q8j ps i n (j+1) else[]
noncomputable def z8o(ps:List (Nat×Nat)):List (Nat×Nat):=(List.range 5).flatMap fun i=>q8j ps i (4 - i) (i+1)
theorem y9x(ps:List (Nat×Nat))(i:Nat):∀ n j,(q8j ps i n j).length<=n
 | 0,_=>AL _
 | n+1,j=>by
  unfold q8j
  split
  ·exact CI (y9x ps i n (j+1))
  ·exact BK _
noncomputable def y6b:Str:=⟨#[9]⟩
noncomputable def mxN:List Nat->Nat
 | []=>0
 | x::xs=>xs.foldl (fun a b=>if b > a then b else a) x
noncomputable def y6m(ls:List Str):List Nat:=ls.flatMap fun x=>(Txt.split x y6b).map fun y=>y.length
noncomputable def q3c:List (Nat×Nat):=(List.range 5).flatMap fun i=>(List.range' (i+1) (5 - (i+1))).map fun j=>(i,j)
noncomputable def j0z(ls:List Str)(top:Nat)(p:Nat×Nat):Bool:=((List.range top).filter fun k=>decide (z7t (ls.getD p.2 y6b).cps.toList (k+1)<=z7t (ls.getD p.1 y6b).cps.toList (k+1))).isEmpty
noncomputable def y2f(ls:List Str):List (Nat×Nat):=q3c.filter (j0z ls (1+mxN (y6m ls)))
section
variable {lv n i j:Nat} {L:Lim} {H J:z0b} {C:z0g} {Y:z0l} {ps:List (Nat×Nat)}
theorem y9y(n:Nat):∀ l:List (Nat×Nat),z0t n (l.map z1s)=true
 | []=>rfl
 | x::l=>by
  show(y6c n (z1s x)&&z0t n (l.map z1s))=true
  rw [y9y n l];rfl
theorem k1f(a b:Nat):x4f .add (.int (a:Int)) (.int (b:Int))=some (.int ((a+b:Nat):Int)):=AP (fun z=>some (PV.int z)) (Int.natCast_add a b).symm
theorem q3d(h5:(i,5)∉ps)(hL:L.b<=H.length):∀ (n j m:Nat) (acc:List (Nat×Nat)) (Y:z0l),j+n=5->n<m->acc.length+n<=100->Y 20=some (.int (i:Int))->Y 135=some (.int (j:Int))->Y 85=some (.lst (ps.map z1s))->Y 136=some (.ref H.length) ->
  ∃ Y',y6p (sem mp2 C 38) (.cmp .in_ (.tup [.var 20,.var 135]) (.var 85)) [.append (.var 136) (.tup [.var 20,.var 135]),.aug .add 135 (.int 1)] m Y L (H++[.lst (acc.map z1s)])=some (.next Y',H++[.lst ((acc++q8j ps i n j).map z1s)])/\Y' 85=some (.lst (ps.map z1s))/\Y' 136=some (.ref H.length)
 | n,j,0,acc,Y,_,hm,_,_,_,_,_=>absurd hm (EP _)
 | n,j,m+1,acc,Y,hj,hm,hn,h20,h135,h85,h136=>by
  have t:(sem mp2 C 38).ts Y (.cmp .in_ (.tup [.var 20,.var 135]) (.var 85)) L (H++[.lst (acc.map z1s)])=some (decide ((i,j)∈ps),H++[.lst (acc.map z1s)]):=z3u rfl (z0k (z1j (z2a (z0a h20) (z0a h135))) (z0a h85) (j6b _ _ _ _)) rfl
  by_cases h:(i,j)∈ps
  ·rw [AV h] at t
   induction n using Nat.casesOn with
   | zero=>rw [show j=5 from hj] at h;exact absurd h h5
   | succ n=>
    have hset:(H++[z2u.lst (acc.map z1s)]).set H.length (.lst (acc.map z1s++[z1s (i,j)]))=H++[.lst ((acc++[(i,j)]).map z1s)]:=by rw [z8g,BF];rfl
    have st:exs (sem mp2 C 38).ex Y [.append (.var 136) (.tup [.var 20,.var 135]),.aug .add 135 (.int 1)] L (H++[.lst (acc.map z1s)])=some (.next (upd Y 135 (.int ((j+1:Nat):Int))),H++[.lst ((acc++[(i,j)]).map z1s)]):=by
     refine y0z (z0a h136) (z2h _ _) (z1j (z2a (z0a h20) (z0a h135))) (z2h _ _) ?_ hL ?_ ?_
     ·rw [AC,AI];exact AA (BM (AA (BC _ _) hn) (AL 1)) (by decide)
     ·exact(AP (z0t 0) (BF (l₁:=acc) (l₂:=[(i,j)]) (f:=z1s)).symm).trans (y9y 0 _)
     ·refine Eq.trans (AP (exs _ Y _ L) hset) ?_
      exact x8p h135 rfl (k1f j 1) rfl
    obtain⟨Y',q,r⟩:=q3d h5 hL n (j+1) m (acc++[(i,j)]) (upd Y 135 (.int ((j+1:Nat):Int))) (BI j 1 n▸hj) (Nat.lt_of_succ_lt_succ hm) (by rw [AC];exact AA (CJ (BI acc.length 1 n)) hn) h20 rfl h85 h136
    refine⟨Y',(z0c t (z0c st q)).trans ?_,r⟩
    have e:q8j ps i (n+1) j=(i,j)::q8j ps i n (j+1):=AR (AV h)
    rw [e,AW];rfl
  ·rw [DT h] at t
   refine⟨Y,(z0c t rfl).trans ?_,h85,h136⟩
   have e:q8j ps i n j=[]:=by
    cases n
    ·rfl
    ·exact AT (fun k=>h (AK k))
   rw [e,CG];rfl
theorem q8k(h5:∀ i,(i,5)∉ps)(hL:L.b<=H.length):∀ (is:List Nat) (acc:List (Nat×Nat)) (Y:z0l),(∀ i,i∈is->i<5)->acc.length+5*is.length<=90->Y 85=some (.lst (ps.map z1s))->Y 136=some (.ref H.length) ->
  ∃ Y',z3c (sem mp2 C 39).ex (.one 20) (z7s (st x1b 1)) [] Y (z1a is) L (H++[.lst (acc.map z1s)])=some (.next Y',H++[.lst ((acc++is.flatMap fun i=>q8j ps i (4 - i) (i+1)).map z1s)])/\Y' 136=some (.ref H.length)
 | [],acc,Y,_,_,_,h136=>⟨Y,by rw [List.flatMap_nil,CG];rfl,h136⟩
 | i::is,acc,Y,hi,hn,h85,h136=>by
  have i5:=hi i AD
  rw [BH] at hn
  have bl:=y9x ps i (4 - i) (i+1)
  obtain⟨A9,a,b,c⟩:=q3d (C:=C) (h5 i) hL (4 - i) (i+1) 40 acc (upd (upd Y 20 (.int (i:Int))) 135 (.int ((i+1:Nat):Int))) ((BI i 1 _).trans (AP (·+1) (DB (CP i5)))) (AZ (Nat.sub_le _ _) (by decide)) (AA (BM (AA (BC _ _) hn) (Nat.sub_le 4 i)) (by decide)) rfl rfl h85 h136
  obtain⟨Y',q,r⟩:=q8k h5 hL is (acc++q8j ps i (4 - i) (i+1)) A9 (fun k hk=>hi k (AE _ hk)) (by rw [AC];exact AA (BZ (CS (AA bl (AA (Nat.sub_le _ _) (by decide:4<=5))) _) _) (by rw [BI,Nat.add_assoc,<- Nat.mul_succ];exact hn)) b c
  have st':exs (sem mp2 C 39).ex (upd Y 20 (.int (i:Int))) (z7s (st x1b 1)) L (H++[.lst (acc.map z1s)])=some (.next A9,_):=z0d (z0f (z0a rfl) rfl (z2c _ i 1)) (z4g a rfl)
  refine⟨Y',(z1x rfl st').trans (q.trans ?_),r⟩
  rw [List.flatMap_cons,AW]
theorem x3o{k:Nat}(h5:∀ i,(i,5)∉ps)(hk:Y k=some (.lst (ps.map z1s))):(sem mp2 (z0h mp2 (lv+1)) (n+3)).ev Y (.pure (.call 28 [.var k])) L H=some (.lst ((z8o ps).map z1s),H):=by
 obtain⟨Y',q,r⟩:=q8k (C:=z0h mp2 lv) (L:=⟨H.length,H.length⟩) (H:=H) h5 (AL _) (List.range 5) [] (upd (y2y 85 (.lst (ps.map z1s))) 136 (.ref H.length)) (fun i hi=>AM.mp hi) (by decide) rfl rfl
 have hc:z0h mp2 (lv+1) 28 [.lst (ps.map z1s)] [] ⟨H.length,H.length⟩ H=some (.ref H.length,_):=z0v (Y:=y2y 85 (.lst (ps.map z1s))) k6e rfl (z0d (y0x z4w rfl) (y1a (up:=false) rfl q (z4i (z0a r))))
 exact z7g (L:=L) (z1g (z1h (z0a hk)) hc) (j5g (z1f (z2h _ _)) (y9y _ _))
theorem x6a{t:Nat}:∀ (cs:List Nat) (a:Nat),cs.foldl (y6l t) a<=a+(t+1)*cs.length
 | [],_=>BC _ _
 | c::cs,a=>by
  have e:y6l t a c<=a+(t+1):=by
   unfold y6l
   split
   ·exact CS (CI (BK t)) a
   ·exact BM (Nat.div_mul_le_self a t) (FK t)
  refine AA (x6a cs _) ?_
  rw [BH,Nat.mul_succ]
  lia
theorem q8l{t:Nat}(h1:1<=t)(h2:t<=30):∀ (cs:List Nat) (a:Nat) (Y:z0l),a+31*cs.length<=10000->Y 137=some (.int (a:Int))->Y 81=some (.int (t:Int)) ->
  ∃ Y',z3c (sem mp2 C 39).ex (.one 138) (z7s (st x1c 1)) [] Y (cs.map fun c=>.str ⟨#[c]⟩) L H=some (.next Y',H)/\Y' 137=some (.int ((cs.foldl (y6l t) a:Nat):Int))
 | [],a,Y,_,h137,_=>⟨Y,rfl,h137⟩
 | c::cs,a,Y,hn,h137,h81=>by
  rw [BH,Nat.mul_succ] at hn
  have bd:=x6a (t:=t) [c] a
  obtain⟨Y',q,r⟩:=q8l h1 h2 cs (y6l t a c) (upd (upd Y 138 (.str ⟨#[c]⟩)) 137 (.int ((y6l t a c:Nat):Int))) (by
   have:y6l t a c<=a+(t+1)*1:=bd
   lia) rfl h81
  have te:(sem mp2 C 37).ts (upd Y 138 (.str ⟨#[c]⟩)) (.cmp .eq (.var 138) (.str (Str.ofString " "))) L H=some (c==32,H):=by
   rw [<- x5i,<- q7t]
   exact z3u rfl (z0k (z0a rfl) rfl (eq_str _ _ _ _ _ _)) rfl
  have d1:a / t<=1000000:=AA (Nat.div_le_self _ _) (by lia)
  have ev:(sem mp2 C 38).ev (upd Y 138 (.str ⟨#[c]⟩)) (.ite (.cmp .eq (.var 138) (.str (Str.ofString " "))) (.bin .add (.var 137) (.int 1)) (.bin .add (.bin .mul (.bin .fdiv (.var 137) (.var 81)) (.var 81)) (.var 81))) L H=some (.int ((y6l t a c:Nat):Int),H):=by
   refine z6a te ?_
   unfold y6l
   by_cases h:c=32
   ·rw [AR (BE.mpr h),AR h];exact z0f (z0a h137) rfl (z2c H a 1)
   ·rw [AT (fun k=>h (BE.mp k)),AT h]
    exact z0f (z0f (z0f (z0a h137) (z0a h81) (j6d H h1 (AA h2 (by decide)))) (z0a h81) (q5d H d1 (AA h2 (by decide)))) (z0a h81) (z2c H _ _)
  have st:exs (sem mp2 C 39).ex (upd Y 138 (.str ⟨#[c]⟩)) (z7s (st x1c 1)) L H=some (.next (upd (upd Y 138 (.str ⟨#[c]⟩)) 137 (.int ((y6l t a c:Nat):Int))),H):=z0d ev rfl
  exact⟨Y',(z1x rfl st).trans q,r⟩
theorem w3l{x:Str}{t:Nat}(hx:x.length<=100)(h1:1<=t)(h2:t<=30):z0h mp2 (lv+1) 29 [.str x,.int (t:Int)] [] L H=some (.int ((z7t x.cps.toList t:Nat):Int),H):=by
 rw [z5r] at hx
 obtain⟨Y',q,r⟩:=q8l (C:=z0h mp2 lv) (L:=L) (H:=H) h1 h2 x.cps.toList 0 (upd (y3v 131 (.str x) 81 (.int (t:Int))) 137 (.int ((0:Nat):Int))) (by lia) rfl rfl
 exact z0v (Y:=y3v 131 (.str x) 81 (.int (t:Int))) k6f rfl (z0d rfl (y1a (up:=false) (z1p (z1h (z0a rfl)) rfl) q (z4i (z0a r))))
end
structure k2c(ls:List Str):Prop where
 len:ls.length=5
 ok:∀ x,x∈ls->z2p x 10
 ne:y6m ls≠[]
 runs:∀ r,r∈y6m ls->r<=10
 few:(y6m ls).length<=1000
theorem k2c.at{ls:List Str}(O:k2c ls){i:Nat}(hi:i<5):ls[i]?=some (ls.getD i y6b)/\z2p (ls.getD i y6b) 10:=by
 have e:ls[i]?=some (ls.getD i y6b):=by rw [AH,AN (O.len.symm▸hi)];rfl
 exact⟨e,O.ok _ (CE e)⟩
theorem q8m:∀ (xs:List Nat) (a:Nat),a<=xs.foldl (fun a b=>if b > a then b else a) a/\(∀ x,x∈xs->x<=xs.foldl (fun a b=>if b > a then b else a) a)/\∀ m,a<=m->(∀ x,x∈xs->x<=m)->xs.foldl (fun a b=>if b > a then b else a) a<=m
 | [],a=>⟨AL _,fun x hx=>absurd hx BB,fun m h _=>h⟩
 | x::xs,a=>by
  have h:a<=(if x > a then x else a)/\x<=(if x > a then x else a)/\∀ m,a<=m->x<=m->(if x > a then x else a)<=m:=by
   split
   ·exact⟨BR ‹_›,AL _,fun m _ h=>h⟩
   ·exact⟨AL _,CF.mp ‹_›,fun m h _=>h⟩
  obtain⟨a1,a2,a3⟩:=q8m xs (if x > a then x else a)
  refine⟨AA h.1 a1,fun y hy=>?_,fun m h1 h2=>a3 m (h.2.2 m h1 (h2 x AD)) fun y hy=>h2 y (AE _ hy)⟩
  rcases AQ.mp hy with e | hy
  ·rw [e];exact AA h.2.1 a1
  ·exact a2 y hy
theorem k8l{l:List Nat}:∀ x,x∈l->x<=mxN l:=fun x hx=>by
 induction l using List.casesOn with
 | nil=>exact absurd hx BB
 | cons y l=>
  rcases AQ.mp hx with e | hx
  ·rw [e];exact(q8m l y).1
  ·exact(q8m l y).2.1 x hx
theorem k8m{l:List Nat}{m:Nat}(h:∀ x,x∈l->x<=m):mxN l<=m:=by
 induction l using List.casesOn with
 | nil=>exact BK _
 | cons y l=>exact(q8m l y).2.2 m (h y AD) fun x hx=>h x (AE _ hx)
theorem q8n:∀ (xs:List Nat) (a:Nat),(xs.map fun(n:Nat)=>(n:Int)).foldl (fun a b=>if b > a then b else a) (a:Int)=((xs.foldl (fun a b=>if b > a then b else a) a:Nat):Int)
 | [],_=>rfl
 | x::xs,a=>by
  rw [BP,DA,DA,<- q8n xs]
  congr 1
  by_cases h:x > a
  ·rw [AR h,AR (Int.ofNat_lt.mpr h)]
  ·rw [AT h,AT (fun k=>h (Int.ofNat_lt.mp k))]
theorem x3p(P:MP)(H:z0b){l:List Nat}(h:l≠[]):z4p P .max H [.lst (z1a l)]=some (.int ((mxN l:Nat):Int)):=by
 show(z5h (z1a l)).bind w1c=_
 rw [z9s]
 induction l using List.casesOn with
 | nil=>exact absurd rfl h
 | cons x xs=>exact AP (fun z=>some (PV.int z)) (q8n xs x)
section
variable {lv n i j:Nat} {L:Lim} {H:z0b} {C:z0g} {Y:z0l} {ls:List Str}
theorem j8a{P:MP}(H:z0b){x:Str}(h:x.length<=100000):z4p P .split H [.str x,.str (Str.ofString "\t")]=some (.lst ((Txt.split x y6b).map .str)):=by
 rw [show Str.ofString "\t"=y6b from j6i]
 exact AR ⟨h,by decide⟩
theorem len_str(P:MP)(H:z0b){x:Str}(h:x.length<=1000000):z4p P .len H [.str x]=some (.int (x.length:Int)):=AR h
theorem x3q(O:k2c ls):z0h mp2 (lv+2) 30 [.lst (ls.map .str)] [] L H=some (.lst ((y2f ls).map z1s),H):=by
 let B1:=y2y 133 (.lst (ls.map .str))
 have l5:ls.length<=z2k:=AA (CJ O.len) (by decide)
 have er:(ls.flatMap fun x=>((Txt.split x y6b).filter fun _=>true).map fun y=>PV.int (y.length:Int))=z1a (y6m ls):=by
  unfold y6m z1a
  rw [EL]
  refine AP (fun f=>ls.flatMap f) (funext fun x=>?_)
  rw [PySem.W.filter_all,AX];rfl
 have k1:=z6p (S:=sem mp2 (z0h mp2 (lv+1)) 36) (Y:=B1) (L:=L) (H:=H) (elt:=.prim .len [.var 140]) (a:=131) (b:=140) (k:=.over) (k2:=.over) (args:=[.var 133]) (args2:=[.prim .split [.var 131,.str (Str.ofString "\t")]]) (ifs2:=[])
  (xs:=ls) (enc:=PV.str) (fun x=>Txt.split x y6b) (enc2:=fun _ y=>PV.str y) (fun _ _=>true) (fun x y=>.int (y.length:Int)) (z2b rfl)
  (fun x hx=>z1p (z1h (z0s (z2a (z0a rfl) rfl) (j8a _ (AA (O.ok x hx).len (by decide))))) rfl) (fun _ _ _ _=>rfl)
  (fun x hx y hy _=>z0s (z1h (z0a rfl)) (len_str _ _ (AA (O.runs _ (CX.mpr ⟨x,hx,CT hy⟩)) (by decide)))) (by rw [er,z3f];exact AA O.few (by decide))
 rw [er] at k1
 have mx:=k8m O.runs
 have t1:(sem mp2 (z0h mp2 (lv+1)) 39).ev B1 (.bin .add (.int 1) (.prim .max [.comp (.prim .len [.var 140]) [(.one 131,.over,[.var 133],[]),(.one 140,.over,[.prim .split [.var 131,.str (Str.ofString "\t")]],[])]])) L H=some (.int ((1+mxN (y6m ls):Nat):Int),H):=
  z0f rfl (z0s (z1h (z0i k1)) (x3p _ _ O.ne)) (z2c H 1 _)
 generalize ht:1+mxN (y6m ls)=top at t1
 have top11:top<=11:=by lia
 have hcol:∀ x,x∈ls->∀ t,t∈List.range' 1 top->1<=t/\t<=30:=fun x _ t h=>by
  obtain⟨a,b⟩:=CU.mp h
  exact⟨a,by lia⟩
 have t2:(sem mp2 (z0h mp2 (lv+1)) 39).ev (upd B1 139 (.int (top:Int))) (.comp (.comp (.call 29 [.var 131,.var 81]) [(.one 81,.range,[.int 1,.bin .add (.var 139) (.int 1)],[])]) [(.one 131,.over,[.var 133],[])]) L H=some (.lst (ls.map fun x=>.lst (z1a ((List.range' 1 top).map fun t=>z7t x.cps.toList t))),H):=by
  have k:=z1w (S:=sem mp2 (z0h mp2 (lv+1)) 38) (elt:=.comp (.call 29 [.var 131,.var 81]) [(.one 81,.range,[.int 1,.bin .add (.var 139) (.int 1)],[])]) (Y:=upd B1 139 (.int (top:Int))) (v:=131) (k:=.over) (args:=[.var 133]) (ifs:=[]) (L:=L) (H:=H) (xs:=ls) (enc:=PV.str) (up:=false) (test:=fun _=>true) (out:=fun x=>.lst (z1a ((List.range' 1 top).map fun t=>z7t x.cps.toList t))) (z2b rfl) l5 (fun _ _=>rfl)
   fun x hx _=>by
    have k2:=z0i (z1w (S:=sem mp2 (z0h mp2 (lv+1)) 37) (elt:=.call 29 [.var 131,.var 81]) (Y:=upd (upd B1 139 (.int (top:Int))) 131 (.str x)) (v:=81) (k:=.range) (args:=[.int 1,.bin .add (.var 139) (.int 1)]) (ifs:=[]) (L:=Lup false L H) (H:=H) (xs:=List.range' 1 top) (enc:=fun(t:Nat)=>PV.int (t:Int)) (up:=false) (test:=fun _=>true) (out:=fun t=>.int ((z7t x.cps.toList t:Nat):Int))
     (y3y (a:=1) (b:=top+1) rfl (z0f (z0a rfl) rfl (z2c H top 1)) (by decide) (AA (CI top11) (by decide))) (by rw [FZ];exact AA top11 (by decide)) (fun _ _=>rfl) fun t ht _=>z1g (z2a (z0a rfl) (z0a rfl)) (w3l (AA (O.ok x hx).len (by decide)) (hcol x hx t ht).1 (hcol x hx t ht).2))
    rw [PySem.W.filter_all] at k2
    unfold z1a
    rw [AX];exact k2
  rw [PySem.W.filter_all] at k
  exact z0i k
 let B0:=upd (upd B1 139 (.int (top:Int))) 91 (.lst (ls.map fun x=>.lst (z1a ((List.range' 1 top).map fun t=>z7t x.cps.toList t))))
 have k3:=z6p (S:=sem mp2 (z0h mp2 (lv+1)) 38) (Y:=B0) (L:=L) (H:=H) (elt:=.tup [.var 20,.var 135]) (a:=20) (b:=135) (k:=.range) (k2:=.range) (args:=[.int 5]) (args2:=[.bin .add (.var 20) (.int 1),.int 5]) (ifs2:=[])
  (xs:=List.range 5) (enc:=fun(w:Nat)=>PV.int (w:Int)) (fun i=>List.range' (i+1) (5 - (i+1))) (enc2:=fun _ (w:Nat)=>PV.int (w:Int)) (fun _ _=>true) (fun i j=>z1s (i,j)) rfl (fun i hi=>j7z rfl (AM.mp hi)) (fun _ _ _ _=>rfl) (fun i hi j hj _=>z1j (z2a (z0a rfl) (z0a rfl))) (k1d _ _)
 have eb:((List.range 5).flatMap fun i=>((List.range' (i+1) (5 - (i+1))).filter fun _=>true).map fun j=>z1s (i,j))=q3c.map z1s:=by
  unfold q3c
  rw [EL]
  refine AP (fun f=>(List.range 5).flatMap f) (funext fun i=>?_)
  rw [PySem.W.filter_all,AX];rfl
 rw [eb] at k3
 let Y3:=upd B0 99 (.lst (q3c.map z1s))
 have b5:∀ p,p∈q3c->p.1<5/\p.2<5:=by decide
 have eat:∀ (k' i k:Nat) (Y:z0l) (m:Nat),i<5->k<top->Y 91=some (.lst (ls.map fun x=>.lst (z1a ((List.range' 1 top).map fun t=>z7t x.cps.toList t))))->Y k'=some (.int (i:Int))->Y 31=some (.int (k:Int))->(sem mp2 (z0h mp2 (lv+1)) (m+3)).ev Y (.idx (.idx (.var 91) (.var k')) (.var 31)) L H=some (.int ((z7t (ls.getD i y6b).cps.toList (k+1):Nat):Int),H):=fun k' i k Y m hi hk h91 hk' h31=>
  z0q (z0q (z0a h91) (z0a hk') (by rw [BD,(O.at hi).1];rfl)) (z0a h31) (y9u (by rw [BD,List.getElem?_range' hk,Nat.one_mul,Nat.add_comm 1 k];rfl))
 have t4:(sem mp2 (z0h mp2 (lv+1)) 39).ev Y3 (.comp (.tup [.var 20,.var 135]) [(.tup [20,135],.over,[.var 99],[.cmp .eq (.comp (.var 31) [(.one 31,.range,[.var 139],[.cmp .ge (.idx (.idx (.var 91) (.var 20)) (.var 31)) (.idx (.idx (.var 91) (.var 135)) (.var 31))])]) (.lst [])])]) L H=some (.lst ((q3c.filter (j0z ls top)).map z1s),H):=by
  refine z0i (j5a (xs:=q3c) (e1:=fun p=>.int (p.1:Int)) (e2:=fun p=>.int (p.2:Int)) (up:=false) (test:=j0z ls top) (out:=z1s) (z2b rfl) (by decide) (fun p hp=>z2z (z3u rfl (z0k (q:=.lst []) (z0i (z1w (xs:=List.range top) (enc:=fun(t:Nat)=>PV.int (t:Int)) (up:=false) (test:=fun k=>decide (z7t (ls.getD p.2 y6b).cps.toList (k+1)<=z7t (ls.getD p.1 y6b).cps.toList (k+1))) (out:=fun(t:Nat)=>PV.int (t:Int))
   (z1p (z1h (z0a rfl)) (y7j (AA top11 (by decide)))) (by rw [EB];exact AA top11 (by decide)) (fun k hk=>z2z (z3u rfl (z0k (eat 20 p.1 k _ _ (b5 p hp).1 (AM.mp hk) rfl rfl rfl) (eat 135 p.2 k _ _ (b5 p hp).2 (AM.mp hk) rfl rfl rfl) (q7p _ _ _ _ _ _)) rfl)) fun k _ _=>z0a rfl)) (z1q z4w) (y2b _ _ _ _ _)) rfl)) fun p hp _=>z1j (z2a (z0a rfl) (z0a rfl)))
 unfold y2f
 rw [ht]
 exact z0v (Y:=B1) k6g rfl (z0d t1 (z0d t2 (z0d (z0i k3) (z4i t4))))
end
noncomputable def z7q(ns:List Int):List Ln:=([10,1,12,7]++ns.take 10).map x5l
theorem q3e(ns:List Int):Ups (z7q ns):=fun t ht=>by
 obtain⟨x,_,rfl⟩:=AY.mp ht
 have:=k7g _ (k7f x).1
 exact⟨this.2.2,this.2.1⟩
theorem j1a(ns:List Int):(z7q ns).length<=14:=by
 unfold z7q
 rw [AI,AC]
 exact CS (FV 10 ns) 4
section
variable {H:z0b} {Y:z0l} {ns:List Int} {b i j n:Nat} {ls:List Ln}
theorem w8r(h:Y 82=some (.lst (ns.map .int))):(sem mp2 C1 39).ev Y (.prim .sum [.comp (.bin .fdiv (.var 84) (.int 20)) [(.one 84,.over,[.slice (.var 82) none (some (.int 10))],[])]]) Lz H=some (.int (z6n ns),H):=by
 have key:=z1w (S:=sem mp2 C1 37) (elt:=.bin .fdiv (.var 84) (.int 20)) (Y:=Y) (v:=84) (k:=.over) (args:=[.slice (.var 82) none (some (.int 10))]) (ifs:=[]) (L:=Lz) (H:=H)
  (xs:=ns.take 10) (enc:=PV.int) (up:=false) (test:=fun _=>true) (out:=fun x=>PV.int (x.fdiv 20))
  (z1p (z1h (z6l (k:=((10:Nat):Int)) (z0a h) rfl (z8x H _ (by decide)))) (by rw [<- List.map_take];rfl))
  (AA (FV 10 ns) (by decide)) (fun x _=>rfl) fun x _ _=>z0f (z0a rfl) rfl (y3z H x (by decide) (by decide))
 rw [PySem.W.filter_all,show(ns.take 10).map (fun x=>PV.int (x.fdiv 20))=((ns.take 10).map fun x=>x.fdiv 20).map PV.int from(AX (f:=fun x:Int=>x.fdiv 20) (g:=PV.int)).symm] at key
 exact z0s (z1h (z0i key)) (x1y _ _ _)
theorem w8s(h:Y 83=some (.int (z6n ns))):(sem mp2 C1 39).ev Y (.bin .mod (.bin .add (.int 7) (.var 83)) (.int 28)) Lz H=some (.int ((y7n ns:Nat):Int),H):=by
 have e1:(7+z6n ns).fmod 28=((y7n ns:Nat):Int):=by
  unfold y7n
  rw [EN _ (by decide),Int.toNat_of_nonneg (Int.emod_nonneg (7+z6n ns) (by decide:(28:Int)≠0))]
 exact z0f (z0f rfl (z0a h) (add_int H _ _)) rfl ((y4a H _ (by decide)).trans (AP (fun z=>some (PV.int z)) e1))
theorem w8t(h82:Y 82=some (.lst (ns.map .int)))(h85:Y 85=some (.lst (prs.map z1s))):(sem mp2 C1 39).ev Y (.comp (.bin .add (.idx (.var 85) (.bin .mod (.var 84) (.int 10))) (.tup [.cmp .eq (.bin .mod (.bin .fdiv (.var 84) (.int 10)) (.int 2)) (.int 1)])) [(.one 84,.over,[.bin .add (.lst [.int 10,.int 1,.int 12,.int 7]) (.slice (.var 82) none (some (.int 10)))],[])]) Lz H=some (.lst ((z7q ns).map z8w),H):=by
 have hl:([10,1,12,7]++ns.take 10).length<=z2k:=by
  rw [AC]
  exact AA (CS (FV 10 ns) 4) (by decide)
 have hcat:y5z .add H (.lst [.int 10,.int 1,.int 12,.int 7]) (.lst ((ns.map .int).take 10))=some (.lst (([10,1,12,7]++ns.take 10).map .int)):=by
  rw [<- List.map_take,z7i _ _ _ (by rw [<- AI (f:=PV.int),BF] at hl;exact hl)]
  rfl
 have key:=z1w (S:=sem mp2 C1 38) (elt:=.bin .add (.idx (.var 85) (.bin .mod (.var 84) (.int 10))) (.tup [.cmp .eq (.bin .mod (.bin .fdiv (.var 84) (.int 10)) (.int 2)) (.int 1)])) (Y:=Y) (v:=84) (k:=.over) (args:=[.bin .add (.lst [.int 10,.int 1,.int 12,.int 7]) (.slice (.var 82) none (some (.int 10)))]) (ifs:=[]) (L:=Lz) (H:=H)
  (xs:=[10,1,12,7]++ns.take 10) (enc:=PV.int) (up:=false) (test:=fun _=>true) (out:=fun x=>z8w (x5l x))
  (z1p (z1h (z0f rfl (z6l (k:=((10:Nat):Int)) (z0a h82) rfl (z8x H _ (by decide))) hcat)) rfl) hl (fun x _=>rfl)
  (fun x _ _=>by
   obtain⟨m1,m2⟩:=k7f x
   have hp:(prs.map z1s)[(x.fmod 10).toNat]?=some (z1s (prs.getD (x.fmod 10).toNat (0,1))):=by
    rw [BD,AH,AN (by exact m1)];rfl
   have z1:(sem mp2 C1 37).ev (upd Y 84 (.int x)) (.idx (.var 85) (.bin .mod (.var 84) (.int 10))) (Lup false Lz H) H=some (z1s (prs.getD (x.fmod 10).toNat (0,1)),H):=by
    refine z0q (z0a h85) ?_ hp
    rw [<- m2]
    exact z0f (z0a rfl) rfl (y4a H x (by decide))
   have z3:(sem mp2 C1 37).ev (upd Y 84 (.int x)) (.tup [.cmp .eq (.bin .mod (.bin .fdiv (.var 84) (.int 10)) (.int 2)) (.int 1)]) (Lup false Lz H) H=some (.tup [.bool ((x.fdiv 10).fmod 2==1)],H):=
    z1j (z1h (z0k (z0f (z0f (z0a rfl) rfl (y3z H x (by decide) (by decide))) rfl (y4a H _ (by decide))) rfl (eq_int _ _ _ _ _ _)))
   exact z0f z1 z3 rfl)
 rw [PySem.W.filter_all] at key
 unfold z7q
 rw [AX]
 exact z0i key
theorem w8u(hb:b<28)(h45:Y 45=some (.int (b:Int))):(sem mp2 C1 39).ev Y (.prim .split [.pure (.call 6 [.bin .shl (.int 31) (.var 45)]),.str (Str.ofString ", ")]) Lz H=some (.lst ((W b).map .str),H):=by
 have h1:(sem mp2 C1 38).ev Y (.pure (.call 6 [.bin .shl (.int 31) (.var 45)])) Lz H=some (.str (z3m (31*2^b)),H):=w3a (lv:=18) (n:=36) hb (by decide) (z0f (p:=.int ((31:Nat):Int)) rfl (z0a h45) (q5j H (by decide) (AA (BR hb) (by decide))))
 have h2:=k7w (n:=37) h1 (AA (y7q hb (by decide:31<32)) (by decide))
 rw [y2s hb (by decide),k0c] at h2
 exact h2
theorem w8v(hb:b<28)(h45:Y 45=some (.int (b:Int)))(h55:Y 55=some (.lst ((W b).map .str))):(sem mp2 C1 39).ts Y (.cmp .ne (.var 55) (.call 19 [.var 45])) Lz H=some (false,H):=
 z3u rfl (z0k (z0a h55) (z1g (z1h (z0a h45)) (x9y 18 hb _ _)) (j6p mp2 C1 (k0d hb) (k0d hb) Lz H)) (by rw [AV rfl];rfl)
noncomputable def y6n(N:List (List Nat))(p:Nat):Nat:=((nb N p).map fun q=>2^q).sum
theorem w8w{N:List (List Nat)}(hb:b<28)(R:z3y N)(hM:∀ p,p<5->y6n N p<32)(h57:Y 57=some (z0x N))(h45:Y 45=some (.int (b:Int))) :
  (sem mp2 C1 39).ev Y (.comp (.pure (.call 6 [.bin .shl (.prim .sum [.comp (.bin .shl (.int 1) (.var 32)) [(.one 32,.over,[.var 68],[])]]) (.var 45)])) [(.one 68,.over,[.var 57],[])]) Lz H=some (.lst (z3w b (y6n N)),H):=by
 have eN:N.map (fun r=>PV.lst (z1a r))=(List.range 5).map fun p=>PV.lst (z1a (nb N p)):=by
  refine List.ext_getElem? fun p=>?_
  by_cases hp:p<5
  ·rw [R.row hp,BD,EE hp];rfl
  ·rw [DC (by rw [AI,R.len];exact CF.mp hp),DC (by rw [AI,EB];exact CF.mp hp)]
 refine(z0i (z1w (xs:=List.range 5) (enc:=fun p=>.lst (z1a (nb N p))) (up:=false) (test:=fun _=>true) (out:=fun p=>.str (z3m (y6n N p*2^b))) (z2b (h57.trans (AP (fun z=>some (PV.lst z)) eN))) (by decide) (fun _ _=>rfl) fun p hp _=>?_)).trans (by rw [PySem.W.filter_all])
 have p5:=AM.mp hp
 obtain⟨_,r2,r3⟩:=R.get p5
 refine w3a (lv:=18) (n:=36) hb (hM p p5) ?_
 have key:=z1w (S:=sem mp2 C1 33) (elt:=.bin .shl (.int 1) (.var 32)) (Y:=upd Y 68 (.lst (z1a (nb N p)))) (v:=32) (k:=.over) (args:=[.var 68]) (ifs:=[]) (L:=⟨H.length,H.length⟩) (H:=H) (xs:=nb N p) (enc:=fun(q:Nat)=>PV.int (q:Int)) (up:=false) (test:=fun _=>true) (out:=fun q=>.int ((2^q:Nat):Int)) (z2b rfl) (AA r2 (by decide)) (fun _ _=>rfl)
  fun q hq _=>z0f rfl (z0a rfl) (y1s H (BS (r3 q hq) (by decide)))
 rw [PySem.W.filter_all,show(nb N p).map (fun q=>PV.int ((2^q:Nat):Int))=z1a ((nb N p).map fun q=>2^q) from(AX (f:=fun q=>2^q) (g:=fun(n:Nat)=>PV.int (n:Int))).symm] at key
 exact z0f (z0s (z1h (z0i key)) (x1u _ _ _)) (z0a h45) (q5j H (BS (hM p p5) (by decide)) (AA (BR hb) (by decide)))
theorem w8x(hb:b<28)(hu:Ups ls)(hn:ls.length<=400)(A:At H i j (ls.map (lnT b)))(h118:Y 118=some (.inst 1 i)) :
  (sem mp2 C1 39).ev Y (.new 1 [.meth 88 (.var 118) []]) Lz H=some (.inst 1 (H.length+1),H++[.lst ((ls.map (lnT b)).map z4h)]++[.att [(30,.ref H.length)]]):=by
 have A0:=A.t hb hu (AA hn (by decide))
 have hl:(H++[z2u.lst ((ls.map (lnT b)).map z4h)]).length=H.length+1:=AC
 have hinit:=x8y 17 (L:=Lz) (H:=H++[.lst ((ls.map (lnT b)).map z4h)]++[.att []]) (i:=(H++[z2u.lst ((ls.map (lnT b)).map z4h)]).length) (r:=H.length) (hs:=ls.map (lnT b)) (q4w (z2h _ _)) (z2h _ _) (BK _) fun h hh=>by
  obtain⟨l,hl,rfl⟩:=AY.mp hh
  exact⟨(j6u hb (hu l hl) _).ok,(k0l (hu l hl)).1⟩
 rw [z8g] at hinit
 have:=y9h (n:=38) (Y:=Y) j5d (z1h (z4f (z0a h118) A0.a z4w j5f (j5n 18 A0))) hinit
 rw [hl] at this
 exact this
noncomputable def z2f(N:List (List Nat)):List Nat:=[4,3,2,1,0].flatMap fun c=>(List.range 5).filter fun u=>(nb N u).length==c
theorem w3m{N:List (List Nat)}(R:z3y N)(h57:Y 57=some (z0x N)) :
  (sem mp2 C1 39).ev Y (.comp (.var 58) [(.one 10,.over,[.tup [.int 4,.int 3,.int 2,.int 1,.int 0]],[]),(.one 58,.range,[.int 5],[.cmp .eq (.prim .len [.idx (.var 57) (.var 58)]) (.var 10)])]) Lz H=some (.lst (z1a (z2f N)),H):=by
 have e:([4,3,2,1,0].flatMap fun c=>((List.range 5).filter fun u=>(nb N u).length==c).map fun(u:Nat)=>PV.int (u:Int))=z1a (z2f N):=by
  unfold z1a z2f
  rw [EL]
 have key:=z6p (S:=sem mp2 C1 38) (Y:=Y) (L:=Lz) (H:=H) (elt:=.var 58) (a:=10) (b:=58) (k:=.over) (k2:=.range) (args:=[.tup [.int 4,.int 3,.int 2,.int 1,.int 0]]) (args2:=[.int 5]) (ifs2:=[.cmp .eq (.prim .len [.idx (.var 57) (.var 58)]) (.var 10)])
  (xs:=[4,3,2,1,0]) (enc:=fun(c:Nat)=>PV.int (c:Int)) (fun _=>List.range 5) (enc2:=fun _ (u:Nat)=>PV.int (u:Int)) (fun c u=>(nb N u).length==c) (fun _ (u:Nat)=>PV.int (u:Int)) rfl (fun _ _=>rfl)
  (fun c _ u hu=>z2z (z3u rfl (z0k (z0s (z1h (x2z R (AM.mp hu) h57 rfl)) (by rw [j6c,z3f])) (z0a rfl) ((eq_int _ _ _ _ _ _).trans (by rw [j6a]))) rfl)) (fun _ _ _ _ _=>z0a rfl)
  (AA (z7k _ 5 _ fun c _=>by rw [AI];exact CA _ _) (by decide))
 rw [e] at key
 exact z0i key
noncomputable def pcL:List Str:=[Str.ofString "  ",Str.ofString "\t",Str.ofString " \t"]
noncomputable def pcN(r:Int)(v:Nat):Nat:=(((v:Int)+(r.fdiv 28).fdiv (3^v)).fmod 3).toNat
noncomputable def j8t(r:Int)(v:Nat):Str:=pcL.getD (pcN r v) (Str.ofString "  ")
theorem x6b(r:Int)(v:Nat):((v:Int)+(r.fdiv 28).fdiv (3^v)).fmod 3=((pcN r v:Nat):Int)/\pcN r v<3:=by
 unfold pcN
 rw [EN _ (by decide)]
 have h1:=Int.emod_nonneg ((v:Int)+(r.fdiv 28).fdiv (3^v)) (by decide:(3:Int)≠0)
 have h2:=Int.emod_lt_of_pos ((v:Int)+(r.fdiv 28).fdiv (3^v)) (by decide:(0:Int)<3)
 exact⟨(Int.toNat_of_nonneg h1).symm,(Int.toNat_lt h1).mpr h2⟩
theorem j8b(r:Int)(v:Nat):pcL[pcN r v]?=some (j8t r v):=by
 unfold j8t
 rw [AH,AN (show pcN r v<pcL.length from(x6b r v).2)];rfl
theorem x3r(r:Int)(v:Nat):j8t r v∈pcL:=CE (j8b r v)
theorem w8y(H:z0b):∀ v:Nat,v<5->y5z .pow H (.int 3) (.int (v:Int))=some (.int (3^v:Int))
 | 0,_=>rfl
 | 1,_=>rfl
 | 2,_=>rfl
 | 3,_=>rfl
 | 4,_=>rfl
 | n+5,h=>absurd h (CF.mpr (CO 5 n))
theorem w3n{r:Int}(h83:Y 83=some (.int r)):(sem mp2 C1 39).ev Y (.comp (.idx (.tup [.str (Str.ofString "  "),.str (Str.ofString "\t"),.str (Str.ofString " \t")]) (.bin .mod (.bin .add (.var 32) (.bin .fdiv (.bin .fdiv (.var 83) (.int 28)) (.bin .pow (.int 3) (.var 32)))) (.int 3))) [(.one 32,.range,[.int 5],[])]) Lz H=some (.lst (j7p (j8t r)),H):=by
 refine(z0i (z1w (xs:=List.range 5) (enc:=fun(v:Nat)=>PV.int (v:Int)) (up:=false) (test:=fun _=>true) (out:=fun v=>.str (j8t r v)) rfl (by decide) (fun _ _=>rfl) fun v hv _=>?_)).trans (by rw [PySem.W.filter_all])
 have v5:=AM.mp hv
 have hp:∀ v:Nat,v<5->(3^v:Int)≠0/\(3^v:Int).natAbs<1000000:=by decide
 refine z8i (k:=pcN r v) (l:=pcL.map .str) rfl ?_ (by rw [BD,j8b];rfl)
 exact z0f (z0f (z0a rfl) (z0f (z0f (z0a h83) rfl (y3z H r (by decide) (by decide))) (z0f rfl (z0a rfl) (w8y H v v5)) (y3z H _ (hp v v5).1 (hp v v5).2)) (add_int H _ _)) rfl ((y4a H _ (by decide)).trans (AP (fun z=>some (PV.int z)) (x6b r v).1))
end
noncomputable def swp(p:Nat×Nat):Nat×Nat:=(p.2,p.1)
noncomputable def z4t(ls:List Ln):List (Nat×Nat):=ls.map pq++ls.map fun l=>swp (pq l)
noncomputable def z5s(ties:List (Nat×Nat)):List (List Nat):=(List.range 5).map fun u=>(List.range 5).filter fun v=>decide ((u,v)∈ties)
theorem q3f(ties:List (Nat×Nat)):z3y (z5s ties):=⟨AI _,fun r hr=>by
 obtain⟨u,_,rfl⟩:=AY.mp hr
 exact⟨AA (CA _ _) (by decide),fun q hq=>AM.mp (BG.mp hq).1⟩⟩
noncomputable def cst(p:Nat×Nat):Int×Int:=((p.1:Int),(p.2:Int))
noncomputable def w3o(q:Int×Int):PV:=.tup [.int q.1,.int q.2]
noncomputable def j8c(l:List (Nat×Nat)):List (Int×Int):=(l.map cst).mergeSort z3i
noncomputable def k1g(S:List Pg)(bl:List (Nat×Nat)):List (Nat×Nat):=bl.map fun p=>((S.map fun l=>l.1).getD p.1 0,(S.map fun l=>l.1).getD p.2 0)
noncomputable def k1h(met ties:List (Nat×Nat)):Bool:=decide (j8c (met++met.map swp)=j8c ties)
theorem q3g:∀ l:List (Nat×Nat),pairsOf (l.map z1s)=some (l.map cst)
 | []=>rfl
 | p::l=>by
  show(pairsOf (l.map z1s)).map _=_
  rw [q3g l];rfl
theorem x6c{P:MP}{H:z0b}{l:List (Nat×Nat)}(h1:l.length≠1)(h2:l.length<64)(h3:∀ p,p∈l->p.1<5/\p.2<5):z4p P .sorted H [.lst (l.map z1s)]=some (.lst ((j8c l).map w3o)):=by
 have e:∀ n:Nat,n<5->z2m (n:Int)=true:=fun n h=>AG.mpr ⟨AV (DZ n),AV (Int.ofNat_lt.mpr (BS h (by decide:5<1000)))⟩
 show(pairsOf (l.map z1s)).bind (fun ps=>if ps.length≠1/\ps.length<64/\(ps.all fun q=>z2m q.1&&z2m q.2)=true then some (PV.lst ((ps.mergeSort z3i).map w3o)) else none)=_
 rw [q3g l]
 refine AR ⟨?_,?_,?_⟩
 ·rw [AI];exact h1
 ·rw [AI];exact h2
 ·refine BA.mpr fun q hq=>?_
  obtain⟨p,hp,rfl⟩:=AY.mp hq
  exact AG.mpr ⟨e _ (h3 p hp).1,e _ (h3 p hp).2⟩
theorem q5s:∀ v,v<5->List.range 5=List.range v++v::List.range' (v+1) (4 - v):=by decide
theorem q3h{S:List Pg}{p:Nat×Nat}(h:p∈z7p S):p.1<p.2/\p.2<5:=by
 obtain⟨i,hi,hp⟩:=CX.mp h
 obtain⟨j,hj,rfl⟩:=AY.mp hp
 exact r15 (BG.mp hj).1
section
variable {H:z0b} {Y:z0l} {b i j n:Nat} {ls:List Ln} {S:List Pg} {ps:List (Nat×Nat)}
theorem w3p(O:x3n b S)(A0:HAt H i j (S.map (lnP b)))(h90:Y 90=some (.inst 1 i)):(sem mp2 C1 39).ev Y (.pure (.call 27 [.pure (.meth 102 (.var 90) []),.pure (.meth 103 (.var 90) [])])) Lz H=some (.lst ((z7p S).map z1s),H):=by
 have k1:=fun L=>j7h (lv:=18) (n:=34) (L:=L) (k:=90) A0 h90
 have k2:=fun L=>q8f (lv:=18) (n:=34) (L:=L) (k:=90) A0 h90
 rw [q5q] at k1
 rw [show((S.map (lnP b)).map (·.2)).map PV.str=S.map fun l=>.str l.2.1 by rw [AX,AX];rfl] at k2
 exact z7g (L:=Lz) (z1g (z2a (k1 _) (k2 _)) (k1e (lv:=16) O (AL _) (AL _))) (AP (Option.map PV.lst) (k8k _ _ _))
theorem w3q(hb:b<28)(h55:Y 55=some (.lst ((W b).map .str))):(sem mp2 C1 39).ev Y (.comp (.prim .lower [.var 47]) [(.one 47,.over,[.var 55],[])]) Lz H=some (.lst ((List.range 5).map fun v=>.str (Txt.lower (wk (b+v)))),H):=
 (z0i (z1w (xs:=List.range 5) (enc:=fun v=>.str (wk (b+v))) (up:=false) (test:=fun _=>true) (out:=fun v=>.str (Txt.lower (wk (b+v)))) (z2b (h55.trans (by rw [w2t]))) (by decide) (fun _ _=>rfl)
  fun v hv _=>k2a (z0a rfl) (AA (z6d (b32 hb (AM.mp hv))).len (by decide)))).trans (by rw [PySem.W.filter_all])
theorem w3r(O:x3n b S)(A0:HAt H i j (S.map (lnP b)))(h90:Y 90=some (.inst 1 i))(h142:Y 142=some (.lst ((List.range 5).map fun v=>.str (Txt.lower (wk (b+v)))))) :
  (sem mp2 C1 39).ev Y (.comp (.prim .index [.var 142,.prim .lower [.var 34]]) [(.one 34,.over,[.pure (.meth 102 (.var 90) [])],[])]) Lz H=some (.lst (z1a (S.map fun l=>l.1)),H):=by
 have k1:=j7h (lv:=18) (n:=35) (L:=Lz) (k:=90) A0 h90
 rw [q5q] at k1
 refine(z0i (z1w (xs:=S) (enc:=fun l=>.str (lnP b l).1) (up:=false) (test:=fun _=>true) (out:=fun l=>.int (l.1:Int)) (z1p (z1h k1) rfl) (AA (CJ O.len) (by decide)) (fun _ _=>rfl) fun l hl _=>?_)).trans (by rw [PySem.W.filter_all];unfold z1a;rw [AX];rfl)
 have l5:=O.lt l hl
 have w:=z6d (b32 O.b l5)
 have sp:=q5s _ l5
 refine z0s (z2a (z0a h142) (k2a (z0a rfl) (AA (y7i w) (by decide)))) ?_
 rw [show Txt.lower (lnP b l).1=Txt.lower (wk (b+l.1)) from y7h w]
 have hx:∀ v,v∈List.range l.1++l.1::List.range' (l.1+1) (4 - l.1)->v<5:=fun v hv=>AM.mp (sp▸hv)
 have k:=y5w (P:=mp2) (H:=H) (g:=fun v=>PV.str (Txt.lower (wk (b+v)))) (f:=fun v=>.str (Txt.lower (wk (b+v)))) (l:=l.1) (A:=List.range l.1) (R:=List.range' (l.1+1) (4 - l.1)) (fun v hv=>y7r (z6d (b32 O.b (hx v hv))).sokl) rfl (DF (Txt.lower (wk (b+l.1)))) fun v hv=>ED fun e=>DK (AM.mp hv) (EF (y1w (b32 O.b (BS (AM.mp hv) l5)) (b32 O.b l5) e))
 rw [<- sp,EB] at k
 exact k
theorem w3s(hS:S.length=5)(hp:∀ p,p∈ps->p.1<5/\p.2<5)(hn:ps.length<=100)(h143:Y 143=some (.lst (z1a (S.map fun l=>l.1))))(h136:Y 136=some (.lst (ps.map z1s))) :
  (sem mp2 C1 39).ev Y (.comp (.tup [.idx (.var 143) (.var 20),.idx (.var 143) (.var 135)]) [(.tup [20,135],.over,[.var 136],[])]) Lz H=some (.lst ((k1g S ps).map z1s),H):=by
 have hat:∀ i,i<5->(z1a (S.map fun l=>l.1))[i]?=some (.int (((S.map fun l=>l.1).getD i 0:Nat):Int)):=fun i hi=>y9u (by rw [AH,AN (by rw [AI,hS];exact hi)];rfl)
 have k:=z0i (j5a (S:=sem mp2 C1 38) (elt:=.tup [.idx (.var 143) (.var 20),.idx (.var 143) (.var 135)]) (Y:=Y) (L:=Lz) (H:=H) (a:=20) (b:=135) (ifs:=[]) (xs:=ps) (e1:=fun p=>.int (p.1:Int)) (e2:=fun p=>.int (p.2:Int)) (up:=false) (test:=fun _=>true) (out:=fun p=>z1s ((S.map fun l=>l.1).getD p.1 0,(S.map fun l=>l.1).getD p.2 0)) (z2b h136) (AA hn (by decide)) (fun _ _=>rfl)
  fun p h _=>z1j (z2a (z0q (z0a h143) (z0a rfl) (hat _ (hp p h).1)) (z0q (z0a h143) (z0a rfl) (hat _ (hp p h).2))))
 rw [PySem.W.filter_all] at k
 unfold k1g
 rw [AX]
 exact k
theorem w3t(hn:ls.length<=50)(h98:Y 98=some (.lst (ls.map z8w))):(sem mp2 C1 39).ev Y (.bin .add (.comp (.tup [.var 58,.var 32]) [(.tup [58,32,48],.over,[.var 98],[])]) (.comp (.tup [.var 32,.var 58]) [(.tup [58,32,48],.over,[.var 98],[])])) Lz H=some (.lst ((z4t ls).map z1s),H):=by
 have hl:ls.length<=z2k:=AA hn (by decide)
 have k1:=z0i (j5b (S:=sem mp2 C1 37) (elt:=.tup [.var 58,.var 32]) (Y:=Y) (L:=Lz) (H:=H) (a:=58) (b:=32) (c:=48) (ifs:=[]) (xs:=ls) (e1:=fun l=>.int (l.1:Int)) (e2:=fun l=>.int (l.2.1:Int)) (e3:=fun l=>.bool l.2.2) (up:=false) (test:=fun _=>true) (out:=fun l=>z1s (pq l)) (z2b h98) hl (fun _ _=>rfl) fun l _ _=>z1j (z2a (z0a rfl) (z0a rfl)))
 have k2:=z0i (j5b (S:=sem mp2 C1 37) (elt:=.tup [.var 32,.var 58]) (Y:=Y) (L:=Lz) (H:=H) (a:=58) (b:=32) (c:=48) (ifs:=[]) (xs:=ls) (e1:=fun l=>.int (l.1:Int)) (e2:=fun l=>.int (l.2.1:Int)) (e3:=fun l=>.bool l.2.2) (up:=false) (test:=fun _=>true) (out:=fun l=>z1s (swp (pq l))) (z2b h98) hl (fun _ _=>rfl) fun l _ _=>z1j (z2a (z0a rfl) (z0a rfl)))
 rw [PySem.W.filter_all] at k1 k2
 refine z0f k1 k2 ((z7i H _ _ ?_).trans ?_)
 ·rw [AC,AI,AI];exact AA (BM hn hn) (by decide)
 ·unfold z4t
  rw [BF,AX,AX];rfl
theorem w3u(h63:Y 63=some (.lst (ps.map z1s))):(sem mp2 C1 39).ev Y (.comp (.comp (.var 32) [(.one 32,.range,[.int 5],[.cmp .in_ (.tup [.var 58,.var 32]) (.var 63)])]) [(.one 58,.range,[.int 5],[])]) Lz H=some (z0x (z5s ps),H):=by
 refine(z0i (z1w (xs:=List.range 5) (enc:=fun(u:Nat)=>PV.int (u:Int)) (up:=false) (test:=fun _=>true) (out:=fun u=>.lst (z1a ((List.range 5).filter fun v=>decide ((u,v)∈ps)))) rfl (by decide) (fun _ _=>rfl) fun u _ _=>?_)).trans (by rw [PySem.W.filter_all];unfold z0x z5s;rw [AX];rfl)
 exact z0i (z1w (xs:=List.range 5) (enc:=fun(u:Nat)=>PV.int (u:Int)) (up:=false) (test:=fun v=>decide ((u,v)∈ps)) (out:=fun(v:Nat)=>PV.int (v:Int)) rfl (by decide) (fun v _=>z2z (z3u rfl (z0k (z1j (z2a (z0a rfl) (z0a rfl))) (z0a h63) (j6b _ _ _ _)) rfl)) fun v _ _=>z0a rfl)
theorem w3v{met ties:List (Nat×Nat)}(hm:met.length<=20)(ht:ties.length≠1)(ht2:ties.length<64)(m5:∀ p,p∈met->p.1<5/\p.2<5)(t5:∀ p,p∈ties->p.1<5/\p.2<5)(h69:Y 69=some (.lst (met.map z1s)))(h63:Y 63=some (.lst (ties.map z1s))) :
  (sem mp2 C1 39).ev Y (.cmp .eq (.prim .sorted [.bin .add (.var 69) (.comp (.tup [.var 62,.var 61]) [(.tup [61,62],.over,[.var 69],[])])]) (.prim .sorted [.var 63])) Lz H=some (.bool (k1h met ties),H):=by
 have k:=z0i (j5a (S:=sem mp2 C1 35) (elt:=.tup [.var 62,.var 61]) (Y:=Y) (L:=Lz) (H:=H) (a:=61) (b:=62) (ifs:=[]) (xs:=met) (e1:=fun p=>.int (p.1:Int)) (e2:=fun p=>.int (p.2:Int)) (up:=false) (test:=fun _=>true) (out:=fun p=>z1s (swp p)) (z2b h69) (AA hm (by decide)) (fun _ _=>rfl) fun p _ _=>z1j (z2a (z0a rfl) (z0a rfl)))
 rw [PySem.W.filter_all] at k
 have c:y5z .add H (.lst (met.map z1s)) (.lst (met.map fun p=>z1s (swp p)))=some (.lst ((met++met.map swp).map z1s)):=(z7i H _ _ (by rw [AC,AI,AI];exact AA (BM hm hm) (by decide))).trans (by rw [BF,AX];rfl)
 refine z0k (z0s (z1h (z0f (z0a h69) k c)) (x6c ?_ ?_ ?_)) (z0s (z1h (z0a h63)) (x6c ht ht2 t5)) (z7o rfl (z9i (f:=fun l:List (Int×Int)=>PV.lst (l.map w3o)) (z5e (y9g (f:=PV.int) (g:=PV.int) j5x j5x)) (by decide) (fun _ _=>⟨trivial,trivial⟩) fun _ _=>⟨trivial,trivial⟩))
 ·rw [AC,AI];lia
 ·rw [AC,AI];lia
 ·intro p hp
  rcases BL.mp hp with hp | hp
  ·exact m5 p hp
  ·obtain⟨q,hq,rfl⟩:=AY.mp hp
   exact⟨(m5 q hq).2,(m5 q hq).1⟩
end
theorem k8n:y2z z4h (fun h=>PyData.strOk h.1=true/\PyData.strOk h.2=true) 1:=y9g (f:=PV.str) (g:=PV.str) y5p y5p
theorem w3w(P:MP)(C:z0g){a b:HL}(ha:∀ h,h∈a->PyData.strOk h.1=true/\PyData.strOk h.2=true)(hb:∀ h,h∈b->PyData.strOk h.1=true/\PyData.strOk h.2=true)(L:Lim)(H:z0b):z9e P C .ne (.lst (a.map z4h)) (.lst (b.map z4h)) L H=some (.bool (!decide (a=b)),H):=
 z7o rfl (AP (Option.map (!·)) (z9i (f:=fun l:HL=>PV.lst (l.map z4h)) (z5e k8n) (by decide) ha hb))
theorem w8z(P:MP)(C:z0g){a:HL}(ha:∀ h,h∈a->PyData.strOk h.1=true/\PyData.strOk h.2=true)(L:Lim)(H:z0b):z9e P C .eq (.lst (a.map z4h)) (.lst []) L H=some (.bool (decide (a=[])),H):=
 z7o rfl (z9i (f:=fun l:HL=>PV.lst (l.map z4h)) (z5e k8n) (by decide) (a:=a) (b:=[]) ha fun h hh=>absurd hh BB)
theorem okT{b:Nat}(hb:b<28){ls:List Ln}(hu:Ups ls):∀ h,h∈ls.map (lnT b)->PyData.strOk h.1=true/\PyData.strOk h.2=true:=fun h hh=>by
 obtain⟨l,hl,rfl⟩:=AY.mp hh
 exact⟨(j6u hb (hu l hl) _).sok,(k0l (hu l hl)).2⟩
theorem k8o{w:Str}(h:x9a w)(g:Bool):PyData.strOk (dr g w)=true:=by
 induction g using Bool.casesOn
 ·exact h.sokl
 ·exact h.soku
theorem okP{b:Nat}{S:List Pg}(O:x3n b S):∀ h,h∈S.map (lnP b)->PyData.strOk h.1=true/\PyData.strOk h.2=true:=fun h hh=>by
 obtain⟨l,hl,rfl⟩:=AY.mp hh
 exact⟨k8o (z6d (b32 O.b (O.lt l hl))) _,(O.lead l hl).sok⟩
theorem q3i{c:Nat}:∀ {ws:List (List Nat)},c∈z5q ws->c=44\/c=32\/∃ w,w∈ws/\c∈w
 | [],h=>absurd h BB
 | [w],h=>.inr (.inr ⟨w,AD,h⟩)
 | w::v::ws,h=>by
  rcases BL.mp (show c∈w++[44,32]++z5q (v::ws) from h) with h | h
  ·rcases BL.mp h with h | h
   ·exact .inr (.inr ⟨w,AD,h⟩)
   ·rcases AQ.mp h with e | h
    ·exact .inl e
    ·exact .inr (.inl (AO.mp h))
  ·rcases q3i h with e | e | ⟨x,hx,hc⟩
   ·exact .inl e
   ·exact .inr (.inl e)
   ·exact .inr (.inr ⟨x,AE _ hx,hc⟩)
theorem j1b{b m:Nat}(hb:b<28)(hm:m<32):PyData.strOk (z3m (m*2^b))=true:=DQ.mpr fun c hc=>AV (by
 have h:=ES.mpr hc
 rw [z8k hb hm] at h
 unfold Txt.join at h
 rw [EO,z8h] at h
 rcases q3i h with e | e | ⟨w,hw,hcw⟩
 ·rw [e];decide
 ·rw [e];decide
 ·obtain⟨t,ht,rfl⟩:=AY.mp hw
  exact AK (DQ.mp (q2o hb m t ht) c (ES.mp hcw)))
theorem q3j{V Z:Type}(d:V)(f:V->Z)(l:List V):(List.range l.length).map (fun k=>f (l.getD k d))=l.map f:=by
 refine List.ext_getElem (by rw [AI,AI,EB]) fun k h1 h2=>?_
 rw [AI] at h2
 rw [EJ,EJ,List.getElem_range,AH,AN h2];rfl
theorem q3k{V Z:Type}(d:V)(f:V->Z)(p:V->Bool)(l:List V):((List.range l.length).filter fun k=>p (l.getD k d)).map (fun k=>f (l.getD k d))=(l.filter p).map f:=by
 have e:=q3j d id l
 rw [List.map_id] at e
 have:=AP (fun z=>(z.filter p).map f) e
 rw [List.filter_map,AX] at this
 exact this
noncomputable abbrev l0:Ln:=(0,0,false)
theorem j8d{ls:List Ln}{k:Nat}(hk:k<ls.length):ls[k]?=some (ls.getD k l0)/\ls.getD k l0∈ls:=by
 have e:ls[k]?=some (ls.getD k l0):=by rw [AH,AN hk];rfl
 exact⟨e,CE e⟩
noncomputable def ovT(S:List Pg):List (Nat×Nat):=(List.range 5).flatMap fun i=>((List.range' (i+1) (5 - (i+1))).filter fun j=>(S.getD j (0,wk 0,false,[])).2.2.2.contains (S.getD i (0,wk 0,false,[])).1).map fun j=>(i,j)
section
variable {H:z0b} {Y:z0l} {b i j n:Nat} {ls:List Ln} {S:List Pg} {ps:List (Nat×Nat)} {N:List (List Nat)} {M:Nat->Nat}
theorem y9z{k:Nat}{hs:HL}(A0:HAt H i j hs)(hk:Y k=some (.inst 1 i)):(sem mp2 C1 (n+3)).ev Y (.pure (.meth 88 (.var k) [])) Lz H=some (.lst (hs.map z4h),H):=
 z7g (L:=Lz) (z4f (z0a hk) A0.a z4w j5f (j5n 18 A0)) (j5g (z1f (z2h _ _)) (z5p _ _))
theorem w3x{left:List Ln}{s:Bool}(hb:b<28)(R:z3y N)(hM:∀ p,p<5->M p<32)(hu:Ups left)(A0:HAt H i j (left.map (lnT b))){B:List (List Nat)}(RB:z3y B)
 (f1:z9t N (z3a M)=z8m B)(f2:decide (left=[])=z8m B)(f3:s=z8m B)
 (h87:Y 87=some (.lst (z3w b M)))(h55:Y 55=some (.lst ((W b).map .str)))(h57:Y 57=some (z0x N))(h73:Y 73=some (.inst 1 i))(h145:Y 145=some (.bool s))(h144:Y 144=some (z0x B)) :
  (sem mp2 C1 39).ts Y (.cmp .ne (.lst [.call 20 [.var 87,.var 55,.var 57],.cmp .eq (.pure (.meth 88 (.var 73) [])) (.lst []),.var 145]) (.bin .mul (.lst [.call 18 [.var 144]]) (.int 3))) Lz H=some (false,H):=by
 have k1:=z1g (P:=mp2) (n:=35) (Y:=Y) (L:=Lz) (z4z (z0a h87) (z2a (z0a h55) (z0a h57))) (j7f (lv:=18) (L:=Lz) (H:=H) hb R hM)
 have k2:=z0k (P:=mp2) (n:=35) (o:=.eq) (y9z (n:=32) A0 h73) (z1q (n:=34) z4w) (w8z mp2 C1 (okT hb hu) Lz H)
 rw [show decide (left.map (lnT b)=[])=decide (left=[]) from FO.mpr GE,f2] at k2
 rw [f1] at k1
 rw [f3] at h145
 have k3:=z1g (P:=mp2) (n:=34) (Y:=Y) (L:=Lz) (z1h (z0a h144)) (k7r (lv:=18) (L:=Lz) (H:=H) RB)
 have c:∀ x:Bool,z9e mp2 C1 .ne (.lst [.bool x,.bool x,.bool x]) (.lst [.bool x,.bool x,.bool x]) Lz H=some (.bool false,H):=fun x=>by
  induction x using Bool.casesOn<;>rfl
 exact z3u rfl (z0k (z1q (z4z k1 (z2a k2 (z0a h145)))) (z0f (z1q (z1h k3)) rfl (show w1b H (.lst [.bool (z8m B)]) (.int 3)=some (.lst [.bool (z8m B),.bool (z8m B),.bool (z8m B)]) from rfl)) (c _)) rfl
theorem w3y(hb:b<28)(hu:Ups ls)(hn:ls.length<=50)(h98:Y 98=some (.lst (ls.map z8w)))(h55:Y 55=some (.lst ((W b).map .str))):(sem mp2 C1 39).ev Y (.comp (.bin .add (.bin .add (.idx (.var 55) (.var 58)) (.str (Str.ofString ", "))) (.idx (.var 55) (.var 32))) [(.tup [58,32,48],.over,[.var 98],[])]) Lz H=some (.lst (ls.map fun l=>.str (tl b l.1 l.2.1)),H):=by
 have k1:=z0i (j5b (S:=sem mp2 C1 38) (elt:=.bin .add (.bin .add (.idx (.var 55) (.var 58)) (.str (Str.ofString ", "))) (.idx (.var 55) (.var 32))) (Y:=Y) (L:=Lz) (H:=H) (a:=58) (b:=32) (c:=48) (ifs:=[]) (xs:=ls) (e1:=fun l=>.int (l.1:Int)) (e2:=fun l=>.int (l.2.1:Int)) (e3:=fun l=>.bool l.2.2) (up:=false) (test:=fun _=>true) (out:=fun l=>.str (tl b l.1 l.2.1)) (z2b h98) (AA hn (by decide)) (fun _ _=>rfl) fun l hl _=>by
  have u:=hu l hl
  have a1:=BS u.1 u.2
  have p1:=y1z (b32 hb a1)
  have p2:=y1z (b32 hb u.2)
  have hs:z5g.length=2:=rfl
  have e:tl b l.1 l.2.1=(wk (b+l.1)++z5g)++wk (b+l.2.1):=(k0j hb u.1 u.2).trans (y1y (by rw [z6o,z2q,z2q];rfl))
  rw [e]
  refine z0f (z0f (z0q (z0a h55) (z0a rfl) (q5c a1)) rfl ((AP (y5z .add H (.str (wk (b+l.1)))) (AP PV.str y5s)).trans (add_str H ?_))) (z0q (z0a h55) (z0a rfl) (q5c u.2)) (add_str H ?_)
  ·exact AA (BM p1.2 (CJ hs)) (by decide)
  ·rw [strLen_append];exact AA (BM (BM p1.2 (CJ hs)) p2.2) (by decide))
 rw [PySem.W.filter_all] at k1
 exact k1
theorem k8p{k x:Nat}{v:PV}(hk:k<ls.length)(h98:Y 98=some (.lst (ls.map z8w)))(h31:Y 31=some (.int (k:Int)))(hv:[PV.int ((ls.getD k l0).1:Int),.int ((ls.getD k l0).2.1:Int),.bool (ls.getD k l0).2.2][x]?=some v):(sem mp2 C1 (n+3)).ev Y (.idx (.idx (.var 98) (.var 31)) (.int (x:Int))) Lz H=some (v,H):=
 z8i (z0q (z0a h98) (z0a h31) (by rw [BD,(j8d hk).1];rfl)) rfl hv
theorem j8e(hn:ls.length<=50)(h98:Y 98=some (.lst (ls.map z8w))):z8z (sem mp2 C1 (n+2)) Y .range [.prim .len [.var 98]] Lz H=some ((z1a (List.range ls.length),false),H):=
 z1p (z1h (z0s (z1h (z0a h98)) ((j6c _ _ _).trans (by rw [AI])))) (y7j (AA hn (by decide)))
theorem w3z(hb:b<28)(hu:Ups ls)(hn:ls.length<=50)(h98:Y 98=some (.lst (ls.map z8w)))(h146:Y 146=some (.lst (ls.map fun l=>.str (tl b l.1 l.2.1)))) :
  (sem mp2 C1 39).ev Y (.comp (.tup [.ite (.idx (.idx (.var 98) (.var 31)) (.int 2)) (.prim .upper [.idx (.var 146) (.var 31)]) (.prim .lower [.idx (.var 146) (.var 31)]),.bin .add (.idx (.str (Str.ofString "01234")) (.idx (.idx (.var 98) (.var 31)) (.int 0))) (.idx (.str (Str.ofString "01234")) (.idx (.idx (.var 98) (.var 31)) (.int 1)))]) [(.one 31,.range,[.prim .len [.var 98]],[])]) Lz H=some (.lst ((ls.map (lnT b)).map z4h),H):=by
 refine(z0i (z1w (xs:=List.range ls.length) (enc:=fun(k:Nat)=>PV.int (k:Int)) (up:=false) (test:=fun _=>true) (out:=fun k=>z4h (lnT b (ls.getD k l0))) (j8e hn h98) (by rw [EB];exact AA hn (by decide)) (fun _ _=>rfl) fun k hk _=>?_)).trans (by rw [PySem.W.filter_all,q3j l0 (fun l=>z4h (lnT b l)),AX];rfl)
 have kl:=AM.mp hk
 obtain⟨e,m⟩:=j8d kl
 have u:=hu _ m
 have a1:=BS u.1 u.2
 exact z1j (z2a (q5m (z3u rfl (k8p (x:=2) kl h98 rfl rfl) rfl) (z0q (z0a h146) (z0a rfl) (by rw [BD,e];rfl)) (AA (k0k hb u).len (by decide))) (w7d (k8p (x:=0) kl h98 rfl rfl) (k8p (x:=1) kl h98 rfl rfl) a1 u.2))
end
theorem x3s:Str.ofString "0x0"=q5i:=by decide +kernel
section
variable {H:z0b} {Y:z0l} {b i j n:Nat} {ls:List Ln} {S:List Pg} {ps:List (Nat×Nat)} {N:List (List Nat)} {M:Nat->Nat}
theorem w4a{P:MP}{C:z0g}{L:Lim}{a e:ME}(h1:(sem P C n).ts Y a L H=some (false,H))(h2:(sem P C n).ts Y e L H=some (false,H)):(sem P C (n+1)).ts Y (.orE [a,e]) L H=some (false,H):=z0c h1 (z0c h2 rfl)
theorem w4b(hb:b<28)(hu:Ups ls)(A0:HAt H i j (ls.map (lnT b)))(hM:∀ p,p<5->M p<32)(h118:Y 118=some (.inst 1 i))(h97:Y 97=some (.lst ((ls.map (lnT b)).map z4h)))(h87:Y 87=some (.lst (z3w b M)))(h144:Y 144=some (z0x (z3a M)))(h55:Y 55=some (.lst ((W b).map .str))) :
  (sem mp2 C1 39).ts Y (.orE [.cmp .ne (.pure (.meth 88 (.var 118) [])) (.var 97),.cmp .ne (.var 87) (.comp (.ite (.cmp .ne (.var 68) (.lst [])) (.prim .join [.str (Str.ofString ", "),.comp (.idx (.var 55) (.var 32)) [(.one 32,.over,[.var 68],[])]]) (.str (Str.ofString "0x0"))) [(.one 68,.over,[.var 144],[])])]) Lz H=some (false,H):=by
 have k1:(sem mp2 C1 38).ts Y (.cmp .ne (.pure (.meth 88 (.var 118) [])) (.var 97)) Lz H=some (false,H):=z3u rfl (z0k (y9z (n:=33) A0 h118) (z0a h97) (w3w mp2 C1 (okT hb hu) (okT hb hu) Lz H)) (by rw [AV rfl];rfl)
 have k2:(sem mp2 C1 36).ev Y (.comp (.ite (.cmp .ne (.var 68) (.lst [])) (.prim .join [.str (Str.ofString ", "),.comp (.idx (.var 55) (.var 32)) [(.one 32,.over,[.var 68],[])]]) (.str (Str.ofString "0x0"))) [(.one 68,.over,[.var 144],[])]) Lz H=some (.lst (z3w b M),H):=by
  refine(z0i (z1w (xs:=List.range 5) (enc:=fun p=>.lst (z1a (z1z (M p)))) (up:=false) (test:=fun _=>true) (out:=fun p=>.str (z3m (M p*2^b))) (z2b (h144.trans (AP (fun z=>some (PV.lst z)) (AX (f:=fun p=>z1z (M p)) (g:=fun r=>PV.lst (z1a r)) (l:=List.range 5))))) (by decide) (fun _ _=>rfl) fun p hp _=>?_)).trans (by rw [PySem.W.filter_all])
  have hm:=hM p (AM.mp hp)
  rw [z8k hb hm]
  refine z6a (t:=!(z1z (M p)).isEmpty) (z3u rfl (z0k (z0a rfl) (z1q z4w) (y9o _ _ _ _ _)) rfl) ?_
  unfold z2d
  by_cases h0:M p=0
  ·rw [AR h0,h0,y9f]
   exact AP (fun z=>some (PV.str z,H)) x3s
  ·have hne:=j6o _ hm h0
   have hE:(z1z (M p)).isEmpty=false:=by
    induction h:z1z (M p) using List.casesOn with
    | nil=>exact absurd h hne
    | cons=>rfl
   rw [AT h0,hE]
   have key:=z1w (S:=sem mp2 C1 32) (elt:=.idx (.var 55) (.var 32)) (Y:=upd Y 68 (.lst (z1a (z1z (M p))))) (v:=32) (k:=.over) (args:=[.var 68]) (ifs:=[]) (L:=Lz) (H:=H) (xs:=z1z (M p)) (enc:=fun(q:Nat)=>PV.int (q:Int)) (up:=false) (test:=fun _=>true) (out:=fun q=>.str (wk (b+q))) (z2b rfl) (AA (z5f _) (by decide)) (fun _ _=>rfl)
    fun q hq _=>z0q (z0a h55) (z0a rfl) (q5c (z8j _ q hq))
   rw [PySem.W.filter_all,show(z1z (M p)).map (fun q=>PV.str (wk (b+q)))=(z3r b (z1z (M p))).map .str from(AX (f:=fun q=>wk (b+q)) (g:=PV.str)).symm] at key
   refine z0s (z2a rfl (z0i key)) ((j0p ?_).trans (by rw [y5s]))
   refine q2j (AA (BM (y1x hb (z8j _)) (AL _)) ?_)
   rw [y5s,show(z3r b (z1z (M p))).length=(z1z (M p)).length from AI ..]
   exact AA (BM (CK (AL 100) (z5f _)) (CK (z5f _) (AL 2))) (by decide)
 have ok:∀ x,x∈(List.range 5).map (fun p=>z3m (M p*2^b))->PyData.strOk x=true:=fun x hx=>by
  obtain⟨p,hp,rfl⟩:=AY.mp hx
  exact j1b hb (hM p (AM.mp hp))
 have c:=j6p mp2 C1 ok ok Lz H
 rw [AX,AV rfl] at c
 exact w4a k1 (z3u rfl (z0k (z0a h87) k2 c) rfl)
theorem w4c{held:List Nat}{left:List Ln}(hb:b<28)(hu:Ups ls)(hn:ls.length<=50)(A0:HAt H i j (left.map (lnT b)))(hl:left=ls.filter fun l=>held.contains l.1&&held.contains l.2.1)(h73:Y 73=some (.inst 1 i))(h97:Y 97=some (.lst ((ls.map (lnT b)).map z4h)))(h98:Y 98=some (.lst (ls.map z8w)))(h66:Y 66=some (.lst (z1a held))) :
  (sem mp2 C1 39).ts Y (.cmp .ne (.pure (.meth 88 (.var 73) [])) (.comp (.idx (.var 97) (.var 31)) [(.one 31,.range,[.prim .len [.var 98]],[.andE [.cmp .in_ (.idx (.idx (.var 98) (.var 31)) (.int 0)) (.var 66),.cmp .in_ (.idx (.idx (.var 98) (.var 31)) (.int 1)) (.var 66)]])])) Lz H=some (false,H):=by
 have k2:(sem mp2 C1 37).ev Y (.comp (.idx (.var 97) (.var 31)) [(.one 31,.range,[.prim .len [.var 98]],[.andE [.cmp .in_ (.idx (.idx (.var 98) (.var 31)) (.int 0)) (.var 66),.cmp .in_ (.idx (.idx (.var 98) (.var 31)) (.int 1)) (.var 66)]])]) Lz H=some (.lst ((left.map (lnT b)).map z4h),H):=by
  refine(z0i (z1w (xs:=List.range ls.length) (enc:=fun(k:Nat)=>PV.int (k:Int)) (up:=false) (test:=fun k=>(held.contains (ls.getD k l0).1&&held.contains (ls.getD k l0).2.1)) (out:=fun k=>z4h (lnT b (ls.getD k l0))) (j8e hn h98) (by rw [EB];exact AA hn (by decide)) (fun k hk=>?_) fun k hk _=>?_)).trans (by rw [q3k l0 (fun l=>z4h (lnT b l)) (fun l=>held.contains l.1&&held.contains l.2.1),<- hl,AX];rfl)
  ·have kl:=AM.mp hk
   exact z2z (z7e (z7d (z3u rfl (z0k (k8p (x:=0) kl h98 rfl rfl) (z0a h66) (y1c _ _ _ _)) rfl) (z2z (z3u rfl (z0k (k8p (x:=1) kl h98 rfl rfl) (z0a h66) (y1c _ _ _ _)) rfl))))
  ·have kl:=AM.mp hk
   exact z0q (z0a h97) (z0a rfl) (by rw [BD,BD,(j8d kl).1];rfl)
 have hul:Ups left:=fun l h=>hu l (BG.mp (hl▸h)).1
 exact z3u rfl (z0k (y9z (n:=34) A0 h73) k2 (w3w mp2 C1 (okT hb hul) (okT hb hul) Lz H)) (by rw [AV rfl];rfl)
theorem w4d(O:x3n b S)(A0:HAt H i j (S.map (lnP b)))(h90:Y 90=some (.inst 1 i))(h59:Y 59=some (.lst (S.map z6e)))(h55:Y 55=some (.lst ((W b).map .str))) :
  (sem mp2 C1 39).ts Y (.cmp .ne (.pure (.meth 88 (.var 90) [])) (.comp (.tup [.ite (.var 48) (.prim .upper [.idx (.var 55) (.var 32)]) (.prim .lower [.idx (.var 55) (.var 32)]),.var 131]) [(.tup [32,131,48,132],.over,[.var 59],[])])) Lz H=some (false,H):=by
 have c:=z0i (z7c (S:=sem mp2 C1 36) (elt:=.tup [.ite (.var 48) (.prim .upper [.idx (.var 55) (.var 32)]) (.prim .lower [.idx (.var 55) (.var 32)]),.var 131]) (Y:=Y) (pat:=.tup [32,131,48,132]) (k:=.over) (args:=[.var 59]) (ifs:=[]) (L:=Lz) (H:=H) (up:=false) (xs:=S) (enc:=z6e) (out:=fun l=>z4h (lnP b l)) (test:=fun _=>true)
  (env:=fun m=>upd (upd (upd (upd (clear Y [32,131,48,132]) 32 (.int (m.1:Int))) 131 (.str m.2.1)) 48 (.bool m.2.2.1)) 132 (.lst (z1a m.2.2.2))) (z2b h59) (AA (CJ O.len) (by decide)) (fun _ _=>rfl) (fun _ _=>rfl)
  fun m hm _=>z1j (z2a (q5m (z3u rfl (z0a rfl) rfl) (z0q (z0a h55) (z0a rfl) (q5c (O.lt m hm))) (AA (z6d (b32 O.b (O.lt m hm))).len (by decide))) (z0a rfl)))
 rw [PySem.W.filter_all,show S.map (fun l=>z4h (lnP b l))=(S.map (lnP b)).map z4h from(AX (f:=lnP b) (g:=z4h)).symm] at c
 exact z3u rfl (z0k (y9z (n:=34) A0 h90) c (w3w mp2 C1 (okP O) (okP O) Lz H)) (by rw [AV rfl];rfl)
theorem w4e(P:MP)(C:z0g)(a b:List (Nat×Nat))(L:Lim)(H:z0b):z9e P C .ne (.lst (a.map z1s)) (.lst (b.map z1s)) L H=some (.bool (!decide (a=b)),H):=
 z7o rfl (AP (Option.map (!·)) (z9i (f:=fun l:List (Nat×Nat)=>PV.lst (l.map z1s)) (z5e x1t) (by decide) (fun _ _=>⟨trivial,trivial⟩) fun _ _=>⟨trivial,trivial⟩))
theorem w4f(P:MP)(C:z0g)(a b:List (Nat×Nat))(L:Lim)(H:z0b):z9e P C .eq (.lst (a.map z1s)) (.lst (b.map z1s)) L H=some (.bool (decide (a=b)),H):=
 z7o rfl (z9i (f:=fun l:List (Nat×Nat)=>PV.lst (l.map z1s)) (z5e x1t) (by decide) (fun _ _=>⟨trivial,trivial⟩) fun _ _=>⟨trivial,trivial⟩)
theorem w4g(O:x3n b S)(h59:Y 59=some (.lst (S.map z6e)))(h136:Y 136=some (.lst ((ovT S).map z1s))) :
  (sem mp2 C1 39).ts Y (.cmp .ne (.var 136) (.comp (.tup [.var 20,.var 135]) [(.one 20,.range,[.int 5],[]),(.one 135,.range,[.bin .add (.var 20) (.int 1),.int 5],[.cmp .in_ (.idx (.idx (.var 59) (.var 20)) (.int 0)) (.idx (.idx (.var 59) (.var 135)) (.int 3))])])) Lz H=some (false,H):=by
 have fld:∀ {k i x m:Nat} {Y:z0l} {v:PV},i<5->Y 59=some (.lst (S.map z6e))->Y k=some (.int (i:Int))->[PV.int ((S.getD i (0,wk 0,false,[])).1:Int),.str (S.getD i (0,wk 0,false,[])).2.1,.bool (S.getD i (0,wk 0,false,[])).2.2.1,.lst (z1a (S.getD i (0,wk 0,false,[])).2.2.2)][x]?=some v->(sem mp2 C1 (m+3)).ev Y (.idx (.idx (.var 59) (.var k)) (.int (x:Int))) Lz H=some (v,H):=fun hi h59 hk hv=>
  z8i (z0q (z0a h59) (z0a hk) (by rw [BD,(O.at hi).1];rfl)) rfl hv
 have key:=z6p (S:=sem mp2 C1 36) (Y:=Y) (L:=Lz) (H:=H) (elt:=.tup [.var 20,.var 135]) (a:=20) (b:=135) (k:=.range) (k2:=.range) (args:=[.int 5]) (args2:=[.bin .add (.var 20) (.int 1),.int 5]) (ifs2:=[.cmp .in_ (.idx (.idx (.var 59) (.var 20)) (.int 0)) (.idx (.idx (.var 59) (.var 135)) (.int 3))])
  (xs:=List.range 5) (enc:=fun(w:Nat)=>PV.int (w:Int)) (fun i=>List.range' (i+1) (5 - (i+1))) (enc2:=fun _ (w:Nat)=>PV.int (w:Int)) (fun i j=>(S.getD j (0,wk 0,false,[])).2.2.2.contains (S.getD i (0,wk 0,false,[])).1) (fun i j=>z1s (i,j)) rfl
  (fun i hi=>j7z rfl (AM.mp hi))
  (fun i hi j hj=>z2z (z3u rfl (z0k (fld (x:=0) (AM.mp hi) h59 rfl rfl) (fld (x:=3) (r15 hj).2 h59 rfl rfl) (y1c _ _ _ _)) rfl))
  (fun i hi j hj _=>z1j (z2a (z0a rfl) (z0a rfl))) (k1d _ _)
 have eb:((List.range 5).flatMap fun i=>((List.range' (i+1) (5 - (i+1))).filter fun j=>(S.getD j (0,wk 0,false,[])).2.2.2.contains (S.getD i (0,wk 0,false,[])).1).map fun j=>z1s (i,j))=(ovT S).map z1s:=by
  unfold ovT
  rw [EL]
  exact AP (fun f=>(List.range 5).flatMap f) (funext fun i=>(AX (f:=fun j=>(i,j)) (g:=z1s)).symm)
 rw [eb] at key
 exact z3u rfl (z0k (z0a h136) (z0i key) (w4e _ _ _ _ _ _)) (by rw [AV rfl];rfl)
theorem w4h(hS:S.length=5)(D:k2c (S.map fun l=>l.2.1))(hl:ps=y2f (S.map fun l=>l.2.1))(h59:Y 59=some (.lst (S.map z6e)))(h141:Y 141=some (.lst (ps.map z1s))) :
  (sem mp2 C1 39).ev Y (.cmp .eq (.var 141) (.call 30 [.comp (.idx (.var 60) (.int 1)) [(.one 60,.over,[.var 59],[])]])) Lz H=some (.bool true,H):=by
 have c:=z0i (z1w (S:=sem mp2 C1 36) (elt:=.idx (.var 60) (.int 1)) (Y:=Y) (v:=60) (k:=.over) (args:=[.var 59]) (ifs:=[]) (L:=Lz) (H:=H) (xs:=S) (enc:=z6e) (up:=false) (test:=fun _=>true) (out:=fun m=>.str m.2.1) (z2b h59) (AA (CJ hS) (by decide)) (fun _ _=>rfl) fun m hm _=>j7r (j:=1) rfl rfl)
 rw [PySem.W.filter_all,show S.map (fun m=>PV.str m.2.1)=(S.map fun l=>l.2.1).map .str from(AX (f:=fun l:Pg=>l.2.1) (g:=PV.str)).symm] at c
 refine z0k (z0a h141) (z1g (z1h c) (x3q (lv:=17) D)) ((w4f _ _ _ _ _ _).trans ?_)
 rw [AV hl]
end
theorem k8q{ts:List Ln}(h:Ups ts):∀ cur:List Ln,Ups cur->Ups (ts.foldl z7j cur)/\(ts.foldl z7j cur).length<=cur.length+ts.length:=by
 induction ts with
 | nil=>exact fun cur hc=>⟨hc,AL _⟩
 | cons t ts ih=>
  intro cur hc
  have t0:=h t AD
  obtain⟨a,b⟩:=ih (fun l hl=>h l (AE _ hl)) (z7j cur t) (y5t hc t0)
  refine⟨a,AA b (AA (BZ (y5u cur t) _) (CJ (BI _ _ _)))⟩
theorem q8o{ps:List (Nat×Nat)}{i:Nat}{p:Nat×Nat}:∀ {n j:Nat},p∈q8j ps i n j->p∈ps
 | 0,_,h=>absurd h BB
 | n+1,j,h=>by
  unfold q8j at h
  split at h
  ·rcases AQ.mp h with e | h
   ·rw [e];exact AK ‹_›
   ·exact q8o h
  ·exact absurd h BB
theorem j1c{ps:List (Nat×Nat)}{p:Nat×Nat}(h:p∈z8o ps):p∈ps:=by
 obtain⟨i,_,h⟩:=CX.mp h
 exact q8o h
theorem y7x(ps:List (Nat×Nat)):(z8o ps).length<=20:=z7k _ 4 _ fun i _=>AA (y9x ps i _ _) (Nat.sub_le 4 i)
structure x6d(own:List Ln)(pc:Nat->Str)(S:List Pg):Prop where
 hM:∀ p,p<5->y6n (z1y own) p<32
 hB:z3a (y6n (z1y own))=z5s (z4t own)
 ord:y2c (z2f (z1y own)) pc
 nest:z9t (z1y own) (z5s (z4t own))=z8m (z5s (z4t own))
 empt:decide (q2v own=[])=z8m (z5s (z4t own))
 same:k1h (k1g S (z8o (z7p S))) (z4t own)=z8m (z5s (z4t own))
 left:q2v own=own.filter fun l=>(j7b (z4t own)).contains l.1&&(j7b (z4t own)).contains l.2.1
 pg:y6k (z2f (z1y own)) (z5s (z4t own)) pc 5=S
 blk:z8o (z7p S)=ovT S
 ld:k2c (S.map fun l=>l.2.1)
 les:z7p S=y2f (S.map fun l=>l.2.1)
theorem x3t(ns:List Int)(F:x6d (y9m (z7q ns)) (j8t (z6n ns)) (y6k (z2f (z1y (y9m (z7q ns)))) (z1y (y9m (z7q ns))) (j8t (z6n ns)) 5)):∃ H',z0h D2.mp 20 lawId2 [.lst (ns.map .int)] [] ⟨0,0⟩ []=some (.bool true,H'):=by
 have hb:=x9n ns
 have tok:=q3e ns
 have tl:=j1a ns
 obtain⟨hu,hn⟩:=k8q tok [] fun l hl=>absurd hl BB
 have hn:(y9m (z7q ns)).length<=14:=AA hn (AA (CJ (DE _)) tl)
 have hu:Ups (y9m (z7q ns)):=hu
 have R:=y7u hu (AA hn (by decide))
 have cn:=w3c (lv:=15) (L:=Lz) (H:=[]) hb tok (AA tl (by decide)) (AL 0) (AL 0)
 have co:=fun H=>w3g (lv:=18) (L:=Lz) (H:=H) (ts:=z7q ns) (AA tl (by decide))
 have e1:=fun Y H=>w8s (ns:=ns) (Y:=Y) (H:=H)
 have e3:=fun Y H=>w8t (ns:=ns) (Y:=Y) (H:=H)
 generalize hts:z7q ns=ts at *
 generalize y9m ts=own at *
 generalize y7n ns=b at *
 obtain⟨hM,hB,ord,nest,empt,same,left,pg,blk,ld,les⟩:=F
 have I:∀ k,k<=5->y3b (z2f (z1y own)) k (y6k (z2f (z1y own)) (z1y own) (j8t (z6n ns)) k):=fun k=>by
  induction k with
  | zero=>exact fun _=>q8h _
  | succ k ih=>exact fun h=>by rw [y7v];exact(ih (DD h)).step ord h _
 have I5:=I 5 (AL 5)
 have lt5:=I5.lt ord
 generalize hS:y6k (z2f (z1y own)) (z1y own) (j8t (z6n ns)) 5=S at *
 have O:x3n b S:=⟨hb,I5.len,lt5,I5.lead⟩
 let ties:=z4t own
 let B:=z5s ties
 have RB:=q3f ties
 let B2:z0b:=j1h [] b own
 have A1:At B2 0 1 (own.map (lnT b)):=⟨rfl,rfl⟩
 let B4:z0b:=B2++[.lst ((own.map (lnT b)).map z4h)]++[.att [(30,.ref 2)]]
 have A2:At B4 3 2 (own.map (lnT b)):=⟨rfl,rfl⟩
 let B9:z0b:=stT B4 2 b (q2v own)
 let B5:z0b:=z7u B9 b S
 have hul:Ups (q2v own):=fun l h=>hu l (BG.mp (left▸h)).1
 have hnl:(q2v own).length<=14:=by rw [left];exact AA (CA _ _) hn
 have A4:At B5 0 1 (own.map (lnT b)):=⟨rfl,rfl⟩
 have A4':At B5 3 2 ((q2v own).map (lnT b)):=⟨rfl,rfl⟩
 have H1:=A4.t hb hu (AA hn (by decide))
 have H3:=A4'.t hb hul (AA hnl (by decide))
 have HP:HAt B5 4 5 (S.map (lnP b)):=w0z hb lt5 (AA (CJ O.len) (by decide))
 have m5:∀ p,p∈z8o (z7p S)->p.1<5/\p.2<5:=fun p hp=>by
  have:=q3h (j1c hp)
  exact⟨BS this.1 this.2,this.2⟩
 have met5:∀ p,p∈k1g S (z8o (z7p S))->p.1<5/\p.2<5:=fun p hp=>by
  obtain⟨q,hq,rfl⟩:=AY.mp hp
  have k:∀ i,i<5->(S.map fun l=>l.1).getD i 0<5:=fun i hi=>by
   have e:(S.map fun l=>l.1)[i]?=some ((S.map fun l=>l.1).getD i 0):=by rw [AH,AN (by rw [AI,O.len];exact hi)];rfl
   obtain⟨l,hl,e⟩:=AY.mp (CE e)
   exact e▸lt5 l hl
  exact⟨k _ (m5 q hq).1,k _ (m5 q hq).2⟩
 have t5:∀ p,p∈z4t own->p.1<5/\p.2<5:=fun p hp=>by
  rcases BL.mp hp with hp | hp
  ·obtain⟨l,hl,rfl⟩:=AY.mp hp
   exact⟨BS (hu l hl).1 (hu l hl).2,(hu l hl).2⟩
  ·obtain⟨l,hl,rfl⟩:=AY.mp hp
   exact⟨(hu l hl).2,BS (hu l hl).1 (hu l hl).2⟩
 have tlen:(z4t own).length=own.length+own.length:=by
  unfold z4t
  rw [AC,AI,AI]
 let Y12:z0l:=upd (upd (upd (upd (upd (upd (upd (upd (upd (upd (upd (upd (y2y 82 (.lst (ns.map .int))) 83 (.int (z6n ns))) 45 (.int (b:Int))) 85 (.lst (prs.map z1s))) 56 (.lst (ts.map z8w))) 55 (.lst ((W b).map .str))) 118 (.inst 1 0)) 57 (z0x (z1y own))) 87 (.lst (z3w b (y6n (z1y own))))) 73 (.inst 1 3)) 124 (.lst (z1a (z2f (z1y own))))) 125 (.lst (j7p (j8t (z6n ns))))) 90 (.inst 1 4)
 have h10:∀ Y:z0l,Y 73=some (.inst 1 3)->Y 45=some (.int (b:Int))->(sem mp2 C1 39).ev Y (.gc (.call 24 [.var 73,.var 45])) Lz B4=some (.none,B9):=fun Y h73 h45=>
  k6u (l:=[]) (by rw [CG];exact z1g (z2a (z0a h73) (z0a h45)) (j7m (lv:=16) hb A2 (BK _) hu (AA hn (by decide)))) List.length_set
 have half2:exs (sem mp2 C1 40).ex Y12 (x8i.body.drop 14) Lz B5=some (.ret (.bool true),B5):=by
  refine z0d (w3p (i:=4) (j:=5) O HP rfl) (z0d (x3o (lv:=18) (n:=36) (fun i h=>absurd (q3h h).2 (EV 5)) rfl) (z0d (w3q hb rfl) (z0d (w3r O HP rfl rfl) (z0d (w3s O.len m5 (AA (y7x _) (by decide)) rfl rfl)
   (z0d (z1g (z1h (z0a rfl)) (co _)) (z0d (w3t (AA hn (by decide)) rfl) (z0d (w3u rfl) (z0d (w3v (by unfold k1g;rw [AI];exact y7x _) (by rw [tlen];lia) (by rw [tlen];lia) met5 t5 rfl rfl) ?_))))))))
  refine q2i (w3x hb R hM hul H3 RB (hB.symm▸nest) empt same rfl rfl rfl rfl rfl rfl) ?_
  refine z0d (w3y hb hu (AA hn (by decide)) rfl rfl) (z0d (w3z hb hu (AA hn (by decide)) rfl rfl) ?_)
  refine q2i (w4b hb hu H1 hM rfl rfl rfl (by rw [hB];rfl) rfl) ?_
  refine z0d (z1g (z1h (z0a rfl)) (k0r (lv:=17))) ?_
  refine q2i (w4c hb hu (AA hn (by decide)) H3 left rfl rfl rfl rfl) ?_
  refine z0d (z1g (z4z (z0a rfl) (z2a (z0a rfl) (z0a rfl))) (k0z (lv:=18) RB ord)) ?_
  rw [pg]
  refine q2i (w4d O HP rfl rfl rfl) (q2i (w4g O rfl (by rw [<- blk];rfl)) (z4i (w4h O.len ld les rfl rfl)))
 refine⟨B5,z0v (Y:=y2y 82 (.lst (ns.map .int))) k6h rfl ?_⟩
 refine z0d (w8r rfl) (z0d (e1 _ _ rfl) (z0d (v:=.lst (prs.map z1s)) rfl (z0d (e3 _ _ rfl rfl) (z0d (w8u hb rfl) (q2i (w8v hb rfl rfl) (z0d (z1g (z2a (z0a rfl) (z0a rfl)) cn) (z0d (j7i (lv:=18) (n:=34) (H:=B2) hb hu (AA hn (by decide)) A1 rfl)
  (z0d (w8w hb R hM rfl rfl) (z0d (w8x hb hu (AA hn (by decide)) A1 rfl) (j5i (h10 _ rfl rfl) (z0d (w3m R rfl) (z0d (w3n rfl) (z0d (z1g (z4z (z0a rfl) (z4z (z0a rfl) (z2a (z0a rfl) (z0a rfl)))) (k8c (lv:=15) (H:=B9) hb (BK _) (BK _) R ord)) ?_)))))))))))))
 rw [hS]
 exact half2
noncomputable def emp:Str:=⟨#[]⟩
noncomputable def k2d(B:List (List Nat))(gone:List Nat):List (List Nat):=(List.range 5).map fun u=>if gone.contains u then[] else(nb B u).filter fun v=>!gone.contains v
noncomputable def x3u(B:List (List Nat))(gone:List Nat):List Nat:=match y2t (k2d B gone) with
 | []=>gone
 | h::_=>h::gone
noncomputable def q5t(B:List (List Nat)):List Nat:=(List.range 5).foldl (fun g _=>x3u B g) []
noncomputable def w7g(B:List (List Nat))(out:Nat):List (List Nat):=(List.range 5).map fun u=>(z6j out).filter fun v=>(z6j out).contains u&&(nb B u).contains v
noncomputable def j8f(B:List (List Nat)):List Nat:=(List.range 6).foldl (fun h out=>if(j7a (w7g B out) (z6j out)).isEmpty then h++z6j out else h) []
noncomputable abbrev q3l(B:List (List Nat)):List Pg:=y6k (z2f B) B (fun _=>emp) 5
noncomputable def pgD:Pg:=(0,emp,false,[])
noncomputable def vN(T:List Pg)(i:Nat):Nat:=(T.getD i pgD).1
noncomputable def oN(T:List Pg)(i:Nat):List Nat:=(T.getD i pgD).2.2.2
noncomputable def dsc(T:List Pg)(i j:Nat):Bool:=(oN T j).contains (vN T i)
noncomputable def q5u(T:List Pg):Bool:=(List.range 5).all fun i=>(List.range' (i+1) (5 - (i+1))).all fun j=>
 if dsc T i j then(oN T i++[vN T i]).isPrefixOf (oN T j)&&(List.range' (i+1) (j - i)).all fun k=>dsc T i k
 else(List.range' (i+1) (j - i)).any fun k=>!dsc T i k&&(oN T k).isPrefixOf (oN T i)
noncomputable def k2e(T:List Pg):List (Nat×Nat):=(List.range 5).flatMap fun i=>((List.range' (i+1) (5 - (i+1))).filter fun j=>dsc T i j).map fun j=>(vN T i,vN T j)
noncomputable def q8p{V:Type}[BEq V]:List V->Bool
 | []=>true
 | x::l=>!l.contains x&&q8p l
noncomputable def z8y(B:List (List Nat)):Bool:=
 let free:=z8m B
 let E:=q5t B
 let held:=j8f B
 let ord:=z2f B
 let T:=q3l B
 let mt:=k2e T
 let m2:=mt++mt.map swp
 Nat.beq ord.length 5&&q8p ord&&ord.all (fun u=>Nat.blt u 5) &&
 (z9t B B==free) &&
 (((List.range 5).all fun u=>(nb (k2d B E) u).isEmpty)==free) &&
 ((List.range 5).all fun u=>(nb B u).all fun v=>(!E.contains u&&!E.contains v)==(held.contains u&&held.contains v)) &&
 q5u T&&T.all (fun l=>Nat.ble l.2.2.2.length 4)&&q8p m2 &&
 (((List.range 5).all fun u=>(List.range 5).all fun v=>m2.contains (u,v)==(nb B u).contains v)==free)
noncomputable def edg(a b c d e f g h i j:Bool)(p q:Nat):Bool:=match p,q with
 | 0,1=>a | 1,0=>a | 0,2=>b | 2,0=>b | 0,3=>c | 3,0=>c | 0,4=>d | 4,0=>d
 | 1,2=>e | 2,1=>e | 1,3=>f | 3,1=>f | 1,4=>g | 4,1=>g | 2,3=>h | 3,2=>h | 2,4=>i | 4,2=>i | 3,4=>j | 4,3=>j
 | _,_=>false
noncomputable def z3h(a b c d e f g h i j:Bool):List (List Nat):=(List.range 5).map fun p=>(List.range 5).filter (edg a b c d e f g h i j p)
structure Net(own:List Ln):Prop where
 ups:Ups own
 nd:(own.map pq).Nodup
theorem k8r{ts:List Ln}(h:Ups ts):Net (y9m ts):=by
 have key:∀ (ts cur:List Ln),Ups ts->Net cur->Net (ts.foldl z7j cur):=fun ts=>by
  induction ts with
  | nil=>exact fun _ _ h=>h
  | cons t ts ih=>
   intro cur hts hc
   refine ih _ (fun l hl=>hts l (AE _ hl)) ⟨y5t hc.ups (hts t AD),?_⟩
   unfold z7j
   by_cases e:(cur.any fun l=>pq l==pq t)=true
   ·rw [AR e];exact hc.nd.sublist (List.filter_sublist.map _)
   ·rw [AT e,BF,DI]
    refine⟨hc.nd,DL.mpr ⟨BB,DR⟩,fun x hx y hy exy=>?_⟩
    obtain⟨l,hl,rfl⟩:=AY.mp hx
    rw [AO.mp hy] at exy
    exact e (DG.mpr ⟨l,hl,BE.mpr exy⟩)
 exact key ts [] h ⟨fun l hl=>absurd hl BB,DR⟩
theorem z7l{own:List Ln}{p q:Nat}:(p,q)∈z4t own↔q∈y6a own p:=by
 rw [z3g]
 unfold z4t
 rw [BL,AY,AY]
 constructor
 ·rintro(⟨l,hl,e⟩ | ⟨l,hl,e⟩)
  ·exact⟨l,hl,.inl ⟨(AP Prod.fst e).symm,(AP Prod.snd e).symm⟩⟩
  ·exact⟨l,hl,.inr ⟨(AP Prod.fst e).symm,(AP Prod.snd e).symm⟩⟩
 ·rintro⟨l,hl,⟨a,b⟩ | ⟨a,b⟩⟩
  ·exact .inl ⟨l,hl,by rw [a,b];rfl⟩
  ·exact .inr ⟨l,hl,by rw [a,b];rfl⟩
theorem q5v{own:List Ln}{p q:Nat}(h:q∈y6a own p):p∈y6a own q:=by
 obtain⟨l,hl,h⟩:=z3g.mp h
 exact z3g.mpr ⟨l,hl,h.symm.imp (fun⟨a,b⟩=>⟨b,a⟩) fun⟨a,b⟩=>⟨b,a⟩⟩
theorem w4i{own:List Ln}(hu:Ups own){p q:Nat}(h:q∈y6a own p):p<5:=(z9u hu (q5v h)).1
section
variable {own:List Ln}
theorem y7y:∀ {ls:List Ln},Net ls->∀ p,(y6a ls p).Nodup
 | [],_,_=>DR
 | l::ls,n,p=>by
  have n':Net ls:=⟨fun m hm=>n.ups m (AE _ hm),(DL.mp n.nd).2⟩
  have u:=n.ups l AD
  have nl:=(DL.mp n.nd).1
  have hd:∀ q,q∈(if p=l.1 then[l.2.1] else[])++(if p=l.2.1 then[l.1] else[])->(p=l.1/\q=l.2.1)\/(p=l.2.1/\q=l.1):=fun q hq=>by
   have:=(z3g (ls:=[l]) (p:=p) (q:=q)).mp (by unfold y6a;rw [List.flatMap_cons,List.flatMap_nil,CG];exact hq)
   obtain⟨m,hm,h⟩:=this
   rw [AO.mp hm] at h;exact h
  show(((if p=l.1 then[l.2.1] else[])++(if p=l.2.1 then[l.1] else[]))++y6a ls p).Nodup
  refine DI.mpr ⟨?_,y7y n' p,fun q hq r hr e=>?_⟩
  ·by_cases a:p=l.1
   ·rw [AR a,AT (fun b=>DK u.1 (a.symm.trans b))]
    exact DL.mpr ⟨BB,DR⟩
   ·rw [AT a,List.nil_append]
    split
    ·exact DL.mpr ⟨BB,DR⟩
    ·exact DR
  ·subst e
   obtain⟨m,hm,k⟩:=z3g.mp hr
   have um:=n'.ups m hm
   refine nl (AY.mpr ⟨m,hm,?_⟩)
   rcases hd q hq with⟨a,b⟩ | ⟨a,b⟩<;>rcases k with⟨c,d⟩ | ⟨c,d⟩
   ·exact Prod.ext (c.symm.trans a) (d.symm.trans b)
   ·exact absurd u.1 (CF.mpr (by rw [<- a,<- b,c,d];exact BR um.1))
   ·exact absurd u.1 (CF.mpr (by rw [<- a,<- b,c,d];exact BR um.1))
   ·exact Prod.ext (d.symm.trans b) (c.symm.trans a)
noncomputable abbrev bes(own:List Ln):List (List Nat):=z5s (z4t own)
theorem z9v{p:Nat}(hp:p<5):nb (z1y own) p=y6a own p:=y4b _ hp
theorem q8q{p:Nat}(hp:p<5):nb (bes own) p=(List.range 5).filter fun q=>decide ((p,q)∈z4t own):=y4b _ hp
theorem z9w(hu:Ups own){p q:Nat}(hp:p<5):q∈nb (bes own) p↔q∈y6a own p:=by
 rw [q8q hp,BG,AM,BY,z7l]
 exact⟨fun h=>h.2,fun h=>⟨(z9u hu h).1,h⟩⟩
theorem q8r(n:Net own){p:Nat}(hp:p<5):(y6a own p).Perm (nb (bes own) p):=
 (List.perm_ext_iff_of_nodup (y7y n p) (by rw [q8q hp];exact List.nodup_range.filter _)).mpr fun q=>(z9w n.ups hp).symm
theorem q8s(n:Net own){p:Nat}(hp:p<5):z1z (y6n (z1y own) p)=nb (bes own) p/\y6n (z1y own) p<32:=by
 unfold y6n
 rw [z9v hp,((q8r n hp).map _).sum_nat,q8q hp]
 exact k7j _
theorem k1i(n:Net own):z3a (y6n (z1y own))=bes own:=CH fun p hp=>((q8s n (AM.mp hp)).1).trans (q8q (AM.mp hp))
theorem j8g(n:Net own):z2f (z1y own)=z2f (bes own):=by
 unfold z2f
 refine AP (fun f=>[4,3,2,1,0].flatMap f) (funext fun c=>CQ fun u hu=>?_)
 have u5:=AM.mp hu
 rw [z9v u5,(q8r n u5).length_eq]
noncomputable abbrev q5w(N B:List (List Nat)):Prop:=∀ u,u<5->∀ v,v∈nb N u↔v∈nb B u
theorem x3v(hu:Ups own):q5w (z1y own) (bes own):=fun u h5 v=>by rw [z9v h5,z9w hu h5]
theorem q5w.contains{N B:List (List Nat)}(h:q5w N B){u:Nat}(hu:u<5)(v:Nat):(nb N u).contains v=(nb B u).contains v:=by
 rw [BT,CR,CR];exact h u hu v
theorem q8t{order:List Nat}{N B:List (List Nat)}(h:q5w N B)(ho:∀ u,u∈order->u<5)(pc:Nat->Str):∀ k,y6k order N pc k=y6k order B pc k
 | 0=>rfl
 | k+1=>by
  rw [y7v,y7v,q8t h ho pc k]
  refine q2x pc _ k fun u _=>h.contains ?_ u
  rw [AH]
  induction e:order[k]? using Option.casesOn with
  | none=>exact(by decide:0<5)
  | some x=>exact ho x (CE e)
theorem k1j{V:Type}{l m:List V}(h:∀ v,v∈l↔v∈m)(f:V->Bool):l.any f=m.any f:=by
 rw [BT,DG,DG]
 exact⟨fun⟨x,a,b⟩=>⟨x,(h x).mp a,b⟩,fun⟨x,a,b⟩=>⟨x,(h x).mpr a,b⟩⟩
theorem j8h{f g:Nat->Bool}(h:∀ u,u<5->f u=g u):(List.range 5).any f=(List.range 5).any g:=by
 rw [BT,DG,DG]
 exact⟨fun⟨x,a,b⟩=>⟨x,a,h x (AM.mp a)▸b⟩,fun⟨x,a,b⟩=>⟨x,a,h x (AM.mp a)▸b⟩⟩
theorem q3m{N B X:List (List Nat)}(h:q5w N B):z9t N X=z9t B X:=AP (!·) (j8h fun u hu=>k1j (h u hu) _)
theorem y5y{V:Type}{l m:List V}(h:∀ v,v∈l↔v∈m):l.isEmpty=m.isEmpty:=by
 rw [BT,EZ,EZ,EA,EA]
 exact⟨fun k v hv=>k v ((h v).mpr hv),fun k v hv=>k v ((h v).mp hv)⟩
theorem q5x{N B:List (List Nat)}(h:q5w N B)(h5:∀ u,u<5->∀ v,v∈nb N u->v<5):y2t N=y2t B:=CQ fun u hu=>by
 have u5:=AM.mp hu
 rw [y5y (h u u5)]
 refine AP (!(nb B u).isEmpty&&·) (y5y fun w=>?_)
 unfold x3a
 rw [CX,CX]
 constructor
 ·rintro⟨v,hv,hw⟩
  have⟨a,b⟩:=BG.mp hw
  exact⟨v,(h u u5 v).mp hv,BG.mpr ⟨(h v (h5 u u5 v hv) w).mp a,by rw [<- h.contains u5];exact b⟩⟩
 ·rintro⟨v,hv,hw⟩
  have hv':=(h u u5 v).mpr hv
  have⟨a,b⟩:=BG.mp hw
  exact⟨v,hv',BG.mpr ⟨(h v (h5 u u5 v hv') w).mpr a,by rw [h.contains u5];exact b⟩⟩
noncomputable def okG(gone:List Nat)(l:Ln):Bool:=!gone.contains l.1&&!gone.contains l.2.1
theorem q5y(hu:Ups own)(gone:List Nat):q5w (z1y (own.filter (okG gone))) (k2d (bes own) gone):=fun u h5 v=>by
 have e:nb (k2d (bes own) gone) u=if gone.contains u then[] else(nb (bes own) u).filter fun v=>!gone.contains v:=y4b _ h5
 rw [z9v h5,e,z3g]
 constructor
 ·rintro⟨l,hl,h⟩
  obtain⟨hl,ok⟩:=BG.mp hl
  have ok':gone.contains l.1=false/\gone.contains l.2.1=false:=by
   obtain⟨a,b⟩:=AG.mp ok
   exact⟨(DJ _).mp a,(DJ _).mp b⟩
  have m:v∈y6a own u:=z3g.mpr ⟨l,hl,h⟩
  have g:gone.contains u=false/\gone.contains v=false:=by
   rcases h with⟨a,b⟩ | ⟨a,b⟩
   ·rw [a,b];exact ok'
   ·rw [a,b];exact ok'.symm
  rw [g.1]
  exact BG.mpr ⟨(z9w hu h5).mpr m,by rw [g.2];rfl⟩
 ·intro h
  by_cases g:gone.contains u=true
  ·rw [AR g] at h;exact absurd h BB
  ·rw [AT g] at h
   obtain⟨a,b⟩:=BG.mp h
   obtain⟨l,hl,k⟩:=z3g.mp ((z9w hu h5).mp a)
   have g':(!gone.contains u)=true:=by rw [ER.mpr g];rfl
   refine⟨l,BG.mpr ⟨hl,?_⟩,k⟩
   rcases k with⟨c,d⟩ | ⟨c,d⟩
   ·rw [c] at g';rw [d] at b;exact AG.mpr ⟨g',b⟩
   ·rw [c] at g';rw [d] at b;exact AG.mpr ⟨b,g'⟩
theorem j8i(hu:Ups own)(gone:List Nat):y3a (own.filter (okG gone))=own.filter (okG (x3u (bes own) gone)):=by
 have hu':Ups (own.filter (okG gone)):=fun l hl=>hu l (BG.mp hl).1
 have e:=q5x (q5y hu gone) fun u h5 v hv=>by
  rw [z9v h5] at hv
  exact(z9u hu' hv).1
 unfold y3a x3u
 rw [e]
 induction y2t (k2d (bes own) gone) using List.casesOn with
 | nil=>rfl
 | cons h t=>
  dsimp only
  rw [List.filter_filter]
  refine CQ fun l _=>?_
  unfold okG
  rw [List.contains_cons,List.contains_cons]
  cases l.1==h<;>cases l.2.1==h<;>cases gone.contains l.1<;>cases gone.contains l.2.1<;>rfl
theorem j8j(hu:Ups own):q2v own=own.filter (okG (q5t (bes own))):=by
 have key:∀ (os:List Nat) (gone:List Nat),os.foldl (fun c _=>y3a c) (own.filter (okG gone))=own.filter (okG (os.foldl (fun g _=>x3u (bes own) g) gone)):=fun os=>by
  induction os with
  | nil=>exact fun _=>rfl
  | cons o os ih=>intro gone;rw [DA,DA,j8i hu,ih]
 have:=key (List.range 5) []
 rw [show own.filter (okG [])=own from FU.mpr fun l _=>rfl] at this
 exact this
theorem x3w(hu:Ups own):j7b (z4t own)=j8f (bes own):=by
 have e:∀ out,k2b (z4t own) out=w7g (bes own) out:=fun out=>CH fun u h5=>CQ fun v hv=>by
  have u5:=AM.mp h5
  refine AP ((z6j out).contains u&&·) ?_
  rw [BT,BY,CR,z7l,z9w hu u5]
 unfold j7b j8f q2r
 exact AP (fun f=>(List.range 6).foldl f []) (funext fun h=>funext fun out=>by rw [e out])
theorem x3x(hu:Ups own):∃ a b c d e f g h i j:Bool,bes own=z3h a b c d e f g h i j:=by
 let A:Nat->Nat->Bool:=fun p q=>decide ((p,q)∈z4t own)
 have sy:∀ p q,A p q=A q p:=fun p q=>FO.mpr (by rw [z7l,z7l];exact⟨q5v,q5v⟩)
 have ir:∀ p,A p p=false:=fun p=>DT (by rw [z7l];exact fun h=>(z9u hu h).2 rfl)
 refine⟨A 0 1,A 0 2,A 0 3,A 0 4,A 1 2,A 1 3,A 1 4,A 2 3,A 2 4,A 3 4,CH fun p hp=>CQ fun q hq=>?_⟩
 show A p q=_
 match p,q,AM.mp hp,AM.mp hq with
 | 0,0,_,_=>exact ir 0
 | 0,1,_,_=>rfl
 | 0,2,_,_=>rfl
 | 0,3,_,_=>rfl
 | 0,4,_,_=>rfl
 | 1,0,_,_=>exact sy 1 0
 | 1,1,_,_=>exact ir 1
 | 1,2,_,_=>rfl
 | 1,3,_,_=>rfl
 | 1,4,_,_=>rfl
 | 2,0,_,_=>exact sy 2 0
 | 2,1,_,_=>exact sy 2 1
 | 2,2,_,_=>exact ir 2
 | 2,3,_,_=>rfl
 | 2,4,_,_=>rfl
 | 3,0,_,_=>exact sy 3 0
 | 3,1,_,_=>exact sy 3 1
 | 3,2,_,_=>exact sy 3 2
 | 3,3,_,_=>exact ir 3
 | 3,4,_,_=>rfl
 | 4,0,_,_=>exact sy 4 0
 | 4,1,_,_=>exact sy 4 1
 | 4,2,_,_=>exact sy 4 2
 | 4,3,_,_=>exact sy 4 3
 | 4,4,_,_=>exact ir 4
 | n+5,_,h,_=>exact absurd h (CF.mpr (CO 5 n))
 | 0,n+5,_,h=>exact absurd h (CF.mpr (CO 5 n))
 | 1,n+5,_,h=>exact absurd h (CF.mpr (CO 5 n))
 | 2,n+5,_,h=>exact absurd h (CF.mpr (CO 5 n))
 | 3,n+5,_,h=>exact absurd h (CF.mpr (CO 5 n))
 | 4,n+5,_,h=>exact absurd h (CF.mpr (CO 5 n))
end
theorem j8k(x:Str):emp++x=x:=y1y (by rw [z2q];rfl)
noncomputable def ldP(pc:Nat->Str)(path:List Nat):Str:=path.foldl (fun s u=>s++pc u) emp
noncomputable def z1o(l:Pg):Pg:=(l.1,emp,l.2.2.1,l.2.2.2)
noncomputable abbrev LdP(pc:Nat->Str)(S:List Pg):Prop:=∀ l,l∈S->l.2.1=ldP pc (l.2.2.2++[l.1])
theorem q8u(pc:Nat->Str)(p:List Nat)(v:Nat):ldP pc (p++[v])=ldP pc p++pc v:=DP
theorem x6e{pc:Nat->Str}{a v:Nat}:∀ {S:List Pg},LdP pc S->LdP pc (ins a (z2t pc v) S)/\(ins a (z2t pc v) S).map z1o=ins a (z2t (fun _=>emp) v) (S.map z1o)
 | [],h=>⟨h,rfl⟩
 | l::S,h=>by
  have hl:=h l AD
  have hS:LdP pc S:=fun m hm=>h m (AE _ hm)
  by_cases e:l.1=a
  ·have e1:ins a (z2t pc v) (l::S)=l::z2t pc v l::S.map gr:=AR e
   have e2:ins a (z2t (fun _=>emp) v) ((l::S).map z1o)=z1o l::z2t (fun _=>emp) v (z1o l)::(S.map z1o).map gr:=AR e
   rw [e1,e2]
   refine⟨fun m hm=>?_,?_⟩
   ·rcases AQ.mp hm with hm | hm
    ·rw [hm];exact hl
    ·rcases AQ.mp hm with hm | hm
     ·rw [hm]
      show l.2.1++pc v=ldP pc ((l.2.2.2++[l.1])++[v])
      rw [q8u,hl]
     ·obtain⟨m',hm',rfl⟩:=AY.mp hm
      exact hS m' hm'
   ·rw [BP,BP,AX,AX,show z2t (fun _=>emp) v (z1o l)=z1o (z2t pc v l) from AP (fun z=>((v,z,false,l.2.2.2++[l.1]):Pg)) (j8k emp)]
    rfl
  ·obtain⟨i1,i2⟩:=x6e (a:=a) (v:=v) hS
   have e1:ins a (z2t pc v) (l::S)=l::ins a (z2t pc v) S:=AT e
   have e2:ins a (z2t (fun _=>emp) v) ((l::S).map z1o)=z1o l::ins a (z2t (fun _=>emp) v) (S.map z1o):=AT e
   rw [e1,e2]
   refine⟨fun m hm=>?_,?_⟩
   ·rcases AQ.mp hm with hm | hm
    ·rw [hm];exact hl
    ·exact i1 m hm
   ·rw [BP,i2]
theorem k8s(order:List Nat)(B:List (List Nat))(pc:Nat->Str):∀ k,LdP pc (y6k order B pc k)/\(y6k order B pc k).map z1o=y6k order B (fun _=>emp) k
 | 0=>⟨fun l hl=>absurd hl BB,rfl⟩
 | k+1=>by
  obtain⟨i1,i2⟩:=k8s order B pc k
  rw [y7v,y7v,<- i2]
  unfold z5a
  induction (abv order B k).getLast? using Option.casesOn with
  | none=>
   refine⟨fun m hm=>?_,by rw [BF];rfl⟩
   rcases BL.mp hm with hm | hm
   ·exact i1 m hm
   ·rw [AO.mp hm];exact(j8k _).symm
  | some a=>exact x6e i1
theorem x6f{pc:Nat->Str}:∀ (p:List Nat) (x:Str),∃ ys:List Nat,(p.foldl (fun s u=>s++pc u) x).cps.toList=x.cps.toList++ys
 | [],x=>⟨[],(CG _).symm⟩
 | u::p,x=>by
  obtain⟨ys,h⟩:=x6f p (x++pc u)
  exact⟨(pc u).cps.toList++ys,h.trans (by rw [z2q,AW])⟩
theorem k1k{pc:Nat->Str}(hp:∀ v,pc v∈pcL)(v:Nat):(pc v).cps.toList∈P3:=by
 have:∀ x,x∈pcL->x.cps.toList∈P3:=by decide +kernel
 exact this _ (hp v)
theorem k8t:∀ p,p∈P3->p≠[]/\Blk p:=fun p hp=>by
 rcases AQ.mp hp with e | hp
 ·subst e;exact⟨DV _ _,fun c hc=>.inl (by rcases AQ.mp hc with e | hc;exact e;exact AO.mp hc)⟩
 ·rcases AQ.mp hp with e | hp
  ·subst e;exact⟨DV _ _,fun c hc=>.inr (AO.mp hc)⟩
  ·rw [AO.mp hp]
   exact⟨DV _ _,fun c hc=>by rcases AQ.mp hc with e | hc;exact .inl e;exact .inr (AO.mp hc)⟩
theorem x6g{pc:Nat->Str}(hp:∀ v,pc v∈pcL)(path:List Nat):Blk (ldP pc path).cps.toList:=by
 have key:∀ (p:List Nat) (x:Str),Blk x.cps.toList->Blk (p.foldl (fun s u=>s++pc u) x).cps.toList:=fun p=>by
  induction p with
  | nil=>exact fun _ h=>h
  | cons u p ih=>
   exact fun x h=>ih (x++pc u) fun c hc=>by
    rw [z2q] at hc
    exact(BL.mp hc).elim (h c) ((k8t _ (k1k hp u)).2 c)
 exact key path emp fun c hc=>absurd hc BB
noncomputable def x6h(x:Str):Bool:=let ps:=(Txt.split x y6b).map fun y=>y.length
 !ps.isEmpty&&ps.all (fun r=>Nat.ble r 10)&&Nat.ble ps.length 100&&ps.any fun r=>Nat.ble (z2l (ldS x)) r
noncomputable def w4j:Nat->Str->Bool
 | 0,_=>true
 | n+1,x=>pcL.all fun p=>x6h (x++p)&&w4j n (x++p)
theorem x3y:w4j 5 emp=true:=by decide +kernel
theorem j8l{pc:Nat->Str}(hp:∀ v,pc v∈pcL):∀ (n:Nat) (x:Str) (p:List Nat),w4j n x=true->p.length<=n->p≠[]->x6h (p.foldl (fun s u=>s++pc u) x)=true
 | _,_,[],_,_,h=>absurd rfl h
 | 0,_,u::p,_,h,_=>absurd h (Nat.not_succ_le_zero _)
 | n+1,x,u::p,h,hl,_=>by
  obtain⟨a,b⟩:=AG.mp (BA.mp h (pc u) (hp u))
  by_cases e:p=[]
  ·rw [e];exact a
  ·exact j8l hp n (x++pc u) p b (Nat.le_of_succ_le_succ hl) e
structure k8u(x:Str):Prop where
 ne:(Txt.split x y6b).map (fun y=>y.length)≠[]
 le:∀ r,r∈(Txt.split x y6b).map (fun y=>y.length)->r<=10
 few:((Txt.split x y6b).map (fun y=>y.length)).length<=100
 long:∃ r,r∈(Txt.split x y6b).map (fun y=>y.length)/\z2l (ldS x)<=r
theorem k8v{pc:Nat->Str}(hp:∀ v,pc v∈pcL){path:List Nat}(hl:path.length<=5)(hn:path≠[]):k8u (ldP pc path):=by
 have h:=j8l hp 5 emp path x3y hl hn
 obtain⟨h,d⟩:=AG.mp h
 obtain⟨h,c⟩:=AG.mp h
 obtain⟨a,b⟩:=AG.mp h
 obtain⟨r,hr,hl⟩:=DG.mp d
 refine⟨fun e=>?_,fun r hr=>BQ (BA.mp b r hr),BQ c,r,hr,BQ hl⟩
 rw [show(Txt.split (path.foldl (fun s u=>s++pc u) emp) y6b).map (fun y=>y.length)=[] from e] at a
 exact absurd a (by decide)
theorem x6i{pc:Nat->Str}(hp:∀ v,pc v∈pcL)(x:Str):∀ {p:List Nat},p≠[]->∃ q ys,q∈P3/\(p.foldl (fun s u=>s++pc u) x).cps.toList=x.cps.toList++q++ys
 | [],h=>absurd rfl h
 | u::p,_=>by
  obtain⟨ys,h⟩:=x6f p (x++pc u)
  exact⟨(pc u).cps.toList,ys,k1k hp u,h.trans (by rw [z2q])⟩
theorem j8m(pc:Nat->Str)(p q:List Nat):ldP pc (p++q)=q.foldl (fun s u=>s++pc u) (ldP pc p):=DP
theorem y2g{V Z:Type}{f g:V->List Z}{l:List V}(h:∀ x,x∈l->f x=g x):l.flatMap f=l.flatMap g:=by
 rw [List.flatMap_def,List.flatMap_def,CH h]
theorem k8w{i j:Nat}(hij:i<j)(hj:j<5):j∈List.range' (i+1) (5 - (i+1)):=CU.mpr ⟨hij,by rw [DB (BS hij hj:i+1<=5)];exact hj⟩
noncomputable abbrev pg0:Pg:=(0,wk 0,false,[])
structure z9x(pc:Nat->Str)(S:List Pg):Prop where
 len:S.length=5
 pcs:∀ v,pc v∈pcL
 ld:LdP pc S
 ov:x3h 4 S
 chk:q5u (S.map z1o)=true
noncomputable abbrev xL(S:List Pg)(i:Nat):Str:=(S.getD i pg0).2.1
structure w9a(pc:Nat->Str)(S:List Pg)(i:Nat):Prop where
 e:S[i]?=some (S.getD i pg0)
 m:S.getD i pg0∈S
 v:vN (S.map z1o) i=(S.getD i pg0).1
 o:oN (S.map z1o) i=(S.getD i pg0).2.2.2
 x:xL S i=ldP pc (oN (S.map z1o) i++[vN (S.map z1o) i])
section
variable {pc:Nat->Str} {S:List Pg} {i j:Nat}
theorem z9x.at(O:z9x pc S)(hi:i<5):w9a pc S i:=by
 have e:S[i]?=some (S.getD i pg0):=by rw [AH,AN (O.len.symm▸hi)];rfl
 have m:=CE e
 have t:(S.map z1o).getD i pgD=z1o (S.getD i pg0):=by rw [AH,BD,e];rfl
 have v:vN (S.map z1o) i=(S.getD i pg0).1:=(AP (fun l:Pg=>l.1) t :)
 have o:oN (S.map z1o) i=(S.getD i pg0).2.2.2:=(AP (fun l:Pg=>l.2.2.2) t :)
 exact⟨e,m,v,o,by rw [o,v];exact O.ld _ m⟩
theorem z9x.row(O:z9x pc S)(hij:i<j)(hj:j<5):(if dsc (S.map z1o) i j then(oN (S.map z1o) i++[vN (S.map z1o) i]).isPrefixOf (oN (S.map z1o) j)&&(List.range' (i+1) (j - i)).all fun k=>dsc (S.map z1o) i k
 else(List.range' (i+1) (j - i)).any fun k=>!dsc (S.map z1o) i k&&(oN (S.map z1o) k).isPrefixOf (oN (S.map z1o) i))=true:=BA.mp (BA.mp O.chk i (AM.mpr (BS hij hj))) j (k8w hij hj)
theorem k8x{k:Nat}(hij:i<j):k∈List.range' (i+1) (j - i)↔i<k/\k<=j:=by
 rw [CU,BI,DB (BR hij),Nat.lt_succ_iff];rfl
theorem z9x.yes(O:z9x pc S)(hij:i<j)(hj:j<5)(h:dsc (S.map z1o) i j=true):(∃ r,oN (S.map z1o) j=(oN (S.map z1o) i++[vN (S.map z1o) i])++r)/\∀ k,i<k->k<=j->dsc (S.map z1o) i k=true:=by
 have r:=O.row hij hj
 rw [AR h] at r
 obtain⟨a,b⟩:=AG.mp r
 obtain⟨t,ht⟩:=List.isPrefixOf_iff_prefix.mp a
 exact⟨⟨t,ht.symm⟩,fun k h1 h2=>BA.mp b k ((k8x hij).mpr ⟨h1,h2⟩)⟩
theorem z9x.no(O:z9x pc S)(hij:i<j)(hj:j<5)(h:dsc (S.map z1o) i j=false):∃ k r,i<k/\k<=j/\dsc (S.map z1o) i k=false/\oN (S.map z1o) i=oN (S.map z1o) k++r:=by
 have r:=O.row hij hj
 rw [AT (ER.mp h)] at r
 obtain⟨k,hk,r⟩:=DG.mp r
 obtain⟨a,b⟩:=AG.mp r
 obtain⟨t,ht⟩:=List.isPrefixOf_iff_prefix.mp b
 obtain⟨h1,h2⟩:=(k8x hij).mp hk
 exact⟨k,t,h1,h2,(DJ _).mp a,ht.symm⟩
theorem z9x.blk(O:z9x pc S)(hi:i<5):Blk (xL S i).cps.toList:=by rw [(O.at hi).x];exact x6g O.pcs _
theorem q5z{p:List Nat}{v:Nat}:p++[v]≠[]:=fun e=>DV v [] (List.append_eq_nil_iff.mp e).2
theorem z9x.up(O:z9x pc S)(hij:i<j)(hj:j<5)(h:dsc (S.map z1o) i j=true){t:Nat}(ht:1<=t):z7t (xL S i).cps.toList t<z7t (xL S j).cps.toList t:=by
 obtain⟨⟨r,hr⟩,_⟩:=O.yes hij hj h
 rw [(O.at (BS hij hj)).x,(O.at hj).x,hr,AW,j8m pc _ (r++[vN (S.map z1o) j])]
 obtain⟨q,ys,hq,e⟩:=x6i O.pcs (ldP pc (oN (S.map z1o) i++[vN (S.map z1o) i])) (q5z (p:=r) (v:=vN (S.map z1o) j))
 rw [e,AW]
 have q0:=(k8t q hq).1
 induction q using List.casesOn with
 | nil=>exact absurd rfl q0
 | cons c cs=>exact j7x ht _ _
theorem z9x.side(O:z9x pc S)(hij:i<j)(hj:j<5)(h:dsc (S.map z1o) i j=false):∃ k,i<k/\k<=j/\dsc (S.map z1o) i k=false/\∀ top,z2l (ldS (xL S k))<top->∃ t,1<=t/\t<=top/\z7t (xL S k).cps.toList t<=z7t (xL S i).cps.toList t:=by
 obtain⟨k,r,h1,h2,h3,hr⟩:=O.no hij hj h
 refine⟨k,h1,h2,h3,fun top=>?_⟩
 unfold ldS
 rw [(O.at (BS hij hj)).x,(O.at (AZ h2 hj)).x,hr,AW,q8u,j8m pc _ (r++[vN (S.map z1o) i]),z2q]
 obtain⟨q,ys,hq,e⟩:=x6i O.pcs (ldP pc (oN (S.map z1o) k)) (q5z (p:=r) (v:=vN (S.map z1o) i))
 rw [e]
 exact x3m (x6g O.pcs _) hq (k1k O.pcs _)
theorem z9x.less(O:z9x pc S)(hij:i<j)(hj:j<5){top:Nat}(h1:z2l (ldS (xL S i))<top)(h2:z2l (ldS (xL S j))<top):q3b (ldS (xL S i)) (ldS (xL S j))=true↔∀ t,1<=t->t<=top->z7t (xL S i).cps.toList t<z7t (xL S j).cps.toList t:=
 x3l (O.blk (BS hij hj)) (O.blk hj) h1 h2
noncomputable abbrev w7h(S:List Pg)(i j:Nat):Nat:=max (z2l (ldS (xL S i))) (z2l (ldS (xL S j)))+1
theorem x6j:z2l (ldS (xL S i))<w7h S i j:=Nat.lt_succ_of_le (EC _ _)
theorem j8n:z2l (ldS (xL S j))<w7h S i j:=Nat.lt_succ_of_le (EI _ _)
theorem y7z(hij:i<j)(hj:j<5):(i,j)∈z7p S↔q3b (ldS (xL S i)) (ldS (xL S j))=true:=by
 constructor
 ·intro h
  obtain⟨a,_,h⟩:=CX.mp h
  obtain⟨b,hb,e⟩:=AY.mp h
  have e1:a=i:=AP Prod.fst e
  have e2:b=j:=AP Prod.snd e
  subst e1;subst e2
  exact(BG.mp hb).2
 ·exact fun h=>CX.mpr ⟨i,AM.mpr (BS hij hj),AY.mpr ⟨j,BG.mpr ⟨k8w hij hj,h⟩,rfl⟩⟩
theorem y8a{ps:List (Nat×Nat)}{d:Nat->Bool}(h1:∀ j,i<j->j<5->d j=true->(i,j)∈ps/\∀ k,i<k->k<=j->d k=true)(h2:∀ j,i<j->j<5->d j=false->∃ k,i<k/\k<=j/\d k=false/\(i,k)∉ps) :
  ∀ n j,j+n=5->i<j->(∀ k,i<k->k<j->d k=true)->q8j ps i n j=((List.range' j n).filter d).map fun j=>(i,j)
 | 0,_,_,_,_=>rfl
 | n+1,j,hj,hi,hk=>by
  have j5:j<5:=hj▸Nat.lt_add_of_pos_right (Nat.succ_pos n)
  unfold q8j
  induction hd:d j using Bool.casesOn with
  | true=>
   rw [AR (AV (h1 j hi j5 hd).1),List.range'_succ,List.filter_cons_of_pos hd,BP,y8a h1 h2 n (j+1) ((BI j 1 n).trans hj) (Nat.lt_succ_of_lt hi) fun k a b=>(h1 j hi j5 hd).2 k a (CP b)]
  | false=>
   obtain⟨k,k1,k2,k3,k4⟩:=h2 j hi j5 hd
   have ek:k=j:=Nat.le_antisymm k2 (CF.mp fun l=>Bool.noConfusion ((hk k k1 l).symm.trans k3))
   subst ek
   rw [AT (fun h=>k4 (AK h)),List.filter_eq_nil_iff.mpr]
   ·rfl
   ·intro m hm dm
    obtain⟨a,b⟩:=CU.mp hm
    exact Bool.noConfusion (((h1 m (BN k1 a) (hj▸b) dm).2 k k1 a).symm.trans hd)
theorem z9x.blocks(O:z9x pc S):z8o (z7p S)=ovT S:=by
 refine y2g fun i hi=>?_
 have i5:=AM.mp hi
 rw [Nat.succ_sub_succ 4 i,y8a (d:=dsc (S.map z1o) i) (fun j hij hj h=>⟨(y7z hij hj).mpr ((O.less hij hj x6j j8n).mpr fun t ht _=>O.up hij hj h ht),(O.yes hij hj h).2⟩) (fun j hij hj h=>?_) (4 - i) (i+1) (by lia) (DY i) fun k a b=>absurd a (CF.mpr (CP b))]
 ·refine AP (List.map _) (CQ fun j hj=>?_)
  have j5:j<5:=(r15 (i:=i) (by rw [Nat.succ_sub_succ 4 i];exact hj)).2
  unfold dsc
  rw [(O.at i5).v,(O.at j5).o]
 ·obtain⟨k,k1,k2,k3,k4⟩:=O.side hij hj h
  have k5:=AZ k2 hj
  refine⟨k,k1,k2,k3,fun m=>?_⟩
  obtain⟨t,t1,t2,t3⟩:=k4 _ (j8n (i:=i))
  exact CF.mpr t3 ((O.less k1 k5 x6j j8n).mp ((y7z k1 k5).mp m) t t1 t2)
theorem j8o{ls:List Str}{top:Nat}:j0z ls top (i,j)=true↔∀ t,1<=t->t<=top->z7t (ls.getD i y6b).cps.toList t<z7t (ls.getD j y6b).cps.toList t:=by
 unfold j0z
 rw [EZ,List.filter_eq_nil_iff]
 constructor
 ·intro h t h1 h2
  have:=h (t - 1) (AM.mpr (Nat.sub_one_lt_of_le h1 h2))
  rw [BY,Nat.sub_add_cancel h1] at this
  exact Nat.not_le.mp this
 ·intro h k hk
  rw [BY]
  exact Nat.not_le.mpr (h (k+1) (CO 1 k) (AM.mp hk))
theorem z9x.spl(O:z9x pc S){l:Pg}(hl:l∈S):k8u l.2.1:=by
 rw [O.ld l hl]
 exact k8v O.pcs (by rw [AC];exact CI (O.ov l hl)) q5z
theorem z9x.long(O:z9x pc S)(hi:i<5):z2l (ldS (xL S i))<1+mxN (y6m (S.map fun l=>l.2.1)):=by
 have A:=O.at hi
 obtain⟨r,hr,h⟩:=(O.spl A.m).long
 have g:r<=mxN (y6m (S.map fun l=>l.2.1)):=k8l r (CX.mpr ⟨xL S i,CT A.m,hr⟩)
 exact AZ h (AZ g (Nat.lt_add_of_pos_left Nat.one_pos))
theorem z9x.xd(O:z9x pc S)(hi:i<5):(S.map fun l=>l.2.1).getD i y6b=xL S i:=by
 rw [AH,BD,(O.at hi).e];rfl
theorem z9x.les(O:z9x pc S):z7p S=y2f (S.map fun l=>l.2.1):=by
 unfold y2f q3c
 rw [List.filter_flatMap]
 refine y2g fun i hi=>?_
 have i5:=AM.mp hi
 rw [List.filter_map]
 refine AP (List.map _) (CQ fun j hj=>?_)
 obtain⟨a,b⟩:=r15 hj
 show _=j0z _ _ (i,j)
 rw [BT,j8o,O.xd i5,O.xd b]
 exact O.less a b (O.long i5) (O.long b)
theorem z9x.ldOk(O:z9x pc S)(h:∀ l,l∈S->z2p l.2.1 10):k2c (S.map fun l=>l.2.1):=by
 have m:∀ x,x∈S.map (fun l=>l.2.1)->∃ l,l∈S/\l.2.1=x:=fun x hx=>AY.mp hx
 refine⟨(AI _).trans O.len,fun x hx=>?_,fun e=>?_,fun r hr=>?_,?_⟩
 ·obtain⟨l,hl,e⟩:=m x hx
  rw [<- e];exact h l hl
 ·have A:=O.at (by decide:0<5)
  exact(O.spl A.m).ne (List.flatMap_eq_nil_iff.mp e _ (CT A.m))
 ·obtain⟨x,hx,hr⟩:=CX.mp hr
  obtain⟨l,hl,e⟩:=m x hx
  exact(O.spl hl).le r (by rw [e];exact hr)
 ·refine AA (z7k _ 100 _ fun x hx=>?_) (by rw [AI,O.len];decide)
  obtain⟨l,hl,e⟩:=m x hx
  rw [<- e];exact(O.spl hl).few
end
theorem w4k:∀ f g h i j:Bool,z8y (z3h false false false false false f g h i j)=true:=by decide +kernel
theorem w4l:∀ f g h i j:Bool,z8y (z3h true false false false false f g h i j)=true:=by decide +kernel
theorem w4m:∀ f g h i j:Bool,z8y (z3h false true false false false f g h i j)=true:=by decide +kernel
theorem w4n:∀ f g h i j:Bool,z8y (z3h true true false false false f g h i j)=true:=by decide +kernel
theorem w4o:∀ f g h i j:Bool,z8y (z3h false false true false false f g h i j)=true:=by decide +kernel
theorem w4p:∀ f g h i j:Bool,z8y (z3h true false true false false f g h i j)=true:=by decide +kernel
theorem w4q:∀ f g h i j:Bool,z8y (z3h false true true false false f g h i j)=true:=by decide +kernel
theorem w4r:∀ f g h i j:Bool,z8y (z3h true true true false false f g h i j)=true:=by decide +kernel
theorem w4s:∀ f g h i j:Bool,z8y (z3h false false false true false f g h i j)=true:=by decide +kernel
theorem w4t:∀ f g h i j:Bool,z8y (z3h true false false true false f g h i j)=true:=by decide +kernel
theorem k8y:∀ f g h i j:Bool,z8y (z3h false true false true false f g h i j)=true:=by decide +kernel
theorem k8z:∀ f g h i j:Bool,z8y (z3h true true false true false f g h i j)=true:=by decide +kernel
theorem k9a:∀ f g h i j:Bool,z8y (z3h false false true true false f g h i j)=true:=by decide +kernel
theorem k9b:∀ f g h i j:Bool,z8y (z3h true false true true false f g h i j)=true:=by decide +kernel
theorem k9c:∀ f g h i j:Bool,z8y (z3h false true true true false f g h i j)=true:=by decide +kernel
theorem k9d:∀ f g h i j:Bool,z8y (z3h true true true true false f g h i j)=true:=by decide +kernel
theorem k9e:∀ f g h i j:Bool,z8y (z3h false false false false true f g h i j)=true:=by decide +kernel
theorem k9f:∀ f g h i j:Bool,z8y (z3h true false false false true f g h i j)=true:=by decide +kernel
theorem k9g:∀ f g h i j:Bool,z8y (z3h false true false false true f g h i j)=true:=by decide +kernel
theorem k9h:∀ f g h i j:Bool,z8y (z3h true true false false true f g h i j)=true:=by decide +kernel
theorem k9i:∀ f g h i j:Bool,z8y (z3h false false true false true f g h i j)=true:=by decide +kernel
theorem k9j:∀ f g h i j:Bool,z8y (z3h true false true false true f g h i j)=true:=by decide +kernel
theorem k9k:∀ f g h i j:Bool,z8y (z3h false true true false true f g h i j)=true:=by decide +kernel
theorem k9l:∀ f g h i j:Bool,z8y (z3h true true true false true f g h i j)=true:=by decide +kernel
theorem k9m:∀ f g h i j:Bool,z8y (z3h false false false true true f g h i j)=true:=by decide +kernel
theorem k9n:∀ f g h i j:Bool,z8y (z3h true false false true true f g h i j)=true:=by decide +kernel
theorem k9o:∀ f g h i j:Bool,z8y (z3h false true false true true f g h i j)=true:=by decide +kernel
theorem k9p:∀ f g h i j:Bool,z8y (z3h true true false true true f g h i j)=true:=by decide +kernel
theorem k9q:∀ f g h i j:Bool,z8y (z3h false false true true true f g h i j)=true:=by decide +kernel
theorem k9r:∀ f g h i j:Bool,z8y (z3h true false true true true f g h i j)=true:=by decide +kernel
theorem k9s:∀ f g h i j:Bool,z8y (z3h false true true true true f g h i j)=true:=by decide +kernel
theorem k9t:∀ f g h i j:Bool,z8y (z3h true true true true true f g h i j)=true:=by decide +kernel
theorem k1l:∀ a b c d e f g h i j:Bool,z8y (z3h a b c d e f g h i j)=true:=fun a b c d e=>match a,b,c,d,e with
 | false,false,false,false,false=>w4k
 | true,false,false,false,false=>w4l
 | false,true,false,false,false=>w4m
 | true,true,false,false,false=>w4n
 | false,false,true,false,false=>w4o
 | true,false,true,false,false=>w4p
 | false,true,true,false,false=>w4q
 | true,true,true,false,false=>w4r
 | false,false,false,true,false=>w4s
 | true,false,false,true,false=>w4t
 | false,true,false,true,false=>k8y
 | true,true,false,true,false=>k8z
 | false,false,true,true,false=>k9a
 | true,false,true,true,false=>k9b
 | false,true,true,true,false=>k9c
 | true,true,true,true,false=>k9d
 | false,false,false,false,true=>k9e
 | true,false,false,false,true=>k9f
 | false,true,false,false,true=>k9g
 | true,true,false,false,true=>k9h
 | false,false,true,false,true=>k9i
 | true,false,true,false,true=>k9j
 | false,true,true,false,true=>k9k
 | true,true,true,false,true=>k9l
 | false,false,false,true,true=>k9m
 | true,false,false,true,true=>k9n
 | false,true,false,true,true=>k9o
 | true,true,false,true,true=>k9p
 | false,false,true,true,true=>k9q
 | true,false,true,true,true=>k9r
 | false,true,true,true,true=>k9s
 | true,true,true,true,true=>k9t
theorem q0a{V:Type}[BEq V][LawfulBEq V]:∀ {l:List V},q8p l=true->l.Nodup
 | [],_=>DR
 | x::l,h=>by
  obtain⟨a,b⟩:=AG.mp h
  exact DL.mpr ⟨fun m=>by rw [CR.mpr m] at a;exact Bool.noConfusion a,q0a b⟩
noncomputable abbrev m2T(T:List Pg):List (Nat×Nat):=k2e T++(k2e T).map swp
structure k9u(B:List (List Nat)):Prop where
 len:(z2f B).length=5
 nd:(z2f B).Nodup
 lt:∀ u,u∈z2f B->u<5
 nest:z9t B B=z8m B
 emp:((List.range 5).all fun u=>(nb (k2d B (q5t B)) u).isEmpty)=z8m B
 held:∀ u,u<5->∀ v,v∈nb B u->(!(q5t B).contains u&&!(q5t B).contains v)=((j8f B).contains u&&(j8f B).contains v)
 tree:q5u (q3l B)=true
 ov:x3h 4 (q3l B)
 nd2:(m2T (q3l B)).Nodup
 same:((List.range 5).all fun u=>(List.range 5).all fun v=>(m2T (q3l B)).contains (u,v)==(nb B u).contains v)=z8m B
theorem k9v{B:List (List Nat)}(h:z8y B=true):k9u B:=by
 obtain⟨h,x⟩:=AG.mp h
 obtain⟨h,nd2⟩:=AG.mp h
 obtain⟨h,ov⟩:=AG.mp h
 obtain⟨h,tree⟩:=AG.mp h
 obtain⟨h,held⟩:=AG.mp h
 obtain⟨h,emp⟩:=AG.mp h
 obtain⟨h,nest⟩:=AG.mp h
 obtain⟨h,lt⟩:=AG.mp h
 obtain⟨len,nd⟩:=AG.mp h
 exact⟨Nat.eq_of_beq_eq_true len,q0a nd,fun u hu=>BQ (BA.mp lt u hu),BO nest,BO emp,fun u hu v hv=>BO (BA.mp (BA.mp held u (AM.mpr hu)) v hv),tree,fun l hl=>BQ (BA.mp ov l hl),q0a nd2,BO x⟩
theorem k1m{a b:Nat×Nat}(h:cst a=cst b):a=b:=Prod.ext (Int.ofNat.inj (AP Prod.fst h)) (Int.ofNat.inj (AP Prod.snd h))
theorem k1n{a b:Int×Int}(h1:z3i a b=true)(h2:z3i b a=true):a=b:=by
 unfold z3i at h1 h2
 rw [CD,AG,BY,BE,BY] at h1 h2
 exact Prod.ext (by lia) (by lia)
theorem x3z{a b:List (Nat×Nat)}(ha:a.Nodup)(hb:b.Nodup):j8c a=j8c b↔∀ p,p∈a↔p∈b:=by
 have pa:=FS (a.map cst) z3i
 have pb:=FS (b.map cst) z3i
 have mm:∀ (l:List (Nat×Nat)) p,p∈l↔cst p∈l.map cst:=fun l p=>⟨CT,fun h=>by
  obtain⟨q,hq,e⟩:=AY.mp h
  exact k1m e▸hq⟩
 constructor
 ·intro e p
  rw [mm a,mm b,<- pa.mem_iff,<- pb.mem_iff]
  exact iff_of_eq (AP (cst p∈·) e)
 ·intro h
  have p:=((List.perm_ext_iff_of_nodup ha hb).mpr h).map cst
  exact List.Perm.eq_of_pairwise (le:=fun a b=>z3i a b=true) (fun _ _ _ _=>k1n) (List.pairwise_mergeSort z8b y1l _) (List.pairwise_mergeSort z8b y1l _) (pa.trans (p.trans pb.symm))
theorem k1o{own:List Ln}(n:Net own):(z4t own).Nodup:=by
 unfold z4t
 refine DI.mpr ⟨n.nd,?_,fun x hx y hy e=>?_⟩
 ·have:=n.nd
  unfold List.Nodup at this ⊢
  rw [List.pairwise_map] at this ⊢
  exact this.imp fun {a b} (h:pq a≠pq b) (e:swp (pq a)=swp (pq b))=>h (Prod.ext (AP Prod.snd e :) (AP Prod.fst e :))
 ·obtain⟨l,hl,rfl⟩:=AY.mp hx
  obtain⟨m,hm,rfl⟩:=AY.mp hy
  have a:=(n.ups l hl).1
  have b:=(n.ups m hm).1
  have e1:l.1=m.2.1:=AP Prod.fst e
  have e2:l.2.1=m.1:=AP Prod.snd e
  rw [e1,e2] at a
  exact Nat.lt_asymm a b
theorem x4a{pc:Nat->Str}{S:List Pg}(O:z9x pc S):k1g S (ovT S)=k2e (S.map z1o):=by
 unfold k1g ovT k2e
 rw [EL]
 refine y2g fun i hi=>?_
 have A:=O.at (AM.mp hi)
 have f:(List.range' (i+1) (5 - (i+1))).filter (fun j=>(S.getD j (0,wk 0,false,[])).2.2.2.contains (S.getD i (0,wk 0,false,[])).1)=(List.range' (i+1) (5 - (i+1))).filter (dsc (S.map z1o) i):=CQ fun j hj=>by
  unfold dsc
  rw [A.v,(O.at (r15 hj).2).o]
 have g:∀ {k},k<5->(S.map fun l=>l.1).getD k 0=vN (S.map z1o) k:=fun {k} hk=>by
  rw [AH,BD,(O.at hk).e,(O.at hk).v];rfl
 rw [f,AX]
 exact CH fun j hj=>Prod.ext (g (AM.mp hi)) (g (r15 (BG.mp hj).1).2)
theorem k9w{T:List Pg}(h:∀ i,i<5->vN T i<5){p:Nat×Nat}(hp:p∈m2T T):p.1<5/\p.2<5:=by
 have key:∀ p,p∈k2e T->p.1<5/\p.2<5:=fun p hp=>by
  obtain⟨i,hi,hp⟩:=CX.mp hp
  obtain⟨j,hj,rfl⟩:=AY.mp hp
  exact⟨h i (AM.mp hi),h j (r15 (BG.mp hj).1).2⟩
 rcases BL.mp hp with hp | hp
 ·exact key p hp
 ·obtain⟨q,hq,rfl⟩:=AY.mp hp
  exact(key q hq).symm
theorem x4b{own:List Ln}(n:Net own){pc:Nat->Str}(hp:∀ v,pc v∈pcL):x6d own pc (y6k (z2f (z1y own)) (z1y own) pc 5):=by
 have C:k9u (bes own):=by
  obtain⟨a,b,c,d,e,f,g,h,i,j,hb⟩:=x3x n.ups
  rw [hb];exact k9v (k1l a b c d e f g h i j)
 have eo:z2f (z1y own)=z2f (bes own):=j8g n
 have me:=x3v n.ups
 have l2:∀ x,x∈pcL->z2p x 2:=fun x hx=>⟨by
  have:∀ x,x∈pcL->x.length<=2:=by decide +kernel
  exact this x hx,by
  have:∀ x,x∈pcL->∀ c,c∈x.cps.toList->c=32\/c=9:=by decide +kernel
  exact this x hx⟩
 have ord:y2c (z2f (z1y own)) pc:=by
  rw [eo];exact⟨C.len,C.nd,C.lt,fun v _=>l2 _ (hp v)⟩
 have I:∀ k,k<=5->y3b (z2f (z1y own)) k (y6k (z2f (z1y own)) (z1y own) pc k):=fun k=>by
  induction k with
  | zero=>exact fun _=>q8h _
  | succ k ih=>exact fun h=>by rw [y7v];exact(ih (DD h)).step ord h _
 have I5:=I 5 (AL 5)
 have pg:y6k (z2f (z1y own)) (z1y own) pc 5=y6k (z2f (z1y own)) (bes own) pc 5:=q8t me ord.lt pc 5
 obtain⟨ld,st⟩:=k8s (z2f (z1y own)) (bes own) pc 5
 rw [<- pg] at ld st
 have st:(y6k (z2f (z1y own)) (z1y own) pc 5).map z1o=q3l (bes own):=st.trans (by rw [eo])
 have lt5:=I5.lt ord
 generalize y6k (z2f (z1y own)) (z1y own) pc 5=S at *
 have O:z9x pc S:=⟨I5.len,hp,ld,fun l hl=>C.ov (z1o l) (st▸CT hl),st▸C.tree⟩
 refine⟨fun p h=>(q8s n h).2,k1i n,ord,(q3m me).trans C.nest,?_,?_,?_,pg.symm,O.blocks,O.ldOk I5.lead,O.les⟩
 ·show _=z8m (bes own)
  rw [<- C.emp,j8j n.ups,BT,BY,BA]
  constructor
  ·intro e u hu
   rw [EZ,EA]
   intro v hv
   have u5:=AM.mp hu
   have:=(q5y n.ups (q5t (bes own)) u u5 v).mpr hv
   rw [e,z9v u5] at this
   exact absurd this BB
  ·intro h
   refine EA.mpr fun l hl=>?_
   have u:=n.ups l (BG.mp hl).1
   have u5:=BS u.1 u.2
   have m:=(q5y n.ups (q5t (bes own)) l.1 u5 l.2.1).mp (by rw [z9v u5];exact z3g.mpr ⟨l,hl,.inl ⟨rfl,rfl⟩⟩)
   rw [EZ.mp (h l.1 (AM.mpr u5))] at m
   exact BB m
 ·show _=z8m (bes own)
  unfold k1h
  rw [<- C.same,O.blocks,x4a O,st,BT,BY,BA,x3z C.nd2 (k1o n)]
  have tb:∀ {u v},u<5->((u,v)∈z4t own↔v∈nb (bes own) u):=fun {u v} hu=>z7l.trans (z9w n.ups hu).symm
  constructor
  ·intro h u hu
   refine BA.mpr fun v hv=>BE.mpr ?_
   rw [BT,CR,CR]
   exact(h (u,v)).trans (tb (AM.mp hu))
  ·intro h p
   have k:p.1<5->p.2<5->(p∈m2T (q3l (bes own))↔p∈z4t own):=fun h1 h2=>by
    have:=BE.mp (BA.mp (h p.1 (AM.mpr h1)) p.2 (AM.mpr h2))
    rw [BT,CR,CR] at this
    exact this.trans (tb h1).symm
   have v5:∀ i,i<5->vN (q3l (bes own)) i<5:=fun i hi=>by
    rw [<- st,(O.at hi).v];exact lt5 _ (O.at hi).m
   constructor
   ·intro hm
    obtain⟨a,b⟩:=k9w v5 hm
    exact(k a b).mp hm
   ·intro hm
    have r:=z7l.mp hm
    exact(k (w4i n.ups r) (z9u n.ups r).1).mpr hm
 ·rw [j8j n.ups,x3w n.ups]
  refine CQ fun l hl=>?_
  have u:=n.ups l hl
  have u5:=BS u.1 u.2
  exact C.held l.1 u5 l.2.1 ((z9w n.ups u5).mpr (z3g.mpr ⟨l,hl,.inl ⟨rfl,rfl⟩⟩))
theorem law2_true(ns:List Int):∃ H',z0h D2.mp 20 lawId2 [.lst (ns.map .int)] [] ⟨0,0⟩ []=some (.bool true,H'):=x3t ns (x4b (k8r (q3e ns)) (x3r _))
end Mine
end
open PySem PySem.W PyProof.Rows
set_option maxHeartbeats 8000000
namespace Mine
noncomputable def pw:Program:=PySem.Challenge.pw_sh0057_02
noncomputable def vw:Program:=view PySem.Challenge.pw_sh0057_02 [28]
noncomputable def lz:List Str:=[("_sre":Str),"_wall","__name__","Whitespace","COMPILER_FLAG_NAMES","pretty_flags","_name_disallowed_re","_value_disallowed_re","Headers","_law_words","_law_title","_law_net","_law_own","_law_free","_law_nested","_law_far","_law_held","_law_near","_law_emptied","_law_page","_law_lines","_law_pairs","_law_blocks","_law_column","_law_lesser"]
noncomputable def xtB(s:Shared):Bool:=xlAt vw [] s&&recOk (RowW.records (OpenRow.toRowW PySem.Challenge.rw_sh0057_02.row)) s
noncomputable def w4u:{f:Program->World->Nat->Shared->Option Shared // topFrom treeTable=f}:=by
 refine⟨?f,?h⟩
 case h=>
  delta topFrom
  rewrite [PySem.W.Fast.te14082659384304107361,show treeTable=PySem.W.Fast.tw14364793385576792824 from PySem.W.Fast.te14364793385576792824]
  exact rfl
noncomputable def j8p:{f:Program->World->Nat->Option Shared // fencedOpening treeTable=f}:=by
 refine⟨?f,?h⟩
 case h=>
  delta fencedOpening
  rewrite [PySem.W.Fast.te14289696077712309145]
  exact rfl
theorem x4c(p:Program)(w:World)(N:Nat):openEnds treeTable p w N=(j8p.1 p w N).bind (w4u.1 p w N):=by
 rw [<- j8p.2,<- w4u.2]
 rfl
noncomputable def x4d(w:World):Option Shared:=(j8p.1 PySem.Challenge.rw_sh0057_02.row.prog w 4182).bind (w4u.1 PySem.Challenge.rw_sh0057_02.row.prog w 4182)
noncomputable def eye(s:Shared):=PySem.W.Fast.tw4187177175401517315 vw lz (importedModules PySem.Challenge.rw_sh0057_02.row.prog.main.body) xtB true s
noncomputable def k2f:String:="special-get-raises"
theorem k9x(w:World):(x4d (w.withFollow k2f false)).map (fun s=>(eye s,q4t D2 lawId2 400 s))=some (openGood vw lz,true):=by kernel_rfl
theorem k9y(w:World):(x4d (w.withFollow k2f true)).map (fun s=>(eye s,q4t D2 lawId2 400 s))=some (openGood vw lz,true):=by kernel_rfl
theorem w4v(w:World):(x4d w).map (fun s=>(eye s,q4t D2 lawId2 400 s))=some (openGood vw lz,true):=byRow2 k2f (P:=fun w=>(x4d w).map (fun s=>(eye s,q4t D2 lawId2 400 s))=some (openGood vw lz,true)) k9x k9y w
theorem k9z(w:World):(x4d (w.withFollow k2f false)).map (j0f D2 400)=some (true):=by kernel_rfl
theorem w0a(w:World):(x4d (w.withFollow k2f true)).map (j0f D2 400)=some (true):=by kernel_rfl
theorem w4w(w:World):(x4d w).map (j0f D2 400)=some (true):=byRow2 k2f (P:=fun w=>(x4d w).map (j0f D2 400)=some (true)) k9z w0a w
theorem w4x:LeftO PySem.Challenge.rw_sh0057_02.row.prog vw lz xtB (fun s=>(q4t D2 lawId2 400 s,j0f D2 400 s)) (fun _=>(true,true)) 4182:=fun w=>by
 have h:=j4x (w4v w) (w4w w)
 unfold x4d eye at h
 rw [<- PySem.W.Fast.te4187177175401517315,<- x4c] at h
 exact h
theorem j8q:(defOf vw PySem.Challenge.rw_sh0057_02.row.name).isSome=true:=by kernel_rfl
noncomputable def dk:DefRec×List (Str×Expr):=(defOf vw PySem.Challenge.rw_sh0057_02.row.name).get j8q
theorem w0b:defOf vw PySem.Challenge.rw_sh0057_02.row.name=some (dk.1,dk.2):=(Option.some_get j8q).symm
theorem dk_name:dk.1.name=Str.ofString "law":=by kernel_rfl
theorem k1p:PySem.Challenge.rw_sh0057_02.row.prog.theDef PySem.Challenge.rw_sh0057_02.row.name=some (dk.1.params,dk.1.body,dk.1.scope):=by kernel_rfl
theorem w4y:kwWritten? dk.1.params.kwonlyargs dk.1.params.kw_defaults=some dk.2:=by kernel_rfl
theorem w4z:(chainsOk vw&&opensWell PySem.Challenge.rw_sh0057_02.row.prog&&(frees PySem.Challenge.rw_sh0057_02.row.toRowW&&PySem.Challenge.rw_sh0057_02.row.within.isEmpty))=true:=by kernel_rfl
theorem k1q:PySem.Challenge.rw_sh0057_02.row.prog.bare:=⟨by kernel_rfl,by kernel_rfl,by kernel_rfl,by kernel_rfl,by kernel_rfl,by decide +kernel⟩
theorem w9b:(!PySem.Challenge.rw_sh0057_02.row.writes || PySem.Challenge.rw_sh0057_02.row.records.isEmpty)=true:=by kernel_rfl
theorem said2:OpenLaw.wellSaid PySem.Challenge.rw_sh0057_02=true:=by kernel_rfl
theorem head2(k1:PySem.Challenge.rw_sh0057_02.row.wellSaid=true)(hw:PySem.Challenge.rw_sh0057_02.row.toRowW.promised)
 (call:WalkO vw lz (XL vw []) (fun _ h=>Seen D2 lawId2 h) PySem.Challenge.rw_sh0057_02.row.toRowW dk.1 dk.2 fun f vs=>PySem.call f vs):PySem.Challenge.rw_sh0057_02.row.Holds:=
 holds_open (YP:=fun _ h=>Seen D2 lawId2 h) w4x (fun w s e=>x8g (AP Prod.fst e) (AP Prod.snd e)) (fun w h h' S k=>S.keeps k) (fun s e=>xl_of s (AG.mp e).1) XL.keeps w0b k1p w4y (fun s e=>recFacts_of (AG.mp e).2) w9b k1 w4z k1q hw call
end Mine
theorem PySem.Challenge.cw_sh0057_02_holds : PySem.Challenge.rw_sh0057_02.Holds := by
 refine holds_law Mine.said2 fun said=>?_
 refine Mine.head2 (by assumption) ?hw ?hc
 case hw=>w_witness2
 case hc=>
  intro w sA sB mg mb G A3 fa o pm cd doc dV kV ho hd hcd hD hmg hg args vals as hpre hlay hrd hwl hlo
  obtain⟨K,KX,KC,KL⟩:=A3
  refine Ground.open G ?_
  intro T B D TE TW
  rw [Mine.dk_name] at hmg
  have hfa:=Option.some.inj ((mg_of KX T.g (n:=Str.ofString "law") (v:=.ref (Mine.D2.fA.getD Mine.lawId2 0)) KL).symm.trans hmg)
  have hfa':fa=Mine.D2.fA.getD Mine.lawId2 0:=(Value.ref.inj hfa).symm
  clear ho hd hcd hD hfa
  wrow_args hpre hlay hrd hwl hlo
  rename_i ns _ _ _ _ _ _ _ l vs _ hL _ hW _ hI _ hc _
  refine Mine.law_walks (lid:=Mine.lawId2) (D:=Mine.D2) (ns:=ns) KC KX T hL hW rfl hI ?len ⟨rfl,by decide,by decide⟩ hfa' (Mine.law2_true ns) ?fin
  case len=>omega
  case fin=>
   intro s' hk hos hgen
   refine GoodW.toG ⟨.inl ⟨.bool true,.bool true,[],rfl,fun _=>rfl,.bool _,?_,fun _=>⟨List.nodup_nil,fun a h=>(nomatch h)⟩⟩,hk,hos,by rw [hgen,hg]⟩
   kernel_rfl
