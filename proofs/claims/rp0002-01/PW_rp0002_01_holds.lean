import PyProof.Rows.All
import Wide.All
import OpenK.AllK
import Wide.FinOn
import Lean
import PySem.Challenge.RW_rp0002_01
set_option Elab.async false
set_option genSizeOf false
set_option genInjectivity false
set_option genCtorIdx false
set_option bootstrap.genMatcherCode false
set_option linter.all false
set_option tactic.hygienic false
set_option hygiene false in
local macro_rules | `($a -> $b) => `(∀ ζ : $a, $b)
local macro_rules | `(tactic|erw [$e:term]) => `(tactic|refine Eq.substr $e ?_)
set_option maxRecDepth 100000
set_option maxHeartbeats 8000000
namespace Mine.Internal
noncomputable def ab:=@congrArg.{1,1}
noncomputable def ae:=@Nat.le_trans
noncomputable def ag:=@PySem.wpAny_bind
noncomputable def al:=@Option.some.inj
noncomputable def aw:=@Nat.le_of_ble_eq_true
noncomputable def ax:=@Nat.lt_of_le_of_lt
noncomputable def aM:=@List.mem_cons_self
noncomputable def a6:=@List.getElem?_eq_some_iff
noncomputable def a7:=@of_decide_eq_true
noncomputable def ba:=@List.length_map
noncomputable def bb:=@List.mem_cons_of_mem
noncomputable def bc:=@List.mem_singleton
noncomputable def be:=@List.mem_of_getElem?
noncomputable def bj:=@PySem.wpAny_pure
noncomputable def bm:=@List.getElem?_eq_getElem
noncomputable def bn:=@Bool.and_eq_true_iff
noncomputable def bo:=@List.mem_map
noncomputable def bp:=@List.length_append
noncomputable def bt:=@List.mem_cons
noncomputable def bv:=@Nat.le_of_eq
noncomputable def ca:=@if_neg.{1}
noncomputable def cf:=@Nat.lt_of_lt_of_le
noncomputable def ch:=@if_pos.{1}
noncomputable def cn:=@decide_eq_true
noncomputable def cp:=@List.not_mem_nil
noncomputable def cq:=@List.mem_append_right
noncomputable def cr:=@Nat.le_refl
noncomputable def cw:=@Option.some_ne_none
noncomputable def cy:=@Nat.le_of_lt
noncomputable def c6:=@Bool.false_ne_true
noncomputable def da:=@List.forall_mem_cons
noncomputable def db:=@Nat.le_of_lt_succ
noncomputable def dd:=@Nat.zero_le
noncomputable def de:=@List.mem_append_left
noncomputable def dp:=@List.mem_map_of_mem
noncomputable def dq:=@Nat.lt_succ_self
noncomputable def dr:=@Nat.ne_of_lt
noncomputable def dt:=@List.nodup_nil
noncomputable def du:=@List.mem_range
noncomputable def dv:=@PySem.Heap.get?_push_size
noncomputable def dA:=@PySem.Heap.get?_push_of_some
noncomputable def dC:=@List.mem_append
noncomputable def dE:=@Nat.le_add_right
noncomputable def dT:=@decide_eq_false
noncomputable def eb:=@Bool.or_eq_true_iff
noncomputable def eh:=@List.length_range
noncomputable def ei:=@List.nodup_cons
noncomputable def ej:=@List.map_append
noncomputable def en:=@Ne.symm.{1}
noncomputable def et:=@Nat.succ_le_succ
noncomputable def ew:=@Nat.add_le_add_left
noncomputable def ey:=@beq_iff_eq
noncomputable def eA:=@PySem.wpAny_holding
noncomputable def eC:=@List.getElem?_eq_none_iff
noncomputable def eD:=@Nat.le_antisymm
noncomputable def eF:=@List.cons.inj
noncomputable def eI:=@List.take_add_one
noncomputable def eJ:=@List.mem_filter
noncomputable def eM:=@List.getElem?_map
noncomputable def eP:=@List.isEmpty_iff
noncomputable def eQ:=@List.all_eq_true
noncomputable def eR:=@List.append_nil
noncomputable def e0:=@Option.map_eq_some_iff
noncomputable def fa:=@Int.le_trans
noncomputable def fb:=@List.pairwise_singleton
noncomputable def fg:=@List.getElem_mem
noncomputable def fi:=@List.getElem?_eq_none
noncomputable def fp:=@PySem.Heap.get?_update_self
noncomputable def ft:=@Nat.succ_pos
noncomputable def fv:=@PySem.Heap.lt_size
noncomputable def fw:=@List.eq_nil_of_length_eq_zero
noncomputable def fA:=@List.getElem?_append_left
noncomputable def fI:=@List.take_length
noncomputable def gd:=@Nat.lt_trans
noncomputable def gN:=@Nat.le_succ
noncomputable def hJ:=@PySem.Heap.get?_update_other
noncomputable def hN:=@Nat.lt_of_lt_of_eq
noncomputable def hO:=@Int.natCast_nonneg
noncomputable def hU:=@Array.getElem?_toList
noncomputable def hV:=@Int.ofNat_lt
noncomputable def hX:=@Nat.lt_succ_of_le
noncomputable def hY:=@Nat.sub_add_cancel
noncomputable def hZ:=@Nat.lt_or_eq_of_le
noncomputable def h7:=@Nat.add_le_add
noncomputable def ib:=@PySem.wpAny_call_entry
noncomputable def ii:=@List.mem_flatMap
noncomputable def ij:=@Nat.not_lt_zero
noncomputable def ik:=@List.length_cons
noncomputable def il:=@Option.isNone_iff_eq_none
noncomputable def im:=@Nat.lt_succ_of_lt
noncomputable def io:=@List.append_assoc
noncomputable def ip:=@Eq.symm.{1}
noncomputable def iq:=@List.mem_iff_getElem?
noncomputable def iv:=@Nat.succ_add_eq_add_succ
noncomputable def jp:=@List.map_cons
noncomputable def kb:=@Nat.add_comm
noncomputable def ke:=@PySem.wpAny_callSpecial?_slot
noncomputable def kf:=@Option.bind_eq_some_iff
noncomputable def ki:=@List.length_drop
noncomputable def kv:=@Nat.lt_irrefl
noncomputable def kz:=@Nat.le_of_succ_le_succ
noncomputable def kO:=@List.nodup_append
noncomputable def kS:=@Nat.add_sub_cancel'
noncomputable def k0:=@Option.filter_eq_some_iff
noncomputable def lb:=@Nat.lt_of_sub_eq_succ
noncomputable def ld:=@PySem.wpAny_rule
noncomputable def lf:=@decide_eq_true_iff
noncomputable def lh:=@List.lookup_cons
noncomputable def lj:=@Nat.not_succ_le_zero
noncomputable def lk:=@Nat.add_le_add_right
noncomputable def ll:=@List.filter_cons_of_pos
noncomputable def lm:=@List.filter_cons_of_neg
noncomputable def lp:=@Int.toNat_natCast
noncomputable def lr:=@PySem.wpAny_ite_false
noncomputable def lv:=@Int.natCast_pos
noncomputable def lw:=@beq_eq_false_iff_ne
noncomputable def lL:=@Nat.zero_add
noncomputable def ma:=@Nat.ne_of_gt
noncomputable def mc:=@Nat.lt_or_ge
noncomputable def mf:=@PySem.W.Fast.te14364793385576792824
noncomputable def mi:=@beq_self_eq_true
noncomputable def ml:=@Nat.succ_ne_zero
noncomputable def mn:=@Nat.sub_sub_self
noncomputable def mo:=@List.nodup_range
noncomputable def mr:=@Nat.pos_of_ne_zero
noncomputable def ms:=@Array.getElem?_eq_some_iff
noncomputable def mx:=@PySem.wpAny_specialOf
noncomputable def my:=@Prod.ext
noncomputable def mA:=@Int.le_refl
noncomputable def mB:=@PySem.wpAny_standAt
open PySem PySem.W PyProof.Rows PySem.MeetsSeq List Str NameKind Calls List.Pairwise
noncomputable def G1:Nat->Nat->List Nat
 | 0,_=>[]
 | f+1,n=>match Nat.ble n 1 with
  | true=>[]
  | false=>(n % 96+32)::G1 f (n / 96)
noncomputable def u(n:Nat):Str:=⟨⟨G1 80 n⟩⟩
theorem ff{p:Prop}(h:false=true):p:=absurd h c6
theorem ntf{p:Prop}(h:true=false):p:=ff h.symm
theorem ff1{a:Type}{p:a->Prop}(x:a)(h:false=true):p x:=ff h
theorem ff2{a b:Type}{p:a->b->Prop}(x:a)(y:b)(h:false=true):p x y:=ff h
theorem ff3{a b c:Type}{p:a->b->c->Prop}(x:a)(y:b)(z:c)(h:false=true):p x y z:=ff h
theorem ff4{a b c d:Type}{p:a->b->c->d->Prop}(x:a)(y:b)(z:c)(w:d)(h:false=true):p x y z w:=ff h
theorem ff5{a b c d e:Type}{p:a->b->c->d->e->Prop}(x:a)(y:b)(z:c)(w:d)(v:e)(h:false=true):p x y z w v:=ff h
theorem aR{α:Type}{p:α->Prop}(x:α)(h:x∈([]:List α)):p x:=absurd h cp
theorem nme{z:Type}{x:z}{p:Prop}(h:x∈([]:List z)):p:=absurd h cp
theorem nsm{z:Type}{x:z}{p:Prop}(h:none=some x):p:=absurd h.symm (cw x)
theorem nix{z:Type}{p:Nat->z->Prop}(i:Nat)(x:z)(h:([]:List z)[i]?=some x):p i x:=nsm h
set_option genInjectivity true in
set_option genCtorIdx true in
inductive CV where
 | none
 | bool (b:Bool)
 | int (i:Int)
 | str (s:Str)
 | tup (l:List CV)
 | ref (a:Nat)
 deriving Inhabited
noncomputable instance:DecidableEq CV:=Classical.typeDecidableEq CV
structure CH where
 ro:Nat->Option (List CV)
 lst:Nat->Option (List CV)
 dct:Nat->Option (List (CV×CV))
 cls:Nat->Option Nat
 att:Nat->Nat->Option CV
noncomputable def upd{α:Type}(f:Nat->Option α)(a:Nat)(v:α):Nat->Option α:=λb=>if b=a then some v else f b
namespace CH
structure free(H:CH)(a:Nat):Prop where
 ro:H.ro a=none
 lst:H.lst a=none
 dct:H.dct a=none
 cls:H.cls a=none
 att:∀n,H.att n a=none
noncomputable def getL(H:CH)(a:Nat):Option (List CV):=match H.lst a with
 | some l=>some l
 | none=>H.ro a
noncomputable def aA(H:CH)(a:Nat)(l:List CV):CH:={ H with lst:=upd H.lst a l }
noncomputable def bx(H:CH)(a:Nat)(l:List (CV×CV)):CH:={ H with dct:=upd H.dct a l }
noncomputable def setC(H:CH)(a c:Nat):CH:={ H with cls:=upd H.cls a c }
noncomputable def bH(H:CH)(n a:Nat)(v:CV):CH:={ H with att:=λk=>if k=n then upd (H.att n) a v else H.att k }
end CH
noncomputable def au:List (CV×CV)->CV->Option CV
 | [],_=>none
 | (k,v)::r,x=>if k=x then some v else au r x
noncomputable def aW:List (CV×CV)->CV->CV->List (CV×CV)
 | [],x,w=>[(x,w)]
 | (k,v)::r,x,w=>if k=x then(k,w)::r else(k,v)::aW r x w
set_option genCtorIdx true in
inductive Exc where
 | key | index
 deriving DecidableEq
structure St where
 H:CH
 L:Nat->Option CV
inductive Fl where
 | next | brk | cont
 | ret (v:CV)
set_option genCtorIdx true in
inductive BO where
 | add | sub | mod
 deriving DecidableEq
set_option genCtorIdx true in
inductive CO where
 | eq | ne | lt | le | gt | ge | isIn | d8 | is | kh
 deriving DecidableEq
set_option genCtorIdx true in
inductive B1 where
 | len | list | tuple | sorted | all | mS
 deriving DecidableEq
noncomputable abbrev Bz:=List Nat
inductive LT where
 | n (i:Nat)
 | t (is:Bz)
mutual
inductive CE where
 | bad
 | c (v:CV)
 | v (i:Nat)
 | at (e:CE) (n:Nat)
 | ix (e k:CE)
 | sl (e lo hi:CE)
 | tu (es:List CE)
 | li (es:List CE)
 | d0
 | d1 (k v:CE)
 | op (o:BO) (a b:CE)
 | cm (o:CO) (a b:CE)
 | nt (a:CE)
 | ng (a:CE)
 | an (a b:CE)
 | orr (a b:CE)
 | ife (t a b:CE)
 | fn (f:Nat) (as:List CE)
 | me (o:CE) (m:Nat) (as:List CE)
 | nw (k:Nat) (as:List CE)
 | b1 (k:B1) (a:CE)
 | uK
 | ap (o x:CE)
 | ins (o i x:CE)
 | ge (o k d:CE)
 | po (o i:CE)
 | jo (s x:CE)
 | js (a b:CE)
 | ind (o x:CE)
 | co (elt:CE) (t:LT) (i:CI) (ifs:List CE)
inductive CI where
 | val (e:CE)
 | enum (e:CE)
 | rng (es:List CE)
 | items (e:CE)
end
inductive Tg where
 | n (i:Nat)
 | t (is:Bz)
 | at (e:CE) (n:Nat)
 | ix (e k:CE)
 | li (e k:CE)
inductive CS where
 | bad
 | asg (t:Tg) (e:CE)
 | ir (i:Nat) (o:BO) (e:CE)
 | iN (x:CE) (n:Nat) (o:BO) (e:CE)
 | ex (e:CE)
 | ite (t:CE) (a b:List CS)
 | whl (t:CE) (b:List CS)
 | fr (t:LT) (i:CI) (b o:List CS)
 | ret (e:CE)
 | brk
 | cont
 | pass
 | try (b:List CS) (ks:List Exc) (h:List CS)
mutual
noncomputable def CV.pure:CV->Bool
 | .none | .int _=>true
 | .str s=>s.cps.toList.all (Nat.blt · 128)
 | .tup l=>CV.bD l
 | .bool _ | .ref _=>false
noncomputable def CV.bD:List CV->Bool
 | []=>true
 | v::l=>v.pure&&CV.bD l
end
mutual
noncomputable def CV.depth:CV->Nat
 | .tup l=>CV.dB l+1
 | _=>0
noncomputable def CV.dB:List CV->Nat
 | []=>0
 | v::l=>max v.depth (CV.dB l)
end
noncomputable abbrev CV.hk:=CV.pure
noncomputable abbrev CV.hks:=CV.bD
noncomputable def CV.keyOk(v:CV):Bool:=v.hk&&Nat.ble v.depth 5
noncomputable def szl:Nat:=16777216
noncomputable def b8(c:Nat):Bool:=c==135||c==427
noncomputable def bu(c:Nat):Bool:=c==100||c==135||c==283||c==427
noncomputable def iO(c:Nat):Nat:=if c=100 then 62 else if c=135 then 118 else if c=283 then 172 else 333
noncomputable def truth(H:CH):CV->Option Bool
 | .none=>some false
 | .bool b=>some b
 | .int i=>some (i != 0)
 | .str s=>if s.cps.size<2 ^ 30 then some (s.cps.size != 0) else none
 | .tup l=>some (!l.isEmpty)
 | .ref a=>(H.getL a).elim ((H.dct a).elim ((H.cls a).bind λc=>if b8 c then some true else none) λz=>some (!z.isEmpty)) λl=>some (!l.isEmpty)
noncomputable def Bp:Nat:=0
noncomputable def HL:Nat:=1
noncomputable def gq(c n:Nat):Option CV:=if c=100/\(n=Bp∨n=HL) then some (.int 0) else none
noncomputable def atI(l:List CV)(i:Int):Option CV:=
 if 0<=i then l[i.toNat]? else if 0<=i+l.length then l[(i+l.length).toNat]? else none
section on
variable{z:Type}
noncomputable def CV.cD(d:z)(c:CV)(k:Int->z):z:=match c with
 | .int i=>k i
 | _=>d
noncomputable def CV.onStr(d:z)(c:CV)(k:Str->z):z:=match c with
 | .str i=>k i
 | _=>d
noncomputable def CV.uL(d:z)(c:CV)(k:Nat->z):z:=match c with
 | .ref a=>k a
 | _=>d
noncomputable def CV.mT(d:z)(c:CV)(k:Bool->z):z:=match c with
 | .bool a=>k a
 | _=>d
noncomputable def CV.pg(d:z)(c:CV)(k:z):z:=match c with
 | .none=>k
 | _=>d
variable{d:z}{c:CV}{R:z->Prop}{P:CV->Prop}(Q:R d->P c)
include Q
theorem CV.iP{k:Int->z}(h:R (c.cD d k))(f:∀i,R (k i)->P (.int i)):P c:=by cases c <;> first | exact f _ h | exact Q h
theorem CV.yx{k:Str->z}(h:R (c.onStr d k))(f:∀i,R (k i)->P (.str i)):P c:=by cases c <;> first | exact f _ h | exact Q h
theorem CV.s9{k:Nat->z}(h:R (c.uL d k))(f:∀i,R (k i)->P (.ref i)):P c:=by cases c <;> first | exact f _ h | exact Q h
theorem CV.lz{k:Bool->z}(h:R (c.mT d k))(f:∀i,R (k i)->P (.bool i)):P c:=by cases c <;> first | exact f _ h | exact Q h
theorem CV.uM{k:z}(h:R (c.pg d k))(f:R k->P .none):P c:=by cases c <;> first | exact f h | exact Q h
end on
theorem nos{α:Type}{p:Prop}{r:α}(h:none=some r):p:=nomatch h
noncomputable def j5(H:CH)(v:CV)(n:Nat):Option CV:=v.uL none λa=>(H.cls a).bind λc=>if bu c then(H.att n a).elim (gq c n) some else none
noncomputable def fS(H:CH)(o k:CV):Option (Except Exc CV):=match o with
 | .tup l=>k.cD none λi=>(atI l i).elim (if -1000<i/\i<1000 then some (.error .index) else none) λv=>some (.ok v)
 | .str s=>k.cD none λi=>if i=0 then s.cps[0]?.map λc=>.ok (.str ⟨#[c]⟩) else none
 | .ref a=>(H.getL a).elim ((H.dct a).bind λz=>if k.keyOk then some ((au z k).elim (.error .key) .ok) else none) λl=>k.cD none λi=>(atI l i).map .ok
 | _=>none
noncomputable def cut(l:List CV)(lo z:CV):Option (List CV):=match lo with
 | .none=>(match z with
  | .none=>some l
  | .int j=>if 0<=j/\j<2 ^ 30 then some (l.take j.toNat) else none
  | _=>none)
 | .int i=>z.pg none (if 0<=i/\i<2 ^ 30 then some (l.drop i.toNat) else none)
 | _=>none
noncomputable def eqX(H:CH)(x y:CV):Option Bool:=match x with
 | .bool a=>y.mT none λb=>some (a==b)
 | .ref a=>y.uL none λb=>(H.getL a).bind λl=>(H.getL b).bind λm=>if CV.bD l/\CV.bD m/\CV.dB l<=20/\CV.dB m<=20 then some (decide (l=m)) else none
 | _=>none
noncomputable def eqV(H:CH)(x y:CV):Option Bool:=if x.pure/\y.pure/\x.depth<=20/\y.depth<=20 then some (decide (x=y)) else eqX H x y
noncomputable def pn(x:CV)(l:List CV):Option Bool:=if x.pure/\CV.bD l/\x.depth<=20/\CV.dB l<=20 then some (decide (x∈l)) else none
noncomputable def single(l:Bz):Option Nat:=match l with
 | []=>none
 | c::r=>if r=[] then some c else none
noncomputable def inV(H:CH)(x y:CV):Option Bool:=match y with
 | .tup l=>pn x l
 | .str s=>x.onStr none λt=>(single t.cps.toList).map λc=>s.cps.toList.contains c
 | .ref a=>(H.getL a).elim ((H.dct a).bind λz=>if x.keyOk then some (au z x).isSome else none) (pn x)
 | _=>none
noncomputable def bO(H:CH)(o:CO)(x y:CV):Option Bool:=match o with
 | .eq=>eqV H x y
 | .ne=>(eqV H x y).map (!·)
 | .isIn=>inV H x y
 | .d8=>(inV H x y).map (!·)
 | .is=>y.pg none (some (decide (x=.none)))
 | .kh=>y.pg none (some (!decide (x=.none)))
 | .lt=>x.cD none λa=>y.cD none λb=>some (decide (a<b))
 | .le=>x.cD none λa=>y.cD none λb=>some (decide (a<=b))
 | .gt=>x.cD none λa=>y.cD none λb=>some (decide (a>b))
 | .ge=>x.cD none λa=>y.cD none λb=>some (decide (a≥b))
noncomputable def EM(H:CH):CV->Option Nat
 | .tup l=>some l.length
 | .str s=>some s.cps.size
 | .ref a=>(H.getL a).elim ((H.dct a).map (·.length)) λl=>some l.length
 | _=>none
noncomputable def pq(H:CH):CV->Option (List CV)
 | .tup l=>some l
 | .ref a=>H.getL a
 | _=>none
mutual
noncomputable def leV:CV->CV->Bool
 | .int a,.int b=>decide (a<=b)
 | .str a,.str b=>decide (a.cps.toList<=b.cps.toList)
 | .tup l,.tup m=>lA l m
 | _,_=>false
noncomputable def lA:List CV->List CV->Bool
 | [],_=>true
 | _::_,[]=>false
 | x::l,y::m=>if x=y then lA l m else leV x y
end
inductive Knd where
 | int | str
 | tup (l:List Knd)
noncomputable def pA:List Knd->Bool
 | []=>false
 | z=>z.all λk=>match k with | .tup _=>false | _=>true
mutual
noncomputable def CV.is:Knd->CV->Bool
 | .int,.int _=>true
 | .str,.str s=>s.cps.toList.all (Nat.blt · 128)
 | .tup z,.tup l=>CV.iss z l
 | _,_=>false
noncomputable def CV.iss:List Knd->List CV->Bool
 | [],[]=>true
 | k::z,v::l=>CV.is k v&&CV.iss z l
 | _,_=>false
end
noncomputable def oq(x:CV):List CV->List CV
 | []=>[x]
 | y::l=>if leV x y then x::y::l else y::oq x l
noncomputable def fN:List CV->List CV
 | []=>[]
 | x::l=>oq x (fN l)
noncomputable def dedup:List CV->List CV
 | []=>[]
 | x::l=>if x∈dedup l then dedup l else x::dedup l
noncomputable abbrev Bi:=List Str
noncomputable def fT(a:Str)(l:Bi):Str:=a++ofString " -> "++(PyData.list (l.map .str)).shown
noncomputable def isS:CV->Bool
 | .str _=>true
 | _=>false
noncomputable abbrev B2:=List CV
inductive It where
 | list (a i:Nat)
 | items (l:B2)
 | keys (a n i:Nat)
 | pairs (a n i:Nat)
 | enum (k:Nat) (t:It)
noncomputable def Ar(l:B2):Option (CV×It):=match l with
 | []=>none
 | v::l=>some (v,.items l)
noncomputable def It.next(H:CH)(t:It):Option (Option (CV×It)):=match t with
 | .list a i=>(H.getL a).map λl=>l[i]?.map λv=>(v,.list a (i+1))
 | .items l=>some (Ar l)
 | .keys a n i=>(H.dct a).bind λz=>if z.length=n/\z.all (λp=>isS p.1)=true then some (z[i]?.map λp=>(p.1,.keys a n (i+1))) else none
 | .pairs a n i=>(H.dct a).bind λz=>if z.length=n then some (z[i]?.map λp=>(.tup [p.1,p.2],.pairs a n (i+1))) else none
 | .enum k t=>(It.next H t).map λo=>o.map λp=>(.tup [.int k,p.1],.enum (k+1) p.2)
noncomputable def kI(z:B2):Option (List CV):=match z with
 | []=>none
 | a::r=>a.cD none λa=>match r with
  | []=>if -(2 ^ 20)<a/\a<2 ^ 20 then some ((range a.toNat).map λ(i:Nat)=>.int i) else none
  | b::r=>b.cD none λb=>match r with
   | []=>none
   | c::r=>c.cD none λc=>if (r.isEmpty=true/\c=-1)/\(-(2 ^ 20)<b/\b<2 ^ 20)/\-(2 ^ 20)<a/\a<2 ^ 20 then some ((range (a - b).toNat).map λ(i:Nat)=>.int (a - i)) else none
noncomputable abbrev E1:=Nat->Option CV
noncomputable def dU(L:E1)(i:Nat)(v:CV):Nat->Option CV:=upd L i v
noncomputable def jQ(L:E1):List Nat->List CV->Option (Nat->Option CV)
 | [],[]=>some L
 | i::z,v::Q=>jQ (dU L i v) z Q
 | _,_=>none
noncomputable def gu(L:E1)(t:LT)(v:CV):Option (Nat->Option CV):=match t with
 | .n i=>some (dU L i v)
 | .t z=>match v with
  | .tup Q=>jQ L z Q
  | _=>none
noncomputable abbrev PT:=Nat->List CV->CH->(CV->CH->Prop)->Prop
noncomputable abbrev MT:=Nat->Nat->Option Nat
noncomputable def iu(z:CV->St->(Bool->St->Prop)->Prop)(Q:St->Prop)(w:St->Prop):Nat->It->St->Prop
 | 0,_,_=>False
 | n+1,Y,st=>(Y.next st.H).elim False λo=>o.elim (Q st) λp=>z p.1 st λb y=>if b then iu z Q w n p.2 y else w y
noncomputable abbrev Fk:=List CV->St->Prop
noncomputable def gv(Q:CV->St->(Option CV->St->Prop)->Prop)(w:Fk):Nat->It->List CV->St->Prop
 | 0,_,_,_=>False
 | n+1,Y,z,st=>(Y.next st.H).elim False λo=>o.elim (w z st) λp=>Q p.1 st λr y=>z.length<szl/\gv Q w n p.2 (r.elim z λx=>z++[x]) y
noncomputable abbrev Da:=CV->St->Prop
noncomputable def MW(x y:CV)(st:St)(Q:Da):Prop:=match x with
 | .int a=>y.cD False λb=>Q (.int (a+b)) st
 | .ref a=>y.uL False λb=>∃l m,st.H.getL a=some l/\st.H.getL b=some m/\l.length+m.length<=szl/\∀c,st.H.free c->Q (.ref c) { st with H:=st.H.aA c (l++m) }
 | _=>False
noncomputable def MX(x y:CV)(st:St)(Q:Da):Prop:=match x with
 | .int a=>y.cD False λb=>0<b/\Q (.int (a % b)) st
 | .str f=>y.onStr False λz=>f=u 0x405584c7f5eca7988f9f25/\z.cps.size<=1000000/\∀r,Q (.str r) st
 | _=>False
noncomputable def opV(o:BO)(x y:CV)(st:St)(Q:Da):Prop:=match o with
 | .add=>MW x y st Q
 | .sub=>x.cD False λa=>y.cD False λb=>Q (.int (a - b)) st
 | .mod=>MX x y st Q
noncomputable def HM(x:CV)(st:St)(Q:Da):Prop:=∃n,EM st.H x=some n/\n<=szl/\Q (.int n) st
noncomputable def JU(z:PT)(x:CV)(st:St)(Q:Da):Prop:=match x with
 | .ref a=>if st.H.cls a=some 100 then z 83 [.ref a] st.H λr H=>∃n:Nat,r=.int n/\n<2 ^ 30/\Q r { st with H:=H } else HM (.ref a) st Q
 | x=>HM x st Q
section
variable(w:PT)(M:MT)
mutual
noncomputable def wpE:CE->St->(CV->St->Prop)->(Exc->St->Prop)->Prop
 | .bad,_,_,_=>False
 | .c v,st,Q,_=>Q v st
 | .v i,st,Q,_=>∃v,st.L i=some v/\Q v st
 | .at e n,st,Q,X=>wpE e st (λx st=>∃r,j5 st.H x n=some r/\Q r st) X
 | .ix e k,st,Q,X=>wpE e st (λx st=>wpE k st (λy st=>∃r,fS st.H x y=some r/\match r with | .ok v=>Q v st | .error q=>X q st) X) X
 | .sl e lo B,st,Q,X=>wpE e st (λx st=>wpE lo st (λy st=>wpE B st (λz st=>match x with
   | .tup l=>∃i:Nat,y=.int i/\z=.none/\1<=i/\i<=l.length/\Q (.tup (l.drop i)) st
   | .ref a=>∃l m,st.H.getL a=some l/\cut l y z=some m/\∀c,st.H.free c->Q (.ref c) { st with H:=st.H.aA c m }
   | _=>False) X) X) X
 | .tu j,st,Q,X=>mU j st (λV st=>Q (.tup V) st) X
 | .li j,st,Q,X=>mU j st (λV st=>∀c,st.H.free c->Q (.ref c) { st with H:=st.H.aA c V }) X
 | .d0,st,Q,_=>∀c,st.H.free c->Q (.ref c) { st with H:=st.H.bx c [] }
 | .d1 k v,st,Q,X=>wpE k st (λx st=>wpE v st (λy st=>x.keyOk=true/\∀c,st.H.free c->Q (.ref c) { st with H:=st.H.bx c [(x,y)] }) X) X
 | .op o a b,st,Q,X=>wpE a st (λx st=>wpE b st (λy st=>opV o x y st Q) X) X
 | .cm o a b,st,Q,X=>wpE a st (λx st=>wpE b st (λy st=>∃r,bO st.H o x y=some r/\Q (.bool r) st) X) X
 | .nt a,st,Q,X=>wpE a st (λx st=>∃b,truth st.H x=some b/\Q (.bool (!b)) st) X
 | .ng a,st,Q,X=>wpE a st (λx st=>∃i,x=.int i/\Q (.int (-i)) st) X
 | .an a b,st,Q,X=>wpE a st (λx st=>∃t,truth st.H x=some t/\if t then wpE b st Q X else Q x st) X
 | .orr a b,st,Q,X=>wpE a st (λx st=>∃t,truth st.H x=some t/\if t then Q x st else wpE b st Q X) X
 | .ife t a b,st,Q,X=>wpE t st (λx st=>∃q,truth st.H x=some q/\if q then wpE a st Q X else wpE b st Q X) X
 | .fn f as,st,Q,X=>mU as st (λV st=>w f V st.H λr H=>Q r { st with H:=H }) X
 | .me o m as,st,Q,X=>wpE o st (λx st=>∃a c f,x=.ref a/\st.H.cls a=some c/\bu c=true/\M c m=some f/\st.H.att m a=none/\
   mU as st (λV st=>w f (.ref a::V) st.H λr H=>Q r { st with H:=H }) X) X
 | .nw k as,st,Q,X=>mU as st (λV st=>bu k=true/\∀c,st.H.free c->w (iO k) (.ref c::V) (st.H.setC c k) λr H=>r=.none/\Q (.ref c) { st with H:=H }) X
 | .b1 k a,st,Q,X=>wpE a st (λx st=>match k with
   | .len=>JU w x st Q
   | .list=>∃l,pq st.H x=some l/\l.length<=szl/\∀c,st.H.free c->Q (.ref c) { st with H:=st.H.aA c l }
   | .tuple=>∃l,pq st.H x=some l/\l.length<=szl/\Q (.tup l) st
   | .sorted=>∃a l C,x=.ref a/\st.H.getL a=some l/\l.length<64/\pA C=true/\(∀y∈l,y.is (.tup C)=true)/\∀c,st.H.free c->Q (.ref c) { st with H:=st.H.aA c (fN l) }
   | .mS=>∃l,pq st.H x=some l/\l.length<64/\(∀y∈l,y.is .str=true)/\∀c,st.H.free c->Q (.ref c) { st with H:=st.H.aA c (fN (dedup l)) }
   | .all=>∃l,pq st.H x=some l/\(∀y∈l,∃b,y=.bool b)/\Q (.bool (l.all λy=>decide (y=.bool true))) st) X
 | .uK,st,Q,_=>∀c,st.H.free c->Q (.ref c) { st with H:=st.H.setC c 1 }
 | .ap o x,st,Q,X=>wpE o st (λo st=>∃a Y,o=.ref a/\st.H.lst a=some Y/\wpE x st (λx st=>∃l,st.H.lst a=some l/\l.length<szl/\Q .none { st with H:=st.H.aA a (l++[x]) }) X) X
 | .ins o i x,st,Q,X=>wpE o st (λo st=>∃a Y,o=.ref a/\st.H.lst a=some Y/\wpE i st (λi st=>wpE x st (λx st=>∃(l:B2) (n:Nat),i=.int n/\n<=l.length/\st.H.lst a=some l/\l.length<64/\
   Q .none { st with H:=st.H.aA a (l.take n++x::l.drop n) }) X) X) X
 | .ge o k d,st,Q,X=>wpE o st (λo st=>∃a Y,o=.ref a/\st.H.dct a=some Y/\wpE k st (λk st=>wpE d st (λd st=>∃j,st.H.dct a=some j/\k.keyOk=true/\Q ((au j k).getD d) st) X) X) X
 | .po o i,st,Q,X=>wpE o st (λo st=>∃a Y,o=.ref a/\st.H.lst a=some Y/\wpE i st (λi st=>∃x l,i=.int 0/\st.H.lst a=some (x::l)/\Q x { st with H:=st.H.aA a l }) X) X
 | .jo s x,st,Q,X=>wpE s st (λy st=>∃t,y=.str t/\wpE x st (λx st=>∃l,t.cps.size=1/\x=.tup l/\l.length<64/\(∀z∈l,∃s,z=.str s/\s.cps.size<64)/\∀r:Str,r.cps.size<10000->Q (.str r) st) X) X
 | .js a b,st,Q,X=>wpE a st (λx st=>∃f,x=.str f/\f.cps.size<=1000000/\wpE b st (λy st=>(∃t,y=.str t/\t.cps.size<=1000000/\∀r,Q (.str r) st)∨
   (∃l O,y=.ref l/\st.H.getL l=some (O.map .str)/\(∀x∈O,x.cps.toList.all (Nat.blt · 128)=true)/\(PyData.list (O.map .str)).shown.length<=1000000/\Q (.str (fT f O)) st)) X) X
 | .ind o x,st,Q,X=>wpE o st (λo st=>∃a Y,o=.ref a/\st.H.lst a=some Y/\wpE x st (λx st=>∃l,st.H.lst a=some l/\x.pure=true/\CV.bD l=true/\x.depth<=20/\CV.dB l<=20/\x∈l/\
   Q (.int (l.findIdx λy=>decide (y=x))) st) X) X
 | .co p t i g,st,Q,X=>wpI i st (λN U=>∃n,gv (λv s K=>∃L,gu s.L t v=some L/\rS g { s with L:=L } (λb s=>if b then wpE p s (λr s=>K (some r) s) (λT T=>False) else K none s) (λT T=>False))
   (λJ s=>J.length<=szl/\∀c,s.H.free c->Q (.ref c) ⟨s.H.aA c J,U.L⟩) n N [] U) X
noncomputable def mU:List CE->St->(List CV->St->Prop)->(Exc->St->Prop)->Prop
 | [],st,Q,_=>Q [] st
 | e::z,st,Q,X=>wpE e st (λv st=>mU z st (λy st=>Q (v::y) st) X) X
noncomputable def rS:List CE->St->(Bool->St->Prop)->(Exc->St->Prop)->Prop
 | [],st,Q,_=>Q true st
 | e::z,st,Q,X=>wpE e st (λv st=>∃b,truth st.H v=some b/\if b then rS z st Q X else Q false st) X
noncomputable def wpI:CI->St->(It->St->Prop)->(Exc->St->Prop)->Prop
 | .val e,st,Q,X=>wpE e st (λx st=>match x with
   | .tup l=>Q (.items l) st
   | .str s=>s.cps.all (·<128)=true/\Q (.items (s.cps.toList.map λc=>.str ⟨#[c]⟩)) st
   | .ref a=>match st.H.getL a with
    | some _=>Q (.list a 0) st
    | none=>match st.H.dct a with
     | some z=>z.all (λp=>isS p.1)=true/\Q (.keys a z.length 0) st
     | none=>False
   | _=>False) X
 | .enum e,st,Q,X=>wpE e st (λx st=>match x with
   | .tup l=>Q (.enum 0 (.items l)) st
   | .ref a=>match st.H.getL a with
    | some _=>Q (.enum 0 (.list a 0)) st
    | none=>False
   | _=>False) X
 | .rng z,st,Q,X=>mU z st (λy st=>∃l,kI y=some l/\Q (.items l) st) X
 | .items e,st,Q,X=>wpE e st (λx st=>∃a z,x=.ref a/\st.H.dct a=some z/\Q (.pairs a z.length 0) st) X
end
noncomputable def tn:Tg->CV->St->(St->Prop)->(Exc->St->Prop)->Prop
 | .n i,v,st,Q,_=>Q { st with L:=dU st.L i v }
 | .t Y,v,st,Q,_=>∃y L,v=.tup y/\jQ st.L Y y=some L/\Q { st with L:=L }
 | .at e n,v,st,Q,X=>wpE w M e st (λo st=>∃a c,o=.ref a/\st.H.cls a=some c/\bu c=true/\Q { st with H:=st.H.bH n a v }) X
 | .ix e k,v,st,Q,X=>wpE w M e st (λo st=>wpE w M k st (λk st=>∃a z,o=.ref a/\st.H.dct a=some z/\k.keyOk=true/\z.length<szl/\
   Q { st with H:=st.H.bx a (aW z k v) }) X) X
 | .li e k,v,st,Q,X=>wpE w M e st (λo st=>wpE w M k st (λk st=>∃(a:Nat) (l:B2) (n:Nat),o=.ref a/\st.H.lst a=some l/\k=.int n/\n<l.length/\
   Q { st with H:=st.H.aA a (l.set n v) }) X) X
noncomputable def uN(z:St->(Bool->St->Prop)->Prop)(Q:St->(Bool->St->Prop)->Prop)(y Y:St->Prop):Nat->St->Prop
 | 0,_=>False
 | n+1,st=>z st λb st=>if b then Q st λU st=>if U then uN z Q y Y n st else Y st else y st
mutual
noncomputable def wpS:CS->St->(Fl->St->Prop)->(Exc->St->Prop)->Prop
 | .bad,_,_,_=>False
 | .asg t e,st,Q,X=>wpE w M e st (λv st=>tn w M t v st (Q .next) X) X
 | .ir i o e,st,Q,X=>∃x,st.L i=some x/\wpE w M e st (λy st=>∃a b,x=.int a/\y=.int b/\(o=.add∨o=.sub)/\Q .next { st with L:=dU st.L i (.int (if o=.add then a+b else a - b)) }) X
 | .iN x n o e,st,Q,X=>wpE w M x st (λY st=>∃r c l,Y=.ref l/\st.H.cls l=some c/\j5 st.H Y n=some r/\wpE w M e st (λy st=>∃a b,r=.int a/\y=.int b/\(o=.add∨o=.sub)/\
   Q .next { st with H:=st.H.bH n l (.int (if o=.add then a+b else a - b)) }) X) X
 | .ex e,st,Q,X=>wpE w M e st (λz st=>Q .next st) X
 | .ite t a b,st,Q,X=>wpE w M t st (λv st=>∃q,truth st.H v=some q/\if q then aj a st Q X else aj b st Q X) X
 | .whl t b,st,Q,_=>∃n,uN (λs K=>wpE w M t s (λv s=>∃q,truth s.H v=some q/\K q s) (λz z=>False))
   (λs K=>aj b s (λf s=>match f with | .next | .cont=>K true s | .brk=>K false s | .ret v=>Q (.ret v) s) (λz z=>False)) (Q .next) (Q .next) n st
 | .fr t i b o,st,Q,X=>wpI w M i st (λU st=>∃n,iu (λv s K=>∃L,gu s.L t v=some L/\
   aj b { s with L:=L } (λf s=>match f with | .next | .cont=>K true s | .brk=>K false s | .ret v=>Q (.ret v) s) (λz z=>False))
   (λs=>aj o s Q (λz z=>False)) (Q .next) n U st) X
 | .ret e,st,Q,X=>wpE w M e st (λv st=>Q (.ret v) st) X
 | .brk,st,Q,_=>Q .brk st
 | .cont,st,Q,_=>Q .cont st
 | .pass,st,Q,_=>Q .next st
 | .try b V h,st,Q,_=>aj b st Q (λq st=>q∈V/\aj h st Q (λz z=>False))
noncomputable def aj:List CS->St->(Fl->St->Prop)->(Exc->St->Prop)->Prop
 | [],st,Q,_=>Q .next st
 | s::l,st,Q,X=>wpS s st (λf st=>match f with | .next=>aj l st Q X | f=>Q f st) X
end
end
structure Fn where
 arity:Nat
 dflt:List CV
 body:List CS
noncomputable def locs:Nat->List CV->Nat->Option CV
 | _,[],_=>none
 | k,v::z,i=>if i=k then some v else locs (k+1) z i
noncomputable def calls(F:Nat->Option Fn)(M:MT):Nat->PT
 | 0,_,_,_,_=>False
 | n+1,f,vs,H,Q=>∃d,F f=some d/\vs.length<=d.arity/\d.arity<=vs.length+d.dflt.length/\
   aj (calls F M n) M d.body ⟨H,locs 0 (vs++d.dflt.drop (d.dflt.length - (d.arity - vs.length)))⟩ (λz st=>match z with
    | .ret v=>Q v st.H
    | .next=>Q .none st.H
    | _=>False) (λw w=>False)
section
noncomputable abbrev tp:Program:=PySem.Challenge.pw_rp0002_01
noncomputable abbrev Hb.r(a:Nat):Value:=.ref a
open Hb
noncomputable abbrev Hb.s(n k:Nat):Value:=.str (u n) k
noncomputable abbrev Hb.i(n k:Nat):Value:=.int (Int.ofNat n) k
noncomputable def nth:List Stmt->Nat->Stmt
 | [],_=>.Pass ⟨0,0,0,0⟩
 | x::_,0=>x
 | _::l,n+1=>nth l n
noncomputable def stE{z:Type}(st:Stmt)(d:z)(c:List Stmt->z)(f:Str->Arguments->List Stmt->Scope->z):z:=match st with
 | .ClassDef _ _ _ b _ _ _ _ _ _ _=>c b
 | .FunctionDef nm Q b _ _ _ w _ _ _=>f nm Q b w
 | _=>d
noncomputable def inner(st:Stmt):List Stmt:=stE st [] (λb=>b) λz z b z=>b
noncomputable def Hb.d(k:Nat):Stmt:=nth tp.main.body k
noncomputable def Hb.m(k j:Nat):Stmt:=nth (inner (d k)) j
noncomputable abbrev Cl:=List Value
noncomputable abbrev oT(z:Cl):Obj:={ cls:=.type "tuple",data:=.seq ⟨z⟩ 0 }
noncomputable abbrev oL(z:Cl):Obj:={ cls:=.type "list",data:=.seq ⟨z⟩ 0 }
noncomputable abbrev oN(z:Cl):Obj:={ cls:=.none,data:=.fields ⟨z⟩ }
noncomputable abbrev oF(t:String)(z:Cl):Obj:={ cls:=.type t,data:=.fields ⟨z⟩ }
noncomputable abbrev D2:=List DictEntry
noncomputable abbrev oD(n:Nat)(es:D2):Obj:={ cls:=.type "dict",data:=.dict ⟨es⟩ n }
noncomputable abbrev oDN(n:Nat)(z:D2):Obj:={ cls:=.none,data:=.dict ⟨z⟩ n }
noncomputable abbrev Hb.e(P:Params)(x k:Nat)(v:Value):DictEntry:=⟨PyData.keyHash P (u x),.str (u x) k,v⟩
noncomputable abbrev oR(z:List (Option Value)):Obj:={ cls:=.type "frame",slots:=⟨z⟩ }
noncomputable def fd(st:Stmt)(q:Str)(g:Nat)(z Q w:Value):Data:=stE st .plain (λU=>.plain) λnm y b Y=>.func { name:=nm,qualname:=q,params:=y,body:=.stmts b,scope:=Y,globals:=g,closure:=[],defaults:=z,kwdefaults:=.none,pyModule:=Q,code:=w,builtins:=0 }
noncomputable def oS(st:Stmt)(q:Str):Obj:={ cls:=.none,data:=fd st q 0 .none .none .none }
noncomputable def oFn(st:Stmt)(q:Str)(z Q w:Value):Obj:={ cls:=.type "function",data:=fd st q 3 z Q w }
noncomputable abbrev oC(n:Str)(bases mro:Cl)(ns:Nat)(sub:Cl)(z:List (Option Value)):Obj:=
 {cls:=.type "type",data:=.cls { name:=n,bases:=bases,mro:=mro,ns:=ns,qualname:=n,subclasses:=sub },slots:=⟨z⟩ }
noncomputable def sM:Value:=s 0x2bb437e959a0d0 194
noncomputable def sL:Value:=s 0x395bd9a4f9217d827ed4ac 910
noncomputable def gF(x:Nat)(st:Stmt)(N Q a l k t:Nat)(A B C D:Cl)(w y:Value)(z:List Obj):List Obj:=
 oT A::oN B::oT C::oT D::oS st (u Q)::oF "code" [s N a,s Q (a+1),s 0x5e2f676cdbe3496308492f (a+2),i l 0,i k 0,i 0 0,i 0 0,i 3 0,r x,.bool true,i 181 0,r (x+1),.none,r (x+2),r (x+3),r (x+4),i t 0,i l 0,s 0x5e2f676cdbe3496308492f (t+1)]::oFn st (u Q) w y (r (x+5))::z
noncomputable def objs(P:Params):List Obj:=
 boot_o_0 P::
 boot_o_1 P::
 oDN 2 [e P 0x14826ba831091a236f0dfc9d22021ab37ac04dd58ad9a48ee1b4 214 (i 31 0),e P 0x1fd8e702f3584da36f0dfc9d22021ab37ac04dd58ad9a48ee1b4 215 (i 1 0)]::
 oD 36 [e P 0x2aa00647488fdf 165 sL,e P 0x71aab16427df 166 .none,e P 0x23f7053283df8a8d7df 167 .none,e P 0x5fe8454d1a54547df 168 (.builtin "__main__.__loader__#opaque"),e P 0x2aa0025393c3df 169 .none,e P 0xb612fc716ebadcabc89063bdf 170 (r 6),e P 0xd7caa671e776be14dfdf 171 (r 4),e P 0x2aa00642a36fdf 173 (s 0x5e2f676cdbe3496308492f 172),e P 0x5fe80980946a703df 174 .none,e P 14676608223 193 (r 21),e P 1210695380109 197 (i 9223372036854775807 196),e P 0x11e74424eae20499 217 (r 31),e P 0x21f7ed93a86d3871ccee479f 223 (r 39),e P 0x20f9946eba3e2d89f9f 225 (s 0x31816a8261d679ddb8e10c0da968c04081bc61b92173b417f0cbc761d548053dc80445c1c5f59e4080e4bd98942ea214d204ef8501 224),e P 0x2e1a034dc860bf 232 (r 46),e P 0x69045a865e3f13af0 325 (r 100),e P 1416529958636 376 (r 135),e P 0xa6271d799f8ad3974ad5599b1617b2 385 (r 146),e P 0xf1b217f26d956fe8c2e7 401 (r 156),e P 0x7f356fe8c2e7 591 (r 283),e P 0x78332d6d17a4 604 (r 294),e P 0x2c486bcde24314 622 (r 301),e P 0x11e74424e9f93c8c 638 (r 311),e P 1351113788991 644 (r 318),e P 0x46e694e248e4130493d0c890eec 909 (r 427),e P 0x5888b804ed78fc0bf 917 (r 438),e P 0x5939009a9a78fc0bf 923 (r 439),e P 0xc74cebd92e6e558fc0bf 930 (r 440),e P 0x121ce3f4978fc0bf 937 (r 447),e P 0x3113c2af8fc0bf 949 (r 454),e P 0x6bf540c402f8fc0bf 959 (r 461),e P 0x251b01793433d8fc0bf 974 (r 468),e P 0x22281f93025cdccccf8fc0bf 980 (r 473),e P 0x107fa6fe7b8fc0bf 993 (r 480),e P 0x6bf377008cb8fc0bf 1003 (r 487),e P 1692844 1009 (r 492)]::
 boot_o_4 P::
 boot_o_5 P::
 boot_o_6 P::
 boot_o_7 P::
 boot_o_8 P::
 boot_o_9 P::
 boot_o_10 P::
 oT []::
 oN [(i 1 0),(i 0 0),(r 20),(i 6 0),(i 0 0),(r 27),(i 8 0),(i 0 0),(r 38),(i 11 0),(i 0 0),(r 45),(i 15 0),(i 0 0),(r 52),(i 54 0),(i 0 0),(r 110),(i 76 0),(i 0 0),(r 145),(i 83 0),(i 0 0),(r 152),(i 85 0),(i 0 0),(r 164),(i 290 0),(i 0 0),(r 293),(i 300 0),(i 0 0),(r 300),(i 321 0),(i 0 0),(r 307),(i 323 0),(i 0 0),(r 317),(i 327 0),(i 0 0),(r 324),(i 651 0),(i 0 0),(r 437),(i 655 0),(i 0 0),(r 446),(i 657 0),(i 0 0),(r 453),(i 663 0),(i 0 0),(r 460),(i 671 0),(i 0 0),(r 467),(i 680 0),(i 0 0),(r 472),(i 692 0),(i 0 0),(r 479),(i 701 0),(i 0 0),(r 486),(i 706 0),(i 0 0),(r 491)]::
 oF "code" [(s 9522875475245308 182),(s 9522875475245308 183),(s 0x5e2f676cdbe3496308492f 184),(i 1 0),(i 0 0),(i 0 0),(i 0 0),(i 0 0),(r 11),(.bool false),(i 181 0),(r 12),.none,.none,.none,.none,(i 185 0),(i 1 0),(s 0x5e2f676cdbe3496308492f 186)]::
 oR [(some (r 13)),(some (r 3)),(some (r 3)),none,(some (s 0x2aa01749086bdf 164)),none,(some (r 0))]::
 gF 15 (d 0) 14676608223 14676608223 187 1 1 191 [] [] [(s 171 190)] [] .none (s 0x2aa01749086bdf 164) (
 oT [(.type "Exception")]::
 oF "builtin_function_or_method" [(.builtin "type.__prepare__"),(.type "type")]::
 oD 4 [e P 0x5fe80e175ba756bdf 205 sM,e P 0xd7ca1fc8df711596fbdf 207 (s 0x11e74424eae20499 206),e P 0xb612dbff6d03caf8c35036fdf 209 (i 6 208),e P 0x819f03ae05fd55f54c182e516a10589c3df 210 (r 29)]::
 oT []::
 oN []::
 oF "code" [(s 0x11e74424eae20499 200),(s 0x11e74424eae20499 201),(s 0x5e2f676cdbe3496308492f 202),(i 6 0),(i 0 0),(i 0 0),(i 0 0),(i 0 0),(r 25),(.bool false),(i 181 0),(r 26),.none,.none,.none,.none,(i 203 0),(i 6 0),(s 0x5e2f676cdbe3496308492f 204)]::
 oR [(some (r 27)),(some (r 3)),(some (r 24)),none,(some sM),none,(some (r 0))]::
 oT []::
 oD 3 [e P 0x5fe80e175ba756bdf 205 sM,e P 0xb612dbff6d03caf8c35036fdf 209 (i 6 208),e P 0x819f03ae05fd55f54c182e516a10589c3df 210 (r 29),e P 0x23f706c4ca82ebfd3df 212 (r 32),e P 0x71aab16427df 213 .none]::
 oC (u 0x11e74424eae20499) [(.type "Exception")] [(r 31),(.type "Exception"),(.type "BaseException"),(.type "object")] 30 [(r 156),(r 311)] [(some (r 22)),none,(some (s 0x11e74424eae20499 198)),(some (s 0x11e74424eae20499 206)),(some (.builtin "Exception.__new__")),(some (.bool true))]::
 oF "getset_descriptor" [(s 0x23f706c4ca82ebfd3df 211),(r 31),(.builtin "ExceptionGroup.__weakref__"),.none]::
 oF "super" [(r 31),(r 31),(r 31)]::
 oF "builtin_function_or_method" [(.builtin "object.__init_subclass__"),(r 31)]::
 oT []::
 oN []::
 oS (d 4) (u 0x21f7ed93a86d3871ccee479f)::
 oF "code" [(s 0x21f7ed93a86d3871ccee479f 218),(s 0x21f7ed93a86d3871ccee479f 219),(s 0x5e2f676cdbe3496308492f 220),(i 8 0),(i 1 0),(i 0 0),(i 0 0),(i 3 0),(r 35),(.bool true),(i 181 0),(r 36),.none,.none,.none,(r 37),(i 221 0),(i 8 0),(s 0x5e2f676cdbe3496308492f 222)]::
 oFn (d 4) (u 0x21f7ed93a86d3871ccee479f) .none sM (r 38)::
 gF 40 (d 6) 0x2e1a034dc860bf 0x2e1a034dc860bf 226 11 1 230 [] [] [(s 179 229)] [] .none sM (
 oT [(.type "object")]::
 oF "builtin_function_or_method" [(.builtin "type.__prepare__"),(.type "type")]::
 oD 12 [e P 0x5fe80e175ba756bdf 240 sM,e P 0xd7ca1fc8df711596fbdf 242 (s 0x69045a865e3f13af0 241),e P 0xb612dbff6d03caf8c35036fdf 244 (i 15 243),e P 0x754555b52a32 246 (i 0 245),e P 0x107dc0a36464df0c 248 (i 0 247),e P 0x2aa022adb75bdf 267 (r 62),e P 0x71aafd99c3df 274 (r 69),e P 0x2aa01f04af1fdf 281 (r 76),e P 0x71aae88e47df 288 (r 83),e P 0x23f711fb51142ed93df 296 (r 90),e P 145822626 304 (r 97),e P 0x819f03ae05fd55f54c182e516a10589c3df 318 (r 98)]::
 oT []::
 oN [(i 19 0),(i 4 0),(r 61),(i 40 0),(i 4 0),(r 68),(i 43 0),(i 4 0),(r 75),(i 46 0),(i 4 0),(r 82),(i 49 0),(i 4 0),(r 89),(i 52 0),(i 4 0),(r 96)]::
 oF "code" [(s 0x69045a865e3f13af0 235),(s 0x69045a865e3f13af0 236),(s 0x5e2f676cdbe3496308492f 237),(i 15 0),(i 0 0),(i 0 0),(i 0 0),(i 0 0),(r 50),(.bool false),(i 181 0),(r 51),.none,.none,.none,.none,(i 238 0),(i 15 0),(s 0x5e2f676cdbe3496308492f 239)]::
 oR [(some (r 52)),(some (r 3)),(some (r 49)),none,(some sM),none,(some (r 0))]::
 oT [(s 15352600498 249),(i 0 250)]::
 oT [(r 54),.none,(s 1 251),(i 0 252)]::
 gF 56 (m 7 2) 0x2aa022adb75bdf 0x399c044e731fe135bd19a865e3f13af0 253 19 8 265 [] [] [(s 147573299 256),(s 1457283003438 257),(s 146697390 258),(s 145832720 259),(s 0x638940771b8e25310 260),(s 144939046 261),(s 146688934 262),(s 146707372 263),(s 179 264)] [] (r 55) sM (
 gF 63 (m 7 3) 0x71aafd99c3df 0x999ffe9658bb31bd19a865e3f13af0 268 40 1 272 [] [] [(s 147573299 271)] [] .none sM (
 gF 70 (m 7 4) 0x2aa01f04af1fdf 0x399bff5c07255dcbbd19a865e3f13af0 275 43 1 279 [] [] [(s 147573299 278)] [] .none sM (
 gF 77 (m 7 5) 0x71aae88e47df 0x999fe22507bfe7bd19a865e3f13af0 282 46 1 286 [] [] [(s 147573299 285)] [] .none sM (
 gF 84 (m 7 6) 0x23f711fb51142ed93df 0x309b9463fea0fc9f289a9bd19a865e3f13af0 289 49 2 294 [] [] [(s 147573299 292),(s 15689657737 293)] [] .none sM (
 gF 91 (m 7 7) 145822626 0xbbf3ece785599a865e3f13af0 297 52 2 302 [] [] [(s 147573299 300),(s 15348194768 301)] [] .none sM (
 oT [(s 0x2c4351991cc8a3 305),(s 146688934 306),(s 144939046 307),(s 1610284 308),(s 146707372 309),(s 0x3000ddeb227b0c 310),(s 0x80cd7175fb0c 311),(s 146697390 312),(s 1457283003438 313),(s 144855824 314),(s 145832720 315),(s 1648595 316),(s 15272256373 317)]::
 oD 4 [e P 0x5fe80e175ba756bdf 240 sM,e P 0xb612dbff6d03caf8c35036fdf 244 (i 15 243),e P 0x754555b52a32 246 (i 0 245),e P 0x107dc0a36464df0c 248 (i 0 247),e P 0x2aa022adb75bdf 267 (r 62),e P 0x71aafd99c3df 274 (r 69),e P 0x2aa01f04af1fdf 281 (r 76),e P 0x71aae88e47df 288 (r 83),e P 0x23f711fb51142ed93df 296 (r 90),e P 145822626 304 (r 97),e P 0x819f03ae05fd55f54c182e516a10589c3df 318 (r 98),e P 0x2aa0228f1327df 320 (r 101),e P 0x23f706c4ca82ebfd3df 322 (r 102),e P 0x71aab16427df 323 .none]::
 oC (u 0x69045a865e3f13af0) [(.type "object")] [(r 100),(.type "object")] 99 [] [(some (r 47)),none,(some (s 0x69045a865e3f13af0 233)),(some (s 0x69045a865e3f13af0 241)),(some (.builtin "object.__new__")),(some (.bool true))]::
 oF "getset_descriptor" [(s 0x2aa0228f1327df 319),(r 100),(.builtin "function.__dict__"),(.builtin "function.__dict__#set")]::
 oF "getset_descriptor" [(s 0x23f706c4ca82ebfd3df 321),(r 100),(.builtin "ExceptionGroup.__weakref__"),.none]::
 oF "super" [(r 100),(r 100),(r 100)]::
 oF "builtin_function_or_method" [(.builtin "object.__init_subclass__"),(r 100)]::
 oT [(.type "object")]::
 oF "builtin_function_or_method" [(.builtin "type.__prepare__"),(.type "type")]::
 oD 7 [e P 0x5fe80e175ba756bdf 333 sM,e P 0xd7ca1fc8df711596fbdf 335 (s 1416529958636 334),e P 0xb612dbff6d03caf8c35036fdf 337 (i 54 336),e P 0x2aa022adb75bdf 346 (r 118),e P 0x71aafd99c3df 354 (r 125),e P 0x2aa01f04af1fdf 361 (r 132),e P 0x819f03ae05fd55f54c182e516a10589c3df 369 (r 133)]::
 oT []::
 oN [(i 56 0),(i 4 0),(r 117),(i 67 0),(i 4 0),(r 124),(i 74 0),(i 4 0),(r 131)]::
 oF "code" [(s 1416529958636 328),(s 1416529958636 329),(s 0x5e2f676cdbe3496308492f 330),(i 54 0),(i 0 0),(i 0 0),(i 0 0),(i 0 0),(r 108),(.bool false),(i 181 0),(r 109),.none,.none,.none,.none,(i 331 0),(i 54 0),(s 0x5e2f676cdbe3496308492f 332)]::
 oR [(some (r 110)),(some (r 3)),(some (r 107)),none,(some sM),none,(some (r 0))]::
 gF 112 (m 8 0) 0x2aa022adb75bdf 0xb613042106b6edb330fc3d6ec 338 56 3 344 [] [] [(s 147573299 341),(s 176 342),(s 174 343)] [] .none sM (
 gF 119 (m 8 1) 0x71aafd99c3df 0x1e587e2404e29b330fc3d6ec 347 67 1 352 [] [] [(s 147573299 350),(s 179 351)] [] .none sM (
 gF 126 (m 8 2) 0x2aa01f04af1fdf 0xb612f47e820aa3b330fc3d6ec 355 74 1 359 [] [] [(s 147573299 358)] [] .none sM (
 oT [(s 1610284 362),(s 0x6bf3770013d0fb9ec 363),(s 0x3150e1e6c27b0c 364),(s 146697390 365),(s 1457283003438 366),(s 145832720 367),(s 15272256373 368)]::
 oD 4 [e P 0x5fe80e175ba756bdf 333 sM,e P 0xb612dbff6d03caf8c35036fdf 337 (i 54 336),e P 0x2aa022adb75bdf 346 (r 118),e P 0x71aafd99c3df 354 (r 125),e P 0x2aa01f04af1fdf 361 (r 132),e P 0x819f03ae05fd55f54c182e516a10589c3df 369 (r 133),e P 0x2aa0228f1327df 371 (r 136),e P 0x23f706c4ca82ebfd3df 373 (r 137),e P 0x71aab16427df 374 .none]::
 oC (u 1416529958636) [(.type "object")] [(r 135),(.type "object")] 134 [] [(some (r 105)),none,(some (s 1416529958636 326)),(some (s 1416529958636 334)),(some (.builtin "object.__new__")),(some (.bool true))]::
 oF "getset_descriptor" [(s 0x2aa0228f1327df 370),(r 135),(.builtin "function.__dict__"),(.builtin "function.__dict__#set")]::
 oF "getset_descriptor" [(s 0x23f706c4ca82ebfd3df 372),(r 135),(.builtin "ExceptionGroup.__weakref__"),.none]::
 oF "super" [(r 135),(r 135),(r 135)]::
 oF "builtin_function_or_method" [(.builtin "object.__init_subclass__"),(r 135)]::
 gF 140 (d 9) 0xa6271d799f8ad3974ad5599b1617b2 0xa6271d799f8ad3974ad5599b1617b2 377 76 2 383 [] [] [(s 0x80009b75f5b3 380),(s 0x12000bfbc9ab2234 381),(s 169 382)] [] .none sM (
 oT [(r 31)]::
 oF "builtin_function_or_method" [(.builtin "type.__prepare__"),(.type "type")]::
 oD 4 [e P 0x5fe80e175ba756bdf 393 sM,e P 0xd7ca1fc8df711596fbdf 395 (s 0xf1b217f26d956fe8c2e7 394),e P 0xb612dbff6d03caf8c35036fdf 397 (i 83 396),e P 0x819f03ae05fd55f54c182e516a10589c3df 398 (r 154)]::
 oT []::
 oN []::
 oF "code" [(s 0xf1b217f26d956fe8c2e7 388),(s 0xf1b217f26d956fe8c2e7 389),(s 0x5e2f676cdbe3496308492f 390),(i 83 0),(i 0 0),(i 0 0),(i 0 0),(i 0 0),(r 150),(.bool false),(i 181 0),(r 151),.none,.none,.none,.none,(i 391 0),(i 83 0),(s 0x5e2f676cdbe3496308492f 392)]::
 oR [(some (r 152)),(some (r 3)),(some (r 149)),none,(some sM),none,(some (r 0))]::
 oT []::
 oD 2 [e P 0x5fe80e175ba756bdf 393 sM,e P 0xb612dbff6d03caf8c35036fdf 397 (i 83 396),e P 0x819f03ae05fd55f54c182e516a10589c3df 398 (r 154),e P 0x71aab16427df 399 .none]::
 oC (u 0xf1b217f26d956fe8c2e7) [(r 31)] [(r 156),(r 31),(.type "Exception"),(.type "BaseException"),(.type "object")] 155 [] [(some (r 147)),none,(some (s 0xf1b217f26d956fe8c2e7 386)),(some (s 0xf1b217f26d956fe8c2e7 394)),(some (.builtin "Exception.__new__")),(some (.bool true))]::
 oF "super" [(r 156),(r 156),(r 156)]::
 oF "builtin_function_or_method" [(.builtin "object.__init_subclass__"),(r 156)]::
 oT [(.type "object")]::
 oF "builtin_function_or_method" [(.builtin "type.__prepare__"),(.type "type")]::
 oD 20 [e P 0x5fe80e175ba756bdf 409 sM,e P 0xd7ca1fc8df711596fbdf 411 (s 0x7f356fe8c2e7 410),e P 0xb612dbff6d03caf8c35036fdf 413 (i 85 412),e P 0x2aa022adb75bdf 422 (r 172),e P 0x71aae88e47df 429 (r 179),e P 0x23f711fb51142ed93df 437 (r 186),e P 0x1f7e6d65afb7f9c4845e6a33 447 (r 193),e P 0x213a60a483d1f53b045c29c1 471 (r 201),e P 0x121b47175f8e6a33 479 (r 209),e P 0x46e694e3f924c9ee15a209113a6 486 (r 216),e P 0xccf39770765d2671124c37589 493 (r 223),e P 0x1cd54304a6e7a790907cb7c0d2d95 500 (r 230),e P 0x4ce3333001ec7e9bf3c39bc9195 507 (r 237),e P 0xf2e7d1b9068c39bc9195 514 (r 244),e P 0x1a92ac4dcc433abdcfadc39bc9195 521 (r 251),e P 1474793660031 533 (r 258),e P 0x5babaebdb269686a92f1e3 545 (r 265),e P 0x22f0496c1904a9686a92f1e3 561 (r 273),e P 0x5b21a54c6883c3f64c6422 573 (r 280),e P 0x819f03ae05fd55f54c182e516a10589c3df 584 (r 281)]::
 oT []::
 oN [(i 87 0),(i 4 0),(r 171),(i 102 0),(i 4 0),(r 178),(i 105 0),(i 4 0),(r 185),(i 108 0),(i 4 0),(r 192),(i 111 0),(i 4 0),(r 200),(i 169 0),(i 4 0),(r 208),(i 178 0),(i 4 0),(r 215),(i 181 0),(i 4 0),(r 222),(i 184 0),(i 4 0),(r 229),(i 187 0),(i 4 0),(r 236),(i 190 0),(i 4 0),(r 243),(i 193 0),(i 4 0),(r 250),(i 196 0),(i 4 0),(r 257),(i 213 0),(i 4 0),(r 264),(i 233 0),(i 4 0),(r 272),(i 265 0),(i 4 0),(r 279)]::
 oF "code" [(s 0x7f356fe8c2e7 404),(s 0x7f356fe8c2e7 405),(s 0x5e2f676cdbe3496308492f 406),(i 85 0),(i 0 0),(i 0 0),(i 0 0),(i 0 0),(r 162),(.bool false),(i 181 0),(r 163),.none,.none,.none,.none,(i 407 0),(i 85 0),(s 0x5e2f676cdbe3496308492f 408)]::
 oR [(some (r 164)),(some (r 3)),(some (r 161)),none,(some sM),none,(some (r 0))]::
 gF 166 (m 11 0) 0x2aa022adb75bdf 0x4447218c628499236ad6fe8c2e7 414 87 2 420 [] [] [(s 147573299 417),(s 0x12000bfbc9ab2234 418),(s 153821748 419)] [] .none sM (
 gF 173 (m 11 1) 0x71aae88e47df 0xb612d32267ffe36ad6fe8c2e7 423 102 1 427 [] [] [(s 147573299 426)] [] .none sM (
 gF 180 (m 11 2) 0x23f711fb51142ed93df 0x399bf23d9f8f644adaca36ad6fe8c2e7 430 105 2 435 [] [] [(s 147573299 433),(s 15689657737 434)] [] .none sM (
 gF 187 (m 11 3) 0x1f7e6d65afb7f9c4845e6a33 0x3272731bb1c7a18458477bfc90aad6fe8c2e7 438 108 4 445 [] [] [(s 147573299 441),(s 153821748 442),(s 13915016033 443),(s 14670606892 444)] [] .none sM (
 oT [.none,(s 1 448),(i 0 449)]::
 gF 195 (m 11 4) 0x213a60a483d1f53b045c29c1 0x3539926d85667fdfd8abe0a1f58ad6fe8c2e7 450 111 6 469 [] [] [(s 147573299 453),(s 0x2c440634813b10 454),(s 159086003 455),(s 144939046 456),(s 146688934 457),(s 146707372 458),(s 174 459),(s 179 460),(s 163 461),(s 0x2c440634725310 462),(s 0x2bb5c484a13b10 463),(s 1628333 464),(s 173 465),(s 0x7f3cd03b9190 466),(s 180 467),(s 176 468)] [] (r 194) sM (
 oT [.none]::
 gF 203 (m 11 5) 0x121b47175f8e6a33 0x1d00d18fe0800efc90aad6fe8c2e7 472 169 2 477 [] [] [(s 147573299 475),(s 15361393619 476)] [] (r 202) sM (
 gF 210 (m 11 6) 0x46e694e3f924c9ee15a209113a6 0x7191b8de6b447db3ed86dca628955dad6fe8c2e7 480 178 1 484 [] [] [(s 147573299 483)] [] .none sM (
 gF 217 (m 11 7) 0xccf39770765d2671124c37589 0x1484aefc3949895637e5f35675020ad6fe8c2e7 487 181 1 491 [] [] [(s 147573299 490)] [] .none sM (
 gF 224 (m 11 8) 0x1cd54304a6e7a790907cb7c0d2d95 0x2e2f5aa9a39970d80070c6164dbd3bacad6fe8c2e7 494 184 1 498 [] [] [(s 147573299 497)] [] .none sM (
 gF 231 (m 11 9) 0x4ce3333001ec7e9bf3c39bc9195 0x7b28ae2e1614e18dae2683b9cf1facad6fe8c2e7 501 187 1 505 [] [] [(s 147573299 504)] [] .none sM (
 gF 238 (m 11 10) 0xf2e7d1b9068c39bc9195 0x18516745f700cfd3b9cf1facad6fe8c2e7 508 190 1 512 [] [] [(s 147573299 511)] [] .none sM (
 gF 245 (m 11 11) 0x1a92ac4dcc433abdcfadc39bc9195 0x2a90911f5e007047aa794623b9cf1facad6fe8c2e7 515 193 1 519 [] [] [(s 147573299 518)] [] .none sM (
 gF 252 (m 11 12) 1474793660031 0x2260618722d8d6ad6fe8c2e7 522 196 2 531 [] [] [(s 147573299 525),(s 143223330 526),(s 1474201863730 527),(s 184 528),(s 0x4f7d5774d7f5689a50dec4e57f8 529),(s 166 530)] [] .none sM (
 gF 259 (m 11 13) 0x5babaebdb269686a92f1e3 0x92d6b096bb97f7d1360094ebaad6fe8c2e7 534 213 1 543 [] [] [(s 147573299 537),(s 180 538),(s 174 539),(s 0x2555df33c1a749e71f3 540),(s 176 541),(s 166 542)] [] .none sM (
 oT [.none]::
 gF 267 (m 11 14) 0x22f0496c1904a9686a92f1e3 0x37f7049bb6d3079bd1360094ebaad6fe8c2e7 546 233 2 559 [] [] [(s 147573299 549),(s 15361393619 550),(s 171 551),(s 1343044922276 552),(s 176 553),(s 169 554),(s 130 555),(s 1666918 556),(s 0x319ffe697f44a8 557),(s 166 558)] [] (r 266) sM (
 gF 274 (m 11 15) 0x5b21a54c6883c3f64c6422 0x91f994d6b4299014b5bd24f59ad6fe8c2e7 562 265 1 571 [] [] [(s 147573299 565),(s 176 566),(s 0x78ed7139c4ac 567),(s 169 568),(s 0x3000ddeb227b0c 569),(s 1565452 570)] [] .none sM (
 oT [(s 15362433926 574),(s 1498909822406 575),(s 0xf300a1c722864dc915ce 576),(s 0x638940771b8e252f0 577),(s 0x7dc8ef713af0 578),(s 0x11fe360634813af0 579),(s 0x288164da865e3f13af0 580),(s 15361393587 581),(s 0x12000bfbc9ab2214 582),(s 0x1f7e6d65afb7f9c3e29fd355 583)]::
 oD 4 [e P 0x5fe80e175ba756bdf 409 sM,e P 0xb612dbff6d03caf8c35036fdf 413 (i 85 412),e P 0x2aa022adb75bdf 422 (r 172),e P 0x71aae88e47df 429 (r 179),e P 0x23f711fb51142ed93df 437 (r 186),e P 0x1f7e6d65afb7f9c4845e6a33 447 (r 193),e P 0x213a60a483d1f53b045c29c1 471 (r 201),e P 0x121b47175f8e6a33 479 (r 209),e P 0x46e694e3f924c9ee15a209113a6 486 (r 216),e P 0xccf39770765d2671124c37589 493 (r 223),e P 0x1cd54304a6e7a790907cb7c0d2d95 500 (r 230),e P 0x4ce3333001ec7e9bf3c39bc9195 507 (r 237),e P 0xf2e7d1b9068c39bc9195 514 (r 244),e P 0x1a92ac4dcc433abdcfadc39bc9195 521 (r 251),e P 1474793660031 533 (r 258),e P 0x5babaebdb269686a92f1e3 545 (r 265),e P 0x22f0496c1904a9686a92f1e3 561 (r 273),e P 0x5b21a54c6883c3f64c6422 573 (r 280),e P 0x819f03ae05fd55f54c182e516a10589c3df 584 (r 281),e P 0x2aa0228f1327df 586 (r 284),e P 0x23f706c4ca82ebfd3df 588 (r 285),e P 0x71aab16427df 589 .none]::
 oC (u 0x7f356fe8c2e7) [(.type "object")] [(r 283),(.type "object")] 282 [] [(some (r 159)),none,(some (s 0x7f356fe8c2e7 402)),(some (s 0x7f356fe8c2e7 410)),(some (.builtin "object.__new__")),(some (.bool true))]::
 oF "getset_descriptor" [(s 0x2aa0228f1327df 585),(r 283),(.builtin "function.__dict__"),(.builtin "function.__dict__#set")]::
 oF "getset_descriptor" [(s 0x23f706c4ca82ebfd3df 587),(r 283),(.builtin "ExceptionGroup.__weakref__"),.none]::
 oF "super" [(r 283),(r 283),(r 283)]::
 oF "builtin_function_or_method" [(.builtin "object.__init_subclass__"),(r 283)]::
 gF 288 (d 12) 0x78332d6d17a4 0x78332d6d17a4 592 290 3 602 [] [] [(s 152 595),(s 146 596),(s 13862 597),(s 142 598),(s 184 599),(s 14583710675 600),(s 134 601)] [] .none sM (
 gF 295 (d 13) 0x2c486bcde24314 0x2c486bcde24314 605 300 7 620 [] [] [(s 184 608),(s 142 609),(s 14583710675 610),(s 134 611),(s 152 612),(s 146 613),(s 13862 614),(s 164 615),(s 1591858 616),(s 185 617),(s 161 618),(s 0x80ba756950c5 619)] [] .none sM (
 oT [(r 31)]::
 oF "builtin_function_or_method" [(.builtin "type.__prepare__"),(.type "type")]::
 oD 4 [e P 0x5fe80e175ba756bdf 630 sM,e P 0xd7ca1fc8df711596fbdf 632 (s 0x11e74424e9f93c8c 631),e P 0xb612dbff6d03caf8c35036fdf 634 (i 321 633),e P 0x819f03ae05fd55f54c182e516a10589c3df 635 (r 309)]::
 oT []::
 oN []::
 oF "code" [(s 0x11e74424e9f93c8c 625),(s 0x11e74424e9f93c8c 626),(s 0x5e2f676cdbe3496308492f 627),(i 321 0),(i 0 0),(i 0 0),(i 0 0),(i 0 0),(r 305),(.bool false),(i 181 0),(r 306),.none,.none,.none,.none,(i 628 0),(i 321 0),(s 0x5e2f676cdbe3496308492f 629)]::
 oR [(some (r 307)),(some (r 3)),(some (r 304)),none,(some sM),none,(some (r 0))]::
 oT []::
 oD 2 [e P 0x5fe80e175ba756bdf 630 sM,e P 0xb612dbff6d03caf8c35036fdf 634 (i 321 633),e P 0x819f03ae05fd55f54c182e516a10589c3df 635 (r 309),e P 0x71aab16427df 636 .none]::
 oC (u 0x11e74424e9f93c8c) [(r 31)] [(r 311),(r 31),(.type "Exception"),(.type "BaseException"),(.type "object")] 310 [] [(some (r 302)),none,(some (s 0x11e74424e9f93c8c 623)),(some (s 0x11e74424e9f93c8c 631)),(some (.builtin "Exception.__new__")),(some (.bool true))]::
 oF "super" [(r 311),(r 311),(r 311)]::
 oF "builtin_function_or_method" [(.builtin "object.__init_subclass__"),(r 311)]::
 oT []::
 oN []::
 oS (d 15) (u 1351113788991)::
 oF "code" [(s 1351113788991 639),(s 1351113788991 640),(s 0x5e2f676cdbe3496308492f 641),(i 323 0),(i 1 0),(i 0 0),(i 0 0),(i 3 0),(r 314),(.bool true),(i 181 0),(r 315),.none,.none,.none,(r 316),(i 642 0),(i 323 0),(s 0x5e2f676cdbe3496308492f 643)]::
 oFn (d 15) (u 1351113788991) .none sM (r 317)::
 oT [(.type "object")]::
 oF "builtin_function_or_method" [(.builtin "type.__prepare__"),(.type "type")]::
 oD 18 [e P 0x5fe80e175ba756bdf 652 sM,e P 0xd7ca1fc8df711596fbdf 654 (s 0x46e694e248e4130493d0c890eec 653),e P 0xb612dbff6d03caf8c35036fdf 656 (i 327 655),e P 0x2aa022adb75bdf 667 (r 333),e P 0x255c86396575e84df0c 679 (r 340),e P 0x2ef48c64c4df0c 694 (r 347),e P 0x120053382ce4df0c 709 (r 354),e P 0xe9cf3aab7deba435042fe50dd44c451b737bf1686a92f1e3 720 (r 361),e P 0x26f91c85b31a37aeeb03281312c0b8af7abbfa3169113a6 733 (r 368),e P 0x2761a1f24b7e9abfb04 749 (r 375),e P 0x213a60a46fb2d291c1cf3e32 766 (r 382),e P 0x2e2a7b719b99faf1a8ff7a5da51c0a6f686a92f1e3 791 (r 389),e P 0x1cd8a39a46ceb291075686a92f1e3 807 (r 396),e P 0x40e7701b22f4a4ec1904a9686a92f1e3 822 (r 403),e P 0x222808a706451f9d3e1c29c1 837 (r 410),e P 0x40d8006d15e73a0483ed39c7ea1c29c1 851 (r 417),e P 0x1f82ecd78c54c66bb950fb0c 888 (r 424),e P 0x819f03ae05fd55f54c182e516a10589c3df 902 (r 425)]::
 oT []::
 oN [(i 329 0),(i 4 0),(r 332),(i 350 0),(i 4 0),(r 339),(i 365 0),(i 4 0),(r 346),(i 393 0),(i 4 0),(r 353),(i 415 0),(i 4 0),(r 360),(i 433 0),(i 4 0),(r 367),(i 444 0),(i 4 0),(r 374),(i 458 0),(i 4 0),(r 381),(i 470 0),(i 4 0),(r 388),(i 518 0),(i 4 0),(r 395),(i 524 0),(i 4 0),(r 402),(i 530 0),(i 4 0),(r 409),(i 540 0),(i 4 0),(r 416),(i 548 0),(i 4 0),(r 423)]::
 oF "code" [(s 0x46e694e248e4130493d0c890eec 647),(s 0x46e694e248e4130493d0c890eec 648),(s 0x5e2f676cdbe3496308492f 649),(i 327 0),(i 0 0),(i 0 0),(i 0 0),(i 0 0),(r 322),(.bool false),(i 181 0),(r 323),.none,.none,.none,.none,(i 650 0),(i 327 0),(s 0x5e2f676cdbe3496308492f 651)]::
 oR [(some (r 324)),(some (r 3)),(some (r 321)),none,(some sM),none,(some (r 0))]::
 oT [(s 129580172 657),.none]::
 gF 327 (m 16 0) 0x2aa022adb75bdf 0x29035210d975721444133b248e4130493d0c890eec 658 329 4 665 [] [] [(s 147573299 661),(s 0x7f356fe8c307 662),(s 1343985543725 663),(s 1546732 664)] [] (r 326) sM (
 gF 334 (m 16 1) 0x255c86396575e84df0c 0x23f2b0cd9c9a988648e53ad9c1b248e4130493d0c890eec 668 350 2 677 [] [] [(s 147573299 671),(s 137 672),(s 138 673),(s 1343044922276 674),(s 170 675),(s 184 676)] [] .none sM (
 gF 341 (m 16 2) 0x2ef48c64c4df0c 0x2d2dcd261548eeabad9c1b248e4130493d0c890eec 680 365 3 692 [] [] [(s 147573299 683),(s 137 684),(s 184 685),(s 167 686),(s 179 687),(s 17255 688),(s 176 689),(s 174 690),(s 10931 691)] [] .none sM (
 gF 348 (m 16 3) 0x120053382ce4df0c 0x1151fd08f8a18b30b7ad9c1b248e4130493d0c890eec 695 393 1 707 [] [] [(s 147573299 698),(s 131 699),(s 169 700),(s 137 701),(s 15272256353 702),(s 16297 703),(s 179 704),(s 184 705),(s 167 706)] [] .none sM (
 gF 355 (m 16 4) 0xe9cf3aab7deba435042fe50dd44c451b737bf1686a92f1e3 0xe0f6db87c0790c3ed8fb03f6dceb780467d2d6022b08161d73af34bb248e4130493d0c890eec 710 415 1 718 [] [] [(s 147573299 713),(s 0x2c4351991cd02e 714),(s 0xe014cd1721ddec3d742e 715),(s 176 716),(s 180 717)] [] .none sM (
 gF 362 (m 16 5) 0x26f91c85b31a37aeeb03281312c0b8af7abbfa3169113a6 0x257fab530dcdf4917e5914013ff7ca53e3ca5f2eccb8b988a3005db248e4130493d0c890eec 721 433 2 731 [] [] [(s 147573299 724),(s 131 725),(s 15272919828 726),(s 0x7d2b35c743d3 727),(s 14089143251 728),(s 176 729),(s 180 730)] [] .none sM (
 gF 369 (m 16 6) 0x2761a1f24b7e9abfb04 0x25e43c7e61462163ddfabf2591b248e4130493d0c890eec 734 444 4 747 [] [] [(s 147573299 737),(s 131 738),(s 15272919828 739),(s 0x2c4351991cd02e 740),(s 14089143251 741),(s 142 742),(s 15272190516 743),(s 167 744),(s 176 745),(s 161 746)] [] .none sM (
 gF 376 (m 16 7) 0x213a60a46fb2d291c1cf3e32 0x1ff8930aa2132c2c4831707d43d49a5b248e4130493d0c890eec 750 458 4 764 [] [] [(s 147573299 753),(s 131 754),(s 15272919828 755),(s 15787973925 756),(s 1591858 757),(s 14089143251 758),(s 142 759),(s 167 760),(s 170 761),(s 176 762),(s 161 763)] [] .none sM (
 gF 383 (m 16 8) 0x2e2a7b719b99faf1a8ff7a5da51c0a6f686a92f1e3 0x2c6b612597ae89b3aa061b8339adbc94632b07561d73af34bb248e4130493d0c890eec 767 470 4 789 [] [] [(s 147573299 770),(s 131 771),(s 15272919828 772),(s 0x2c4351991cd02e 773),(s 0x303e1eb23fb9ec 774),(s 0x28b469e62020a5b8989 775),(s 1466200303556 776),(s 180 777),(s 14089143251 778),(s 142 779),(s 13826505196 780),(s 0x2ffb2a0a5b8989 781),(s 176 782),(s 0x3150e1e6c27b0c 783),(s 170 784),(s 16300 785),(s 167 786),(s 178 787),(s 169 788)] [] .none sM (
 gF 390 (m 16 9) 0x1cd8a39a46ceb291075686a92f1e3 0x1bc145afe714fcee483aa4199961d73af34bb248e4130493d0c890eec 792 518 4 805 [] [] [(s 147573299 795),(s 131 796),(s 1466200303566 797),(s 0x2c4351991cd02e 798),(s 13862 799),(s 146 800),(s 134 801)] [(s 147573299 802),(s 131 803),(s 0x2c4351991cd02e 804)] .none sM (
 gF 397 (m 16 10) 0x40e7701b22f4a4ec1904a9686a92f1e3 0x3e72dccbcb6f8e3b5c19d6c4028d161d73af34bb248e4130493d0c890eec 808 524 4 820 [] [] [(s 147573299 811),(s 1466200303566 812),(s 0x3005d9a5cf3e32 813),(s 0x3005d9a63b8989 814),(s 13862 815),(s 146 816),(s 134 817)] [(s 0x3005d9a5cf3e32 818),(s 0x3005d9a63b8989 819)] .none sM (
 gF 404 (m 16 11) 0x222808a706451f9d3e1c29c1 0x20dd3d6cc973ad1f0377588830abb7fb248e4130493d0c890eec 823 530 3 835 [] [] [(s 147573299 826),(s 0x11ffc8f7781fb9ec 827),(s 0x1217db757dfccde6 828),(s 15272919828 829),(s 15628 830),(s 14089143251 831),(s 176 832),(s 166 833),(s 161 834)] [] .none sM (
 gF 411 (m 16 12) 0x40d8006d15e73a0483ed39c7ea1c29c1 0x3e64029c86719aa8e098302c23ed9428b0abb7fb248e4130493d0c890eec 838 540 2 849 [] [] [(s 147573299 841),(s 131 842),(s 0x2c4351991cd02e 843),(s 15272919828 844),(s 0x3005d9a5cf3e32 845),(s 13996374508 846),(s 0x2bfa020a5b8989 847),(s 0x6c0d29b757dfccde6 848)] [] .none sM (
 gF 418 (m 16 13) 0x1f82ecd78c54c66bb950fb0c 0x1e51bf330f890edb14259023d4581c1b248e4130493d0c890eec 852 548 1 886 [] [] [(s 147573299 855),(s 0x288164da865e3f13af0 856),(s 0x638940771b8e252f0 857),(s 155610599 858),(s 1425523698017 859),(s 0x7de1a7d56961 860),(s 131 861),(s 17363 862),(s 137 863),(s 0x1180b9c10ea67bd3 864),(s 0x6a36659c10ea67bd3 865),(s 0x7d36cbb77bd3 866),(s 176 867),(s 0x7ff124bdb8ac 868),(s 161 869),(s 178 870),(s 13906159187 871),(s 1408378261715 872),(s 13906159186 873),(s 1408378261714 874),(s 156347599 875),(s 16976 876),(s 0x7de175bbb743 877),(s 0x7deccede0232 878),(s 169 879),(s 167 880),(s 170 881),(s 15282688110 882),(s 16297 883),(s 179 884),(s 174 885)] [] .none sM (
 oT [(s 0x6c9d977f6348fa89f 889),(s 0x1202301eda7c15e3 890),(s 0x7f356fe8c307 891),(s 0x2609fe86ab4ec84df0c 892),(s 0x1180b9c10ea67b0c 893),(s 0x7d36cbb77b0c 894),(s 0x5402688c668d86cbb77b0c 895),(s 0x10806f0ad9687b0c 896),(s 0x222d2d18615f85389d60fb0c 897),(s 0x28b46a0858b27817b12 898),(s 0xf31d89a0858b27817b12 899),(s 0x28b46a0858b27817b13 900),(s 0xf31d89a0858b27817b13 901)]::
 oD 4 [e P 0x5fe80e175ba756bdf 652 sM,e P 0xb612dbff6d03caf8c35036fdf 656 (i 327 655),e P 0x2aa022adb75bdf 667 (r 333),e P 0x255c86396575e84df0c 679 (r 340),e P 0x2ef48c64c4df0c 694 (r 347),e P 0x120053382ce4df0c 709 (r 354),e P 0xe9cf3aab7deba435042fe50dd44c451b737bf1686a92f1e3 720 (r 361),e P 0x26f91c85b31a37aeeb03281312c0b8af7abbfa3169113a6 733 (r 368),e P 0x2761a1f24b7e9abfb04 749 (r 375),e P 0x213a60a46fb2d291c1cf3e32 766 (r 382),e P 0x2e2a7b719b99faf1a8ff7a5da51c0a6f686a92f1e3 791 (r 389),e P 0x1cd8a39a46ceb291075686a92f1e3 807 (r 396),e P 0x40e7701b22f4a4ec1904a9686a92f1e3 822 (r 403),e P 0x222808a706451f9d3e1c29c1 837 (r 410),e P 0x40d8006d15e73a0483ed39c7ea1c29c1 851 (r 417),e P 0x1f82ecd78c54c66bb950fb0c 888 (r 424),e P 0x819f03ae05fd55f54c182e516a10589c3df 902 (r 425),e P 0x2aa0228f1327df 904 (r 428),e P 0x23f706c4ca82ebfd3df 906 (r 429),e P 0x71aab16427df 907 .none]::
 oC (u 0x46e694e248e4130493d0c890eec) [(.type "object")] [(r 427),(.type "object")] 426 [] [(some (r 319)),none,(some (s 0x46e694e248e4130493d0c890eec 645)),(some (s 0x46e694e248e4130493d0c890eec 653)),(some (.builtin "object.__new__")),(some (.bool true))]::
 oF "getset_descriptor" [(s 0x2aa0228f1327df 903),(r 427),(.builtin "function.__dict__"),(.builtin "function.__dict__#set")]::
 oF "getset_descriptor" [(s 0x23f706c4ca82ebfd3df 905),(r 427),(.builtin "ExceptionGroup.__weakref__"),.none]::
 oF "super" [(r 427),(r 427),(r 427)]::
 oF "builtin_function_or_method" [(.builtin "object.__init_subclass__"),(r 427)]::
 gF 432 (d 18) 0x5888b804ed78fc0bf 0x5888b804ed78fc0bf 912 651 0 915 [] [] [] [] .none sL (
 oL [(s 161 918),(s 162 919),(s 129 920),(s 130 921),(s 15189026565 922)]::
 oL [(s 161 924),(s 162 925),(s 129 926),(s 130 927),(s 15189026565 928),(s 147 929)]::
 gF 441 (d 21) 0x121ce3f4978fc0bf 0x121ce3f4978fc0bf 931 655 1 935 [] [] [(s 146725044 934)] [] .none sL (
 gF 448 (d 22) 0x3113c2af8fc0bf 0x3113c2af8fc0bf 938 657 3 947 [] [] [(s 146725044 941),(s 146697390 942),(s 160025069 943),(s 0x80009b75f5b3 944),(s 14074101968 945),(s 1351120893763 946)] [] .none sL (
 gF 455 (d 23) 0x6bf540c402f8fc0bf 0x6bf540c402f8fc0bf 950 663 1 957 [] [] [(s 146725044 953),(s 15265058866 954),(s 146697390 955),(s 1694194 956)] [] .none sL (
 gF 462 (d 24) 0x251b01793433d8fc0bf 0x251b01793433d8fc0bf 960 671 2 972 [] [] [(s 15265058866 963),(s 1465437503696 964),(s 13999084006 965),(s 1457283003438 966),(s 1666532 967),(s 15180087247 968),(s 146690098 969),(s 14074101968 970),(s 184 971)] [] .none sL (
 oT []::
 oN []::
 oS (d 25) (u 0x22281f93025cdccccf8fc0bf)::
 oF "code" [(s 0x22281f93025cdccccf8fc0bf 975),(s 0x22281f93025cdccccf8fc0bf 976),(s 0x5e2f676cdbe3496308492f 977),(i 680 0),(i 1 0),(i 0 0),(i 0 0),(i 3 0),(r 469),(.bool true),(i 181 0),(r 470),.none,.none,.none,(r 471),(i 978 0),(i 680 0),(s 0x5e2f676cdbe3496308492f 979)]::
 oFn (d 25) (u 0x22281f93025cdccccf8fc0bf) .none sL (r 472)::
 gF 474 (d 26) 0x107fa6fe7b8fc0bf 0x107fa6fe7b8fc0bf 981 692 2 991 [] [] [(s 15265058866 984),(s 159194295 985),(s 145804788 986),(s 1457283003438 987),(s 146690098 988),(s 14074101968 989),(s 1666532 990)] [] .none sL (
 gF 481 (d 27) 0x6bf377008cb8fc0bf 0x6bf377008cb8fc0bf 994 701 3 1001 [] [] [(s 14082072756 997),(s 14089143251 998),(s 184 999),(s 1665377 1000)] [] .none sL (
 oT []::
 oN []::
 oS (d 28) (u 1692844)::
 oF "code" [(s 1692844 1004),(s 1692844 1005),(s 0x5e2f676cdbe3496308492f 1006),(i 706 0),(i 1 0),(i 0 0),(i 0 0),(i 3 0),(r 488),(.bool true),(i 181 0),(r 489),.none,.none,.none,(r 490),(i 1007 0),(i 706 0),(s 0x5e2f676cdbe3496308492f 1008)]::
 oFn (d 28) (u 1692844) .none sL (r 491)::
 [])))))))))))))))))))))))))))))))))))))))))))))))))))
noncomputable def EO:List Obj->Nat->Obj
 | [],_=>{ cls:=.none }
 | x::_,0=>x
 | _::l,n+1=>EO l n
noncomputable def grow(l:List Obj)(n:Nat):Nat->Nat->Nat->BT
 | 0,_,_=>.nil
 | f+1,a,b=>match Nat.blt b n with
  | true=>.node (EO l b) (grow l n f (2 * a) (a+b)) (grow l n f (2 * a) (2 * a+b))
  | false=>.nil
noncomputable def HN:Env:={ scope:=tp.main.scope,locals:=mainNs,globals:=mainNs,cells:=[],code:=.ref 13,frame:=some 14 }
noncomputable def uO:Pos:=⟨0,0,0,0⟩
noncomputable def MY:Pos:=⟨706,0,738,37⟩
noncomputable def cE:Code:=.body tp.main.body HN
noncomputable def JV(P:Params):List Obj:=
 [boot_o_0 P,boot_o_1 P,boot_o_2 P,boot_o_3 P,boot_o_4 P,boot_o_5 P,boot_o_6 P,boot_o_7 P,boot_o_8 P,boot_o_9 P,boot_o_10 P,
 oT [],oN [],EO (objs P) 13,EO (objs P) 14]
noncomputable def JW(P:Params):BT:=grow (JV P) 15 10 1 0
noncomputable def Bq(P:Params):BT:=grow (objs P) 493 12 1 0
noncomputable def stA(w:World)(os:OsState):SharedT:=⟨JW w.params,15,{},⟨[]⟩,{},187,os⟩
noncomputable def stF(w:World)(os:OsState):SharedT:=⟨Bq w.params,493,{},⟨[]⟩,{},1010,os⟩
theorem EP(w:World)(os:OsState):topGo treeTable tp w 11 (some (.ref 6)) 12 ⟨boot_heap w.params,⟨[]⟩,boot_drawn,boot_toks,os⟩ (topStub tp) =
  some ((stA w os).abs,⟨denote treeTable cE,cE,uO,[topFrame uO]⟩):=by
 (erw[PySem.W.Fast.te15667345088766844465];erw[mf];erw[PySem.W.Fast.te11892475500146522536])
 kernel_rfl
theorem As(w:World)(os:OsState):segRun treeTable tp w 11 (some (.ref 6)) 1 1 (stA w os).abs (blockOf tp.main.body HN cE uO [topFrame uO])=some (.next,(stA w os).abs,cE,uO):=by
 (erw[PySem.W.Fast.te14374325043358763698];erw[mf])
 kernel_rfl
theorem Br(w:World)(os:OsState):segRunT treeTable tp w 11 (some (.ref 6)) 1 3500 (stA w os) (piecesOf tp.main.body HN cE uO [topFrame uO])=some (.next,stF w os,cE,MY):=by
 unfold piecesOf
 (erw[PySem.W.Fast.te10110043849684766642];erw[mf];erw[PySem.W.Fast.te12563942051412417395])
 kernel_rfl
end
section
open Hb
theorem ER(w:World)(os:OsState):topRun treeTable tp w 11 (some (.ref 6)) (12+(1+(3500+2))) ⟨boot_heap w.params,⟨[]⟩,boot_drawn,boot_toks,os⟩ (topStub tp)=some (stF w os).abs:=by
 refine go_top (EP w os) (piece_block (As w os) ?_)
 have h:=piece_app (rest:=[]) (segRun_of (Br w os)) (N:=2) (r:=(stF w os).abs) ?_
 ·rw[eR] at h;exact h
 ·exact piece_nil (by
   (erw[PySem.W.Fast.te14082659384304107361];erw[mf])
   kernel_rfl)
theorem wL:opening tp=plainProg tp.main.scope.names:=by kernel_rfl
theorem Bs(s:Shared):fenceModules? tp s=some s:=by kernel_rfl
theorem ET(w:World):((boot_heap w.params).isNs mainGlobals&&(Array.mk ([]:List GenState)).size==0,(boot_heap w.params).objs.size,(boot_heap w.params).nsMap mainGlobals "__annotations__")=(true,11,some (.ref 6)):=by
 kernel_rfl
noncomputable def wM:DefRec:=match d 28 with
 | .FunctionDef nm z b _ _ _ Q _ _ p=>⟨nm,z,b,Q,p⟩
 | _=>⟨u 1,⟨[],[],none,[],[],none,[]⟩,[],tp.main.scope,uO⟩
noncomputable def q:Program:={ tp with main:={ tp.main with body:=[d 28] } }
noncomputable def JX:Nat->List Obj->Frag
 | _,[]=>[]
 | n,o::l=>(n,o)::JX (n+1) l
noncomputable def K(P:Params):Frag:=JX 0 (objs P)
noncomputable def upTo:Nat->Nat->List Nat
 | _,0=>[]
 | n,k+1=>n::upTo (n+1) k
noncomputable def as:List Nat:=upTo 0 493
theorem JY(P:Params):as=(K P).map (·.1):=by kernel_rfl
noncomputable def H:Hook:=kHook K as JY
noncomputable def loose:List Str:=[u 14676608223,u 1210695380109,u 0x11e74424eae20499,u 0x21f7ed93a86d3871ccee479f,u 0x20f9946eba3e2d89f9f,u 0x2e1a034dc860bf,u 0x69045a865e3f13af0,u 1416529958636,u 0xa6271d799f8ad3974ad5599b1617b2,u 0xf1b217f26d956fe8c2e7,u 0x7f356fe8c2e7,u 0x78332d6d17a4,u 0x2c486bcde24314,u 0x11e74424e9f93c8c,u 1351113788991,u 0x46e694e248e4130493d0c890eec,u 0x5888b804ed78fc0bf,u 0x5939009a9a78fc0bf,u 0xc74cebd92e6e558fc0bf,u 0x121ce3f4978fc0bf,u 0x3113c2af8fc0bf,u 0x6bf540c402f8fc0bf,u 0x251b01793433d8fc0bf,u 0x22281f93025cdccccf8fc0bf,u 0x107fa6fe7b8fc0bf,u 0x6bf377008cb8fc0bf]
noncomputable def rT(P:Params):Heap:=⟨⟨objs P⟩,{}⟩
theorem EU(P:Params):absHeap (Bq P) 493 {}=rT P:=by kernel_rfl
noncomputable def Au(w:World)(os:OsState):Shared:=⟨rT w.params,⟨[]⟩,{},1010,os⟩
theorem HO(w:World)(os:OsState):(stF w os).abs=Au w os:=by
 show Shared.mk (absHeap (Bq w.params) 493 {}) _ _ _ _=_
 erw[EU _];rfl
noncomputable def Xt(s:Shared):Bool:=xlAt q [] s&&recOk [] s
noncomputable def mods:List Str:=importedModules tp.main.body
theorem EV:importedModules tp.main.body=[]:=by
 erw[PySem.W.Fast.te5923862056798008813];kernel_rfl
theorem JZ(w:World)(os:OsState):(staticsOk [] (boot_heap w.params) (rT w.params)&&namesBound tp (rT w.params)&&gensDone (Au w os)&&laidKept (boot_heap w.params) (rT w.params))=true:=by
 kernel_rfl
theorem J0(w:World)(os:OsState):openSeen q loose [] Xt true (Au w os)=openGood q loose:=by
 erw[PySem.W.Fast.te4187177175401517315]
 kernel_rfl
theorem J1(w:World)(os:OsState):H.obs (Au w os)=H.val w:=by
 kernel_rfl
end
section
open Hb
abbrev rw0:OpenRow:=PySem.Challenge.rw_rp0002_01.row
theorem Bt:PySem.Challenge.pw_rp0002_01=tp:=rfl
theorem said:PySem.Challenge.rw_rp0002_01.wellSaid=true:=by
 erw[PySem.W.Fast.te9446332074065402090]
 kernel_rfl
theorem HP(h:PySem.Challenge.rw_rp0002_01.row.wellSaid=true->PySem.Challenge.rw_rp0002_01.row.Holds):PySem.Challenge.rw_rp0002_01.Holds:=
 holds_law said h
theorem EW:LeftO tp q loose Xt H.obs H.val 10000:=by
 refine LeftO.of_pieces (H₀:=boot_heap) (H₁:=rT) (gs₀:=⟨[]⟩) (gs₁:=⟨[]⟩) (d₀:=boot_drawn) (d₁:={}) (k₀:=boot_toks) (k₁:=1010) (m₀:=11) (ann:=some (.ref 6)) (M:=12+(1+(3500+2)))
  (boot_open (p:=tp) (N:=10000) wL (by decide) Bs) ET (λw os=>(ER w os).trans (ab some (HO w os))) (by decide) (λw=>funext λos=>?_)
 erw[EV]
 show(_,openSeen q loose [] Xt true (Au w os),H.obs (Au w os))=_
 (erw[J0 _ _];erw[J1 _ _])
 exact ab (λb=>(b,openGood q loose,H.val w)) (JZ w os)
theorem head(z:rw0.toRowW.promised)(call:WalkO q loose (XL q []) H.says rw0.toRowW wM [] (λf Q=>PySem.call f Q)):PySem.Challenge.rw_rp0002_01.Holds:=by
 refine HP λsaid=>?_
 refine holds_open (q:=q) (loose:=loose) (Xt:=Xt) (XP:=XL q []) (Yf:=H.obs) (Ya:=H.val) (YP:=H.says) (N:=10000) (d:=wM) (kwd:=[]) ?hl H.of H.keeps
  (λs e=>xl_of s (bn.mp e).1) XL.keeps ?hdef ?hp ?hk (λs e=>recFacts_of (bn.mp e).2) ?hwr said ?ok ?hb z call
 case hl=>exact(show LeftO PySem.Challenge.pw_rp0002_01 q loose Xt H.obs H.val 10000 by erw[Bt];exact EW)
 case hdef=>kernel_rfl
 case hp=>
  show Program.theDef PySem.Challenge.pw_rp0002_01 _=_
  (erw[Bt];erw[PySem.W.Fast.te10235530238920679567])
  kernel_rfl
 case hk=>kernel_rfl
 case hwr=>rfl
 case ok=>
  show(chainsOk q&&(opensWell PySem.Challenge.pw_rp0002_01&&(frees rw0.toRowW&&_)))=true
  erw[Bt]
  kernel_rfl
 case hb=>exact⟨rfl,rfl,rfl,rfl,rfl,by decide +kernel⟩
theorem prom:rw0.toRowW.promised:=by w_witness2
end
noncomputable abbrev Db:=Array Value
mutual
inductive RV(h:Heap):Value->CV->Prop
 | none:RV h .none .none
 | bool (b:Bool):RV h (.bool b) (.bool b)
 | int (i:Int) (t:Tok):RV h (.int i t) (.int i)
 | str (x:Str) (t:Tok):RV h (.str x t) (.str x)
 | tup {a:Addr} {vs:Db} {l:B2}:IsTup h a vs->l.length<=szl->RVs h vs.toList l->RV h (.ref a) (.tup l)
 | ref (a:Addr):RV h (.ref a) (.ref a)
inductive RVs(h:Heap):List Value->List CV->Prop
 | nil:RVs h [] []
 | cons {v:Value} {c:CV} {vs:Cl} {cs:B2}:RV h v c->RVs h vs cs->RVs h (v::vs) (c::cs)
end
noncomputable def TK(h h':Heap):Prop:=∀a vs,IsTup h a vs->IsTup h' a vs
theorem TK.refl(h:Heap):TK h h:=λz z x=>x
theorem TK.trans(x:TK a b)(y:TK b c):TK a c:=λz z q=>y _ _ (x _ _ q)
theorem RVs.ind{P:List Value->List CV->Prop}(n:P [] [])(k:∀{v c Q w},RV h v c->RVs h Q w->P Q w->P (v::Q) (c::w))(x:RVs h Q w):P Q w:=
 x.rec (motive_1:=λz z z=>True) (motive_2:=λQ w z=>P Q w) trivial (λz=>trivial) (λz z=>trivial) (λz z=>trivial) (λz z z z=>trivial) (λz=>trivial) n λa b z y=>k a b y
theorem RV.mono(k:TK h z){v:Value}{c:CV}(x:RV h v c):RV z v c:=
 x.rec (motive_1:=λv c Q=>RV z v c) (motive_2:=λvs cs Q=>RVs z vs cs) .none (λb=>.bool b) (λi t=>.int i t) (λx t=>.str x t) (λw y Q Y=>.tup (k _ _ w) y Y) (λa=>.ref a) .nil λQ Q a b=>.cons a b
theorem RVs.mono(k:TK h z)(x:RVs h vs cs):RVs z vs cs:=x.ind .nil λa w Q=>.cons (a.mono k) Q
theorem RVs.length(x:RVs h vs z):vs.length=z.length:=x.ind (P:=λvs z=>vs.length=z.length) rfl λQ Q w=>ab Nat.succ w
theorem RVs.append(x:RVs h z Q)(y:RVs h ws ds):RVs h (z++ws) (Q++ds):=x.ind (P:=λz Q=>RVs h (z++ws) (Q++ds)) y λa Y w=>.cons a w
theorem RVs.get(x:RVs h vs z):∀(i:Nat) {c:CV},z[i]?=some c->∃v,vs[i]?=some v/\RV h v c:=
 x.ind (P:=λvs z=>∀(i:Nat) {c:CV},z[i]?=some c->∃v,vs[i]?=some v/\RV h v c) (λQ Q e=>nomatch e) λa Q w i Q e=>by
  cases i with
  | zero=>exact⟨_,rfl,al e▸a⟩
  | succ i=>exact w i e
theorem RVs.drop(x:RVs h z Q):∀n,RVs h (z.drop n) (Q.drop n):=
 x.ind (P:=λz Q=>∀n,RVs h (z.drop n) (Q.drop n)) (λn=>by cases n <;> exact .nil) λa b w n=>by
  cases n with
  | zero=>exact .cons a b
  | succ n=>exact w n
theorem RVs.take(x:RVs h vs z):∀n,RVs h (vs.take n) (z.take n):=
 x.ind (P:=λvs z=>∀n,RVs h (vs.take n) (z.take n)) (λn=>by cases n <;> exact .nil) λa w Q n=>by
  cases n with
  | zero=>exact .nil
  | succ n=>exact .cons a (Q n)
noncomputable def RVc(h:Heap)(v:Value):CV->Prop
 | .none=>v=.none
 | .bool b=>v=.bool b
 | .int i=>∃t,v=.int i t
 | .str x=>∃t,v=.str x t
 | .tup l=>∃a z,v=.ref a/\IsTup h a z/\l.length<=szl/\RVs h z.toList l
 | .ref a=>v=.ref a
theorem RV.c{v:Value}{c:CV}(x:RV h v c):RVc h v c:=
 match x with
 | .none=>rfl
 | .bool _=>rfl
 | .int _ t=>⟨t,rfl⟩
 | .str _ t=>⟨t,rfl⟩
 | .tup a b c=>⟨_,_,rfl,a,b,c⟩
 | .ref _=>rfl
noncomputable def RVv(h:Heap)(c:CV):Value->Prop
 | .none=>c=.none
 | .bool b=>c=.bool b
 | .int i _=>c=.int i
 | .str x _=>c=.str x
 | .ref a=>c=.ref a∨∃z l,c=.tup l/\IsTup h a z/\l.length<=szl/\RVs h z.toList l
 | _=>False
theorem RV.v{v:Value}{c:CV}(x:RV h v c):RVv h c v:=
 match x with
 | .none=>rfl
 | .bool _=>rfl
 | .int _ _=>rfl
 | .str _ _=>rfl
 | .tup a b c=>.inr ⟨_,_,rfl,a,b,c⟩
 | .ref _=>.inl rfl
noncomputable def MZ(h:Heap)(Q:Cl):List CV->Prop
 | []=>Q=[]
 | c::w=>∃v z,Q=v::z/\RV h v c/\RVs h z w
theorem RVs.c(x:RVs h vs cs):MZ h vs cs:=
 match x with
 | .nil=>rfl
 | .cons a b=>⟨_,_,rfl,a,b⟩
noncomputable def M0(h:Heap)(Q:B2):List Value->Prop
 | []=>Q=[]
 | v::w=>∃c z,Q=c::z/\RV h v c/\RVs h w z
theorem RVs.v(x:RVs h vs cs):M0 h cs vs:=
 match x with
 | .nil=>rfl
 | .cons a b=>⟨_,_,rfl,a,b⟩
section
variable(w:World)
mutual
noncomputable def cJ:CV->Int
 | .int i=>hashInt i
 | .str s=>hashStr w s
 | .tup l=>PySem.reduceHash (Builtin.Tuple.tupleHashOf (mV l))
 | .none=>PySem.reduceHash 0xFCA86420
 | _=>0
noncomputable def mV:List CV->List Int
 | []=>[]
 | c::l=>cJ c::mV l
end
end
section
variable{z:Program}{w:World}{A:Around}{s:Shared}
theorem eB(h:CV.bD (c::l)=true):c.pure=true:=(bn.mp h).1
theorem eE(h:CV.bD (c::l)=true):CV.bD l=true:=(bn.mp h).2
theorem gw{Y y:Type}{f:Y->y->Sem (ForInStep y)}{b:y}{Q:y->Shared->Prop}(h:Q b s):wpAny (model z w) A (forIn [] b f) Q E s:=bj h
theorem fO{Y y:Type}{f:Y->y->Sem (ForInStep y)}{x:Y}{l:List Y}{b:y}{Q:y->Shared->Prop}(h:wpAny (model z w) A (f x b) (λr U=>match r with | .yield v=>wpAny (model z w) A (forIn l v f) Q E U | .done v=>Q v U) E s):wpAny (model z w) A (forIn (x::l) b f) Q E s:=by
 rw[forIn_cons]
 refine ag (wpAny_mono h (λr U V=>?_) λk k j=>j)
 cases r with
 | done=>exact bj V
 | yield=>exact V
noncomputable def G2(x:Value)(b:Array Int):Sem (ForInStep (Array Int)):=do
 let h ← pyHash x
 pure (.yield (b.push h))
theorem Bu{Q:Int->Shared->Prop}(V:A.units<cLine)(U:IsTup s.heap a Y)
(items:∀Q:Array Int->Shared->Prop,(∀b k,b.toList=mV w l->Q b { s with toks:=k })->wpAny (model z w) A.in1 (forIn Y.toList #[] G2) Q E s)
(h:∀k,Q (cJ w (.tup l)) { s with toks:=k }):wpAny (model z w) A (pyHash (.ref a)) Q E s:=by
 have y:=U.typeIs
 obtain⟨o,j,_,n,J⟩:=U
 unfold pyHash
 unfold pyHashByItsType
 refine ag (wpAny_cRoomFor_or (.inr V) (ag (mx y F.slot_tuple_hash.lookup ?_)))
 show wpAny _ _ (if (some (Value.builtin "tuple.__hash__")==some Value.none)=true then _ else _) Q E s
 rw[ca (by rw[beq_builtin_none];exact c6)]
 refine ag (mx y F.slot_tuple_hash.lookup (ag (wpAny_callSpecialIfBoundUnlessNone?_slot y F.slot_tuple_hash (ib F.slot_tuple_hash y F.entry_tuple_hash ?_ (F.args_tuple_hash_1 _)))))
 show wpAny _ _ (Builtin.Tuple.tupleItemsOf (.ref a) >>= _) _ _ s
 refine ag (wpAny_tupleItemsOf j J (ag ?_))
 rw[← Array.forIn_toList]
 refine items _ λb k O=>?_
 show wpAny _ _ (retInt (Builtin.Tuple.tupleHashOf b.toList)) _ _ _
 rw[O]
 refine wpAny_ret_mkInt ?_
 have h:∀k,Q (reduceHash (Builtin.Tuple.tupleHashOf (mV w l))) { s with toks:=k }:=h
 generalize Builtin.Tuple.tupleHashOf (mV w l)=x at h ⊢
 show wpAny _ _ (if (decide (-(2:Int) ^ 63<=x)&&decide (x<2 ^ 63))=true then _ else _) Q E _
 unfold reduceHash at h
 by_cases v:(decide (-(2:Int) ^ 63<=x)&&decide (x<2 ^ 63))=true
 ·rw[ch v] at h ⊢;exact bj (h _)
 ·rw[ca v] at h ⊢;exact ag (ld (bj (h _)))
theorem Bv(x:RV h v c):c.pure=true->∀(A:Around) (s:Shared) (Q:Int->Shared->Prop),s.heap=h->A.units+c.depth<cLine->(∀k,Q (cJ w c) { s with toks:=k })->wpAny (model z w) A (pyHash v) Q E s:=
 x.rec (motive_1:=λv c y=>c.pure=true->∀(A:Around) (s:Shared) (Q:Int->Shared->Prop),s.heap=h->A.units+c.depth<cLine->(∀k,Q (cJ w c) { s with toks:=k })->wpAny (model z w) A (pyHash v) Q E s)
  (motive_2:=λj V y=>CV.bD V=true->∀(A:Around) (s:Shared) (b:Array Int) (Q:Array Int->Shared->Prop),s.heap=h->A.units+CV.dB V<cLine->(∀U k,U.toList=b.toList++mV w V->Q U { s with toks:=k })->wpAny (model z w) A (forIn j b G2) Q E s)
  (λy A s Q y Y h=>pyHash_laid .none .none A s Q rfl .none Y h)
  (λy p=>nomatch p)
  (λy y y y y y y y h=>wpAny_pyHash_int (h _))
  (λy y y y y y y y h=>wpAny_pyHash_str (h _))
  (λJ y y o p A s Q e Y h=>Bu (ax (dE _ _) Y) (e▸J) (λO f=>o p A.in1 s #[] O e (ax (bv (by show A.units+1+_=A.units+(_+1);lia)) Y) f) h)
  (λy p=>nomatch p)
  (λy A s b Q y y h=>gw (h b s.toks (eR _).symm))
  (λy y g l p A s b Q e Y h=>fO (ag (g (eB p) A s _ e (ax (ew (Nat.le_max_left _ _) _) Y) λk=>bj (l (eE p) A { s with toks:=k } _ Q e (ax (ew (Nat.le_max_right _ _) _) Y) λU L t=>h U L (by(erw[t];erw[Array.toList_push];rewrite[io]);rfl)))))
theorem yy(n:Nat){c:CV}{A:Around}{s:Shared}{Q:Int->Shared->Prop}(y:c.depth<=n)(Y:c.hk=true)(U:A.units+n<cLine)(V:RV s.heap v c)(h:∀k,Q (cJ w c) { s with toks:=k }):wpAny (model z w) A (pyHash v) Q E s:=
 Bv V Y A s Q rfl (ax (ew y _) U) h
noncomputable def HQ(n:Nat)(x:Value)(_:Option Bool×PUnit):Sem (ForInStep (Option Bool×PUnit)):=do
 let b ← eqIsQuiet n x
 if (!b)=true then pure (.done (some false,⟨⟩)) else pure (.yield (none,⟨⟩))
noncomputable abbrev Dx:=Bool->Shared->Prop
theorem Av(x:RV h v c):c.pure=true->∀(n:Nat) (A:Around) (s:Shared) (Q:Dx),s.heap=h->c.depth<=n->Q true s->wpAny (model z w) A (eqIsQuiet n v) Q E s:=
 x.rec (motive_1:=λv c y=>c.pure=true->∀(n:Nat) (A:Around) (s:Shared) (Q:Dx),s.heap=h->c.depth<=n->Q true s->wpAny (model z w) A (eqIsQuiet n v) Q E s)
  (motive_2:=λU j y=>CV.bD j=true->∀(n:Nat) (A:Around) (s:Shared) (Q:Option Bool×PUnit->Shared->Prop),s.heap=h->CV.dB j<=n->Q (none,⟨⟩) s->wpAny (model z w) A (forIn U (none,⟨⟩) (HQ n)) Q E s)
  (λy n y y y y y h=>(eqIsQuiet_byValue n rfl:eqIsQuiet n .none=_)▸bj h)
  (λy p=>nomatch p)
  (λi t y n y y y y y h=>(eqIsQuiet_byValue n rfl:eqIsQuiet n (.int i t)=_)▸bj h)
  (λx t y n y y y y y h=>(eqIsQuiet_byValue n rfl:eqIsQuiet n (.str x t)=_)▸bj h)
  (λ{a U l} V y y O p n A s Q e Y h=>by
   cases n with
   | zero=>exact absurd Y (lj _)
   | succ n=>
    have V:IsTup s.heap a U:=e▸V
    have J:=V.typeIs
    obtain⟨o,f,_,T,k⟩:=V
    unfold eqIsQuiet
    refine ag (mx J F.slot_tuple_eq.lookup (ag (wpAny_isInstance J isSubtype_tuple_tuple (lr rfl (ag (wpAny_seqItems f k (ag ?_)))))))
    show wpAny _ _ (forIn U _ _) _ _ s
    erw[ip Array.forIn_toList]
    exact O p n A s _ e (kz Y) (bj h))
  (λy p=>nomatch p)
  (λy y y y y y y h=>gw h)
  (λy y g L p n A s Q e Y h=>fO (ag (g (eB p) n A s _ e (ae (Nat.le_max_left _ _) Y) (lr rfl (bj (L (eE p) n A s Q e (ae (Nat.le_max_right _ _) Y) h))))))
theorem uP(n:Nat){c:CV}{A:Around}{s:Shared}{Q:Dx}(y:c.depth<=n)(Y:c.hk=true)(U:RV s.heap v c)(h:Q true s):wpAny (model z w) A (eqIsQuiet n v) Q E s:=
 Av U Y n A s Q rfl y h
end
mutual
noncomputable def pd:CV->PyData
 | .none=>.none
 | .bool b=>.bool b
 | .int i=>.int i
 | .str x=>.str x
 | .tup l=>.tuple (pds l)
 | .ref _=>.none
noncomputable def pds:List CV->List PyData
 | []=>[]
 | c::l=>pd c::pds l
end
theorem RV.reads{v:Value}{c:CV}(x:RV h v c):c.pure=true->∃as,Reads h v (pd c) as:=
 x.rec (motive_1:=λv c z=>c.pure=true->∃as,Reads h v (pd c) as) (motive_2:=λw Q z=>CV.bD Q=true->∃as,ReadsAll h w (pds Q) as)
  (λz=>⟨_,.none⟩) (λz p=>nomatch p) (λi t z=>⟨_,.int i t⟩) (λx t z=>⟨_,.str x t⟩)
  (λY z z U p=>(U p).elim λas q=>Y.elim λo y=>y.2.2.elim λn V=>⟨_,Reads.tuple y.1 y.2.1 V q⟩) (λz p=>nomatch p)
  (λz=>⟨_,.nil⟩) λz z k j p=>(k (eB p)).elim λas q=>(j (eE p)).elim λJ r=>⟨_,.cons q r⟩
theorem Aw{x:Str}(h:x.cps.toList.all (Nat.blt · 128)=true):PyData.strOk x=true:=by
 unfold PyData.strOk
 erw[ip Array.all_toList]
 exact eQ.mpr λc z=>cn (cf (aw (eQ.mp h c z)) (by decide))
theorem gx{c:CV}:c.pure=true->(pd c).canLay0=true:=
 c.rec (motive_1:=λc=>c.pure=true->(pd c).canLay0=true) (motive_2:=λl=>CV.bD l=true->PyData.canLayAll0 (pds l)=true)
  (λz=>rfl) (λz p=>nomatch p) (λz z=>rfl) (λz p=>Aw p) (λz Q p=>Q p) (λz p=>nomatch p) (λz=>rfl) λz z w y p=>bn.mpr ⟨w (eB p),y (eE p)⟩
theorem lB(c:CV):(pd c).depth<=c.depth:=
 c.rec (motive_1:=λc=>(pd c).depth<=c.depth) (motive_2:=λl=>PyData.depthAll (pds l)<=CV.dB l)
  (cr _) (λz=>cr _) (λz=>cr _) (λz=>cr _) (λz Q=>et Q) (λz=>cr _) (cr _) λz z w y=>Nat.max_le.mpr ⟨ae w (Nat.le_max_left _ _),ae y (Nat.le_max_right _ _)⟩
theorem HR(c:CV):∀d:CV,c.pure=true->d.pure=true->PyData.eqv (pd c) (pd d)=true->c=d:=
 c.rec (motive_1:=λc=>∀d:CV,c.pure=true->d.pure=true->PyData.eqv (pd c) (pd d)=true->c=d) (motive_2:=λl=>∀m:List CV,CV.bD l=true->CV.bD m=true->PyData.eqvAll (pds l) (pds m)=true->l=m)
  (λd z q e=>by cases d <;> first | rfl | exact ff e | exact ff q) (λz z p=>ff p) (λi d z q e=>by cases d <;> first | exact ab _ (ey.mp e) | exact ff e | exact ff q)
  (λi d z q e=>by cases d <;> first | exact ab _ (ey.mp e) | exact ff e | exact ff q) (λz Q d p q e=>by cases d <;> first | exact ab _ (Q _ p q e) | exact ff e | exact ff q) (λz z p=>ff p)
  (λm z z e=>by cases m <;> first | rfl | exact ff e) λc l w y m p q e=>by
   cases m with
   | nil=>exact ff e
   | cons d m=>exact w d (eB p) (eB q) (bn.mp e).1▸y m (eE p) (eE q) (bn.mp e).2▸rfl
theorem EX{c:CV}:c.pure=true->PyData.eqv (pd c) (pd c)=true:=
 c.rec (motive_1:=λc=>c.pure=true->PyData.eqv (pd c) (pd c)=true) (motive_2:=λl=>CV.bD l=true->PyData.eqvAll (pds l) (pds l)=true)
  (λz=>rfl) (λz p=>nomatch p) (λz z=>ey.mpr rfl) (λz z=>ey.mpr rfl) (λz Q p=>Q p) (λz p=>nomatch p) (λz=>rfl) λz z w y p=>bn.mpr ⟨w (eB p),y (eE p)⟩
theorem lC{c d:CV}(z:c.pure=true)(Q:d.pure=true):PyData.eqv (pd c) (pd d)=decide (c=d):=by
 by_cases h:c=d
 ·(erw[cn h];erw[ip h]);exact EX z
 ·erw[dT h];exact Bool.eq_false_iff.mpr λe=>h (HR c d z Q e)
theorem wN{c:CV}(h:c.hk=true):c.pure=true:=h
section
variable{z:Program}{w:World}{A:Around}{s:Shared}
theorem rU{u:Value}{Q:Dx}(U:RV s.heap u c)(V:RV s.heap v d)(y:c.pure=true)(Y:d.pure=true)(k:A.units+c.depth<cLine)(h:Q (decide (c=d)) s) :
  wpAny (model z w) A (eqBool u v) Q E s:=by
 obtain⟨as,j⟩:=U.reads y
 obtain⟨J,o⟩:=V.reads Y
 refine SeqAt.eqBoolOverData z w A E s u v _ _ as J Q j o (gx y) (gx Y) ?_ (by erw[lC y Y];exact h)
 exact ax (ew (ae (Nat.min_le_left _ _) (lB c)) _) k
end
noncomputable abbrev At:=List (CV×CV)
inductive REs(w:World)(h:Heap):List DictEntry->List (CV×CV)->Prop
 | nil:REs w h [] []
 | cons {e:DictEntry} {k v:CV} {es:D2} {kvs:At}:e.hash=cJ w k->k.keyOk=true->RV h e.key k->RV h e.val v->REs w h es kvs->REs w h (e::es) ((k,v)::kvs)
section
variable{w:World}{z:Heap}
theorem REs.ind{P:List DictEntry->List (CV×CV)->Prop}(n:P [] [])(f:∀{e k v es kvs},e.hash=cJ w k->k.keyOk=true->RV h e.key k->RV h e.val v->REs w h es kvs->P es kvs->P (e::es) ((k,v)::kvs))(x:REs w h es kvs):P es kvs:=
 x.rec (motive:=λes kvs y=>P es kvs) n λa b c d r Q=>f a b c d r Q
theorem REs.mono(t:TK h z)(x:REs w h es kvs):REs w z es kvs:=x.ind .nil λa b c d y Q=>.cons a b (c.mono t) (d.mono t) Q
theorem REs.length(x:REs w h es kvs):es.length=kvs.length:=x.ind (P:=λes kvs=>es.length=kvs.length) rfl λQ Q Q Q Q y=>ab Nat.succ y
theorem REs.get(x:REs w h es kvs):∀{i:Nat} {e:DictEntry},es[i]?=some e->∃k v,kvs[i]?=some (k,v)/\e.hash=cJ w k/\k.keyOk=true/\RV h e.key k/\RV h e.val v:=
 λ{i e} y=>x.ind (P:=λes kvs=>∀(i:Nat) (e:DictEntry),es[i]?=some e->∃k v,kvs[i]?=some (k,v)/\e.hash=cJ w k/\k.keyOk=true/\RV h e.key k/\RV h e.val v) (λQ Q y=>nomatch y) (λa b c d Q Y i Q y=>by
  cases i with
  | zero=>exact al y▸⟨_,_,rfl,a,b,c,d⟩
  | succ i=>exact Y i _ y) i e y
theorem REs.get'(x:REs w h es kvs):∀{i:Nat} {k v:CV},kvs[i]?=some (k,v)->∃e,es[i]?=some e/\e.hash=cJ w k/\k.keyOk=true/\RV h e.key k/\RV h e.val v:=
 λ{i k v} y=>x.ind (P:=λes kvs=>∀(i:Nat) (p:CV×CV),kvs[i]?=some p->∃e,es[i]?=some e/\e.hash=cJ w p.1/\p.1.keyOk=true/\RV h e.key p.1/\RV h e.val p.2) (λQ Q y=>nomatch y) (λa b c d Q Y i Q y=>by
  cases i with
  | zero=>exact al y▸⟨_,rfl,a,b,c,d⟩
  | succ i=>exact Y i _ y) i (k,v) y
end
theorem ifI{p:Prop}[Decidable p]{z:Type}{x y:Sem z}{Q:z->Shared->Prop}(w:p->wpAny m A x Q E s)(Y:¬ p->wpAny m A y Q E s):wpAny m A (if p then x else y) Q E s:=by
 by_cases h:p
 ·erw[ch h];exact w h
 ·erw[ca h];exact Y h
theorem fB{c:CV}(h:c.keyOk=true):c.hk=true:=(bn.mp h).1
theorem eX{c:CV}(h:c.keyOk=true):c.depth<=5:=aw (bn.mp h).2
theorem nP{c:CV}(h:c.keyOk=true):c.pure=true:=wN (fB h)
theorem Ax{z:At}(y:(z.map (·.1)).Nodup){i j:Nat}(U:z[i]?=some (k,v))(V:z[j]?=some (k,Y)):i=j:=by
 have Q:(z.map (·.1))[i]?=some k:=by rw[eM,U];rfl
 have w:(z.map (·.1))[j]?=some k:=by rw[eM,V];rfl
 exact(getElem?_inj (a6.mp Q).1 y).mp (Q.trans w.symm)
theorem EY:au ((k,v)::r) k=some v:=ch rfl
theorem yz(h:a≠k):au ((a,b)::r) k=au r k:=ca h
theorem EZ:aW ((k,x)::r) k v=(k,v)::r:=ch rfl
theorem yC(h:a≠k):aW ((a,b)::r) k v=(a,b)::aW r k v:=ca h
theorem Ay{z:At}(Q:(z.map (·.1)).Nodup):∀{i:Nat},z[i]?=some (k,v)->au z k=some v:=by
 induction z with
 | nil=>exact λh=>nomatch h
 | cons p r w=>
  intro i h
  have Q:=ei.mp Q
  cases i with
  | zero=>exact al h▸EY
  | succ i=>exact(yz λe:p.1=k=>Q.1 (bo.mpr ⟨_,be (i:=i) h,e.symm⟩)).trans (w Q.2 (i:=i) h)
theorem Az{z:At}(h:∀(j:Nat) (v:CV),z[j]?≠some (k,v)):au z k=none:=by
 induction z with
 | nil=>rfl
 | cons p r Q=>exact(yz λe:p.1=k=>h 0 p.2 (e▸rfl)).trans (Q λj v w=>h (j+1) v w)
theorem mW{z:At}(Q:(z.map (·.1)).Nodup):∀{i:Nat},z[i]?=some (k,x)->aW z k v=z.modify i λp=>(p.1,v):=by
 induction z with
 | nil=>exact λh=>nomatch h
 | cons p r w=>
  intro i h
  have Q:=ei.mp Q
  cases i with
  | zero=>exact al h▸EZ
  | succ i=>exact(yC λe:p.1=k=>Q.1 (bo.mpr ⟨_,be (i:=i) h,e.symm⟩)).trans (ab _ (w Q.2 (i:=i) h))
theorem mX{z:At}(h:∀(j:Nat) (v:CV),z[j]?≠some (k,v)):aW z k v=z++[(k,v)]:=by
 induction z with
 | nil=>rfl
 | cons p r Q=>exact(yC λe:p.1=k=>h 0 p.2 (e▸rfl)).trans (ab _ (Q λj v w=>h (j+1) v w))
noncomputable def J2(x:Value)(_:Option Bool×PUnit):Sem (ForInStep (Option Bool×PUnit)):=do
 let b ← eqIsQuiet 8 x
 if (!b)=true then pure (.done (some true,⟨⟩)) else pure (.yield (none,⟨⟩))
theorem RV.inj{v:Value}{c:CV}(x:RV h v c)(y:RV h v d)(j:c.hk=true)(U:d.hk=true):c=d:=
 x.rec (motive_1:=λv c Q=>c.pure=true->∀d,RV h v d->d.pure=true->c=d) (motive_2:=λJ w Q=>CV.bD w=true->∀Y,RVs h J Y->CV.bD Y=true->w=Y)
  (λQ Q y Q=>y.v.symm) (λQ p=>ff p) (λQ Q Q Q y Q=>y.v.symm) (λQ Q Q Q y Q=>y.v.symm)
  (λO Q Q f p d y q=>y.v.elim (λe=>ff ((ab CV.pure e).symm.trans q)) λy=>y.elim λg y=>y.elim λl y=>by
   obtain⟨o,L,_,n,U⟩:=O
   obtain⟨e,⟨N,V,_,a,k⟩,_,z⟩:=y
   have t:=(Data.seq.inj (U.symm.trans ((ab Obj.data (al (L.symm.trans V))).trans k))).1
   exact(ab CV.tup (f p l (t▸z) ((ab CV.pure e).symm.trans q))).trans e.symm)
  (λQ p=>ff p) (λQ Q y Q=>y.v.symm)
  (λQ Q T C p Y y q=>y.v.elim λc y=>y.elim λw y=>by
   obtain⟨e,b,B⟩:=y
   rw[e] at q ⊢
   exact T (eB p) c b (eB q)▸C (eE p) w B (eE q)▸rfl)
  j d y U
section
noncomputable abbrev AC:=Value->Shared->Prop
variable{prog:Program}{w:World}{A:Around}{E:AC}{s:Shared}
theorem AA{stored:Cl}{Q:Option Bool×PUnit->Shared->Prop}(h:Q (none,⟨⟩) s)(z:∀v∈stored,∃k:CV,k.keyOk=true/\RV s.heap v k):wpAny (model prog w) A (forIn stored (none,⟨⟩) J2) Q E s:=by
 induction stored with
 | nil=>exact gw h
 | cons v r Y=>exact(z v aM).elim λk y=>fO (ag (uP 8 (ae (eX y.1) (by decide)) (fB y.1) y.2 (lr rfl (bj (Y λv U=>z v (bb _ U))))))
theorem tells_of{stored:Cl}{Q:Dx}(U:RV s.heap z c)(Y:c.keyOk=true)
(y:∀v∈stored,∃k:CV,k.keyOk=true/\RV s.heap v k)(h:Q false s):wpAny (model prog w) A (tableMayTell z stored) Q E s:=by
 unfold tableMayTell
 exact ifI (λV=>bj h) λV=>ag (uP 8 (ae (eX Y) (by decide)) (fB Y) U (lr rfl (ag (AA (bj h) y))))
theorem E0{Y:At}{Q:Option Nat->Shared->Prop}{o:Type}{F:Nat->Option (Option Nat)×o->Sem (ForInStep (Option (Option Nat)×o))}{O:Option (Option Nat)×o->Sem (Option Nat)}{y:o->Option Nat}
(m:(Y.map (·.1)).Nodup)
(R:∀(i:Nat) (b:o) (k v:CV) (P:ForInStep (Option (Option Nat)×o)->Shared->Prop),Y[i]?=some (k,v)->cJ w k=cJ w c->(k≠c->∀U,y U=y b->P (.yield (none,U)) s)->
   (k=c->y b=none->(∀U,y U=some i->P (.yield (none,U)) s)/\∀U,P (.done (some (some i),U)) s)->(k=c->y b=none)->wpAny (model prog w) A (F i (none,b)) P E s)
(t:∀b,Q (y b) s->wpAny (model prog w) A (O (none,b)) Q E s)
(f:∀i b,Q (some i) s->wpAny (model prog w) A (O (some (some i),b)) Q E s)
(g:(∀(j:Nat) (v:CV),Y[j]?≠some (c,v))->Q none s)(V:∀(j:Nat) (v:CV),Y[j]?=some (c,v)->Q (some j) s) :
  ∀(L:Bz) (b:o),L.Nodup->(∀i∈L,∃p,Y[i]?=some p/\cJ w p.1=cJ w c)->(y b=none->∀j v,Y[j]?=some (c,v)->j∈L)->(∀j,y b=some j->j∉L/\∃v,Y[j]?=some (c,v))->
   wpAny (model prog w) A (forIn L (none,b) F) (λr s=>wpAny (model prog w) A (O r) Q E s) E s:=by
 intro L
 induction L with
 | nil=>
  intro b _ _ n T
  refine gw (t b ?_)
  cases e:y b with
  | none=>exact g λj v J=>cp (n e j v J)
  | some j=>exact(T j e).2.elim λv N=>V j v N
 | cons x L M=>
  intro b C d n T
  obtain⟨p,a,S⟩:=d x aM
  have C:=ei.mp C
  have D:=λl:p.1=c=>a.trans (ab (λk=>some (k,p.2)) l)
  have B:=λi W=>d i (bb _ W)
  refine fO (R x b p.1 p.2 _ a S (λI U e=>?_) (λl X=>⟨λU e=>?_,λU=>f x U (V x p.2 (D l))⟩) λl=>?_)
  ·refine M U C.2 B (λh j v J=>(bt.mp (n (e▸h) j v J)).resolve_left λq=>I ?_) λj J=>?_
   ·exact(Prod.mk.inj (al (a.symm.trans (q▸J)))).1
   ·have z:=T j (e▸J);exact⟨λq=>z.1 (bb _ q),z.2⟩
  ·exact M U C.2 B (λh=>nomatch e.symm.trans h) λj J=>al (e.symm.trans J)▸⟨C.1,p.2,D l⟩
  ·cases e:y b with
   | none=>rfl
   | some j=>exact(T j e).2.elim λv N=>absurd (Ax m N (D l)▸aM) (T j e).1
structure FC(prog:Program)(w:World)(A:Around)(E:AC)(s:Shared)(d:Addr)(es:Array DictEntry)(kvs:At)(key:Value)(c:CV)(Q:Option Nat->Shared->Prop):Prop where
 hu:A.units+10<cLine
 hkey:RV s.heap key c
 hc:c.keyOk=true
 ob:∃o ep,s.heap.get? d=some o/\o.data=.dict es ep
 he:REs w s.heap es.toList kvs
 hn:(kvs.map (·.1)).Nodup
 hnone:(∀(j:Nat) (v:CV),kvs[j]?≠some (c,v))->Q none s
 hsome:∀(j:Nat) (v:CV),kvs[j]?=some (c,v)->Q (some j) s
section
variable{d:Addr}{es:Array DictEntry}{c:CV}{Q:Option Nat->Shared->Prop}
inductive EnR(w:World)(s:Shared)(es:Array DictEntry)(i:Nat)(k:CV):Prop
 | mk (e:DictEntry) (he:es[i]?=some e) (hh:e.hash=cJ w k) (ok:k.keyOk=true) (rk:RV s.heap e.key k)
theorem FC.ent(F:FC prog w A E s d es kvs Y c Q){i:Nat}(h:kvs[i]?=some p):EnR w s es i p.1:=
 (F.he.get' (k:=p.1) (v:=p.2) h).elim λe y=>.mk e (hU.symm.trans y.1) y.2.1 y.2.2.1 y.2.2.2.1
theorem FC.back(F:FC prog w A E s d es kvs Y c Q){i:Nat}(h:es[i]?=some e):∃p,kvs[i]?=some p/\e.hash=cJ w p.1/\p.1.keyOk=true/\RV s.heap e.key p.1:=
 (F.he.get (hU.trans h)).elim λk y=>y.elim λv y=>⟨(k,v),y.1,y.2.1,y.2.2.1,y.2.2.2.1⟩
theorem FC.eq(F:FC prog w A E s d es kvs Y c Q){z:Dx}{u:Value}(v:RV s.heap u k)(y:k.keyOk=true)(q:z (decide (k=c)) s):wpAny (model prog w) A (eqBool u Y) z U s:=
 rU v F.hkey (nP y) (nP F.hc) (ax (ew (ae (eX y) (by decide)) _) F.hu) q
theorem FC.twice(F:FC prog w A E s d es kvs Y c Q){v:Type}{V:v->Shared->Prop}{u:Value}{j:Option Value}{J:Nat->Bool->Nat->Sem v}{U:Nat->Bool->Nat->Sem v}(O:RV s.heap u k)(p:k.keyOk=true)(h:∀n,wpAny (model prog w) A (U n (decide (k=c)) n) V E s) :
  wpAny (model prog w) A (dictEpoch d j >>= λz=>eqBool u Y >>= λsame=>dictEpoch d j >>= λx=>if (x != z)=true then J z same x else U z same x) V E s:=
 F.ob.elim λo y=>y.elim λf y=>ag (wpAny_dictEpoch y.1 y.2 (ag (F.eq O p (ag (wpAny_dictEpoch y.1 y.2 (ifI (λq=>absurd q (by erw[bne_self_eq_false _];exact c6)) λg=>h f))))))
noncomputable abbrev HS(w:World)(es:Array DictEntry)(c:CV):List Nat:=placesWithHash es.size (λi=>es[i]?.map (·.hash)) (cJ w c)
theorem FC.loop(F:FC prog w A E s d es kvs Y c Q){V:Type}{f:Nat->Option (Option Nat)×V->Sem (ForInStep (Option (Option Nat)×V))}{J:Option (Option Nat)×V->Sem (Option Nat)}{l:V}(U:V->Option Nat)(T:U l=none)
(x:∀(i:Nat) (b:V) (k:CV) (P:ForInStep (Option (Option Nat)×V)->Shared->Prop),EnR w s es i k->cJ w k=cJ w c->(k≠c->∀o,U o=U b->P (.yield (none,o)) s)->
   (k=c->U b=none->(∀o,U o=some i->P (.yield (none,o)) s)/\∀o,P (.done (some (some i),o)) s)->(k=c->U b=none)->wpAny (model prog w) A (f i (none,b)) P E s)
(g:∀b,Q (U b) s->wpAny (model prog w) A (J (none,b)) Q E s)
(O:∀i b,Q (some i) s->wpAny (model prog w) A (J (some (some i),b)) Q E s):wpAny (model prog w) A (forIn (HS w es c) (none,l) f >>= J) Q E s:=by
 refine ag (E0 F.hn (λi b k v P L=>x i b k P (F.ent L)) g O F.hnone F.hsome _ l (mo.sublist filter_sublist) (λi L=>?_) (λB j v t=>?_) λj t=>nomatch T.symm.trans t)
 ·have z:(es[i]?.map (·.hash)==some (cJ w c))=true:=(eJ.mp L).2
  cases e:es[i]? with
  | none=>rw[e] at z;exact ff z
  | some n=>
   rw[e] at z
   exact(F.back e).elim λp y=>⟨p,y.1,y.2.1.symm.trans (al (ey.mp z))⟩
 ·obtain⟨e,he,C,_,_⟩:=F.ent t
  refine eJ.mpr ⟨du.mpr (ms.mp he).1,?_⟩
  exact ey.mpr ((ab (Option.map (·.hash)) he).trans (ab some C))
theorem FC.walk(F:FC prog w A E s d es kvs Y c Q):wpAny (model prog w) A (dictWalkPlain d Y (cJ w c) es (HS w es c)) Q E s:=by
 unfold dictWalkPlain
 refine F.loop (λU=>none) rfl (λi b k P v V j J p=>?_) (λb h=>bj h) λi b h=>bj h
 obtain⟨e,z,y,o,O⟩:=v
 erw[z]
 refine ifI (λU=>F.twice O o λU=>ifI (λq=>ag (ld (bj ((J (a7 q) rfl).2 _)))) λq=>ag (ld (bj (j (λe=>q (cn e)) _ rfl)))) λq=>absurd (ey.mpr (y.trans V)) q
theorem E3{v:Value}(h:v.isStr x=true):∃t,v=.str x t:=by cases v <;> first | exact ff h | exact⟨_,ab (Value.str · _) (ey.mp h)⟩
theorem FC.J3(F:FC prog w A E s d es kvs Y c Q)(e:c=.str x)(C:Y=.str x t):wpAny (model prog w) A (foundByValue d Y es x) Q E s:=by
 unfold foundByValue
 cases o:es.findIdx? (·.key.isStr x) with
 | none=>
  refine bj (F.hnone λj v g=>?_)
  obtain⟨O,V,_,_,U⟩:=F.ent g
  have z:=Array.findIdx?_eq_none_iff.mp o O (Array.mem_of_getElem? V)
  obtain⟨t,q⟩:=(e▸U:RV s.heap O.key (.str x)).c
  rw[q] at z
  exact Bool.noConfusion (z.symm.trans (mi x))
 | some i=>
  obtain⟨k,l,_⟩:=Array.findIdx?_eq_some_iff_getElem.mp o
  have f:=Array.getElem?_eq_getElem k
  obtain⟨p,J,_,L,U⟩:=F.back f
  have y:p.1=c:=by
   obtain⟨t,q⟩:=E3 l
   exact(q▸U:RV s.heap (.str x t) p.1).v.trans e.symm
  dsimp only
  erw[f]
  exact F.twice U L λT=>ifI (λT=>ag (ld (bj (F.hsome i p.2 (y▸J))))) λq=>absurd (cn y) q
theorem FC.stored(F:FC prog w A E s d es kvs Y c Q):∀v∈(HS w es c).filterMap (λi=>es[i]?.map (·.key)),∃k:CV,k.keyOk=true/\RV s.heap v k:=λv z=>by
 obtain⟨i,_,U⟩:=mem_filterMap.mp z
 obtain⟨e,he,V⟩:=e0.mp U
 exact(F.back he).elim λp y=>⟨p.1,y.2.2.1,V▸y.2.2.2⟩
theorem FC.find(F:FC prog w A E s d es kvs Y c Q):wpAny (model prog w) A (dictFind d Y (cJ w c)) Q E s:=by
 unfold dictFind
 try with_reducible refine eA ?_
 refine F.ob.elim λo y=>y.elim λr y=>ag (wpAny_dictEntries y.1 y.2 ?_)
 extract_lets U stored f n N D
 have O:wpAny (model prog w) A (n false) Q E s:=by
  refine ifI ff λz=>?_
  refine F.loop id rfl (λi b k P g M p O m=>?_) (λb h=>?_) λi b h=>bj h
  ·obtain⟨e,l,j,L,T⟩:=g
   erw[l]
   refine ifI (λz=>F.twice T L λz=>ifI (λq=>?_) λq=>ag (ld (ifI ff λz=>bj (p (λe=>q (cn e)) _ rfl)))) λq=>absurd (ey.mpr (j.trans M)) q
   have C:=a7 q
   obtain rfl:b=none:=m C
   exact ifI ff λz=>ag (ld (ifI (λz=>bj ((O C rfl).2 _)) λz=>bj ((O C rfl).1 _ rfl)))
  ·cases b <;> exact bj h
 have p:wpAny (model prog w) A (N ()) Q E s:=ifI (λz=>ag (bj O)) λz=>ag (tells_of F.hkey F.hc F.stored O)
 clear_value n N
 clear O
 have I:wpAny (model prog w) A (D ()) Q E s:=by
  refine ifI (λz=>F.walk) λz=>?_
  clear_value U stored f
  have J:=F.hkey
  revert J
  cases Y with
  | ref a=>
   refine λJ=>ifI (λq=>?_) λz=>p
   obtain⟨e,B,V⟩:=any_eq_true.mp (Array.any_toList.trans q)
   obtain⟨i,g⟩:=iq.mp B
   obtain⟨k,v,_,j,L,T,_⟩:=F.he.get g
   have V:=bn.mp V
   exact absurd (j.trans (ab _ ((ey.mp V.1▸T:RV s.heap (.ref a) k).inj J (fB L) (fB F.hc)))) (bne_iff_ne.mp V.2)
  | _=>exact λz=>p
 clear_value D
 clear p
 have J:=F.hkey
 revert J
 cases Y with
 | str x t=>exact λJ=>ifI (λz=>F.J3 J.v rfl) λz=>I
 | _=>exact λz=>I
end
theorem yD{Q:Option Nat->Shared->Prop}
(O:A.units+10<cLine)(V:RV s.heap U c)(p:c.keyOk=true)(f:s.heap.get? d=some o)(g:o.data=.dict k J)(l:REs w s.heap k.toList z)(L:(z.map (·.1)).Nodup)
(y:(∀(j:Nat) (v:CV),z[j]?≠some (c,v))->Q none s)(Y:∀(j:Nat) (v:CV),z[j]?=some (c,v)->Q (some j) s) :
  wpAny (model prog w) A (dictFind d U (cJ w c)) Q E s:=FC.find ⟨O,V,p,⟨o,J,f,g⟩,l,L,y,Y⟩
end
noncomputable def nm(l:Bz):Str:=⟨⟨l⟩⟩
noncomputable def PL(h:Heap)(a:Addr)(z:Db):Prop:=∃n,h.get? a=some { cls:=.type "list",dict:=none,data:=.seq z n,slots:=#[] }
theorem PL.isList(x:PL h a z):h.IsList a z:=let ⟨n,e⟩:=x;⟨_,e,rfl,n,rfl⟩
noncomputable def Own(h:Heap)(H:CH)(a:Addr):Prop:=
 H.lst a≠none∨H.dct a≠none∨H.cls a≠none∨∃i c o,H.cls i=some c/\h.get? i=some o/\o.dict=some a
noncomputable def kJ(e:DictEntry):Option Str:=match e.key with
 | .str x _=>some x
 | _=>none
noncomputable def uQ(z:D2):Prop:=∀e∈z,∃x t,e.key=.str x t
structure dW(AN:Bi)(h:Heap)(att:Nat->Nat->Option CV)(a:Addr)(es:D2):Prop where
 keys:uQ es
 nd:(es.map kJ).Nodup
 sub:∀e∈es,∃x∈AN,kJ e=some x
 at_:∀n x,AN[n]?=some x->match att n a with
  | some v=>∃e,es.find? (·.key.isStr x)=some e/\RV h e.val v
  | none=>es.find? (·.key.isStr x)=none
noncomputable def fC(o z:Obj):Prop:=z=o∨(o.cls=.type "frame"/\∃Q,z={ o with slots:=Q })
theorem fC.refl(o:Obj):fC o o:=.inl rfl
theorem fC.cls(h:fC o z):z.cls=o.cls:=by
 rcases h with rfl | ⟨_,Q,rfl⟩ <;> rfl
theorem fC.data(h:fC o z):z.data=o.data:=by
 rcases h with rfl | ⟨_,Q,rfl⟩ <;> rfl
theorem fC.trans(x:fC a b)(y:fC b c):fC a c:=by
 rcases y with rfl | ⟨h,z,rfl⟩
 ·exact x
 ·rcases x with rfl | ⟨h',Q,rfl⟩
  ·exact .inr ⟨h,z,rfl⟩
  ·exact .inr ⟨h',z,rfl⟩
theorem fC.symm(x:fC a b):fC b a:=by
 rcases x with rfl | ⟨h,z,rfl⟩
 ·exact .inl rfl
 ·exact .inr ⟨h,a.slots,rfl⟩
theorem fC.eq(h:fC o z)(n:o.cls≠.type "frame"):z=o:=by
 rcases h with h | ⟨h,_⟩
 ·exact h
 ·exact absurd h n
noncomputable def AB(o:Obj):Prop:=o.cls=.type "frame"/\∃z Q,o.data=.dict z Q
theorem AB.same(h:AB o)(q:fC o z):AB z:=⟨q.cls.trans h.1,by erw[q.data];exact h.2⟩
noncomputable def RoR(z h:Heap)(a:Nat)(l:B2):Prop:=∃o Q n,z.get? a=some o/\o.cls=.type "list"/\o.data=.seq Q n/\RVs h Q.toList l/\l.length<=szl
noncomputable def LsR(h:Heap)(a:Nat)(l:B2):Prop:=l.length<=szl/\∃z,PL h a z/\RVs h z.toList l
noncomputable def DcR(w:World)(h:Heap)(a:Nat)(z:At):Prop:=(z.map (·.1)).Nodup/\z.length<=szl/\∃Q,h.get? a=some (dictOf Q Q.length)/\REs w h Q z
noncomputable abbrev Bn:=Addr->Obj->Prop
noncomputable def InR(w:Bi)(y:Bn)(h:Heap)(H:CH)(a c:Nat):Prop:=(c=1/\∃o,h.get? a=some o/\o.cls=.type "set"/\o.dict=none)∨
  ∃z Q n,h.get? a=some (instObj c z)/\(∀o,¬ y z o)/\H.dct z=none/\h.get? z=some (dictOf Q n)/\dW w h H.att a Q
structure av(w:World)(AN:Bi)(os:OsState)(h₀:Heap)(Pr:Bn)(s:Shared)(H:CH):Prop where
 os:s.os=os
 gens:s.gens=#[]
 b3:∀b o,Pr b o->∃o',s.heap.get? b=some o'/\fC o o'
 old:∀b o,h₀.get? b=some o->s.heap.get? b=some o
 base:∀b o,h₀.get? b=some o->Pr b o
 ro:∀a l,H.ro a=some l->RoR h₀ s.heap a l
 lst:∀a l,H.lst a=some l->(∀o,¬ Pr a o)/\LsR s.heap a l
 dct:∀a kvs,H.dct a=some kvs->(∀o,¬ Pr a o)/\DcR w s.heap a kvs
 ins:∀a c,H.cls a=some c->(∀o,¬ Pr a o)/\InR AN Pr s.heap H a c
 one:∀a b c d dx,H.cls a=some c->H.cls b=some d->s.heap.get? a=some (instObj c dx)->s.heap.get? b=some (instObj d dx)->a=b
 att:∀n a,H.att n a≠none->H.cls a≠none
section
variable{w:World}{os:OsState}{Q:Heap}{z:Bn}{H:CH}
theorem av.weaken(R:av w Y os Q Pr s H)(h:∀b o,z b o->∃y,Pr b y/\fC o y)(V:∀b o,Q.get? b=some o->z b o):av w Y os Q z s H where
 os:=R.os
 gens:=R.gens
 b3:=λb o p=>let ⟨y,U,q⟩:=h b o p;let ⟨j,e,J⟩:=R.b3 b y U;⟨j,e,q.trans J⟩
 old:=R.old
 base:=V
 ro:=R.ro
 lst:=λa l e=>let ⟨n,r⟩:=R.lst a l e;⟨λo p=>let ⟨y,U,_⟩:=h a o p;n y U,r⟩
 dct:=λa l e=>let ⟨n,r⟩:=R.dct a l e;⟨λo p=>let ⟨y,U,_⟩:=h a o p;n y U,r⟩
 ins:=λa c e=>by
  obtain⟨n,r⟩:=R.ins a c e
  refine⟨λo p=>let ⟨y,U,_⟩:=h a o p;n y U,?_⟩
  rcases r with r | ⟨v,O,k,f,g,L⟩
  ·exact .inl r
  ·exact .inr ⟨v,O,k,f,λo p=>let ⟨y,U,_⟩:=h v o p;g y U,L⟩
 one:=R.one
 att:=R.att
noncomputable def frz(s:Shared)(H:CH)(b:Addr)(o:Obj):Prop:=s.heap.get? b=some o/\¬ Own s.heap H b
theorem none_of{y:Type}{o:Option y}(h:∀x,o≠some x):o=none:=Option.eq_none_iff_forall_ne_some.mpr h
theorem some_of{y:Type}{o:Option y}(h:o≠none):∃x,o=some x:=Option.ne_none_iff_exists'.mp h
section
variable{c U:Nat}
theorem InR.at(x:InR Y Pr h H a c):∃o,h.get? a=some o/\(o.cls=.type "set"∨∃U,o=instObj c U):=
 x.elim (λy=>y.2.elim λo z=>⟨o,z.1,.inl z.2.1⟩) λy=>y.elim λU y=>y.elim λes y=>y.elim λn y=>⟨_,y.1,.inr ⟨U,rfl⟩⟩
theorem InR.dict(x:InR Y Pr h H a c)(v:h.get? a=some o)(V:o.dict=some b):(∀o,¬ Pr b o)/\∃es n,h.get? b=some (dictOf es n):=
 x.elim (λy=>y.2.elim λk z=>nomatch z.2.2.symm.trans ((ab Obj.dict (al (z.1.symm.trans v))).trans V)) λy=>y.elim λU y=>y.elim λes y=>y.elim λn y=>
  (show U=b from al ((ab Obj.dict (al (y.1.symm.trans v))).trans V))▸⟨y.2.1,es,n,y.2.2.2.1⟩
end
theorem av.fU(R:av w Y os Q Pr s H)(p:Pr b o):¬ Own s.heap H b:=λh=>
 h.elim (λh=>(some_of h).elim λl e=>(R.lst b l e).1 o p) λh=>h.elim (λh=>(some_of h).elim λl e=>(R.dct b l e).1 o p) λh=>h.elim (λh=>(some_of h).elim λl e=>(R.ins b l e).1 o p)
  λh=>h.elim λi h=>h.elim λc h=>h.elim λy h=>((R.ins i c h.1).2.dict h.2.1 h.2.2).1 o p
theorem tB{h:Heap}{b:Nat}(e:h.get? b=some y)(U:h.get? b=some o)(v:y.cls=.type n)(V:n≠"tuple"):o.cls≠.type "tuple":=λq=>V (Value.type.inj (v.symm.trans ((ab Obj.cls (al (e.symm.trans U))).trans q)))
theorem av.Bw(R:av w Y os Q Pr s H)(h:Own s.heap H b):∀o,s.heap.get? b=some o->o.cls≠.type "tuple":=λo U=>
 h.elim (λh=>(some_of h).elim λl e=>(R.lst b l e).2.2.elim λk y=>y.1.elim λn z=>tB z U rfl (by decide)) λh=>h.elim (λh=>(some_of h).elim λl e=>(R.dct b l e).2.2.2.elim λv y=>tB y.1 U rfl (by decide)) λh=>h.elim
  (λh=>(some_of h).elim λc e=>(R.ins b c e).2.at.elim λj y=>y.2.elim (λz=>tB y.1 U z (by decide)) λz=>z.elim λV z=>λq=>nomatch (show Value.ref c=Value.type "tuple" from(ab Obj.cls (al ((z▸y.1:s.heap.get? b=some (instObj c V)).symm.trans U))).trans q))
  λh=>h.elim λi h=>h.elim λc h=>h.elim λJ h=>((R.ins i c h.1).2.dict h.2.1 h.2.2).2.elim λv z=>z.elim λn z=>tB z U rfl (by decide)
theorem av.freeze(R:av w Y os Q Pr s H):av w Y os Q (frz s H) s H where
 os:=R.os
 gens:=R.gens
 b3:=λb o p=>⟨o,p.1,.refl o⟩
 old:=R.old
 base:=λb o e=>⟨R.old b o e,R.fU (R.base b o e)⟩
 ro:=R.ro
 lst:=λa l e=>⟨λo p=>p.2 (.inl (by erw[e];exact cw _)),(R.lst a l e).2⟩
 dct:=λa l e=>⟨λo p=>p.2 (.inr (.inl (by erw[e];exact cw _))),(R.dct a l e).2⟩
 ins:=λa c e=>by
  obtain⟨_,r⟩:=R.ins a c e
  refine⟨λo p=>p.2 (.inr (.inr (.inl (by erw[e];exact cw _)))),?_⟩
  rcases r with r | ⟨U,es,k,y,V,v⟩
  ·exact .inl r
  ·exact .inr ⟨U,es,k,y,λo p=>p.2 (.inr (.inr (.inr ⟨a,c,_,e,y,rfl⟩))),v⟩
 one:=R.one
 att:=R.att
theorem av.eY(R:av w Y os Q Pr s H):∀b o,Pr b o->∃y,frz s H b y/\fC o y:=λb o p=>let ⟨y,e,q⟩:=R.b3 b o p;⟨y,⟨e,R.fU p⟩,q⟩
noncomputable def Keeps(s:Shared)(H:CH)(U:Shared):Prop:=∀b o,s.heap.get? b=some o->¬ Own s.heap H b->∃y,U.heap.get? b=some y/\fC o y
theorem av.keeps(U:av w Y os Q (frz s H) s' y):Keeps s H s':=λb o e n=>U.b3 b o ⟨e,n⟩
theorem av.tk(R:av w Y os Q Pr s H)(k:Keeps s H s'):TK s.heap s'.heap:=by
 rintro a v ⟨o,U,y,r⟩
 obtain⟨V,e,q⟩:=k a o U λh=>R.Bw h o U y
 rw[q.eq (by erw[y];decide)] at e
 exact⟨o,e,y,r⟩
theorem av.cS(R:av w Y os Q Pr s H)(e:H.getL a=some l):∃vs,s.heap.IsList a vs/\RVs s.heap vs.toList l/\l.length<=szl:=by
 unfold CH.getL at e
 cases h:H.lst a with
 | some m=>
  rw[h] at e
  cases e
  obtain⟨_,z,vs,p,q⟩:=R.lst a l h
  exact⟨vs,p.isList,q,z⟩
 | none=>
  rw[h] at e
  obtain⟨o,vs,n,p,c,d,r⟩:=R.ro a l e
  exact⟨vs,⟨o,R.old a o p,c,n,d⟩,r⟩
end
theorem wO:Value.type "dict"≠Value.type "tuple":=by decide
theorem Bx:Value.type "list"≠Value.type "tuple":=by decide
theorem TK.upd{h z:Heap}(Q:h.get? a=some o)(w:o.cls≠.type "tuple")(Y:∀b,b≠a->z.get? b=h.get? b):TK h z:=λb v y=>
 y.elim λU y=>⟨U,(Y b λe=>w ((ab Obj.cls (al (Q.symm.trans (e▸y.1)))).trans y.2.1)).trans y.1,y.2⟩
section
variable{w:World}{os:OsState}{Q:Heap}{z:Bn}{s s':Shared}{H:CH}
theorem dW.mono(t:TK h V)(x:dW Y h U a es):dW Y V U a es:=
 ⟨x.keys,x.nd,x.sub,λn y e=>by
  have z:=x.at_ n y e
  revert z
  cases U n a with
  | none=>exact id
  | some v=>exact λz=>z.elim λk q=>⟨k,q.1,q.2.mono t⟩⟩
theorem TK.of_keep{h U:Heap}(k:∀b o,h.get? b=some o->U.get? b=some o):TK h U:=λv v x=>x.elim λo y=>⟨o,k _ o y.1,y.2⟩
section
variable{h':Heap}{H':CH}{a c U:Nat}
theorem RoR.keep(t:TK h h')(x:RoR Q h a l):RoR Q h' a l:=x.elim λo x=>x.elim λvs x=>x.elim λn x=>⟨o,vs,n,x.1,x.2.1,x.2.2.1,x.2.2.2.1.mono t,x.2.2.2.2⟩
theorem LsR.keep(t:TK h h')(k:∀o,h.get? a=some o->o.cls=.type "list"->h'.get? a=some o)(x:LsR h a l):LsR h' a l:=⟨x.1,x.2.elim λvs y=>⟨vs,y.1.elim λn z=>⟨n,k _ z rfl⟩,y.2.mono t⟩⟩
theorem DcR.keep(t:TK h h')(k:∀o,h.get? a=some o->o.cls=.type "dict"->h'.get? a=some o)(x:DcR w h a v):DcR w h' a v:=⟨x.1,x.2.1,x.2.2.elim λV y=>⟨V,k _ y.1 rfl,y.2.mono t⟩⟩
theorem InR.keep(t:TK h h')(j:∀o,h.get? a=some o->o.cls=.type "set"->h'.get? a=some o)(J:∀U,h.get? a=some (instObj c U)->h'.get? a=some (instObj c U))
(kd:∀U V n,h.get? a=some (instObj c U)->H.dct U=none->h.get? U=some (dictOf V n)->dW Y h' H.att a V->H'.dct U=none/\∃v k,h'.get? U=some (dictOf v k)/\dW Y h' H'.att a v)(x:InR Y Pr h H a c):InR Y Pr h' H' a c:=
 x.imp (λy=>⟨y.1,y.2.elim λo z=>⟨o,j o z.1 z.2.1,z.2⟩⟩) λy=>y.elim λU y=>y.elim λV y=>y.elim λn y=>
  have z:=kd U V n y.1 y.2.2.1 y.2.2.2.1 (y.2.2.2.2.mono t)
  z.2.elim λv q=>q.elim λk q=>⟨U,v,k,J U y.1,y.2.1,z.1,q.1,q.2⟩
theorem InR.stay(t:TK h h')(k:∀b o,h.get? b=some o->h'.get? b=some o)(x:InR Y Pr h H a c):InR Y Pr h' H a c:=
 x.keep t (λo e y=>k a o e) (λU e=>k a _ e) λU v n y V e q=>⟨V,v,n,k U _ e,q⟩
theorem InR.back(x:InR Y Pr h H a c)(k:∀o,h.get? a=some o->h'.get? a=some o)(e:h'.get? a=some (instObj c U)):h.get? a=some (instObj c U):=
 x.at.elim λo y=>(ab some (al ((k o y.1).symm.trans e)))▸y.1
theorem oK{c U:Nat}:(instObj c U).cls≠.type n:=λz=>nomatch z
theorem HT:Value.type "set"≠Value.type "list":=by decide
theorem By:Value.type "set"≠Value.type "dict":=by decide
theorem tC:Value.type "dict"≠Value.type "list":=by decide
end
theorem av.ext(R:av w Y os Q Pr s H)(k:∀b o,s.heap.get? b=some o->s'.heap.get? b=some o)(j:s'.os=s.os)(J:s'.gens=s.gens):av w Y os Q Pr s' H:=
 have t:=TK.of_keep k
 {os:=j.trans R.os
  gens:=J.trans R.gens
  base:=R.base
  b3:=λb o p=>(R.b3 b o p).elim λU y=>⟨U,k b U y.1,y.2⟩
  old:=λb o e=>k b o (R.old b o e)
  ro:=λa l e=>(R.ro a l e).keep t
  lst:=λa l e=>⟨(R.lst a l e).1,(R.lst a l e).2.keep t λo q O=>k a o q⟩
  dct:=λa l e=>⟨(R.dct a l e).1,(R.dct a l e).2.keep t λo q O=>k a o q⟩
  ins:=λa c e=>⟨(R.ins a c e).1,(R.ins a c e).2.stay t k⟩
  one:=λa b c d f v V g L=>R.one a b c d f v V ((R.ins a c v).2.back (k a) g) ((R.ins b d V).2.back (k b) L)
  att:=R.att }
theorem av.toks(R:av w Y os Q Pr s H)(n:Nat):av w Y os Q Pr { s with toks:=n } H:=R.ext (λy y e=>e) rfl rfl
theorem av.oM(R:av w Y os Q Pr s H){U:Heap}(k:∀b o,s.heap.get? b=some o->U.get? b=some o){b:Nat}:Own U H b->Own s.heap H b:=λo=>o.imp id λo=>o.imp id λo=>o.imp id λx=>x.elim λi x=>x.elim λc x=>x.elim λv x=>
 (R.ins i c x.1).2.at.elim λV y=>⟨i,c,v,x.1,(al ((k i V y.1).symm.trans x.2.1))▸y.1,x.2.2⟩
theorem av.ownAt(R:av w Y os Q Pr s H)(h:Own s.heap H b):∃o,s.heap.get? b=some o:=
 h.elim (λh=>(some_of h).elim λl e=>(R.lst b l e).2.2.elim λU y=>y.1.elim λn z=>⟨_,z⟩) λh=>h.elim (λh=>(some_of h).elim λl e=>(R.dct b l e).2.2.2.elim λes y=>⟨_,y.1⟩) λh=>h.elim
  (λh=>(some_of h).elim λc e=>(R.ins b c e).2.at.elim λo y=>⟨o,y.1⟩) λx=>x.elim λi x=>x.elim λc x=>x.elim λv x=>((R.ins i c x.1).2.dict x.2.1 x.2.2).2.elim λes z=>z.elim λn z=>⟨_,z⟩
theorem av.iw(R:av w Y os Q Pr s H)(k:∀b o,s.heap.get? b=some o->s'.heap.get? b=some o){a:Nat}(y:∀o,s.heap.get? a≠some o):¬ Own s'.heap H a:=λh=>(R.ownAt (R.oM k h)).elim y
theorem av.free(R:av w Y os Q Pr s H)(U:∀o,s.heap.get? a≠some o):H.free a:=
 have k:H.cls a=none:=none_of λc e=>(R.ins a c e).2.at.elim λo y=>U o y.1
 {ro:=none_of λl e=>(R.ro a l e).elim λo y=>y.elim λV y=>y.elim λV y=>U o (R.old a o y.1)
  lst:=none_of λl e=>(R.lst a l e).2.2.elim λV y=>y.1.elim λV z=>U _ z
  dct:=none_of λl e=>(R.dct a l e).2.2.2.elim λV y=>U _ y.1
  cls:=k
  att:=λn=>none_of λv e=>R.att n a (λq=>nomatch e.symm.trans q) k }
theorem bI(h:Heap)(o:Obj):h.get? h.objs.size≠some o:=λe=>absurd (fv e) (kv _)
theorem gy{y:Type}(f:Nat->Option y)(a:Nat)(v:y):upd f a v a=some v:=ch rfl
theorem iQ{y:Type}(f:Nat->Option y){a b:Nat}(v:y)(h:b≠a):upd f a v b=f b:=ca h
section
variable(U:∀b,b≠a->s'.heap.get? b=s.heap.get? b)
include U
theorem pB(y:∀o,s.heap.get? a=some o->o.cls=v):∀b o,s.heap.get? b=some o->o.cls≠v->s'.heap.get? b=some o:=λb o e n=>(U b λq=>n (y o (q▸e))).trans e
theorem gn(v:s'.heap.get? a=some o)(V:o.cls=.type n){x:Nat}(e:s'.heap.get? x=some (instObj c y)):s.heap.get? x=some (instObj c y):=(U x λq=>oK ((ab Obj.cls (al (v.symm.trans (q▸e)))).symm.trans V)).symm.trans e
theorem av.aA(R:av w Y os Q Pr s H)(J:PL s'.heap a vs)(f:RVs s'.heap vs.toList l)
(g:l.length<=szl)(V:∀o,¬ Pr a o)(L:∀o,s.heap.get? a=some o->o.cls=.type "list")(T:s'.os=s.os)(C:s'.gens=s.gens):av w Y os Q Pr s' (H.aA a l):=
 have k:=pB U L
 have t:TK s.heap s'.heap:=λb h x=>x.elim λo y=>⟨o,k b o y.1 λz=>absurd (y.2.1.symm.trans z) (by decide),y.2⟩
 {os:=T.trans R.os
  gens:=C.trans R.gens
  base:=R.base
  b3:=λb o p=>(R.b3 b o p).imp λi y=>⟨(U b λq=>V o (q▸p)).trans y.1,y.2⟩
  old:=λb o e=>(U b λq=>V o (q▸R.base b o e)).trans (R.old b o e)
  ro:=λb m e=>(R.ro b m e).keep t
  lst:=λb m e=>by
   by_cases q:b=a
   ·subst q
    exact al ((gy H.lst b l).symm.trans e)▸⟨V,g,vs,J,f⟩
   ·have z:=R.lst b m ((iQ H.lst l q).symm.trans e)
    exact⟨z.1,z.2.keep t λo e B=>(U b q).trans e⟩
  dct:=λb m e=>⟨(R.dct b m e).1,(R.dct b m e).2.keep t λo q z=>k b o q (z▸tC)⟩
  ins:=λb c e=>⟨(R.ins b c e).1,(R.ins b c e).2.keep t (λo q z=>k b o q (z▸HT)) (λv q=>k b _ q oK) λv N n B A q y=>⟨A,N,n,k v _ q tC,y⟩⟩
  one:=λb D c d v E j I M=>J.elim λn O=>R.one b D c d v E j (gn U O rfl I) (gn U O rfl M)
  att:=R.att }
theorem av.G3(R:av w Y os Q Pr s H){es:D2}(J:s'.heap.get? a=some (dictOf es es.length))(l:REs w s'.heap es kvs)
(L:(kvs.map (·.1)).Nodup)(T:kvs.length<=szl)(O:∀o,¬ Pr a o)(j:∀o,s.heap.get? a=some o->o.cls=.type "dict")
(apart:∀b c v es n,H.cls b=some c->s.heap.get? b=some (instObj c v)->H.dct v=none->s.heap.get? v=some (dictOf es n)->v≠a)(C:s'.os=s.os)(B:s'.gens=s.gens):av w Y os Q Pr s' (H.bx a kvs):=
 have k:=pB U j
 have t:TK s.heap s'.heap:=λb I x=>x.elim λo y=>⟨o,k b o y.1 λz=>absurd (y.2.1.symm.trans z) (by decide),y.2⟩
 {os:=C.trans R.os
  gens:=B.trans R.gens
  base:=R.base
  b3:=λb o p=>(R.b3 b o p).imp λM y=>⟨(U b λq=>O o (q▸p)).trans y.1,y.2⟩
  old:=λb o e=>(U b λq=>O o (q▸R.base b o e)).trans (R.old b o e)
  ro:=λb m e=>(R.ro b m e).keep t
  lst:=λb m e=>⟨(R.lst b m e).1,(R.lst b m e).2.keep t λo q z=>k b o q λe=>tC (e.symm.trans z)⟩
  dct:=λb m e=>by
   by_cases q:b=a
   ·subst q
    exact al ((gy H.dct b kvs).symm.trans e)▸⟨O,L,T,es,J,l⟩
   ·have z:=R.dct b m ((iQ H.dct kvs q).symm.trans e)
    exact⟨z.1,z.2.keep t λo e h=>(U b q).trans e⟩
  ins:=λb c e=>⟨(R.ins b c e).1,(R.ins b c e).2.keep t (λo q z=>k b o q (z▸By)) (λv q=>k b _ q oK) λv V n q1 j q y=>
   have g:=apart b c v V n e q1 j q
   ⟨(iQ H.dct kvs g).trans j,V,n,(U v g).trans q,y⟩⟩
  one:=λb N c d v A f D E=>R.one b N c d v A f (gn U J rfl D) (gn U J rfl E)
  att:=R.att }
end
theorem av.bx(R:av w Y os Q Pr s H){es:D2}(v:∀b,b≠a->s'.heap.get? b=s.heap.get? b)(V:s'.heap.get? a=some (dictOf es es.length))(k:REs w s'.heap es y)
(j:(y.map (·.1)).Nodup)(J:y.length<=szl)(O:∀o,¬ Pr a o)(U:(∀o,s.heap.get? a≠some o)∨H.dct a≠none)(p:s'.os=s.os)(f:s'.gens=s.gens):av w Y os Q Pr s' (H.bx a y):=by
 refine av.G3 v R V k j J O (λo e=>?_) (λb c x es n g g l L q=>?_) p f
 ·rcases U with h | h
  ·exact absurd e (h o)
  ·cases q:H.dct a with
   | none=>exact absurd q h
   | some m=>obtain⟨_,_,_,t,T,_⟩:=R.dct a m q;rw[T] at e;cases e;rfl
 ·subst q
  rcases U with h | h
  ·exact h _ L
  ·exact h l
end
theorem kj{Q:Type}[DecidableEq Q]:∀{l m:List Q},l.Nodup->(∀x∈l,x∈m)->l.length<=m.length
 | [],_,_,_=>dd _
 | x::l,m,z,w=>by
  rw[ei] at z
  have Y:=w x (.head _)
  have:=kj (l:=l) (m:=m.erase x) z.2 λy U=>(mem_erase_of_ne (λ(e:y=x)=>z.1 (by erw[ip e];exact U))).mpr (w y (.tail _ U))
  rw[length_erase_of_mem Y] at this
  have:0<m.length:=length_pos_of_mem Y
  simp only[ik]
  lia
theorem pC{e:DictEntry}:e.key.isStr x=true↔kJ e=some x:=by
 unfold kJ
 cases e.key with
 | str y t=>exact ey.trans ⟨ab some,al⟩
 | _=>exact⟨λh=>ff h,λh=>nos h⟩
theorem yE(k:uQ z):z.any (·.refKey)=false:=any_eq_false.mpr λe Q=>(k e Q).elim λy q=>q.elim λt q=>by
 unfold DictEntry.refKey
 erw[q];exact c6
section
variable{z:Program}{w:World}{s:Shared}{K:Frag}
theorem E4(k:uQ y)(x:Str):getL x y=some ((y.find? (·.key.isStr x)).map (·.val)):=by
 unfold getL
 cases h:y.find? (·.key.isStr x) with
 | some e=>rfl
 | none=>exact ca (yE k▸c6)
noncomputable abbrev Do:=Unit->Shared->Prop
theorem HU{Q:Do}(X:K.In s.heap)(O:s.heap.get? x=some (instObj C j))(k:s.heap.get? j=some (dictOf V n))(f:uQ V)
(g:findIn K (.ref C) "__setattr__"=some (some (.builtin "object.__setattr__")))(l:plainOver K C=true)(L:takerIn K C y=some none)(t:hasDictIn K C=true)(T:(putL y (PyData.keyHash w.params y) (.str y (s.toks+1)) v V).length<=1000)
(h:∀J:Heap,(∀b,b≠j->J.get? b=s.heap.get? b)->J.get? j=some (dictOf (putL y (PyData.keyHash w.params y) (.str y (s.toks+1)) v V) (putN y V n))->Q () { s with heap:=J,toks:=s.toks+2 }) :
  wpAny (model z w) A (setAttr (.ref x) y v) Q E s:=by
 have I:InstAt s.heap x (instObj C j) C (some (dictOf V n)):=⟨O,rfl,rfl,k⟩
 refine set_plain X I g (osa_open (s:={ s with toks:=s.toks+1 }) X I l L λb=>?_)
 obtain⟨a,B,o⟩:=any_some t
 have e:=putName_dict y (PyData.keyHash w.params y) (.str y (s.toks+1)) v V n
 have p:(s.heap.update j (Obj.putName y (PyData.keyHash w.params y) (.str y (s.toks+1)) v)).get? j=some (dictOf (putL y (PyData.keyHash w.params y) (.str y (s.toks+1)) v V) (putN y V n)):=by
  rw[fp _ k (by erw[e];rfl),e]
 refine ag (bj (ag (ag (wpAny_loadPart O (ag ((looks_clsIn X B).here (s:={ s with toks:=s.toks+1 }) ?_))))))
 erw[o]
 refine bj (a:=some j) (ag (bj (ag ?_)))
 unfold nsSet
 refine ag (ag (wpAny_askSetting (bj (ag (wpAny_mkText (ag (wpAny_loadPart k ?_)))))))
 have c:(!V.toArray.any (·.key.isStr y)&&V.toArray.any (·.refKey))=false:=by
  (erw[ip Array.any_toList];erw[ip Array.any_toList];erw[toList_toArray];erw[yE f];exact Eq.substr (Bool.and_false _) rfl)
 dsimp only
 (erw[aRefKeyMayBeTheName_at _ _];erw[c])
 refine wpAny_updatePart k ?_
 refine ag (wpAny_lookBehind p (pastItsLine_dict (by(erw[size_toArray];erw[sizeLine_eq]);exact ae T (by decide))) ?_)
 exact bj (h _ (λb N=>hJ _ _ (en N)) p)
theorem pD(x:Str)(t:Tok):(Value.str x t).isStr x=true:=mi x
section
theorem AD(k:D2):(putL x V (.str x t) v k).map kJ=if k.any (·.key.isStr x) then k.map kJ else k.map kJ++[some x]:=by
 induction k with
 | nil=>rfl
 | cons e r j=>
  show List.map kJ (if e.key.isStr x=true then⟨e.hash,e.key,v⟩::r else e::putL x V (.str x t) v r)=if (e.key.isStr x||r.any (·.key.isStr x))=true then kJ e::r.map kJ else kJ e::(r.map kJ++[some x])
  cases e.key.isStr x with
  | true=>rfl
  | false=>
   refine(ab (kJ e::·) j).trans ?_
   cases r.any (·.key.isStr x) <;> rfl
theorem uR{e:DictEntry}(k:D2):e∈putL x V (.str x t) v k->kJ e=some x∨e∈k:=by
 induction k with
 | nil=>exact λh=>.inl (bc.mp h▸rfl)
 | cons d r j=>
  show e∈(if d.key.isStr x=true then⟨d.hash,d.key,v⟩::r else d::putL x V (.str x t) v r)->_
  by_cases q:d.key.isStr x=true
  ·erw[ch q]
   exact λh=>(bt.mp h).elim (λh=>.inl (h▸pC.mp q)) λh=>.inr (.tail _ h)
  ·erw[ca q]
   exact λh=>(bt.mp h).elim (λh=>.inr (h▸aM)) λh=>(j h).imp id (.tail _)
theorem pG(k:D2):∃e,(putL x V (.str x t) v k).find? (·.key.isStr x)=some e/\e.val=v:=by
 induction k with
 | nil=>exact⟨⟨V,.str x t,v⟩,by rw[putL,find?_cons,pD],rfl⟩
 | cons d r j=>
  show ∃e,find? _ (if d.key.isStr x=true then⟨d.hash,d.key,v⟩::r else d::putL x V (.str x t) v r)=some e/\e.val=v
  cases q:d.key.isStr x with
  | true=>exact⟨⟨d.hash,d.key,v⟩,(find?_cons_of_pos (by exact q)),rfl⟩
  | false=>exact j.elim λe y=>⟨e,(find?_cons_of_neg (by erw[q];exact c6)).trans y.1,y.2⟩
theorem uS{v:Value}(h:v.isStr x=true)(n:y≠x):v.isStr y=false:=by
 cases v with
 | str z t=>exact lw.mpr λe=>n (e.symm.trans (ey.mp h))
 | _=>rfl
theorem ou(n:y≠x)(k:D2):(putL x V (.str x t) v k).find? (·.key.isStr y)=k.find? (·.key.isStr y):=by
 induction k with
 | nil=>exact find?_cons_of_neg (by erw[uS (pD x t) n];exact c6)
 | cons d r j=>
  show find? _ (if d.key.isStr x=true then⟨d.hash,d.key,v⟩::r else d::putL x V (.str x t) v r)=_
  by_cases q:d.key.isStr x=true
  ·rw[ch q,find?_cons,find?_cons,uS q n]
  ·rw[ca q,find?_cons,find?_cons,j]
end
variable{os:OsState}{Q:Heap}{U:Bn}{s':Shared}{H:CH}
theorem dW.few(x:dW Y h v a V):V.length<=Y.length:=by
 have:=kj (m:=Y.map some) x.nd λy k=>by
  obtain⟨e,j,rfl⟩:=bo.mp k
  obtain⟨z,J,q⟩:=x.sub e j
  erw[q];exact bo.mpr ⟨z,J,rfl⟩
 simpa using this
theorem dW.put{V:Nat->Nat->Option CV}(q:dW Y f o a j)(g:Y.Nodup){n:Nat}(l:Y[n]?=some x)
(b:RV f v c)(e1:V n a=some c)(e2:∀k,k≠n->V k a=o k a):dW Y f V a (putL x L (.str x C) v j) where
 keys:=λe O=>(uR j O).elim (λz=>by
  unfold kJ at z
  revert z
  cases e.key with
  | str y t=>exact λD=>⟨y,t,rfl⟩
  | _=>exact λz=>nos z) (q.keys e)
 nd:=by
  erw[AD _]
  by_cases T:j.any (·.key.isStr x)=true
  ·erw[ch T];exact q.nd
  ·erw[ca T]
   refine kO.mpr ⟨q.nd,ei.mpr ⟨cp,dt⟩,λy J z B e=>T ?_⟩
   obtain⟨N,O,p⟩:=bo.mp J
   exact any_eq_true.mpr ⟨N,O,pC.mpr (p.trans (e.trans (bc.mp B)))⟩
 sub:=λe O=>(uR j O).elim (λz=>⟨x,be l,z⟩) (q.sub e)
 at_:=λk y J=>by
  by_cases p:k=n
  ·subst p
   obtain rfl:x=y:=al (l.symm.trans J)
   erw[e1]
   exact(pG j).elim λe z=>⟨e,z.1,z.2.symm▸b⟩
  ·rw[e2 k p,ou λe:y=x=>p ((getElem?_inj (a6.mp J).1 g).mp (J.trans ((ab some e).trans l.symm)))]
   exact q.at_ k y J
theorem dW.same{v:Nat->Nat->Option CV}(q:dW Y h V a j)(e:∀k,v k a=V k a):dW Y h v a j:=
 ⟨q.keys,q.nd,q.sub,λk y J=>by erw[e k];exact q.at_ k y J⟩
theorem E5:(H.bH n a cv).att n a=some cv:=(congrFun (ch rfl:(H.bH n a cv).att n=upd (H.att n) a cv) a).trans (gy _ _ _)
theorem BA{n k b:Nat}(h:k≠n):(H.bH n a cv).att k b=H.att k b:=congrFun (ca h) b
theorem BB{a b:Nat}(h:b≠a):(H.bH n a cv).att k b=H.att k b:=by
 by_cases e:k=n
 ·subst e;exact(congrFun (ch rfl:(H.bH k a cv).att k=upd (H.att k) a cv) b).trans (iQ _ _ h)
 ·exact BA e
theorem av.bH(R:av w Y os Q U s H)(T:Y.Nodup){a:Nat}(C:H.cls a=some c)(O:s.heap.get? a=some (instObj c V))(f:s.heap.get? V=some (dictOf l m))
(J:∀b,b≠V->s'.heap.get? b=s.heap.get? b){n:Nat}(P:Y[n]?=some x){tk:Tok}(N:s'.heap.get? V=some (dictOf (putL x B (.str x tk) v l) (putN x l m)))
(S:RV s.heap v cv)(W:s'.os=s.os)(X:s'.gens=s.gens):av w Y os Q U s' (H.bH n a cv):=by
 have i:=(R.ins a c C).2
 have q2:=(i.dict O rfl).1
 have Z:H.dct V=none:=i.elim (λy=>y.2.elim λo z=>nomatch z.2.1.symm.trans (ab Obj.cls (al (z.1.symm.trans O)))) λy=>y.elim λD y=>y.elim λA y=>y.elim λm' y=>
  (show D=V from al (ab Obj.dict (al (y.1.symm.trans O))))▸y.2.2.1
 have E:∀o,s.heap.get? V=some o->o.cls=.type "dict":=λo e=>al (f.symm.trans e)▸rfl
 have k:=pB J E
 have t:TK s.heap s'.heap:=λb us x=>x.elim λo y=>⟨o,k b o y.1 λz=>absurd (y.2.1.symm.trans z) (by decide),y.2⟩
 exact{
  os:=W.trans R.os
  gens:=X.trans R.gens
  base:=R.base
  b3:=λb o p=>(R.b3 b o p).imp λo' y=>⟨(J b λq=>q2 o (q▸p)).trans y.1,y.2⟩
  old:=λb o e=>(J b λq=>q2 o (q▸R.base b o e)).trans (R.old b o e)
  ro:=λb m e=>(R.ro b m e).keep t
  lst:=λb m e=>⟨(R.lst b m e).1,(R.lst b m e).2.keep t λo q z=>k b o q λe=>tC (e.symm.trans z)⟩
  dct:=λb m e=>⟨(R.dct b m e).1,(R.dct b m e).2.keep t λo q ζ=>(J b λz:b=V=>nos (Z.symm.trans (z▸(e:H.dct b=some m)))).trans q⟩
  ins:=λb d e=>⟨(R.ins b d e).1,(R.ins b d e).2.keep (H:=H) (H':=H.bH n a cv) t (λo q z=>k b o q (z▸By)) (λV q=>k b _ q oK) λI g m2 L h3 r F=>⟨h3,by
   by_cases j:b=a
   ·subst j
    obtain rfl:I=V:=al (ab Obj.dict (al (L.symm.trans O)))
    have z:=Data.dict.inj (ab Obj.data (al (r.symm.trans f)))
    obtain rfl:g=l:=ab Array.toList z.1
    exact⟨_,_,N,F.put T P (S.mono t) E5 λk h=>BA h⟩
   ·exact⟨g,m2,(J I λq=>j (R.one b a d c I e C L (q▸O))).trans r,F.same λk=>BB j⟩⟩⟩
  one:=λb b' c d dz j M L h2=>R.one b b' c d dz j M (gn J N rfl L) (gn J N rfl h2)
  att:=λk b e=>by
   by_cases j:b=a
   ·exact λz=>nos ((j▸(z:H.cls b=none):H.cls a=none).symm.trans C)
   ·exact R.att k b (BB (H:=H) (n:=n) (cv:=cv) j▸e) }
theorem av.M1(R:av w Y os Q U s H){x J:Nat}(k:∀b o,s.heap.get? b=some o->s'.heap.get? b=some o)(i:∀o,s.heap.get? x≠some o)(L:∀o,s.heap.get? J≠some o)
(t:s'.heap.get? x=some (instObj c J))(T:s'.heap.get? J=some (dictOf [] 0))(S:s'.os=s.os)(W:s'.gens=s.gens):av w Y os Q U s' (H.setC x c):=by
 have V:=R.ext k S W
 have X:=R.free i
 have fd:=R.free L
 have C:∀o,¬ U x o:=λo p=>let ⟨B,e,_⟩:=R.b3 x o p;i B e
 have N:∀o,¬ U J o:=λo p=>let ⟨B,e,_⟩:=R.b3 J o p;L B e
 have j:∀b d,(H.setC x c).cls b=some d->(b=x/\d=c)∨(b≠x/\H.cls b=some d):=λb d e=>by
  by_cases q:b=x
  ·subst q
   exact .inl ⟨rfl,by simpa [CH.setC,upd] using e.symm⟩
  ·exact .inr ⟨q,by simpa [CH.setC,upd,q] using e⟩
 exact{
  os:=V.os
  gens:=V.gens
  base:=R.base
  b3:=V.b3
  old:=V.old
  ro:=V.ro
  lst:=V.lst
  dct:=V.dct
  ins:=λb d e=>by
   rcases j b d e with⟨rfl,rfl⟩ | ⟨r,e⟩
   ·exact⟨C,.inr ⟨J,[],0,t,N,fd.dct,T,⟨(λF h=>(nomatch h)),dt,(λF h=>(nomatch h)),λn y F=>by
     show match H.att n b with | some v=>_ | none=>_
     erw[X.att n];rfl⟩⟩⟩
   ·exact V.ins b d e
  one:=λb O d a Z r D f g=>by
   rcases j b d r with⟨rfl,rfl⟩ | ⟨nb,P⟩ <;> rcases j O a D with⟨rfl,rfl⟩ | ⟨z,l⟩
   ·rfl
   ·exfalso
    rw[t] at f;cases f
    obtain⟨_,⟨_,o,q1,q2,_⟩ | ⟨I,M,A,q1,q2,E,m,q5⟩⟩:=R.ins O a l
    ·have:=k O _ q1;rw[g] at this;cases this;cases q2
    ·have:=k O _ q1;rw[g] at this;cases this;exact L _ m
   ·exfalso
    rw[t] at g;cases g
    obtain⟨_,⟨_,o,q1,q2,_⟩ | ⟨I,M,A,q1,q2,E,m,q5⟩⟩:=R.ins b d P
    ·have:=k b _ q1;rw[f] at this;cases this;cases q2
    ·have:=k b _ q1;rw[f] at this;cases this;exact L _ m
   ·exact V.one b O d a Z P l f g
  att:=λn b e=>by
   by_cases q:b=x
   ·subst q;show upd H.cls b c b≠none;rw[gy];exact cw _
   ·show upd H.cls x c b≠none
    erw[iQ _ _ q];exact R.att n b e }
theorem av.M5(R:av w Y os Q U s H){x:Nat}(k:∀b o,s.heap.get? b=some o->s'.heap.get? b=some o)(C:∀o,s.heap.get? x≠some o)
(f:s'.heap.get? x=some o)(g:o.cls=.type "set")(B:o.dict=none)(N:s'.os=s.os)(a:s'.gens=s.gens):av w Y os Q U s' (H.setC x 1):=by
 have y:=R.ext k N a
 have O:∀o,¬ U x o:=λo p=>let ⟨D,e,_⟩:=R.b3 x o p;C D e
 have v:∀b d,(H.setC x 1).cls b=some d->(b=x/\d=1)∨(b≠x/\H.cls b=some d):=λb d e=>by
  by_cases q:b=x
  ·subst q
   exact .inl ⟨rfl,by simpa [CH.setC,upd] using e.symm⟩
  ·exact .inr ⟨q,by simpa [CH.setC,upd,q] using e⟩
 have l:∀d j,s'.heap.get? x≠some (instObj d j):=λd j e=>by rw[f] at e;cases e;cases g
 exact{
  os:=y.os
  gens:=y.gens
  base:=R.base
  b3:=y.b3
  old:=y.old
  ro:=y.ro
  lst:=y.lst
  dct:=y.dct
  ins:=λb d e=>by
   rcases v b d e with⟨rfl,rfl⟩ | ⟨J,e⟩
   ·exact⟨O,.inl ⟨rfl,o,f,g,B⟩⟩
   ·exact y.ins b d e
  one:=λb L d t j J V T c=>by
   rcases v b d J with⟨rfl,rfl⟩ | ⟨M,J⟩
   ·exact absurd T (l _ _)
   ·rcases v L t V with⟨rfl,rfl⟩ | ⟨I,V⟩
    ·exact absurd c (l _ _)
    ·exact y.one b L d t j J V T c
  att:=λn b e=>by
   by_cases q:b=x
   ·subst q;show upd H.cls b 1 b≠none;rw[gy];exact cw _
   ·show upd H.cls x 1 b≠none
    erw[iQ _ _ q];exact R.att n b e }
noncomputable def AtV(h:Heap)(o:Option CV)(r:Option Value):Prop:=match o with
 | some c=>∃v,r=some v/\RV h v c
 | none=>r=none
theorem AtV.mono(t:TK h V)(x:AtV h o r):AtV V o r:=by
 cases o with
 | none=>exact x
 | some c=>exact x.elim λv y=>⟨v,y.1,y.2.mono t⟩
noncomputable abbrev AT:=List (Str×Nat)
structure mY(env:Env)(vm:AT)(h:Heap)(L:E1):Prop where
 kind:env.scope.kind=.function
 glob:env.globals=mainGlobals
 bi:env.builtins=builtinsNs
 ns:∃m,h.Ns env.locals m/\∀x i,(x,i)∈vm->env.kindOf x=some .local->AtV h (L i) (m x)
 cell:∀x i,(x,i)∈vm->(env.kindOf x=some .cell∨env.kindOf x=some .free)->∃a r,env.cells.lookup x=some a/\h.IsCell a r/\AtV h (L i) r
end
structure Og(K:Frag)(h₀:Heap)(mg mb:Str->Option Value):Prop where
 X:K.In h₀
 g:h₀.Ns mainGlobals mg
 b:h₀.Ns builtinsNs mb
 nolimit:h₀.NoLimit
 builtins:∀x:Str,x≠"__name__"->mb x=bootBuiltins x
noncomputable def aE:Exc->String
 | .key=>"KeyError"
 | .index=>"IndexError"
noncomputable def ExcAt(h:Heap)(H:CH)(Q:Bn)(e:Value)(q:Exc):Prop:=∃a z t,e=.ref a/\(∀o,¬ Q a o)/\h.get? a=some z/\z.cls=.type (aE q)/\z.data=.fields #[t,.none,.none,.none,.bool false,.none]/\¬ Own h H a
structure G where
 prog:Program
 w:World
 K:Frag
 AN:List Str
 nA:Nat
 os:OsState
 h₀:Heap
 mg:Str->Option Value
 mb:Str->Option Value
 n:Nat
 hd:Bool
 Φ:PT
 M:MT
 fs:List Env
noncomputable def G.fr(g:G)(fs:List Env):G:={ g with fs:=fs }
noncomputable def G.uh(g:G)(b:Bool):G:={ g with hd:=b }
noncomputable def G.dn(g:G)(n:Nat)(Φ:PT)(fs:List Env):G:={ g with n:=n,hd:=true,Φ:=Φ,fs:=fs }
structure OKA(g:G)(A:Around):Prop where
 handled:g.hd=true->A.handled=none
 units:A.units+200 * g.n+150<cLine
 depth:A.depth+10 * g.n+10<recursionLimit
 guards:A.guards=some []
 frames:A.frames=some g.fs
noncomputable def Fls(g:G)(Pr:Bn):Prop:=∀b∈g.fs.filterMap (·.frame),∃o,Pr b o/\AB o
noncomputable def aK(env:Env)(vm:AT)(b:Addr):Prop:=b=env.locals∨∃x i,(x,i)∈vm/\(env.kindOf x=some .cell∨env.kindOf x=some .free)/\env.cells.lookup x=some b
structure Rep(g:G)(Pr:Bn)(env:Env)(vm:AT)(s:Shared)(st:St):Prop where
 H:av g.w g.AN g.os g.h₀ Pr s st.H
 L:mY env vm s.heap st.L
 fr:∀b,aK env vm b->∃o,Pr b o
 ofr:Fls g Pr
theorem mY.ext{Y:Heap}(R:mY env w h L)(k:∀b o,h.get? b=some o->Y.get? b=some o):mY env w Y L where
 kind:=R.kind
 glob:=R.glob
 bi:=R.bi
 ns:=R.ns.elim λm y=>⟨m,y.1.keeps k,λx i z Q=>(y.2 x i z Q).mono (TK.of_keep k)⟩
 cell:=λx i z Q=>(R.cell x i z Q).elim λa y=>y.elim λr y=>⟨a,r,y.1,y.2.1.keeps k,y.2.2.mono (TK.of_keep k)⟩
section
variable{g:G}{w:AT}
noncomputable abbrev D1:=Exc->St->Prop
variable(g) in
noncomputable def EOk(A:Around)(z:Bn)(env:Env)(w:AT)(X:D1)(E:AC):Prop:=
 ∀q st',X q st'->A.handled=none/\∀e s',ExcAt s'.heap st'.H z e q->Rep g z env w s' st'->E e s'
variable(g) in
noncomputable def POk(Y:Bn)(env:Env)(w:AT)(Q:Da)(P:AC):Prop:=
 ∀v c y z,RV y.heap v c->Rep g Y env w y z->Q c z->P v y
variable(g) in
noncomputable def ES(env:Env)(w:AT)(y:CE)(t:Sem Value):Prop:=
 ∀(A:Around) (z:Bn) (s:Shared) (st:St) (Q:Da) (X:D1) (P:AC) (E:AC),OKA g A->Rep g z env w s st->wpE g.Φ g.M y st Q X->
  POk g z env w Q P->EOk g A z env w X E->wpAny (model g.prog g.w) A t P E s
variable(g) in
noncomputable def TS(env:Env)(w:AT)(U:CE)(t:Sem Bool):Prop:=
 ∀(A:Around) (y:Bn) (s:Shared) (st:St) (Q:Da) (X:D1) (P:Dx) (E:AC),OKA g A->Rep g y env w s st->
  wpE g.Φ g.M U st Q X->
  (∀c Y z,Rep g y env w Y z->Q c z->∃b,truth z.H c=some b/\P b Y)->
  EOk g A y env w X E->wpAny (model g.prog g.w) A t P E s
theorem Fls.freeze{H:CH}(F:Fls g Y)(R:av g.w g.AN g.os g.h₀ Y s H):Fls g (frz s H):=λb U=>
 let ⟨o,p,q⟩:=F b U;let ⟨z,Q,y⟩:=R.eY b o p;⟨z,Q,q.same y⟩
theorem Rep.freeze{st:St}(R:Rep g y env w s st):Rep g (frz s st.H) env w s st:=⟨R.H.freeze,R.L,λb Y=>let ⟨o,p⟩:=R.fr b Y;let ⟨z,Q,_⟩:=R.H.eY b o p;⟨z,Q⟩,R.ofr.freeze R.H⟩
theorem ExcAt.dX{H:CH}{q:Exc}(x:ExcAt h H (frz s z) e q)(R:av g.w g.AN g.os g.h₀ Y s z):ExcAt h H Y e q:=
 let ⟨a,U,t,v,V,k⟩:=x;⟨a,U,t,v,λo p=>let ⟨Q,y,_⟩:=R.eY a o p;V Q y,k⟩
theorem Rep.dX{st:St}(R:Rep g Q env w s st)(y:Rep g (frz s st.H) env w s' z):Rep g Q env w s' z:=
 ⟨y.H.weaken R.H.eY R.H.base,y.L,R.fr,R.ofr⟩
theorem Rep.toks{st:St}(R:Rep g z env w s st)(k:Nat):Rep g z env w { s with toks:=k } st:=⟨R.H.toks k,R.L.ext λQ Q e=>e,R.fr,R.ofr⟩
theorem mY.keep{env:Env}{w:AT}{h':Heap}(R:mY env w h L)(k:∀b o,aK env w b->h.get? b=some o->∃y,h'.get? b=some y/\fC o y)(t:TK h h'):mY env w h' L where
 kind:=R.kind
 glob:=R.glob
 bi:=R.bi
 ns:=by
  obtain⟨m,⟨o,J,O,v,p,r⟩,q⟩:=R.ns
  obtain⟨y,Q,V⟩:=k _ o (.inl rfl) v
  exact⟨m,⟨y,J,O,Q,V.data.trans p,r⟩,λx i Y U=>(q x i Y U).mono t⟩
 cell:=λx i Y U=>by
  obtain⟨a,r,j,⟨o,v,z⟩,q⟩:=R.cell x i Y U
  obtain⟨y,Q,V⟩:=k a o (.inr ⟨x,i,Y,U,j⟩) v
  exact⟨a,r,j,⟨y,Q,V.data.trans z⟩,q.mono t⟩
theorem av.same{w:World}{os:OsState}{H:CH}(R:av w j os Q V s H)(f:av w j os Q V J H')(p:V b k)(e:s.heap.get? b=some o):∃z,J.heap.get? b=some z/\fC o z:=by
 obtain⟨O,y,Y⟩:=R.b3 b k p
 rw[e] at y;cases y
 obtain⟨z,U,v⟩:=f.b3 b k p
 exact⟨z,U,Y.symm.trans v⟩
theorem Rep.of{st:St}(R:Rep g z env w s st)(y:av g.w g.AN g.os g.h₀ z s' Q)(t:TK s.heap s'.heap):Rep g z env w s' { st with H:=Q }:=
 ⟨y,R.L.keep (λb o hb e=>by
  obtain⟨Y,p⟩:=R.fr b hb
  exact R.H.same y p e) t,R.fr,R.ofr⟩
theorem ES.run(h:ES g env w V t){st:St}{P:AC}{E:AC}
(j:OKA g A)(R:Rep g Y env w s st)(J:wpE g.Φ g.M V st Q X)
(o:∀v c s' z,RV s'.heap v c->Rep g Y env w s' z->Keeps s st.H s'->TK s.heap s'.heap->Q c z->P v s')
(k:∀q z,X q z->A.handled=none/\∀e s',ExcAt s'.heap z.H Y e q->Rep g Y env w s' z->E e s'):wpAny (model g.prog g.w) A t P E s:=
 h A (frz s st.H) s st Q X P E j R.freeze J (λv c s' z O y U=>o v c s' z O (R.dX y) y.H.keeps (R.H.tk y.H.keeps) U)
  λq z U=>⟨(k q z U).1,λe s' p y=>(k q z U).2 e s' (p.dX R.H) (R.dX y)⟩
end
inductive tD(K:Frag)(C:Nat)(x:Str):Option CV->Prop
 | int {i:Int} {t:Tok}:findIn K (.ref C) x=some (some (.int i t))->tD K C x (some (.int i))
 | no {attr:Option Value}:findIn K (.ref C) x=some attr->noGet K attr=true->tD K C x none
theorem tD.any{K:Frag}:∀{r:Option CV},tD K C x r->∃z,findIn K (.ref C) x=some z/\noGet K z=true
 | _,.int h=>⟨_,h,rfl⟩
 | _,.no h k=>⟨_,h,k⟩
structure HV(K:Frag)(AN:Bi)(nA:Nat)(C:Nat):Prop where
 sa:findIn K (.ref C) "__setattr__"=some (some (.builtin "object.__setattr__"))
 ga:findIn K (.ref C) "__getattribute__"=some (some (.builtin "object.__getattribute__"))
 gt:findIn K (.ref C) "__getattr__"=some none
 po:plainOver K C=true
 hd:hasDictIn K C=true
 bool:findIn K (.ref C) "__bool__"=some none
 make:makesIn K C=true
 init:findIn K (.ref C) "__init__"=some (some (.ref (iO C)))
 G4:typeIn K (.ref (iO C))=some (.type "function")
 keep:keepIn K (.ref C)=true
 att:∀n x,AN[n]?=some x->n<nA->takerIn K C x=some none/\copiedNames.contains x=false/\tD K C x (gq C n)
structure Tab(K:Frag)(AN:Bi)(nA:Nat)(M:MT)(h₀:Heap):Prop where
 nd:AN.Nodup
 few:AN.length<=900
 cls:∀C,bu C=true->HV K AN nA C
 len:∀C,b8 C=true->findIn K (.ref C) "__len__"=some none
 wQ:∀C m f,M C m=some f->∃x,AN[m]?=some x/\findIn K (.ref C) x=some (some (.ref f))/\typeIn K (.ref f)=some (.type "function")
 J4:∃o,h₀.get? sysModules=some o
theorem rV{C:Nat}(h:b8 C=true):bu C=true:=by
 unfold b8 at h;unfold bu
 simp only[Bool.or_eq_true,ey] at h ⊢
 rcases h with h | h <;> simp[h]
section
variable{z:Program}{w:World}{s:Shared}{K:Frag}{os:OsState}{U:Bn}{H:CH}
theorem av.inK(R:av w Y os y U s H)(X:K.In y):K.In s.heap:=X.keeps R.old
theorem av.inst(R:av w Y os y U s H){a:Nat}(k:H.cls a=some c)(j:bu c=true):(∀o,¬ U a o)/\∃Q v n,s.heap.get? a=some (instObj c Q)/\(∀o,¬ U Q o)/\H.dct Q=none/\s.heap.get? Q=some (dictOf v n)/\dW Y s.heap H.att a v:=by
 obtain⟨J,⟨rfl,_⟩ | r⟩:=R.ins a c k
 ·exact absurd j (by decide)
 ·exact⟨J,r⟩
theorem av.noSys(R:av w Y os y U s H)(T:Tab K Y V M y)(h:∀o,¬ U a o):(a==sysModules)=false:=by
 refine lw.mpr λe=>?_
 obtain⟨o,Q⟩:=T.J4
 exact h o (e▸R.base _ o Q)
theorem rL(j:(d==sysModules)=false)(J:s.heap.get? d=some (dictOf k n)){R:AC}(h:R (.int k.length s.toks) { s with toks:=s.toks+1 }) :
  wpAny (model z w) A (Builtin.«dict.__len__» ⟨[.ref d],[]⟩) (λQ o=>∃v,Q=Fin.done (Flow.ret v)/\R v o) E s:=by
 show wpAny _ _ (dictSize d >>= _) _ _ s
 unfold dictSize
 refine ag (ag (wpAny_dictEntries J rfl (bj ?_)))
 show wpAny _ _ (Builtin.Dict.pendingCount d >>= _) _ _ s
 refine ag (wpAny_pendingCount_other j ?_)
 refine ag (wpAny_mkInt (bj ⟨_,rfl,?_⟩))
 (erw[Nat.add_zero _];erw[size_toArray]);exact h
theorem kr(O:(d==sysModules)=false)(j:s.heap.get? d=some (dictOf v n))(J:v.length<=szl){Q:AC}(h:Q (.int v.length (s.toks+1)) { s with toks:=s.toks+1+1 }) :
  wpAny (model z w) A (Builtin.«len» ⟨[.ref d],[]⟩) (λk p=>∃r,k=.done (.ret r)/\Q r p) E s:=by
 have o:s.TypeIs (.ref d) "dict":=⟨_,j,rfl⟩
 unfold szl at J
 unfold Builtin.«len»
 refine ag (m:=oneArg "len" _) (bj ?_)
 refine ag (m:=callSpecial? (.ref d) (ofString "__len__")) (ke (name:=ofString "__len__") o F.slot_dict_len
  (ib F.slot_dict_len o F.entry_dict_len (rL O j ?_) (F.args_dict_len_1 _)))
 show wpAny _ _ _ _ _ { s with toks:=s.toks+1 }
 refine ag (eA (bj ?_))
 refine ag (wpAny_letGo ?_)
 show wpAny _ _ (if ((v.length:Nat):Int)<0 then _ else _) _ _ _
 erw[ca (Int.not_lt.mpr (hO _))]
 show wpAny _ _ (if ((v.length:Nat):Int)≥2 ^ 63 then _ else _) _ _ _
 erw[ca (Int.not_le.mpr (Int.lt_of_le_of_lt (Int.ofNat_le.mpr J) (by decide)))]
 exact ag (wpAny_mkInt (bj ⟨_,rfl,h⟩))
theorem wR(k:(d==sysModules)=false)(j:s.heap.get? d=some (dictOf v n))(J:v.length<=szl){Q:AC}(h:Q (.int v.length (s.toks+1)) { s with toks:=s.toks+1+1 }) :
  wpAny (model z w) A (call (.builtin "len") [.ref d]) Q E s:=
 call_function_entry kind_len plain_len entry_len (args_len1 _) (kr k j J h)
theorem BC(l:(d==sysModules)=false)(g:s.heap.get? d=some (dictOf v n))(L:v.length<=szl){Q:Dx}(h:Q (!v.isEmpty) { s with toks:=s.toks+1+1 }) :
  wpAny (model z w) A (truthy (.ref d)) Q E s:=by
 have j:((v.length:Int) != 0)=!v.isEmpty:=by
  cases v with
  | nil=>rfl
  | cons a t=>exact bne_iff_ne.mpr λe=>ml _ (Int.natCast_eq_zero.mp e)
 have f:s.TypeIs (.ref d) "dict":=⟨_,g,rfl⟩
 have J:wpAny (model z w) A (runValue (.builtin "len" ⟨[.ref d],[]⟩)) (λr k=>r=.int v.length (s.toks+1)/\Q (!v.isEmpty) k) E s:=by
  refine wpAny_runValue (codeAny_builtin entry_len ?_)
  erw[Around.under_plainId plain_len _]
  exact wpAny_mono (kr (Q:=λr k=>r=.int v.length (s.toks+1)/\Q (!v.isEmpty) k) l g L ⟨rfl,h⟩)
   (λT k o=>by obtain⟨r,rfl,O⟩:=o;exact O) λp p e=>e
 unfold truthy
 first
  | refine ag (wpAny_callSpecial?_none (name:=ofString "__bool__") f noBool_dict ?_)
  | refine ag (bj (ag (wpAny_callSpecial?_none (name:=ofString "__bool__") f noBool_dict ?_)))
 first
  | refine ag (mx (name:=ofString "__len__") f F.slot_dict_len.lookup ?_)
  | refine ag (bj (ag (mx (name:=ofString "__len__") f F.slot_dict_len.lookup ?_)))
 first
  | exact ag (wpAny_mono J (λr k o=>by obtain⟨rfl,O⟩:=o;exact bj (j▸O)) λp p e=>e)
  | exact ag (bj (ag (wpAny_mono J (λr k o=>by obtain⟨rfl,O⟩:=o;exact bj (j▸O)) λp p e=>e)))
theorem BD{Q:Dx}(X:K.In s.heap)(I:InstAt s.heap x v C k)(j:findIn K (.ref C) "__bool__"=some none)(J:findIn K (.ref C) "__len__"=some none)
(h:Q true s):wpAny (model z w) A (truthy (.ref x)) Q E s:=by
 unfold truthy
 refine ag (m:=callSpecial? (.ref x) (ofString "__bool__")) (ag (ag (I.type.here ((looks_findIn X j).here (bj ?_)))))
 refine ag (ag (I.type.here ((looks_findIn X J).here ?_)))
 exact bj h
theorem av.BE(R:av w Y os y U s H){a:Nat}(e:H.dct a=some Q):∃v,s.heap.get? a=some (dictOf v v.length)/\REs w s.heap v Q/\v.length<=szl/\v.length=Q.length:=by
 obtain⟨_,_,z,v,j,k⟩:=R.dct a Q e
 exact⟨v,j,k,by erw[k.length];exact z,k.length⟩
theorem pH{Q v:Type}{l:List Q}{m:List v}(h:l.length=m.length):l.isEmpty=m.isEmpty:=by
 cases l with
 | nil=>exact(eP.mpr (length_eq_zero_iff.mp h.symm)).symm
 | cons a l=>cases m with
  | nil=>exact nomatch h
  | cons b m=>rfl
theorem E6{H:CH}(h:truth H (.ref a)=some b){Z:Bool->Prop}(v:∀l,H.getL a=some l->Z (!l.isEmpty))(k:∀Q,H.dct a=some Q->Z (!Q.isEmpty))(j:∀c,H.cls a=some c->b8 c=true->Z true):Z b:=by
 have J:∀(o:Option (List CV)) (d:Option (List (CV×CV))) (c:Option Nat),(o.elim (d.elim (c.bind λc=>if b8 c then some true else none) λQ=>some (!Q.isEmpty)) λl=>some (!l.isEmpty))=some b->
   (∀l,o=some l->Z (!l.isEmpty))->(∀Q,d=some Q->Z (!Q.isEmpty))->(∀O,c=some O->b8 O=true->Z true)->Z b:=by
  intro o d c h v k j
  cases o with
  | some l=>exact al h▸v l rfl
  | none=>
   cases d with
   | some Q=>exact al h▸k Q rfl
   | none=>
    cases c with
    | none=>exact nos h
    | some c=>exact if p:b8 c=true then al ((ch p).symm.trans h)▸j c rfl p else nos ((ca p).symm.trans h)
 exact J _ _ _ h v k j
theorem E7{x:Str}(v:(if x.cps.size<2 ^ 30 then some (x.cps.size != 0) else none)=some b){Q:Dx}(h:∀k,Q b { s with toks:=k }):wpAny (model z w) A (truthy (.str x t)) Q E s:=by
 by_cases q:x.cps.size<2 ^ 30
 ·cases al ((ch q).symm.trans v)
  have e:(((x.cps.size:Nat):Int) != 0)=(x.cps.size != 0):=by
   by_cases q:x.cps.size=0
   ·erw[q];rfl
   ·erw[bne_iff_ne.mpr q];exact bne_iff_ne.mpr λe=>q (Int.natCast_eq_zero.mp e)
  exact P.truthy_str (Int.not_le.mpr (Int.lt_trans (hV.mpr q) (by decide))) (e.symm▸h _)
 ·exact nos ((ca q).symm.trans v)
theorem size_of{Q:Db}{n:Nat}(h:Q.toList.length=n)(z:n<=szl):Q.size<2 ^ 30:=by
 exact ax (ae (bv (Array.length_toList.symm.trans h)) z) (by decide)
theorem uT{Q:Db}{l:B2}(h:Q.toList.length=l.length):Q.isEmpty=l.isEmpty:=Array.isEmpty_toList.symm.trans (pH h)
theorem E8(X:K.In y)(T:Tab K Y V M y)(R:av w Y os y U s H)(f:truth H (.ref a)=some b){Q:Dx}
(h:∀k,Q b { s with toks:=k }):wpAny (model z w) A (truthy (.ref a)) Q E s:=by
 refine E6 f (Z:=λb=>(∀k,Q b { s with toks:=k })->wpAny (model z w) A (truthy (.ref a)) Q E s) (λl e h=>?_) (λj e h=>?_) (λc e p h=>?_) h
 ·obtain⟨L,v,J,o⟩:=R.cS e
  exact wpAny_truthy_list v (Int.lt_trans (hV.mpr (size_of J.length o)) (by decide)) (uT J.length▸h _)
 ·obtain⟨j,v,J,o,O⟩:=R.BE e
  exact BC (R.noSys T (R.dct a _ e).1) v o (pH O▸h _)
 ·obtain⟨_,g,j,n,v,_,_,O,_⟩:=R.inst e (rV p)
  exact BD (R.inK X) (⟨v,rfl,rfl,O⟩:InstAt s.heap a (instObj c g) c (some (dictOf j n))) (T.cls c (rV p)).bool (T.len c p) (h s.toks)
theorem lD(X:K.In y)(T:Tab K Y V M y)(R:av w Y os y U s H)(o:RV s.heap v c)(j:truth H c=some b){Q:Dx}
(h:∀k,Q b { s with toks:=k }):wpAny (model z w) A (truthy v) Q E s:=by
 cases o with
 | none=>exact truthy_none (al j▸h s.toks)
 | bool x=>exact wpAny_truthy_bool (al j▸h s.toks)
 | int i t=>exact P.truthy_int (al j▸h s.toks)
 | str x t=>exact E7 j h
 | tup O p J=>exact truthy_tuple O (Int.lt_trans (hV.mpr (size_of J.length p)) (by decide)) (uT J.length▸al j▸h _)
 | ref a=>exact E8 X T R j h
end
structure G.Ok(g:G):Prop where
 X:g.K.In g.h₀
 gl:g.h₀.Ns mainGlobals g.mg
 bl:g.h₀.Ns builtinsNs g.mb
 nolimit:g.h₀.NoLimit
 builtins:∀x:Str,x≠"__name__"->g.mb x=bootBuiltins x
 T:Tab g.K g.AN g.nA g.M g.h₀
section
variable{g:G}{env:Env}{vm:AT}
theorem ES.J6:ES g env vm (.c (.int i)) (eval (.Constant (.int i) k Q) env):=
 λz z z z z z z z z R w y z=>wpAny_Constant_int (y _ _ _ _ (.int i _) (R.toks _) w)
theorem ES.HW:ES g env vm (.c .none) (eval (.Constant .none k Q) env):=
 λz z z z z z z z z R w y z=>wpAny_Constant_none (y _ _ _ _ .none R w)
theorem ES.HX:ES g env vm (.c (.bool b)) (eval (.Constant (.bool b) k Q) env):=
 λz z z z z z z z z R w y z=>wpAny_Constant_bool (y _ _ _ _ (.bool b) R w)
theorem ES.J7:ES g env vm (.c (.str x)) (eval (.Constant (.str x) k Q) env):=
 λz z z z z z z z z R w y z=>wpAny_Constant_str (y _ _ _ _ (.str x _) (R.toks _) w)
theorem ES.v(V:(x,i)∈vm)(z:env.kindOf x=some .local∨env.kindOf x=some .cell∨env.kindOf x=some .free)(O:(x==ofString "__debug__")=false)(p:(x==ofString "__classdict__")=false) :
  ES g env vm (.v i) (eval (.Name x w) env):=by
 intro A L s st Q X P E t R f Y T
 obtain⟨v,k,U⟩:=f
 refine wpAny_Name ?_ O
 rcases z with z | z
 ·obtain⟨m,l,q⟩:=R.L.ns
  exact(k▸q x i V z:AtV s.heap (some v) (m x)).elim λu y=>wpAny_loadName_local R.L.kind z l y.1 (Y _ _ _ _ y.2 R U)
 ·obtain⟨a,r,j,J,q⟩:=R.L.cell x i V z
  obtain⟨u,rfl,o⟩:=(k▸q:AtV s.heap (some v) r)
  exact z.elim (λz=>wpAny_loadName_cell R.L.kind z j J (Y _ _ _ _ o R U)) λz=>wpAny_loadName_free R.L.kind z j J (Y _ _ _ _ o R U) p
theorem Rep.mg{st:St}(R:Rep g z env vm s st)(O:g.Ok):s.heap.Ns mainGlobals g.mg:=O.gl.keeps R.H.old
theorem Rep.mb{st:St}(R:Rep g z env vm s st)(O:g.Ok):s.heap.Ns builtinsNs g.mb:=O.bl.keeps R.H.old
theorem tE(O:g.Ok){st:St}(R:Rep g Q env vm s st){P:AC}
(w:env.kindOf x=some .globalImplicit)(y:(x==ofString "__debug__")=false)(Y:nsIn g.K mainGlobals x=some (some v))(h:P v s):wpAny (model g.prog g.w) A (eval (.Name x z) env) P E s:=
 Name_function_global R.L.kind w (loadGlobal_global (show s.heap.Ns env.globals g.mg from R.L.glob▸R.mg O) (mg_of O.X O.gl Y) h) y
theorem dD(O:g.Ok){st:St}(R:Rep g Q env vm s st){P:AC}
(w:env.kindOf x=some .globalImplicit)(y:(x==ofString "__debug__")=false)(Y:x≠"__name__")(U:nsIn g.K mainGlobals x=some none)(V:bootBuiltins x=some v)(h:P v s) :
  wpAny (model g.prog g.w) A (eval (.Name x z) env) P E s:=
 Name_function_global R.L.kind w (loadGlobal_builtin (show s.heap.Ns env.globals g.mg from R.L.glob▸R.mg O) (mg_none_of O.X O.gl U) (show s.heap.Ns env.builtins g.mb from R.L.bi▸R.mb O)
  ((O.builtins x Y).trans V) h) y
theorem ES.glob{v:Value}(O:g.Ok)(w:env.kindOf x=some .globalImplicit)(y:(x==ofString "__debug__")=false)(Y:nsIn g.K mainGlobals x=some (some v))(U:∀h,RV h v c) :
  ES g env vm (.c c) (eval (.Name x Q) env):=
 λz z z z z z z z z R V k z=>tE O R w y Y (k _ _ _ _ (U _) R V)
noncomputable def b4:Expr->Bool
 | .Call _ [] _ _=>false
 | _=>true
set_option tactic.hygienic true in
theorem yF(h:b4 o=true):attributeBase o Q env z=z:=by
 cases o
 case Call f as w pos=>
  cases as with
  | nil=>cases h
  | cons a as=>cases f <;> rfl
 all_goals rfl
theorem BF(z:Expr)(Q:Str)(w:Pos):eval (.Attribute z Q w) env=(do
  let o ← attributeBase z Q env (eval z env)
  standAt w.atName
  let r ← holding [o] (getAttr o Q true)
  letTemporaryGo z o r
  pure r):=by with_unfolding_all rfl
theorem AE(z:RV h v c):handedIn v=true:=by cases z <;> rfl
theorem rW(k:uQ z)(n:Nat)(x:Str):lookIn x (dictOf z n)=some ((z.find? (·.key.isStr x)).map (·.val)):=E4 k x
theorem BG{H:CH}{n:Nat}(h:j5 H c n=some r){Z:CV->Prop}(f:∀a C,H.cls a=some C->bu C=true->(H.att n a).elim (gq C n) some=some r->Z (.ref a)):Z c:=
 CV.s9 (R:=(·=some r)) (P:=Z) nos h λa h=>(kf.mp h).elim λC y=>if q:bu C=true then f a C y.1 q ((ch q).symm.trans y.2) else nos ((ca q).symm.trans y.2)
theorem yG(O:g.Ok){H:CH}(R:av g.w g.AN g.os g.h₀ t s H){n:Nat}(j:g.AN[n]?=some x)(T:n<g.nA)(y:RV s.heap v c)(Q:j5 H c n=some r)
{P:AC}(h:∀u k,RV s.heap u r->P u { s with toks:=k }):wpAny (model g.prog g.w) A (getAttr v x b) P E s:=by
 refine BG Q (Z:=λc=>RV s.heap v c->wpAny (model g.prog g.w) A (getAttr v x b) P E s) (λa C B J Q y=>?_) y
 obtain rfl:v=.ref a:=y.c
 obtain⟨_,N,D,m,M,_,_,d,p⟩:=R.inst B J
 have Y:=O.T.cls C J
 obtain⟨_,V,w⟩:=Y.att n x j T
 have I:InstAt s.heap a (instObj C N) C (some (dictOf D m)):=⟨M,rfl,rfl,d⟩
 have f:=rW p.keys m x
 have U:=p.at_ n x j
 cases l:H.att n a with
 | some z=>
  rw[l] at Q U
  obtain rfl:z=r:=al Q
  obtain⟨e,i,y⟩:=U
  obtain⟨L,F,S⟩:=w.any
  exact get_value (R.inK O.X) I Y.ga (findObj_own Y.hd F S (f.trans (ab (λo=>some (Option.map DictEntry.val o)) i))) (AE y) (h _ _ y)
 | none=>
  rw[l] at Q U
  have Q:gq C n=some r:=Q
  rw[Q] at w
  obtain⟨W⟩:=w
  exact get_value (R.inK O.X) I Y.ga (findObj_cls Y.hd W rfl rfl V (f.trans (ab (λo=>some (Option.map DictEntry.val o)) U))) rfl (h _ _ (.int _ _))
theorem ES.at{n:Nat}(O:g.Ok)(he:ES g env vm y (eval e env))(U:g.AN[n]?=some x)(V:n<g.nA)(j:b4 e=true):ES g env vm (.at y n) (eval (.Attribute e x z) env):=by
 intro A Pr s st Q X P E J R o p f
 (rewrite[BF];erw[yF j])
 refine ag (he A Pr s st _ X _ E J R o (λv c s' st' l Y w=>?_) f)
 obtain⟨r,L,w⟩:=w
 refine ag (mB (ag (eA (yG O Y.H U V l L λu k t=>?_))))
 exact ag (wpAny_letTemporaryGo (bj (p _ _ _ _ t (Y.toks k) w)))
end
theorem REs.append(x:REs w h Q z)(y:REs w h fs lvs):REs w h (Q++fs) (z++lvs):=
 x.ind (P:=λQ z=>REs w h (Q++fs) (z++lvs)) y λa b c d U Y=>.cons a b c d Y
theorem REs.modify(y:RV h v c)(x:REs w h Q z):∀i,REs w h (Q.modify i λe=>{ e with val:=v }) (z.modify i λp=>(p.1,c)):=
 x.ind (P:=λQ z=>∀i,REs w h (Q.modify i λe=>{ e with val:=v }) (z.modify i λp=>(p.1,c))) (λi=>by cases i <;> exact .nil) λa b q d x Y i=>by
  cases i with
  | zero=>exact .cons a b q y x
  | succ i=>exact .cons a b q d (Y i)
section
variable{w:World}{A:Around}{E:AC}{s:Shared}
theorem units_le{a n L:Nat}(h:a+n<L)(e:Nat.ble m n=true):a+m<L:=ax (ew (aw e) a) h
theorem pI{A:Around}{L:Nat}(h:A.units+20<L):A.in1.units+10<L:=ax (ae (bv (Nat.add_assoc A.units 1 10)) (ew (by decide) _)) h
theorem tF{J:D2}{Q:Option Value->Shared->Prop}
(O:A.units+10<cLine)(y:RV s.heap V c)(o:c.keyOk=true)(p:s.heap.get? d=some (dictOf J J.length))(f:REs w s.heap J z)(g:(z.map (·.1)).Nodup)
(Y:au z c=none->∀k,Q none { s with toks:=k })(U:∀v l,au z c=some l->RV s.heap v l->∀k,Q (some v) { s with toks:=k }) :
  wpAny (model prog w) A (dictGet d V) Q E s:=by
 unfold dictGet
 try with_reducible refine eA ?_
 refine ag (yy 5 (eX o) (fB o) (units_le O rfl) y λk=>?_)
 refine ag (yD (s:={ s with toks:=k }) O y o p rfl (by erw[toList_toArray];exact f) g (λt=>?_) λj v L=>?_)
 ·exact bj (Y (Az t) k)
 ·obtain⟨e,T,_,_,_,x⟩:=f.get' L
  refine ag (wpAny_dictEntries (s:={ s with toks:=k }) p rfl ?_)
  rw[getElem?_toArray,T]
  exact bj (U _ v (Ay g L) x k)
theorem in_of{U:D2}{Q:Dx}(J:(d==sysModules)=false)
(o:A.units+20<cLine)(Y:RV s.heap z c)(O:c.keyOk=true)(j:s.heap.get? d=some (dictOf U U.length))(p:REs w s.heap U y)(f:(y.map (·.1)).Nodup)
(h:∀k,Q (au y c).isSome { s with toks:=k }):wpAny (model prog w) A (PySem.contains (.ref d) z) Q E s:=by
 have V:s.TypeIs (.ref d) "dict":=⟨_,j,rfl⟩
 unfold PySem.contains
 try with_reducible refine eA ?_
 refine ag (mx V slot_dict_contains.lookup ?_)
 show wpAny _ _ (if (some (Value.builtin "dict.__contains__")==some Value.none)=true then _ else _) _ E s
 rw[ca (by rw[beq_builtin_none];exact c6)]
 refine ag (wpAny_callSpecialUnlessNone?_slot (name:=ofString "__contains__") V slot_dict_contains
  (ib slot_dict_contains V entry_dict_contains ?_ (args_dict_contains _ _)))
 show wpAny _ _ (dictGet d z >>= _) _ _ s
 refine ag (tF (A:=A.in1) (pI o) Y O j p f (λe k=>?_) λv g e l k=>?_)
 ·rw[e] at h
  show wpAny _ _ (Builtin.Dict.pendingKey? d z >>= _) _ _ _
  exact ag (wpAny_pendingKey_other J (bj ⟨_,rfl,wpAny_truthy_bool (h k)⟩))
 ·rw[e] at h
  show wpAny _ _ (ret (.bool true)) _ _ _
  exact bj ⟨_,rfl,wpAny_truthy_bool (h k)⟩
theorem E9{o:D2}{Q:AC}(f:(d==sysModules)=false)
(g:A.units+20<cLine)(V:RV s.heap y c)(l:c.keyOk=true)(O:s.heap.get? d=some (dictOf o o.length))(L:REs w s.heap o z)(t:(z.map (·.1)).Nodup)
(Y:au z c=none->A.handled=none/\∀k p e,Heap.NewExc s.heap p e "KeyError"->E (.ref e) { s with heap:=p,toks:=k })(U:∀v j,au z c=some j->RV s.heap v j->∀k,Q v { s with toks:=k }) :
  wpAny (model prog w) A (getItem (.ref d) y) Q E s:=by
 have J:s.TypeIs (.ref d) "dict":=⟨_,O,rfl⟩
 unfold getItem
 try with_reducible refine eA ?_
 refine ag (wpAny_sequenceKey J (by decide) ?_)
 refine ag (ke (name:=ofString "__getitem__") J slot_dict_getitem
  (ib slot_dict_getitem J entry_dict_getitem ?_ (args_dict_getitem _ _)))
 show wpAny _ _ (dictGet d y >>= _) _ _ s
 refine ag (tF (A:=A.in1) (pI g) V l O L t (λe k=>?_) λv j e T k=>?_)
 ·obtain⟨x,C⟩:=Y e
  show wpAny _ _ (Builtin.Dict.missed d y >>= _) _ _ _
  refine ag (wpAny_missed_other f ?_)
  refine ag (wpAny_typeOf (s:={ s with toks:=k }) J ?_)
  show wpAny _ _ (if (Value.type "dict" != Value.type "dict")=true then _ else _) _ _ _
  erw[ca (by decide)]
  exact ag (ld (wpAny_raise_newExc (A:=A.in1) plainExc_KeyError x (C k)))
 ·exact bj ⟨v,rfl,bj (U v j e T k)⟩
theorem wU{J:D2}{dflt:Value}{Q:AC}(O:(d==sysModules)=false)
(p:A.units+20<cLine)(V:RV s.heap y c)(f:c.keyOk=true)(g:s.heap.get? d=some (dictOf J J.length))(l:REs w s.heap J z)(L:(z.map (·.1)).Nodup)
(Y:au z c=none->∀k,Q dflt { s with toks:=k })(U:∀v j,au z c=some j->RV s.heap v j->∀k,Q v { s with toks:=k }) :
  wpAny (model prog w) A (Builtin.«dict.get» ⟨[.ref d,y,dflt],[]⟩) (λo t=>∃v,o=Fin.done (Flow.ret v)/\Q v t) E s:=by
 show wpAny _ _ (dictGet d y >>= _) _ _ s
 refine ag (tF (units_le p rfl) V f g l L (λe k=>?_) λv j e T k=>?_)
 ·show wpAny _ _ (Builtin.Dict.missed d y >>= _) _ _ _
  exact ag (wpAny_missed_other O (bj ⟨dflt,rfl,Y e k⟩))
 ·exact bj ⟨v,rfl,U v j e T k⟩
theorem uU{J:D2}{Q:AC}(O:(d==sysModules)=false)
(p:A.units+20<cLine)(V:RV s.heap y c)(f:c.keyOk=true)(g:s.heap.get? d=some (dictOf J J.length))(l:REs w s.heap J z)(L:(z.map (·.1)).Nodup)
(Y:au z c=none->∀k,Q .none { s with toks:=k })(U:∀v j,au z c=some j->RV s.heap v j->∀k,Q v { s with toks:=k }) :
  wpAny (model prog w) A (Builtin.«dict.get» ⟨[.ref d,y],[]⟩) (λo t=>∃v,o=Fin.done (Flow.ret v)/\Q v t) E s:=by
 show wpAny _ _ (dictGet d y >>= _) _ _ s
 refine ag (tF (units_le p rfl) V f g l L (λe k=>?_) λv j e T k=>?_)
 ·show wpAny _ _ (Builtin.Dict.missed d y >>= _) _ _ _
  exact ag (wpAny_missed_other O (bj ⟨.none,rfl,Y e k⟩))
 ·exact bj ⟨v,rfl,U v j e T k⟩
theorem mZ{z:At}:(z.modify i λp=>(p.1,c)).map (·.1)=z.map (·.1):=by
 induction z generalizing i with
 | nil=>cases i <;> rfl
 | cons p r Q=>cases i with
  | zero=>rfl
  | succ i=>exact ab (p.1::·) Q
theorem G5{n m:Nat}(h:a=b)(e:n=m):some ({ cls:=.type "dict",data:=.dict a n }:Obj)=some { cls:=.type "dict",data:=.dict b m }:=h▸e▸rfl
theorem pJ{es:D2}{Q:Do}
(T:A.units+10<cLine)(y:RV s.heap key c)(x:RV s.heap v U)(o:c.keyOk=true)(V:s.heap.get? d=some (dictOf es es.length))(O:REs w s.heap es kvs)(Y:(kvs.map (·.1)).Nodup)(f:kvs.length<szl)
(h:∀k l L,(∀b,b≠d->l.get? b=s.heap.get? b)->l.get? d=some (dictOf L L.length)->REs w s.heap L (aW kvs c U)->((aW kvs c U).map (·.1)).Nodup->(aW kvs c U).length<=szl->
   Q () { s with heap:=l,toks:=k }) :
  wpAny (model prog w) A (dictSet d key v) Q E s:=by
 have C:=O.length
 unfold szl at f h
 unfold dictSet
 try with_reducible refine eA ?_
 refine ag (yy 5 (eX o) (fB o) (units_le T rfl) y λk=>?_)
 unfold dictSetHashed
 try with_reducible refine eA ?_
 refine ag (yD (s:={ s with toks:=k }) T y o V rfl (by erw[toList_toArray];exact O) Y (λg=>?_) λj u t=>?_)
 ·refine ag (ld (wpAny_updateDictKeys (hz:=ae (bv C) (cy f)) (s:={ s with toks:=k }) V rfl ?_))
  refine h k _ (es++[⟨cJ w c,key,v⟩]) (λb J=>hJ _ _ (en J)) ?_ ?_ ?_ ?_
  ·exact(fp _ V (Obj.isFreed_of_dict (Obj.data_mapDictKeys rfl _))).trans (G5 (push_toArray ..) (bp (bs:=[({ hash:=cJ w c,key:=key,val:=v }:DictEntry)])).symm)
  ·erw[mX g];exact O.append (.cons rfl o y x .nil)
  ·exact(ab Nodup ((ab (List.map (·.1)) (mX g)).trans ej)).mpr (kO.mpr ⟨Y,fb _ _,λa B b J q=>(bo.mp B).elim λp z=>(iq.mp z.1).elim λi n=>g i p.2 (n.trans (ab some (my (z.2.trans (q.trans (bc.mp J))) rfl)))⟩)
  ·exact ae (bv ((ab List.length (mX g)).trans (bp (bs:=[(c,U)])))) f
 ·refine ag (ld (ag (wpAny_updateDict (s:={ s with toks:=k }) V rfl ?_ (bv (Array.size_modify ..)))))
  refine wpAny_point (h k _ (es.modify j λe=>{ e with val:=v }) (λb J=>hJ _ _ (en J)) ?_ ?_ ?_ ?_)
  ·exact(fp _ V (Obj.isFreed_of_dict (Obj.data_mapDict rfl _))).trans (G5 modify_toArray (length_modify ..).symm)
  ·exact Eq.substr (mW Y t) (O.modify x j)
  ·exact(ab Nodup ((ab (List.map (·.1)) (mW Y t)).trans mZ)).mpr Y
  ·exact ae (bv ((ab List.length (mW Y t)).trans (length_modify ..))) (cy f)
theorem wV{p:D2}{Q:Do}
(g:A.units+20<cLine)(V:RV s.heap U c)(l:RV s.heap v o)(L:c.keyOk=true)(f:s.heap.get? d=some (dictOf p p.length))(t:REs w s.heap p Y)(T:(Y.map (·.1)).Nodup)(C:Y.length<szl)
(h:∀k j J,(∀b,b≠d->j.get? b=s.heap.get? b)->j.get? d=some (dictOf J J.length)->REs w s.heap J (aW Y c o)->((aW Y c o).map (·.1)).Nodup->(aW Y c o).length<=szl->
   Q () { s with heap:=j,toks:=k }) :
  wpAny (model prog w) A (setItem (.ref d) U v) Q E s:=by
 have O:s.TypeIs (.ref d) "dict":=⟨_,f,rfl⟩
 unfold setItem
 try with_reducible refine eA ?_
 refine ag (wpAny_sequenceKey O (by decide) ?_)
 refine ag (ke (name:=ofString "__setitem__") O slot_dict_setitem
  (ib slot_dict_setitem O entry_dict_setitem ?_ (args_dict_setitem _ _ _)))
 show wpAny _ _ (Builtin.Dict.notOrdered "__setitem__" ⟨[.ref d,U,v],[]⟩ >>= _) _ _ s
 refine ag (wpAny_notOrdered_dict O ?_)
 show wpAny _ _ (dictSet d U v >>= _) _ _ s
 exact ag (pJ (A:=A.in1) (pI g) V l L f t T C λk j J a b x y z=>bj ⟨.none,rfl,bj (h k j J a b x y z)⟩)
end
section
variable{g:G}{env:Env}{vm:AT}
noncomputable abbrev FV:=List CE
variable(g) in
noncomputable def ESs(env:Env)(vm:AT)(z:FV)(t:Sem (List Value)):Prop:=
 ∀(A:Around) (y:Bn) (s:Shared) (st:St) (Q:Fk) (X:D1) (P:List Value->Shared->Prop) (E:AC),OKA g A->Rep g y env vm s st->mU g.Φ g.M z st Q X->
  (∀vs Y s' w,RVs s'.heap vs Y->Y.length=z.length->Rep g y env vm s' w->Q Y w->P vs s')->
  EOk g A y env vm X E->wpAny (model g.prog g.w) A t P E s
theorem ESs.run(h:ESs g env vm w t){st:St}{P:List Value->Shared->Prop}
(J:OKA g A)(R:Rep g U env vm s st)(o:mU g.Φ g.M w st Q X)
(O:∀k V s' z,RVs s'.heap k V->V.length=w.length->Rep g U env vm s' z->Keeps s st.H s'->TK s.heap s'.heap->Q V z->P k s')
(j:EOk g A U env vm X E):wpAny (model g.prog g.w) A t P E s:=
 h A (frz s st.H) s st Q X P E J R.freeze o (λv c s' z p f y Y=>O v c s' z p f (R.dX y) y.H.keeps (R.H.tk y.H.keeps) Y)
  λq z Y=>⟨(j q z Y).1,λe s' l y=>(j q z Y).2 e s' (l.dX R.H) (R.dX y)⟩
theorem ESs.nil:ESs g env vm [] (spliced []):=
 λz z z z z z z z z R Q w z=>spliced_nil (w _ _ _ _ .nil rfl R Q)
theorem ESs.cons{U:CE}{z:FV}{t:Sem Value}{V:List (Bool×Sem Value)}(h:ES g env vm U t)(o:ESs g env vm z (spliced V)):ESs g env vm (U::z) (spliced ((false,t)::V)):=by
 intro A O s st Q X P E k R p f j
 refine spliced_cons (h A O s st _ X _ E k R p (λv c s' l L T w=>?_) j)
 refine o.run k T w (λB n x J y C Y N b w=>f _ _ _ _ (.cons (L.mono b) y) (by(erw[ik];erw[ik];exact Eq.substr C rfl)) Y w) j
noncomputable def noStar:Expr->Bool
 | .Starred _ _=>false
 | _=>true
theorem d9(h:noStar e=true):starEach (e::z) env=(false,eval e env)::starEach z env:=by
 cases e <;> first | rfl | exact nomatch h
theorem ESs.back(Y:noStar e=true)(h:ES g env vm w (eval e env))(U:ESs g env vm z (spliced (backTo Q (starEach y env)))) :
  ESs g env vm (w::z) (spliced (backTo Q (starEach (e::y) env))):=by
 erw[d9 Y]
 exact ESs.cons h U
theorem Rep.ext{s':Shared}{st:St}(R:Rep g Pr env vm s st)(k:∀b o,s.heap.get? b=some o->s'.heap.get? b=some o)(z:s'.os=s.os)(Q:s'.gens=s.gens):Rep g Pr env vm s' st:=
 ⟨R.H.ext k z Q,R.L.ext k,R.fr,R.ofr⟩
theorem aS(h:Heap)(o:Obj):∀b p,h.get? b=some p->(h.push o).get? b=some p:=λz z e=>dA o e
theorem Rep.newL{st:St}(R:Rep g z env vm s st)(Q:RVs s.heap vs l)(w:l.length<=szl) :
  Rep g z env vm { s with heap:=s.heap.push { cls:=.type "list",data:=.seq vs.toArray } } { st with H:=st.H.aA s.heap.objs.size l }:=by
 have k:=aS s.heap { cls:=.type "list",data:=.seq vs.toArray }
 refine⟨(R.H.ext (s':={ s with heap:=s.heap.push { cls:=.type "list",data:=.seq vs.toArray } }) k rfl rfl).aA (vs:=vs.toArray) (λy y=>rfl) ⟨_,dv _ rfl⟩ (Q.mono (TK.of_keep k)) w
  (λo p=>let ⟨Y,e,_⟩:=R.H.b3 _ o p;bI s.heap Y e) (λo e=>?_) rfl rfl,R.L.ext k,R.fr,R.ofr⟩
 have:=(dv s.heap (o:={ cls:=.type "list",data:=.seq vs.toArray }) rfl).symm.trans e
 cases this;rfl
theorem Rep.newD{st:St}(R:Rep g z env vm s st) :
  Rep g z env vm { s with heap:=s.heap.push (dictOf [] 0) } { st with H:=st.H.bx s.heap.objs.size [] }:=by
 have k:=aS s.heap (dictOf [] 0)
 have Q:=bI s.heap
 refine⟨R.H.bx (s':={ s with heap:=s.heap.push (dictOf [] 0) }) (es:=[]) (λb w=>?_) (dv _ rfl) .nil dt (dd _) (λo p=>let ⟨y,e,_⟩:=R.H.b3 _ o p;Q y e) (.inl Q) rfl rfl,R.L.ext k,R.fr,R.ofr⟩
 exact Heap.get?_push_ne _ _ _ w
theorem ES.li(h:ESs g env vm z (spliced (backTo w (starEach y env))))(L:z.length<=1000):ES g env vm (.li z) (eval (.List y w) env):=by
 intro A t s st Q X P E V R k j J
 refine wpAny_List (h.run V R k (λT o O p Y x U f f l=>?_) J)
 have c:=Y.length
 have:o.length<=szl:=by unfold szl;lia
 exact⟨by unfold sizeLine;lia,j _ _ _ _ (.ref _) (U.newL Y this) (l _ (U.H.free (bI O.heap)))⟩
theorem ES.tu(h:ESs g env vm z (spliced (backTo w (starEach y env))))(t:z.length<=1000):ES g env vm (.tu z) (eval (.Tuple y k w) env):=by
 intro A T s st Q X P E V R j J o
 refine wpAny_Tuple (h.run V R j (λvs x O p Y c f l l L=>?_) o)
 have C:=Y.length
 have U:=aS O.heap { cls:=.type "tuple",data:=.seq vs.toArray }
 exact⟨by unfold sizeLine;lia,J _ _ _ _ (.tup ⟨_,dv _ rfl,rfl,_,rfl⟩ (by unfold szl;lia) (Y.mono (TK.of_keep U))) (f.ext U rfl rfl) L⟩
theorem iR(p:CV.bD l=true):PyData.canLayAll0 (pds l)=true:=gx (c:=.tup l) p
theorem BH(p:CV.bD l=true)(q:CV.bD m=true):PyData.eqvAll (pds l) (pds m)=decide (l=m):=
 (lC (c:=.tup l) (d:=.tup m) p q).trans (decide_eq_decide.mpr ⟨CV.tup.inj,ab _⟩)
theorem RVs.reads(x:RVs h Q z):CV.bD z=true->∃as,ReadsAll h Q (pds z) as:=
 x.ind (P:=λQ z=>CV.bD z=true->∃as,ReadsAll h Q (pds z) as) (λw=>⟨_,.nil⟩) λa w y p=>(a.reads (eB p)).elim λw q=>(y (eE p)).elim λw r=>⟨_,.cons q r⟩
noncomputable abbrev Fa:=List Addr
inductive EqR(A:Around)(h:Heap)(u v:Value)(r:Bool):Prop
 | mk (x y:PyData) (as bs:Fa) (ra:Reads h u x as) (rb:Reads h v y bs) (c1:x.canLay0=true) (c2:y.canLay0=true) (room:A.units+min x.depth y.depth<cLine) (e:PyData.eqv x y=r)
theorem tG(z:OKA g A){a b:Nat}(h:a<=21):A.units+min a b<cLine:=ax (h7 (dE _ _) (ae (Nat.min_le_left _ _) (ae h (by decide)))) z.units
theorem G6{H:CH}(R:av g.w g.AN g.os g.h₀ O s H)(Q:OKA g A){u:Value}(w:RV s.heap u c)(z:RV s.heap v d)(h:eqV H c d=some r):EqR A s.heap u v r:=by
 unfold eqV at h
 by_cases q:c.pure/\d.pure/\c.depth<=20/\d.depth<=20
 ·rw[ch q] at h
  exact(w.reads q.1).elim λas y=>(z.reads q.2.1).elim λJ Y=>⟨_,_,as,J,y,Y,gx q.1,gx q.2.1,tG Q (ae (lB c) (Nat.le_succ_of_le q.2.2.1)),(lC q.1 q.2.1).trans (al h)⟩
 ·rw[ca q] at h
  clear q
  cases c with
  | bool a=>exact CV.lz (R:=(·=some r)) (P:=λd=>RV s.heap v d->EqR A s.heap u v r) nos h (λb e z=>w.c▸z.c▸⟨_,_,[],[],.bool a,.bool b,rfl,rfl,tG Q (dd _),al e⟩) z
  | ref a=>exact CV.s9 (R:=(·=some r)) (P:=λd=>RV s.heap v d->EqR A s.heap u v r) nos h (λb e z=>by
    obtain⟨l,p,e⟩:=kf.mp e
    obtain⟨m,f,e⟩:=kf.mp e
    by_cases q:CV.bD l/\CV.bD m/\CV.dB l<=20/\CV.dB m<=20
    ·rw[ch q] at e
     obtain⟨C,⟨o,L,t,n,T⟩,x,_⟩:=R.cS p
     obtain⟨B,⟨N,U,V,D,k⟩,j,_⟩:=R.cS f
     exact w.c▸z.c▸(x.reads q.1).elim λas y=>(j.reads q.2.1).elim λJ Y=>⟨_,_,_,_,.list L t T y,.list U V k Y,iR q.1,iR q.2.1,tG Q (ae (lB (.tup l)) (et q.2.2.1)),(BH q.1 q.2.1).trans (al e)⟩
    ·rw[ca q] at e;exact nos e) z
  | _=>exact nos h
end
theorem yH{x:CV}(z:x.pure=true):CV.bD l=true->(pds l).any (λy=>PyData.eqv y (pd x))=decide (x∈l):=by
 induction l with
 | nil=>exact λw=>rfl
 | cons c l Q=>
  intro p
  show(PyData.eqv (pd c) (pd x)||(pds l).any _)=_
  (erw[Q (eE p)];erw[lC (eB p) z];rewrite[← Bool.decide_or])
  exact decide_eq_decide.mpr ((or_congr_left eq_comm).trans bt.symm)
section
variable{g:G}{z:Env}{w:AT}
noncomputable def InG(g:G)(A:Around)(s:Shared)(u v:Value)(P:AC)(E:AC)(r:Bool):Prop:=
 ((∀k,P (.bool r) { s with toks:=k })->wpAny (model g.prog g.w) A (compareOp .In u v) P E s)/\((∀k,P (.bool (!r)) { s with toks:=k })->wpAny (model g.prog g.w) A (compareOp .NotIn u v) P E s)
section
variable{Q:Bn}{s:Shared}{H:CH}{u:Value}{c d:CV}{P:AC}
theorem BI(h:pn c l=some r){Z:Prop}(f:c.pure=true->CV.bD l=true->c.depth<=20->r=decide (c∈l)->Z):Z:=by
 unfold pn at h
 by_cases q:c.pure/\CV.bD l/\c.depth<=20/\CV.dB l<=20
 ·rw[ch q] at h;exact f q.1 q.2.1 q.2.2.1 (al h).symm
 ·rw[ca q] at h;exact nos h
theorem room_in(y:OKA g A)(h:c.depth<=20):A.units+1+min a (pd c).depth<cLine:=ax (h7 (lk (dE _ _) 1) (ae (Nat.min_le_right _ _) (ae (lB c) h))) (ax (by show A.units+200 * g.n+1+20<=A.units+200 * g.n+150;rw[Nat.add_assoc];exact ew (by decide) _) y.units)
theorem in_str(U:RV s.heap u c){x:Str}{t:Tok}(h:(c.onStr none λt=>(single t.cps.toList).map λc=>x.cps.toList.contains c)=some r):InG g A s u (.str x t) P E r:=
 CV.yx (R:=(·=some r)) (P:=λc=>RV s.heap u c->InG g A s u (.str x t) P E r) nos h (λy h U=>by
  obtain⟨V,Y,j⟩:=e0.mp h
  obtain⟨o,rfl⟩:=U.c
  clear h U
  have J:y=⟨#[V]⟩:=by
   unfold single at Y
   cases e:y.cps.toList with
   | nil=>rw[e] at Y;exact nos Y
   | cons a l=>
    rw[e] at Y
    cases l with
    | nil=>exact ab mk (Array.toList_inj.mp (e.trans (ab (λa=>[a]) (al Y))))
    | cons=>exact nos Y
  subst J
  have z:=(StrLaws.found_one x V).trans ((contains_eq_mem V x.cps.toList).symm.trans j)
  exact⟨λk=>PySem.P.in_str (z▸k s.toks),λk=>PySem.P.notIn_str (z▸k s.toks)⟩) U
theorem yI(O:g.Ok)(R:av g.w g.AN g.os g.h₀ Q s H)(j:OKA g A)(B:RV s.heap u c)(N:RV s.heap v d)(h:inV H c d=some r):InG g A s u v P E r:=by
 cases d with
 | str x=>obtain⟨t,rfl⟩:=N.c;exact in_str B h
 | tup l=>
  obtain⟨a,M,rfl,⟨o,V,J,n,p⟩,_,D⟩:=N.c
  exact BI h λy Y L e=>(B.reads y).elim λas T=>(D.reads Y).elim λm C=>
   have z:=(yH y Y).trans e.symm
   ⟨λU=>SeqAt.in_tuple_reads (.tuple V J p C) T (iR Y) (gx y) (room_in j L) (z▸U s.toks),
    λU=>SeqAt.notIn_tuple_reads (.tuple V J p C) T (iR Y) (gx y) (room_in j L) (z▸U s.toks)⟩
 | ref a=>
  obtain rfl:=N.c
  cases e:H.getL a with
  | some l=>
   obtain⟨M,⟨o,V,J,n,p⟩,D,_⟩:=R.cS e
   exact BI ((ab (Option.elim · _ (pn c)) e).symm.trans h) λy Y L e=>(B.reads y).elim λas T=>(D.reads Y).elim λm C=>
    have z:=(yH y Y).trans e.symm
    ⟨λU=>SeqAt.in_list_reads (.list V J p C) T (iR Y) (gx y) (room_in j L) (z▸U s.toks),
     λU=>SeqAt.notIn_list_reads (.list V J p C) T (iR Y) (gx y) (room_in j L) (z▸U s.toks)⟩
  | none=>
   obtain⟨I,i,h⟩:=kf.mp ((ab (Option.elim · _ (pn c)) e).symm.trans h)
   by_cases q:c.keyOk=true
   ·rw[ch q] at h
    obtain⟨F,S,_,X,V,W⟩:=R.dct a I i
    have z:=λ(f:Bool->Bool) (U:∀k,P (.bool (f r)) { s with toks:=k })=>ag (in_of (prog:=g.prog) (E:=E) (Q:=λb s=>wpAny (model g.prog g.w) A (pure (.bool (f b))) P E s) (R.noSys O.T F) (ax (h7 (dE _ _) (by decide)) j.units) B q V W S λk=>bj (al h▸U k))
    exact⟨z id,z (!·)⟩
   ·rw[ca q] at h;exact nos h
 | _=>exact nos h
end
noncomputable def nQ:CO->CmpOp
 | .eq=>.Eq
 | .ne=>.NotEq
 | .lt=>.Lt
 | .le=>.LtE
 | .gt=>.Gt
 | .ge=>.GtE
 | .isIn=>.In
 | .d8=>.NotIn
 | .is=>.Is
 | .kh=>.IsNot
theorem nR(y:RV h v c):(v==Value.none)=decide (c=.none):=
 y.casesOn (motive_1:=λv c Q=>(v==Value.none)=decide (c=.none)) (cn rfl).symm (λQ=>(dT (by intro h;injection h)).symm) (λQ Q=>(dT (by intro h;injection h)).symm) (λQ Q=>(dT (by intro h;injection h)).symm) (λQ Q Q=>(dT (by intro h;injection h)).symm) (λQ=>(dT (by intro h;injection h)).symm)
section
variable{Q:Bn}{s:Shared}{H:CH}{u:Value}{c d:CV}{P:AC}
theorem tH{f:Int->Int->Bool}(h:(c.cD none λa=>d.cD none λb=>some (f a b))=some r)(y:RV s.heap u c)(Y:RV s.heap v d){Z:Value->Value->Prop}(k:∀a t b U,f a b=r->Z (.int a t) (.int b U)):Z u v:=
 CV.iP (R:=(·=some r)) (P:=λc=>RV s.heap u c->Z u v) nos h (λa h y=>CV.iP (R:=(·=some r)) (P:=λd=>RV s.heap v d->Z u v) nos h (λb h Y=>y.c.elim λt e=>Y.c.elim λU V=>e▸V▸k a t b U (al h)) Y) y
theorem BJ(h:d.pg none (some b)=some r)(y:RV s.heap v d){Z:Value->Prop}(k:b=r->Z .none):Z v:=
 CV.uM (R:=(·=some r)) (P:=λd=>RV s.heap v d->Z v) nos h (λh y=>y.c▸k (al h)) y
theorem BK(O:g.Ok)(R:av g.w g.AN g.os g.h₀ Q s H)(j:OKA g A)(Y:RV s.heap u c)(U:RV s.heap v d)(h:bO H o c d=some r)(V:∀k,P (.bool r) { s with toks:=k }):wpAny (model g.prog g.w) A (compareOp (nQ o) u v) P E s:=by
 cases o with
 | eq=>
  obtain⟨x,y,as,T,J,p,f,l,room,e⟩:=G6 R j Y U h
  exact SeqAt.compareEq_reads J p f l room (e▸V s.toks)
 | ne=>
  obtain⟨q,C,B⟩:=e0.mp h
  obtain⟨x,y,as,T,J,p,f,l,room,e⟩:=G6 R j Y U C
  exact SeqAt.compareNe_reads J p f l room (by(erw[e];erw[B]);exact V s.toks)
 | isIn=>exact(yI O R j Y U h).1 V
 | d8=>exact(e0.mp h).elim λq y=>(yI O R j Y U y.1).2 (y.2▸V)
 | is=>exact BJ (Z:=λv=>wpAny (model g.prog g.w) A (compareOp .Is u v) P E s) h U λe=>PySem.is_none (by(erw[nR Y];erw[e]);exact V s.toks)
 | kh=>exact BJ (Z:=λv=>wpAny (model g.prog g.w) A (compareOp .IsNot u v) P E s) h U λe=>PySem.isNot_none (by(erw[nR Y];erw[e]);exact V s.toks)
 | lt=>exact tH (Z:=λu v=>wpAny (model g.prog g.w) A (compareOp .Lt u v) P E s) h Y U λa t b L e=>PySem.P.lt_int (e▸V s.toks)
 | le=>exact tH (Z:=λu v=>wpAny (model g.prog g.w) A (compareOp .LtE u v) P E s) h Y U λa t b L e=>PySem.P.le_int (e▸V s.toks)
 | gt=>exact tH (Z:=λu v=>wpAny (model g.prog g.w) A (compareOp .Gt u v) P E s) h Y U λa t b L e=>PySem.P.gt_int (e▸V s.toks)
 | ge=>exact tH (Z:=λu v=>wpAny (model g.prog g.w) A (compareOp .GtE u v) P E s) h Y U λa t b L e=>PySem.P.ge_int (e▸V s.toks)
end
theorem ES.two{l L:CE}{t T:Sem Value}(B:ES g z w l t)(n:ES g z w L T){A:Around}{J:Bn}{s:Shared}{st:St}{Q:CV->CV->St->Prop}{X:D1}{P:Value->Value->Shared->Prop}{E:AC}
(C:OKA g A)(R:Rep g J z w s st)(N:wpE g.Φ g.M l st (λx st=>wpE g.Φ g.M L st (λy st=>Q x y st) X) X)
(a:∀u v c d o V,RV o.heap u c->RV o.heap v d->Rep g J z w o V->Q c d V->P u v o)
(b:EOk g A J z w X E) :
  wpAny (model g.prog g.w) A t (λu Y=>wpAny (model g.prog g.w) A T (λv U=>P u v U) E Y) E s:=
 B A J s st _ X _ E C R N (λu c Y O D k p=>n.run C k p (λv d U f I j h M p=>a _ _ _ _ _ _ (D.mono M) I j p) b) b
theorem ES.cm(O:g.Ok)(l:ES g z w V (eval a z))(L:ES g z w j (eval b z))(t:behindInMarks (nQ o) b=false):ES g z w (.cm o V j) (eval (.Compare a [nQ o] [b] Y) z):=by
 intro A M s st Q X P E J R T C B
 refine wpAny_Compare1 (ES.two (Q:=λx y st=>∃r,bO st.H o x y=some r/\Q (.bool r) st) (P:=λu v p=>wpAny (model g.prog g.w) A (compareOp (nQ o) u v) P E p) l L J R T (λu v c d p n N D f U=>?_) B) t
 obtain⟨r,I,U⟩:=U
 exact BK O f.H J N D I λk=>C _ _ _ _ (.bool _) (f.toks k) U
theorem TS.cm(O:g.Ok)(T:ES g z w p (eval a z))(j:ES g z w f (eval b z))(C:behindInMarks (nQ o) b=false):TS g z w (.cm o p f) (isTrue (.Compare a [nQ o] [b] V) z Y):=by
 intro A i s st Q X P E l R B n N
 refine wpAny_isTrue_Compare1 (ES.two (Q:=λx y st=>∃r,bO st.H o x y=some r/\Q (.bool r) st) (P:=λu v L=>wpAny (model g.prog g.w) A (compareOp (nQ o) u v) (λc U=>wpAny (model g.prog g.w) A (truthy c) P E U) E L) T j l R B (λu v c d L D I M t J=>?_) N) C
 obtain⟨r,h,J⟩:=J
 refine BK O t.H l I M h λk=>wpAny_truthy_bool ?_
 obtain⟨b,j,m⟩:=n _ _ _ (t.toks k) J
 cases j
 exact m
theorem ES.test(O:g.Ok)(h:ES g z w U (eval e z))(o:isTrue e z (eval e z)=(do let v ← eval e z;standAt e.pos;holding [v] (truthy v))):TS g z w U (isTrue e z (eval e z)):=by
 intro A p s st Q X P E f R l V L
 refine wpAny_isTrue_value (h A p s st _ X _ E f R l (λv c C t T y j=>?_) L) o
 obtain⟨b,J,_⟩:=V _ _ _ y j
 refine lD O.X O.T y.H T J λk=>?_
 obtain⟨B,Y,x⟩:=V _ _ _ (y.toks k) j
 cases J.symm.trans Y
 exact x
theorem ES.nt(O:g.Ok)(j:ES g z w U (eval a z)):ES g z w (.nt U) (eval (.UnaryOp .Not a y) z):=by
 intro A J s st Q X P E o R p f l
 refine wpAny_UnaryOp (j A J s st _ X _ E o R p (λv c s' L t V Y=>?_) l)
 obtain⟨b,T,Y⟩:=Y
 exact not_value (lD O.X O.T V.H t T λk=>f _ _ _ _ (.bool _) (V.toks k) Y)
theorem TS.nt(V:TS g z w v (isTrue a z (eval a z))):TS g z w (.nt v) (isTrue (.UnaryOp .Not a Y) z y):=by
 intro A k s st Q X P E j R J o O
 refine wpAny_isTrue_Not (V A k s st _ X (λb s'=>P (!b) s') E j R J (λc s' p f U=>?_) O)
 obtain⟨b,l,U⟩:=U
 obtain⟨t,L,T⟩:=o _ _ _ f U
 cases L
 exact⟨b,l,T⟩
theorem ES.ng(V:ES g z w U (eval a z)):ES g z w (.ng U) (eval (.UnaryOp .USub a y) z):=by
 intro A k s st Q X P E j R J o O
 refine wpAny_UnaryOp (V A k s st _ X _ E j R J (λv c L p f l Y=>?_) O)
 obtain⟨i,rfl,Y⟩:=Y
 obtain⟨t,rfl⟩:=f.c
 exact PySem.P.neg_int (o _ _ _ _ (.int _ _) (l.toks _) Y)
theorem ES.an(O:g.Ok)(L:ES g z w V (eval a z))(T:ES g z w j (eval b z)):ES g z w (.an V j) (eval (.BoolOp .And [a,b] Y) z):=by
 intro A J s st Q X P E o R x p f
 refine wpAny_And2 (L A J s st _ X _ E o R x (λv c n C l U y=>?_) f)
 obtain⟨t,B,y⟩:=y
 refine lD O.X O.T U.H l B λk=>?_
 cases t with
 | true=>exact T A J _ _ _ X _ E o (U.toks k) y p f
 | false=>exact p _ _ _ _ l (U.toks k) y
theorem ES.orr(O:g.Ok)(L:ES g z w V (eval a z))(T:ES g z w j (eval b z)):ES g z w (.orr V j) (eval (.BoolOp .Or [a,b] Y) z):=by
 intro A J s st Q X P E o R x p f
 refine wpAny_Or2 (L A J s st _ X _ E o R x (λv c n C l U y=>?_) f)
 obtain⟨t,B,y⟩:=y
 refine lD O.X O.T U.H l B λk=>?_
 cases t with
 | true=>exact p _ _ _ _ l (U.toks k) y
 | false=>exact T A J _ _ _ X _ E o (U.toks k) y p f
theorem TS.an(x:TS g z w j (isTrue a z (eval a z)))(U:TS g z w J (isTrue b z (eval b z))):TS g z w (.an j J) (isTrue (.BoolOp .And [a,b] V) z y):=by
 intro A o s st Q X P E O R C p f
 refine wpAny_isTrue_BoolOp (wpAny_allTrue_And_cons (x A o s st _ X _ E O R C (λc N B l Y=>?_) f))
 obtain⟨t,L,Y⟩:=Y
 refine⟨t,L,?_⟩
 cases t with
 | true=>
  refine wpAny_allTrue_And_cons (U A o _ _ _ X _ E O l Y (λc n T k Y=>?_) f)
  obtain⟨b,U,v⟩:=p _ _ _ k Y
  refine⟨b,U,?_⟩
  cases b with
  | true=>exact wpAny_allTrue_And_nil v
  | false=>exact v
 | false=>
  obtain⟨b,U,v⟩:=p _ _ _ l Y
  cases L.symm.trans U
  exact v
theorem TS.orr(x:TS g z w j (isTrue a z (eval a z)))(U:TS g z w J (isTrue b z (eval b z))):TS g z w (.orr j J) (isTrue (.BoolOp .Or [a,b] V) z y):=by
 intro A o s st Q X P E O R C p f
 refine wpAny_isTrue_BoolOp (wpAny_allTrue_Or_cons (x A o s st _ X _ E O R C (λc N B l Y=>?_) f))
 obtain⟨t,L,Y⟩:=Y
 refine⟨t,L,?_⟩
 cases t with
 | true=>
  obtain⟨b,U,v⟩:=p _ _ _ l Y
  cases L.symm.trans U
  exact v
 | false=>
  refine wpAny_allTrue_Or_cons (U A o _ _ _ X _ E O l Y (λc n T k Y=>?_) f)
  obtain⟨b,U,v⟩:=p _ _ _ k Y
  refine⟨b,U,?_⟩
  cases b with
  | true=>exact v
  | false=>exact wpAny_allTrue_Or_nil v
theorem ES.ife(f:TS g z w j (isTrue t z (eval t z)))(l:ES g z w J (eval a z))(L:ES g z w o (eval b z)):ES g z w (.ife j J o) (eval (.IfExp t a b Y) z):=by
 intro A U s st Q X P E V R T O k
 refine wpAny_IfExp (f A U s st _ X _ E V R T (λc B x p y=>?_) k)
 obtain⟨q,C,y⟩:=y
 refine⟨q,C,?_⟩
 cases q with
 | true=>exact l A U _ _ _ X _ E V p y O k
 | false=>exact L A U _ _ _ X _ E V p y O k
end
inductive AtS(l:B2)(i:Int)(c:CV):Prop
 | nn (h:0<=i) (hl:i<l.length) (e:l[i.toNat]?=some c)
 | ng (h:i<0) (h':0<=i+l.length) (e:l[(i+l.length).toNat]?=some c)
theorem AtS.of{i:Int}(h:atI l i=some c):AtS l i c:=by
 unfold atI at h
 by_cases q:0<=i
 ·rw[ch q] at h
  exact .nn q (Int.toNat_of_nonneg q▸hV.mpr (a6.mp h).1) h
 ·rw[ca q] at h
  by_cases z:0<=i+l.length
  ·rw[ch z] at h;exact .ng (Int.not_le.mp q) z h
  ·rw[ca z] at h;exact nos h
theorem wW{i:Int}{n:Nat}(h:0<=i)(z:i<n):seqIndex? i n=some i.toNat:=by
 unfold seqIndex?
 erw[ca (Int.not_lt.mpr h)]
 exact ch (bn.mpr ⟨cn h,cn z⟩)
theorem add_neg{i n:Int}(h:i<0):i+n<n:=Int.lt_of_lt_of_le (Int.add_lt_add_right h n) (Int.le_of_eq (Int.zero_add n))
theorem yJ{i n:Int}(h:0<=i+n):-i<=n:=Int.add_zero (-i)▸Int.neg_add_le_of_le_add h
theorem Fb{i:Int}{n:Nat}(h:i<0)(z:0<=i+n):seqIndex? i n=some (i+n).toNat:=by
 unfold seqIndex?
 erw[ch h]
 exact ch (bn.mpr ⟨cn z,cn (add_neg h)⟩)
theorem AtS.seq(h:AtS l i c)(z:l.length<=szl):∃j,seqIndex? i l.length=some j/\l[j]?=some c/\-(2 ^ 63)<=i/\i<2 ^ 63:=by
 have Q:(l.length:Int)<=16777216:=Int.ofNat_le.mpr z
 cases h with
 | nn h z e=>exact⟨_,wW h z,e,fa (by decide) h,Int.lt_of_lt_of_le z (fa Q (by decide))⟩
 | ng h w e=>exact⟨_,Fb h w,e,Int.neg_le_of_neg_le (fa (yJ w) (fa Q (by decide))),Int.lt_trans h (by decide)⟩
theorem BN{i:Int}(h:atI l i=none):seqIndex? i l.length=none:=by
 unfold atI at h
 unfold seqIndex?
 by_cases q:0<=i
 ·rw[ch q] at h
  erw[ca (Int.not_lt.mpr q)]
  refine ca λz=>?_
  have z:=a7 (bn.mp z).2
  exact absurd (eC.mp h) (Nat.not_le.mpr (hV.mp (Int.toNat_of_nonneg q▸z)))
 ·rw[ca q] at h
  erw[ch (Int.not_le.mp q)]
  by_cases Q:0<=i+l.length
  ·rw[ch Q] at h
   exact absurd (eC.mp h) (Nat.not_le_of_lt ((Int.toNat_lt Q).mpr (add_neg (Int.not_le.mp q))))
  ·exact ca λz=>Q (a7 (bn.mp z).1)
section
variable{w:World}{A:Around}{E:AC}{s:Shared}
theorem AF{items:Db}{u:Tok}(Y:IsTup s.heap t items)(U:A.handled=none)
(J:seqIndex? k items.size=none)(V:-1000<k/\k<1000)
(v:∀j o e,Heap.NewExc s.heap j e "IndexError"->E (.ref e) { s with heap:=j,toks:=o }):wpAny (model y w) A (getItem (.ref t) (.int k u)) Q E s:=by
 unfold getItem
 try with_reducible refine eA ?_
 first | refine ag (bj ?_) | skip
 refine ag (wpAny_sequenceKey Y.typeIs (by decide) ?_)
 refine ag (ke (name:=ofString "__getitem__") Y.typeIs slot_tuple_getitem
  (ib slot_tuple_getitem Y.typeIs entry_tuple_getitem ?_ (args_tuple_getitem _ _)))
 show wpAny _ _ (Builtin.Tuple.tupleItemsOf (.ref t) >>= _) _ _ s
 refine ag (tupleItemsOf_ Y (ag (wpAny_typeOf (typeIs_int s k u) (lr (by decide) (ag (mx (T:="int") (typeIs_int s k u) int_index (lr rfl (ag (wpAny_of_eq (a:=k) rfl (lr ?_ ?_))))))))))
 ·exact dT λz=>(eb.mp z).elim (λz=>absurd (a7 z) (Int.not_lt.mpr (fa (by decide) (Int.le_of_lt V.1)))) λz=>absurd (a7 z) (Int.not_le.mpr (Int.lt_trans V.2 (by decide)))
 ·erw[J]
  first
  | exact ag (ld (by exact_raiseError plainExc_IndexError U v))
  | exact ag (ld (ag (by exact_raiseError plainExc_IndexError U v)))
  | exact ag (ag (ld (by exact_raiseError plainExc_IndexError U v)))
  | exact ld (by exact_raiseError plainExc_IndexError U v)
end
theorem RVs.arr{z:Db}(x:RVs h z.toList l){i:Nat}{c:CV}(e:l[i]?=some c):∃v,z[i]?=some v/\RV h v c:=
 (x.get i e).elim λv y=>⟨v,hU.symm.trans y.1,y.2⟩
theorem RVs.size{vs:Db}(x:RVs h vs.toList l):vs.size=l.length:=x.length
theorem BP{h:Heap}(n:h.get? e=none)(y:h.get? e=some o){P:Prop}:P:=nos (n.symm.trans y)
theorem BQ{os:OsState}{s':Shared}{H:CH}(R:av w Y os z Q s H){q:Exc}(x:Heap.NewExc s.heap s'.heap e (aE q))(J:av w Y os z Q s' H) :
  ExcAt s'.heap H Q (.ref e) q:=by
 obtain⟨k,n,U,t,v,V,j⟩:=x
 refine⟨e,U,t,rfl,λo p=>(R.b3 e o p).elim λO y=>BP n y.1,v,V,j,?_⟩
 exact λh=>(R.ownAt (R.oM k h)).elim λo y=>BP n y
section
variable{g:G}{z:Env}{Q:AT}
section
variable{w:Bn}{s:Shared}{H:CH}{u:Value}{c d:CV}{P:AC}
noncomputable def ItK(A:Around)(s:Shared)(P:AC)(E:AC)(r:Except Exc CV):Prop:=match r with
 | .ok x=>∀k y,RV s.heap y x->P y { s with toks:=k }
 | .error q=>A.handled=none/\∀e Y k,Heap.NewExc s.heap Y e (aE q)->E (.ref e) { s with heap:=Y,toks:=k }
noncomputable def ItG(g:G)(A:Around)(s:Shared)(u v:Value)(P:AC)(E:AC):Prop:=
 (∃T id,s.TypeIs u T/\typeLookup (.type T) "__getitem__"=pure (some (.builtin id)))/\wpAny (model g.prog g.w) A (getItem u v) P E s
theorem BR(h:d.cD none k=some r)(y:RV s.heap v d){Z:Value->Prop}(f:∀i t,k i=some r->Z (.int i t)):Z v:=
 CV.iP (R:=(·=some r)) (P:=λd=>RV s.heap v d->Z v) nos h (λi h y=>y.c.elim λt e=>e▸f i t h) y
theorem item_tup{l:B2}(U:IsTup s.heap a k)(J:l.length<=szl)(V:RVs s.heap k.toList l)(o:RV s.heap v d)(h:fS H (.tup l) d=some r)(Y:ItK A s P E r):ItG g A s (.ref a) v P E:=
 ⟨⟨"tuple","tuple.__getitem__",U.typeIs,slot_tuple_getitem.lookup⟩,BR (Z:=λv=>wpAny (model g.prog g.w) A (getItem (.ref a) v) P E s) h o λi t h=>by
  cases e:atI l i with
  | some x=>
   rw[e] at h
   obtain⟨j,q1,q2,O,p⟩:=(AtS.of e).seq J
   obtain⟨y,f,L⟩:=V.arr q2
   exact PyProof.Rows.getItem_tuple U O p (V.size▸q1) f ((al h▸Y:ItK A s P E (.ok x)) s.toks y L)
  | none=>
   rw[e] at h
   by_cases q:-1000<i/\i<1000
   ·have Y:ItK A s P E (.error .index):=al ((ch q).symm.trans h)▸Y
    exact AF U Y.1 (V.size▸BN e) q λT C e x=>Y.2 e T C x
   ·exact nos ((ca q).symm.trans h)⟩
theorem item_str(Y:RV s.heap v d)(h:fS H (.str x) d=some r)(U:ItK A s P E r):ItG g A s (.str x t) v P E:=
 ⟨⟨"str","str.__getitem__",typeIs_str s x t,F.slot_str_getitem.lookup⟩,BR (Z:=λv=>wpAny (model g.prog g.w) A (getItem (.str x t) v) P E s) h Y λi j h=>by
  by_cases q:i=0
  ·rw[ch q] at h
   obtain⟨V,y,k⟩:=e0.mp h
   erw[q]
   refine PySem.P.getItem_str (by decide) (c:=V) ?_ ((k▸U:ItK A s P E (.ok _)) _ _ (.str _ _))
   rw[show seqIndex? 0 x.length=some 0 from wW (by decide) (hV.mpr (ms.mp y).1)]
   exact y
  ·exact nos ((ca q).symm.trans h)⟩
theorem BS(O:g.Ok)(R:av g.w g.AN g.os g.h₀ w s H)(N:OKA g A)(T:RV s.heap v d)(h:fS H (.ref a) d=some r)(Y:ItK A s P E r):ItG g A s (.ref a) v P E:=by
 cases e:H.getL a with
 | some l=>
  obtain⟨X,J,U,D⟩:=R.cS e
  refine⟨⟨"list","list.__getitem__",J.typeIs,slot_list_getitem.lookup⟩,BR (Z:=λv=>wpAny (model g.prog g.w) A (getItem (.ref a) v) P E s) ((ab (Option.elim · _ _) e).symm.trans h) T λi t h=>?_⟩
  obtain⟨x,V,j⟩:=e0.mp h
  have V:=AtS.of V
  obtain⟨_,_,_,I,M⟩:=V.seq D
  have C:=λy o=>(j▸Y:ItK A s P E (.ok x)) s.toks y o
  cases V with
  | nn h Z e=>exact(U.arr e).elim λy z=>wpAny_getItem_list J h M z.1 (C _ z.2)
  | ng h b e=>exact(U.arr e).elim λy z=>wpAny_getItem_list_neg J h (by erw[U.size];exact Int.neg_le_of_neg_le (yJ b)) I (by erw[U.size];exact z.1) (C _ z.2)
 | none=>
  obtain⟨p,m,h⟩:=kf.mp ((ab (Option.elim · _ _) e).symm.trans h)
  by_cases q:d.keyOk=true
  ·have j:=al ((ch q).symm.trans h)
   obtain⟨F,S,_,K,B,f⟩:=R.dct a p m
   refine⟨⟨"dict","dict.__getitem__",⟨_,B,rfl⟩,slot_dict_getitem.lookup⟩,E9 (R.noSys O.T F) (ax (h7 (dE _ _) (by decide)) N.units) T q B f S (λW=>?_) λy n o L k=>?_⟩
   ·have Y:ItK A s P E (.error .key):=(show Except.error Exc.key=r from(ab (Option.elim · _ _) W).symm.trans j)▸Y
    exact⟨Y.1,λk b e x=>Y.2 _ _ _ x⟩
   ·exact((show Except.ok n=r from(ab (Option.elim · _ _) o).symm.trans j)▸Y:ItK A s P E (.ok n)) k y L
  ·exact nos ((ca q).symm.trans h)
theorem item(O:g.Ok)(R:av g.w g.AN g.os g.h₀ w s H)(V:OKA g A)(y:RV s.heap u c)(Y:RV s.heap v d)(h:fS H c d=some r)(U:ItK A s P E r):ItG g A s u v P E:=by
 cases c with
 | str x=>exact y.c.elim λt e=>e▸item_str Y h U
 | tup l=>obtain⟨a,o,rfl,k,j,J⟩:=y.c;exact item_tup k j J Y h U
 | ref a=>exact(y.c:u=.ref a)▸BS O R V Y h U
 | _=>exact nos h
end
end
noncomputable def tK:Expr->Bool
 | .Slice _ _ _ _=>false
 | _=>true
theorem pK(h:tK e=true)(o i:Value):subscripted e false o i=operate [o,i] (getItem o i):=by
 cases e <;> first | rfl | exact nomatch h
inductive pL(l:B2):CV->CV->List CV->Prop
 | all:pL l .none .none l
 | from(n:Nat):pL l (.int n) .none (l.drop n)
 | upto (n:Nat):pL l .none (.int n) (l.take n)
theorem pL.of(h:cut l x y=some m):pL l x y m:=by
 cases x with
 | none=>
  cases y with
  | none=>exact al h▸.all
  | int i=>
   by_cases q:0<=i/\i<2 ^ 30
   ·have z:=pL.upto (l:=l) i.toNat
    rw[Int.toNat_of_nonneg q.1] at z
    exact al ((ch q).symm.trans h)▸z
   ·exact nos ((ca q).symm.trans h)
  | _=>exact nos h
 | int i=>exact CV.uM (R:=(·=some m)) (P:=λy=>pL l (.int i) y m) nos h (λh=>by
   by_cases q:0<=i/\i<2 ^ 30
   ·have z:=pL.from (l:=l) i.toNat
    rw[Int.toNat_of_nonneg q.1] at z
    exact al ((ch q).symm.trans h)▸z
   ·exact nos ((ca q).symm.trans h))
 | _=>exact nos h
section
variable{g:G}{U:AT}
theorem pM{s:Shared}{id:String}(k:s.TypeIs o T)
(J:typeLookup (.type T) "__getitem__"=pure (some (.builtin id)))(h:wpAny (model g.prog g.w) A (getItem o i) P E s)
(O:subscripted z false o i=operate V (getItem o i)) :
  wpAny (model g.prog g.w) A (do
   let r ← subscripted z (← getitemInPython o) o i
   letTemporaryGo Q o r
   pure r) P E s:=by
 refine ag ?_
 erw[getitemInPython_of_ne k.not_modules]
 refine ag (mx k J ?_)
 have y:wpAny (model g.prog g.w) A (subscripted z false o i) (λr w=>wpAny (model g.prog g.w) A (letTemporaryGo Q o r >>= λj=>pure r) P E w) E s:=by
  erw[O]
  exact wpAny_operating (wpAny_mono h (λr w v=>ag (wpAny_letTemporaryGo (bj v))) λj j x=>x)
 first
  | exact bj (ag y)
  | exact ag (bj (ag y))
  | exact ag y
theorem ES.ix(O:g.Ok)(he:ES g Y U t (eval e Y))(n:ES g Y U C (eval k Y))(N:tK k=true):ES g Y U (.ix t C) (eval (.Subscript e k o) Y):=by
 intro A a s st Q X P E p R D I f
 rw[eval_Subscript]
 refine ag (he A a s st _ X _ E p R D (λu c b l M j V=>?_) f)
 refine ag (eA (n.run p j V (λv d J L h w H m V=>?_) f))
 refine ag (mB ?_)
 obtain⟨r,i,V⟩:=V
 obtain⟨⟨T,id,F,S⟩,W⟩:=item O w.H p (M.mono m) h i (P:=P) (E:=E) (by
  cases r with
  | ok x=>exact λk y Z=>I _ _ _ _ Z (w.toks k) V
  | error q=>
   have z:=f _ _ V
   exact⟨z.1,λe K k x=>
    have B:=w.ext (s':={ J with heap:=K,toks:=k }) x.keeps rfl rfl
    z.2 _ _ (BQ w.H x B.H) B⟩)
 exact pM F S W (pK N _ _)
section
variable{Q:Bn}{st:St}{P:AC}{z V:Expr}{c x y:CV}{u v w:Value}
noncomputable abbrev slO(v w:Value):Obj:={ cls:=.type "slice",data:=.fields #[v,w,.none] }
noncomputable abbrev slS(s:Shared)(v w:Value):Shared:={ s with heap:=s.heap.push (slO v w) }
theorem HY(R:Rep g Q Y U s st){l:B2}{i:Nat}(f:IsTup s.heap a j)(p:l.length<=szl)(J:RVs s.heap j.toList l)(L:1<=i)(T:i<=l.length)
(C:∀v s',RV s'.heap v (.tup (l.drop i))->Rep g Q Y U s' st->P v s') :
  wpAny (model g.prog g.w) A (getItem (.ref a) (.ref s.heap.objs.size)) P E (slS s (.int i t) .none):=by
 have o:=aS s.heap (slO (.int i t) .none)
 have O:IsTup (slS s (.int i t) .none).heap a j:=TK.of_keep o _ _ f
 have k:=aS (slS s (.int i t) .none).heap { cls:=.type "tuple",data:=.seq (j.toList.drop i).toArray }
 exact getItem_tuple_from O (Heap.IsSliceOf.new ..) L (J.size▸T) (C _ _ (.tup ⟨_,dv _ rfl,rfl,_,rfl⟩ (ae (ki▸Nat.sub_le _ _) p) ((J.mono (TK.of_keep o)).mono (TK.of_keep k) |>.drop i)) ((R.ext (s':=slS s (.int i t) .none) o rfl rfl).ext k rfl rfl)) (J.size▸p)
inductive M6(h:Heap)(vs:Db)(v w:Value)(m:B2):Prop
 | mk (x y:Option Int) (px:IsPart v x) (py:IsPart w y) (r:RVs h (slicePick vs x y none).toList m) (z:m.length<=szl)
theorem pL.pick{vs:Db}(c:pL l x y m)(k:RV h v x)(j:RV h w y)(J:RVs h vs.toList l)(o:l.length<=szl):M6 h vs v w m:=by
 cases c with
 | all=>
  obtain rfl:v=.none:=k.c
  obtain rfl:w=.none:=j.c
  exact⟨none,none,.none,.none,by erw[slicePick_all _];exact J,o⟩
 | «from» n=>
  obtain⟨t,rfl⟩:=k.c
  obtain rfl:w=.none:=j.c
  exact⟨_,_,.int _ _,.none,by(erw[slicePick_from' _ _];erw[toList_toArray]);exact J.drop _,ae (ki▸Nat.sub_le _ _) o⟩
 | upto n=>
  obtain⟨t,rfl⟩:=j.c
  obtain rfl:v=.none:=k.c
  exact⟨_,_,.none,.int _ _,by(erw[slicePick_upto' _ _];erw[toList_toArray]);exact J.take _,ae (length_take▸Nat.min_le_right _ _) o⟩
theorem Fc(R:Rep g Q Y U s st)(p:st.H.getL a=some l)(f:cut l x y=some m)(L:RV s.heap v x)(t:RV s.heap w y)
(T:∀c s',st.H.free c->Rep g Q Y U s' { st with H:=st.H.aA c m }->P (.ref c) s') :
  (slS s v w).TypeIs (.ref a) "list"/\wpAny (model g.prog g.w) A (getItem (.ref a) (.ref s.heap.objs.size)) P E (slS s v w):=by
 have k:=aS s.heap (slO v w)
 have j:=R.ext (s':=slS s v w) k rfl rfl
 obtain⟨N,J,o,O⟩:=j.H.cS p
 obtain⟨_,_,C,b,B,n⟩:=(pL.of f).pick (L.mono (TK.of_keep k)) (t.mono (TK.of_keep k)) o O
 have z:=j.newL B n
 rw[Array.toArray_toList] at z
 exact⟨J.typeIs,wpAny_getItem_list_slice J (Heap.IsSliceOf.new ..) C b .none nsm (T _ _ (j.H.free (bI _)) z) (o.size▸O)⟩
end
theorem ES.sl(O:g.Ok){lo:Option Expr}(G:ES g Y U M (eval e Y))(C:ES g Y U h (evalPart lo Y))(q:ES g Y U r (evalPart F Y)) :
  ES g Y U (.sl M h r) (eval (.Subscript e (.Slice lo F none p) x) Y):=by
 intro A Pr s st Q X P E B R hw S n
 rw[eval_Subscript]
 refine ag (G A Pr s st _ X _ E B R hw (λu c W N L k w=>?_) n)
 refine ag (eA (wpAny_Slice (C.run B k w (λv d Z D T j ζ tk w=>q.run B j w (λK d' y I J V ζ o w=>?_) n) n)))
 erw[evalPart_none _]
 refine bj (ag (mB ?_))
 have L:=L.mono (tk.trans o)
 have T:=T.mono o
 cases c with
 | tup l=>
  obtain⟨i,rfl,rfl,h1,h2,w⟩:=w
  obtain⟨a,vs,rfl,H,t2,t3⟩:=L.c
  obtain⟨t,rfl⟩:=T.c
  obtain rfl:K=.none:=J.c
  exact pM (s:=slS y (.int i t) .none) (TK.of_keep (aS y.heap _) _ _ H).typeIs slot_tuple_getitem.lookup (HY V H t2 t3 h1 h2 λv s' a b=>S _ _ _ _ a b w) rfl
 | ref a=>
  obtain⟨l,m,C,hc,w⟩:=w
  obtain rfl:u=.ref a:=L.c
  have z:=Fc (P:=P) (E:=E) (A:=A) V C hc T J λc s' f R=>S _ _ _ _ (.ref c) R (w c f)
  exact pM (s:=slS y v K) z.1 slot_list_getitem.lookup z.2 rfl
 | _=>exact w.elim
theorem ES.AG:ES g Y U (.c .none) (evalPart none Y):=by
 intro A y s st Q X P E V R z w k
 erw[evalPart_none _]
 exact bj (w _ _ _ _ .none R z)
end
section
open PySem PySem.W PyProof.Rows PySem.Builtin PySem.Builtin.Str
noncomputable def M7:Str:=u 0x405584c7f5eca7988f9f25
section
variable{z:Program}{w:World}{A:Around}{E:AC}
set_option maxRecDepth 100000 in
set_option maxHeartbeats 4000000 in
theorem wX(t Q:Tok):∀z:PySem.Str,z.length<=1000000->Meets («str.__mod__» ⟨[.str ⟨#[37,115,32,45,62,32,60,101,109,112,116,121,62]⟩ t,.str z Q],[]⟩) (λY R s=>∀y k,R (.ok (.ret (.str (z++ofString " -> <empty>") y))) { s with toks:=k }):=by
 kpc_run_s
end
end
section
variable{Q:Program}{w:World}{s:Shared}
theorem Fd{P:AC}(t y:Tok)(c:PySem.Str)(Y:c.length<=1000000)
(h:∀U k,P (.str (c++ofString " -> <empty>") U) { s with toks:=k }):wpAny (model Q w) A (binaryOp .Mod (.str M7 t) (.str c y)) P E s:=
 KPc.mod_str (X':=⟨#[37,115,32,45,62,32,60,101,109,112,116,121,62]⟩) (T:=λz=>z++ofString " -> <empty>") rfl Y (wX t y) h
theorem Fe{P:AC}(o:s.heap.IsList l Y)(O:s.heap.IsList b ws)(U:Y.size+ws.size<=sizeLine)
(h:P (.ref s.heap.objs.size) { s with heap:=s.heap.push { cls:=.type "list",data:=.seq (Y++ws) } }):wpAny (model Q w) A (binaryOp .Add (.ref l) (.ref b)) P E s:=by
 obtain⟨⟨cls,p,data,f⟩,J,g,n,L⟩:=o
 obtain⟨⟨z,v,data2,V⟩,y,k,t,j⟩:=O
 obtain rfl:cls=_:=g
 obtain rfl:data=_:=L
 obtain rfl:z=_:=k
 obtain rfl:data2=_:=j
 exact concat_meets ⟨_,J,rfl⟩ ⟨_,y,rfl⟩ noFill_list_add seq_list_add PySem.F.slot_list_add PySem.F.entry_list_add (PySem.F.args_list_add_2 _ _) (list_addW l b Y ws n t p v f V U) ⟨J,y,h⟩
end
noncomputable def tL:BO->Operator
 | .add=>.Add
 | .sub=>.Sub
 | .mod=>.Mod
section
variable{g:G}{w:Env}
section
variable{s:Shared}{st:St}{u:Value}{c d:CV}{Q:Da}{P:AC}
theorem tM(h:d.cD False k)(z:RV s.heap v d){Z:Value->Prop}(f:∀i t,k i->Z (.int i t)):Z v:=
 CV.iP (R:=id) (P:=λd=>RV s.heap v d->Z v) False.elim h (λi h z=>z.c.elim λt e=>e▸f i t h) z
theorem HZ(h:d.onStr False k)(z:RV s.heap v d){Z:Value->Prop}(f:∀i t,k i->Z (.str i t)):Z v:=
 CV.yx (R:=id) (P:=λd=>RV s.heap v d->Z v) False.elim h (λi h z=>z.c.elim λt e=>e▸f i t h) z
theorem Ia(h:d.uL False k)(z:RV s.heap v d){Z:Value->Prop}(f:∀i,k i->Z (.ref i)):Z v:=
 CV.s9 (R:=id) (P:=λd=>RV s.heap v d->Z v) False.elim h (λi h z=>(z.c:v=.ref i)▸f i h) z
theorem J8(R:Rep g y w Y s st)(U:RV s.heap u c)(V:RV s.heap v d)(h:opV o c d st Q)(j:POk g y w Y Q P):wpAny (model g.prog g.w) A (binaryOp (tL o) u v) P E s:=by
 cases o with
 | add=>
  cases c with
  | int a=>exact U.c.elim λt e=>e▸tM (Z:=λv=>wpAny (model g.prog g.w) A (binaryOp .Add (.int a t) v) P E s) h V λb O h=>PySem.P.add_int (j _ _ _ _ (.int _ _) (R.toks _) h)
  | ref a=>exact(U.c:u=.ref a)▸Ia (Z:=λv=>wpAny (model g.prog g.w) A (binaryOp .Add (.ref a) v) P E s) h V (λb h=>by
    obtain⟨l,m,x,C,L,h⟩:=h
    obtain⟨n,B,T,_⟩:=R.H.cS x
    obtain⟨N,p,J,_⟩:=R.H.cS C
    have z:=R.newL (T.append J) (bp▸L)
    rw[← Array.toList_append,Array.toArray_toList] at z
    exact Fe B p (by(erw[T.size];erw[J.size]);exact L) (j _ _ _ _ (.ref _) z (h _ (R.H.free (bI _)))))
  | _=>exact h.elim
 | sub=>exact tM (Z:=λu=>wpAny (model g.prog g.w) A (binaryOp .Sub u v) P E s) h U λa t h=>tM (Z:=λv=>wpAny (model g.prog g.w) A (binaryOp .Sub (.int a t) v) P E s) h V λb O h=>PySem.P.sub_int (j _ _ _ _ (.int _ _) (R.toks _) h)
 | mod=>
  cases c with
  | int a=>exact U.c.elim λt e=>e▸tM (Z:=λv=>wpAny (model g.prog g.w) A (binaryOp .Mod (.int a t) v) P E s) h V λb O h=>mod_int' (Int.ne_of_gt h.1) (Int.fmod_eq_emod_of_nonneg _ (Int.le_of_lt h.1)▸j _ _ _ _ (.int _ _) (R.toks _) h.2)
  | str f=>exact U.c.elim λt e=>e▸HZ (Z:=λv=>wpAny (model g.prog g.w) A (binaryOp .Mod (.str f t) v) P E s) h V λz O h=>h.1▸Fd t _ _ h.2.1 λO k=>j _ _ _ _ (.str _ _) (R.toks _) (h.2.2 _)
  | _=>exact h.elim
end
theorem ES.op(j:ES g w Y U (eval a w))(J:ES g w Y V (eval b w)):ES g w Y (.op o U V) (eval (.BinOp a (tL o) b z) w):=by
 intro A n s st Q X P E O R p f l
 exact wpAny_BinOp (ES.two (Q:=λx y st=>opV o x y st Q) (P:=λu v k=>wpAny (model g.prog g.w) A (binaryOp (tL o) u v) P E k) j J O R p (λu v c d k L t T C B=>J8 C t T B f) l)
end
structure OKF(fs:List Env)(n:Nat)(A:Around):Prop where
 handled:A.handled=none
 units:A.units+200 * n+100<cLine
 depth:A.depth+10 * n+5<recursionLimit
 guards:A.guards=some []
 frames:A.frames=some fs
theorem OKA.f(h:OKA g A)(e:g.hd=true):OKF g.fs g.n A:=⟨h.handled e,by have:=h.units;lia,by have:=h.depth;lia,h.guards,h.frames⟩
noncomputable abbrev DD:=CV->CH->Prop
noncomputable def FS(g:G):Prop:=∀(f:Nat) (z:Cl) (y:B2) (A:Around) (w:Bn) (s:Shared) (H:CH) (Q:DD) (R:Result->Shared->Prop),OKF g.fs g.n A->Fls g w->
 av g.w g.AN g.os g.h₀ w s H->RVs s.heap z y->g.Φ f y H Q->(∀v c s' Y,RV s'.heap v c->av g.w g.AN g.os g.h₀ w s' Y->Q c Y->R (.ok (.ret v)) s')->
 codeAny (model g.prog g.w) A (.call (.ref f) ⟨z,[]⟩) R s
noncomputable abbrev FK:=List Expr
theorem iS{z:FK}(h:z.all noStar=true):(backTo pos (starEach z env)).any (·.1)=false:=by
 induction z with
 | nil=>rfl
 | cons e z Q=>
  rw[all_cons,Bool.and_eq_true] at h
  erw[d9 h.1]
  show(false||(backTo pos (starEach z env)).any (·.1))=false
  erw[Q h.2];rfl
section
variable{w:Env}{z:Pos}{first:Cl}{Q:AC}
theorem jr{Y:FK}{Q:Args->Shared->Prop}(U:Y.all noStar=true)(h:wpAny M A (spliced (backTo z (starEach Y w))) (λv V=>Q ⟨v,[]⟩ V) E s):wpAny M A (evalArgs f true (backTo z (starEach Y w)) []) Q E s:=by
 cases Y with
 | nil=>
  unfold evalArgs
  show wpAny M A (spliced [] >>= _) Q E s
  refine ag (wpAny_mono h (λv V k=>?_) λj j x=>x)
  refine eA ?_
  exact ag (bj (ag (bj (bj k))))
 | cons e Y=>
  rw[all_cons,Bool.and_eq_true] at U
  rw[d9 U.1] at h ⊢
  exact evalArgs_plain h
theorem BU{P:Heap->Prop}{U:FK}(v:U.all noStar=true)(V:∀h,P h->∃k,(k=Keeper.frame∨k=Keeper.machine∨k=Keeper.boundFrame)/\Looks M h (keeperOf f) k)
(h:wpAny M A (spliced (backTo z (starEach U w))) (λvs Y=>P Y.heap/\wpAny M A (call f (first++vs)) Q E Y) E s):wpAny M A (callWith z f first (backTo z (starEach U w)) []) Q E s:=
 callWith_of (by erw[iS v];rfl) V (jr v h)
theorem fD{id:String}{U:FK}(v:U.all noStar=true)
(h:wpAny M A (spliced (backTo z (starEach U w))) (λvs Y=>wpAny M A (call (.builtin id) (first++vs)) Q E Y) E s):wpAny M A (callWith z (.builtin id) first (backTo z (starEach U w)) []) Q E s:=
 callWith_builtin (iS v) (jr v h)
theorem lE{es:FK}(U:es.all noStar=true)
(h:wpAny M A (spliced (backTo z (starEach es w))) (λvs Y=>wpAny M A (call (.type T) (first++vs)) Q E Y) E s):wpAny M A (callWith z (.type T) first (backTo z (starEach es w)) []) Q E s:=
 PySem.callWith_type (iS U) (jr U h)
end
section
variable{g:G}{env:Env}{z:AT}
theorem BV(U:g.hd=true)(F:FS g){st:St}{P:AC}(o:OKA g A)
(R:Rep g J env z s st)(k:RVs s.heap w V)(O:g.Φ f V st.H Q)(p:∀v c y Y,RV y.heap v c->Rep g J env z y { st with H:=Y }->TK s.heap y.heap->Q c Y->P v y):wpAny (model g.prog g.w) A (call (.ref f) w) P E s:=
 wpAny_call (F f w V A (frz s st.H) s st.H Q _ (o.f U) (R.ofr.freeze R.H) R.H.freeze k O λv c y Y k j l=>
  p v c y Y k (R.of (j.weaken R.H.eY R.H.base) (R.H.tk j.keeps)) (R.H.tk j.keeps) l)
theorem m9{K:Frag}(Q:keepIn K f=true):∀h,K.In h->∃k,(k=Keeper.frame∨k=Keeper.machine∨k=Keeper.boundFrame)/\Looks M h (keeperOf f) k:=λh X=>keeps_K Q h X
theorem ES.fn(O:g.Ok)(Y:g.hd=true)(F:FS g){U:FK}(T:env.kindOf x=some .globalImplicit)(C:(x==ofString "__debug__")=false)(V:nsIn g.K mainGlobals x=some (some (.ref f)))
(k:keepIn g.K (.ref f)=true)(b:U.all noStar=true)(h:ESs g env z y (spliced (backTo w (starEach U env)))):ES g env z (.fn f y) (eval (.Call (.Name x t) U [] w) env):=by
 intro A I s st Q X P E l R B n N
 refine Call_ (tE O R T C V ?_)
 refine BU (P:=g.K.In) b (m9 k) (h.run l R B (λM d m a j J L J J o=>⟨L.H.inK O.X,?_⟩) N)
 exact BV Y F l L j o λv c D i V p J o=>n _ _ _ _ V p o
theorem lF{w Q:Pos}{Y:FK}(l:b4 o=true)(L:Y.all noStar=true)(t:(w.endLine==Q.line)=true)(T:Y.length<30)
(h:wpAny (model g.prog g.w) A (eval o env) (λf U=>∀c,wpAny (model g.prog g.w) A (getMethod f x c) (λO v=>wpAny (model g.prog g.w) A (callWith Q O.1 O.2 (backTo Q (starEach Y env)) []) P E v) E U) E s) :
  wpAny (model g.prog g.w) A (eval (.Call (.Attribute o x w) Y [] Q) env) P E s:=by
 (rewrite[arm_eval_Call];erw[yF l])
 refine ag (wpAny_mono h (λf U k=>ag (mB ?_)) λp p e=>e)
 have V:methodCallForm (Y.length+([]:List Keyword).length) (backTo Q (starEach Y env)) (backToKw Q (keywordEach [] env))=true:=by
  unfold methodCallForm
  have:(backTo Q (starEach Y env)).all (λx=>!x.1)=true:=by
   have q:=any_eq_false.mp (iS (env:=env) (pos:=Q) L)
   exact eQ.mpr λy C=>by
    have:=q y C
    cases e:y.1 with
    | false=>rfl
    | true=>exact absurd e this
  erw[this]
  show(true&&true&&decide (Y.length+0+0<30))=true
  simp[T]
 have j:methodCallPos true o env w Q=pure Q:=by unfold methodCallPos;simp[t]
 unfold methodCall
 erw[V]
 refine ag (eA (wpAny_mono (k _) (λO v J=>?_) λp p e=>e))
 exact ag (wpAny_of_eq j J)
theorem shadow_of{n:Nat}(q:dW w h Q a y)(Y:w[n]?=some x)(U:Q n a=none):shadowIn (some (dictOf y k)) x=some false:=by
 have:=q.at_ n x Y
 rw[U] at this
 unfold shadowIn
 dsimp only
 (erw[rW q.keys _ _];erw[this])
 rfl
theorem ES.me(O:g.Ok)(p:g.hd=true)(F:FS g)(l:∀c m f,g.M c m=some f->keepIn g.K (.ref f)=true){co:CE}{y Y:Pos}{J:FK}(M:g.AN[m]?=some x)(Z:b4 o=true)(d:J.all noStar=true)(K:(y.endLine==Y.line)=true)(H:J.length<30)
(G:ES g env z co (eval o env))(h:ESs g env z V (spliced (backTo Y (starEach J env)))):ES g env z (.me co m V) (eval (.Call (.Attribute o x y) J [] Y) env):=by
 intro A q s st Q X P E L R hw hP i
 refine lF Z d K H (G A q s st _ X _ E L R hw (λu c j t hu w U=>λpl=>?_) i)
 obtain⟨a,C,f,rfl,hc,e,r,T,U⟩:=U
 obtain rfl:=hu.c
 obtain⟨x',b,hf,ht⟩:=O.T.wQ C m f r
 obtain rfl:=al (M.symm.trans b)
 obtain⟨_,dx,B,k,h1,_,_,h4,h5⟩:=w.H.inst hc e
 have S:=O.T.cls C e
 have I:InstAt j.heap a (instObj C dx) C (some (dictOf B k)):=⟨h1,rfl,rfl,h4⟩
 refine method_fn (w.H.inK O.X) I S.ga S.gt hf ht (shadow_of h5 M T) ?_
 refine BU (P:=g.K.In) d (m9 (l _ _ _ r)) (h.run L w U (λvs cs s' z0 n N W N N U=>⟨W.H.inK O.X,?_⟩) i)
 exact BV p F L W (.cons (.ref a) n) U λv c z1 H' hv D N U=>hP _ _ _ _ hv D U
theorem wY{g:G}(h:OKA g A)(e:g.hd=true)(C:Addr)(Q:Cl):OKF g.fs g.n (A.under (.builtin "type.__call__" ⟨.ref C::Q,[]⟩)):=by
 have q1:(A.under (.builtin "type.__call__" ⟨.ref C::Q,[]⟩)).depth=A.depth+1:=rfl
 have q2:(A.under (.builtin "type.__call__" ⟨.ref C::Q,[]⟩)).units=A.units+1:=rfl
 have w:(Code.builtin "type.__call__" ⟨.ref C::Q,[]⟩).guards=[]:=rfl
 refine⟨h.handled e,?_,?_,?_,h.frames⟩
 ·erw[q2];have:=h.units;lia
 ·erw[q1];have:=h.depth;lia
 ·(erw[show(A.under (.builtin "type.__call__" ⟨.ref C::Q,[]⟩)).guards=pushGuards (Code.builtin "type.__call__" ⟨.ref C::Q,[]⟩).guards A.guards from rfl];erw[w];erw[h.guards]);rfl
theorem ES.nw(O:g.Ok)(f:g.hd=true)(F:FS g){l:FK}(L:keepIn g.K (.ref k)=true)(M:env.kindOf x=some .globalImplicit)(d:(x==ofString "__debug__")=false)(t:nsIn g.K mainGlobals x=some (some (.ref k)))
(m:l.all noStar=true)(h:ESs g env z j (spliced (backTo V (starEach l env)))):ES g env z (.nw k j) (eval (.Call (.Name x I) l [] V) env):=by
 intro A i s st Q X P E N R r S W
 refine Call_ (tE O R M d t ?_)
 refine BU (P:=g.K.In) m (m9 L) (h.run N R r (λvs Z s' w T a y a a Y=>⟨y.H.inK O.X,?_⟩) W)
 obtain⟨K,Y⟩:=Y
 have C:=O.T.cls k K
 have G:=bI s'.heap
 have D:∀o,s'.heap.get? (s'.heap.objs.size+1)≠some o:=λo e=>absurd (fv e) (Nat.not_lt.mpr (gN _))
 have B:∀b o,s'.heap.get? b=some o->((s'.heap.push emptyDict).push (instObj k s'.heap.objs.size)).get? b=some o:=λb o e=>dA _ (dA _ e)
 have u:((s'.heap.push emptyDict).push (instObj k s'.heap.objs.size)).get? (s'.heap.objs.size+1)=some (instObj k s'.heap.objs.size):=by
  erw[ip (Heap.size_push s'.heap emptyDict)];exact dv _ rfl
 have n:((s'.heap.push emptyDict).push (instObj k s'.heap.objs.size)).get? s'.heap.objs.size=some (dictOf [] 0):=dA _ (dv _ rfl)
 have q:=y.H.M1 (s':={ s' with heap:=(s'.heap.push emptyDict).push (instObj k s'.heap.objs.size) }) B D G u n rfl rfl
 have U:Rep g i env z { s' with heap:=(s'.heap.push emptyDict).push (instObj k s'.heap.objs.size) } { w with H:=w.H.setC (s'.heap.objs.size+1) k }:=y.of q (TK.of_keep B)
 refine wpAny_call ?_
 refine make_core (makes_of (y.H.inK O.X) C.make) (looks_findIn (y.H.inK O.X) C.init) (λJ=>bind_fn (y.H.inK O.X) J C.G4) (.inl rfl) ?_
 refine F (iO k) _ (.ref (s'.heap.objs.size+1)::Z) _ (frz { s' with heap:=(s'.heap.push emptyDict).push (instObj k s'.heap.objs.size) } (w.H.setC (s'.heap.objs.size+1) k)) _ _ _ _ (wY N f _ _) (U.ofr.freeze U.H) U.H.freeze (.cons (.ref _) (T.mono (TK.of_keep B)))
  (Y _ (y.H.free D)) λv c z0 H' t p Y=>?_
 obtain⟨rfl,Y⟩:=Y
 cases t
 refine⟨rfl,S _ _ _ _ (.ref _) ((U.of (p.weaken U.H.eY U.H.base) (U.H.tk p.keeps))) Y⟩
end
theorem RVs.one{h:Heap}{z:Cl}{Q:B2}{c:CV}(x:RVs h z Q)(e:Q=[c]):∃v,z=[v]/\RV h v c:=
 (e▸x:RVs h z [c]).c.elim λv y=>y.elim λr y=>⟨v,y.1.trans (ab _ y.2.2.c),y.2.1⟩
theorem RVs.two'{Q:Cl}{c:CV}(x:RVs h Q [c,d]):∃u v,Q=[u,v]/\RV h u c/\RV h v d:=
 x.c.elim λu y=>y.elim λr y=>(y.2.2.one rfl).elim λv z=>⟨u,v,y.1.trans (ab _ z.1),y.2.1,z.2⟩
noncomputable def q1(Q:Da)(z:B2)(st:St):Prop:=match z with
 | []=>False
 | c::r=>match r with
  | []=>Q c st
  | _::_=>False
noncomputable def q2(Q:CV->CV->St->Prop)(z:B2)(st:St):Prop:=match z with
 | []=>False
 | c::r=>q1 (Q c) r st
theorem J9{st:St}(q:q1 Q z st)(x:RVs h w z){Z:List Value->Prop}(f:∀v c,RV h v c->Q c st->Z [v]):Z w:=by
 cases z with
 | nil=>exact q.elim
 | cons c r=>
  cases r with
  | nil=>exact(x.one rfl).elim λv y=>y.1▸f v c y.2 q
  | cons=>exact q.elim
theorem M8{st:St}(q:q2 Q z st)(x:RVs h w z){Z:List Value->Prop}(f:∀u v c d,RV h u c->RV h v d->Q c d st->Z [u,v]):Z w:=by
 cases z with
 | nil=>exact q.elim
 | cons c r=>exact x.c.elim λu y=>y.elim λY y=>y.1▸J9 (Z:=λl=>Z (u::l)) q y.2.2 λv d=>f u v c d y.2.1
section
variable{g:G}{z:Env}{w:AT}
noncomputable abbrev lsO(Q:Db)(n:Nat):Obj:={ cls:=.type "list",dict:=none,data:=.seq Q n,slots:=#[] }
theorem Rep.Ff{st:St}(R:Rep g U z w s st){a:Nat}{f:Array Value->Array Value}(v:st.H.lst a=some l)(Y:s.heap.get? a=some { cls:=.type "list",dict:=none,data:=.seq y n,slots:=#[] })
(V:RVs s.heap (f y).toList m)(j:m.length<=szl):Rep g U z w { s with heap:=s.heap.update a (Obj.mapSeq f),toks:=k } { st with H:=st.H.aA a m }:=by
 have J:∃O,(s.heap.update a (Obj.mapSeq f)).get? a=some (lsO (f y) O):=⟨_,fp _ Y rfl⟩
 have Q:∀b,b≠a->(s.heap.update a (Obj.mapSeq f)).get? b=s.heap.get? b:=λb Q=>hJ _ _ (en Q)
 have t:TK s.heap (s.heap.update a (Obj.mapSeq f)):=.upd Y Bx Q
 exact R.of (s':={ s with heap:=s.heap.update a (Obj.mapSeq f),toks:=k }) (R.H.aA Q J (V.mono t) j (R.H.lst a l v).1 (λo e=>al (Y.symm.trans e)▸rfl) rfl rfl) t
theorem jR{H:CH}(R:av g.w g.AN g.os g.h₀ y s H){a:Nat}(e:H.lst a=some l):∃Q n,s.heap.get? a=some { cls:=.type "list",dict:=none,data:=.seq Q n,slots:=#[] }/\RVs s.heap Q.toList l/\l.length<=szl/\Q.size=l.length:=by
 obtain⟨_,z,Q,⟨n,h⟩,r⟩:=R.lst a l e
 exact⟨Q,n,h,r,z,r.size⟩
theorem ku{A:Around}{s:Shared}{a:Nat}(h:s.heap.get? a=some o)(Q:o.dict=none):∀b,Value.ref a=.ref b->∃o,s.heap.get? b=some o/\o.dict=none:=λb e=>⟨o,Value.ref.inj e▸h,Q⟩
section
variable{st:St}
theorem ESs.pN{k:CE}(h:ESs g z w [k] t){P:List Value->Shared->Prop}(j:OKA g A)(R:Rep g Y z w s st)(J:wpE g.Φ g.M k st Q X)
(o:∀v c s' y,RV s'.heap v c->Rep g Y z w s' y->Keeps s st.H s'->TK s.heap s'.heap->Q c y->P [v] s')(O:EOk g A Y z w X E):wpAny (model g.prog g.w) A t P E s:=
 h.run (Q:=q1 Q) j R J (λvs T s' y U x p f L V=>J9 (Z:=λl=>P l s') V U λv c U V=>o v c s' y U p f L V) O
theorem ESs.Kc{J:CE}(h:ESs g z w [J,o] t){Q:CV->CV->St->Prop}{P:List Value->Shared->Prop}(O:OKA g A)(R:Rep g Y z w s st)(p:wpE g.Φ g.M J st (λx st=>wpE g.Φ g.M o st (λy st=>Q x y st) X) X)
(f:∀u v c d V U,RV V.heap u c->RV V.heap v d->Rep g Y z w V U->Q c d U->P [u,v] V)(L:EOk g A Y z w X E):wpAny (model g.prog g.w) A t P E s:=
 h.run (Q:=q2 Q) O R p (λb B V U k n T N a j=>M8 (Z:=λl=>P l V) j k λu v c d C k j=>f u v c d V U C k T j) L
theorem lG{x:Str}{id:String}{O:FK}{U V:Pos}{K:Nat->St->Prop}(b:Slot "list" x id)(B:typeOf (.builtin id)=pure (.type "method_descriptor"))(N:b4 o=true)(L:O.all noStar=true)(D:(U.endLine==V.line)=true)(I:O.length<30)
(M:ES g z w f (eval o z))(h:OKA g A)(R:Rep g Y z w s st)(d:wpE g.Φ g.M f st (λu st=>∃a l,u=.ref a/\st.H.lst a=some l/\K a st) X)(m:EOk g A Y z w X E)
(k:∀a t J,Rep g Y z w t J->K a J->wpAny (model g.prog g.w) A (spliced (backTo V (starEach O z))) (λT Q=>wpAny (model g.prog g.w) A (call (.builtin id) (.ref a::T)) P E Q) E t):wpAny (model g.prog g.w) A (eval (.Call (.Attribute o x U) O [] V) z) P E s:=
 lF N L D I (M A Y s st _ X _ E h R d (λu c Q j i v p r=>by
  obtain⟨a,C,rfl,e,p⟩:=p
  obtain rfl:u=.ref a:=i.c
  exact(jR v.H e).elim λT y=>y.elim λn y=>getMethod_builtin ⟨_,y.1,rfl⟩ F.plainAttrs_list b B (ku (A:=A) y.1 rfl) (fD L (k a Q j v p))) m)
theorem uV{x:Str}{id:String}{J:FK}{U V:Pos}{K:Nat->St->Prop}(C:Slot "dict" x id)(b:typeOf (.builtin id)=pure (.type "method_descriptor"))(B:b4 o=true)(L:J.all noStar=true)(n:(U.endLine==V.line)=true)(N:J.length<30)
(D:ES g z w f (eval o z))(I:OKA g A)(R:Rep g Y z w s st)(M:wpE g.Φ g.M f st (λu st=>∃a l,u=.ref a/\st.H.dct a=some l/\K a st) X)(h:EOk g A Y z w X E)
(k:∀a t O,Rep g Y z w t O->K a O->wpAny (model g.prog g.w) A (spliced (backTo V (starEach J z))) (λd Q=>wpAny (model g.prog g.w) A (call (.builtin id) (.ref a::d)) P E Q) E t):wpAny (model g.prog g.w) A (eval (.Call (.Attribute o x U) J [] V) z) P E s:=
 lF B L n N (D A Y s st _ X _ E I R M (λu c Q j m v p e=>by
  obtain⟨a,T,rfl,i,p⟩:=p
  obtain rfl:u=.ref a:=m.c
  exact(v.H.dct a _ i).2.2.2.elim λJ y=>getMethod_builtin ⟨_,y.1,rfl⟩ F.plainAttrs_dict C b (ku (A:=A) y.1 rfl) (fD L (k a Q j v p))) h)
end
theorem ES.ap{co t:CE}{e:Expr}{y Y:Pos}(B:b4 o=true)(n:[e].all noStar=true)(j:(y.endLine==Y.line)=true)(N:ES g z w co (eval o z))(h:ESs g z w [t] (spliced (backTo Y (starEach [e] z)))) :
  ES g z w (.ap co t) (eval (.Call (.Attribute o "append" y) [e] [] Y) z):=λA S s st Q X P E T R D I x=>
 lG F.slot_list_append F.type_list_append B n j (lb rfl) N T R D x λa C J V k=>h.pN T V k (λv c s' M d b m m k=>by
  obtain⟨l,j,i,k⟩:=k
  obtain⟨O,r,U,p,f,L⟩:=jR b.H j
  exact call_meets F.slot_list_append (⟨_,U,rfl⟩:s'.TypeIs (.ref a) "list") F.entry_list_append (F.args_list_append_2 _ _) (list_append a O r v (L▸f)) ⟨U,I _ _ _ _ .none (b.Ff (k:=s'.toks) j U (by erw[Array.toList_push];exact p.append (.cons d .nil)) (by erw[bp];exact i)) k⟩) x
theorem ES.po{co C:CE}{e:Expr}{U V:Pos}(M:b4 o=true)(d:[e].all noStar=true)(O:(U.endLine==V.line)=true)(m:ES g z w co (eval o z))(h:ESs g z w [C] (spliced (backTo V (starEach [e] z)))) :
  ES g z w (.po co C) (eval (.Call (.Attribute o "pop" U) [e] [] V) z):=λA u s st Q X P E B R i r n=>
 lG F.slot_list_pop F.type_list_pop M d O (lb rfl) m B R i n λa N p k j=>h.pN B k j (λv c s' S W D Z Z j=>by
  obtain⟨x,l,rfl,O,j⟩:=j
  obtain⟨t,rfl⟩:=W.c
  obtain⟨⟨K⟩,H,Y,f,J,L⟩:=jR D.H O
  obtain⟨y,I,e,G,T⟩:=(show RVs s'.heap K (x::l) from f).c
  subst e
  refine call_meets F.slot_list_pop (⟨_,Y,rfl⟩:s'.TypeIs (.ref a) "list") F.entry_list_pop (F.args_list_pop_2 _ _) (MeetsSeq.list_pop_at a _ H 0 _ 0 y (by decide) (wW (mA _) (show(0:Int)<((y::I).toArray.size:Int) from hV.mpr (ft I.length))) rfl (L▸J)) ⟨Y,?_⟩
  exact r _ _ _ _ (G.mono (.upd Y Bx λb q=>hJ _ _ (en q))) (D.Ff (k:=s'.toks) O Y (by simpa using T) (Nat.le_of_succ_le J)) j) n
theorem ES.ins{co x:CE}{i:Expr}{y Y:Pos}(r:b4 o=true)(S:[i,e].all noStar=true)(f:(y.endLine==Y.line)=true)(W:ES g z w co (eval o z))(h:ESs g z w [x,C] (spliced (backTo Y (starEach [i,e] z)))) :
  ES g z w (.ins co x C) (eval (.Call (.Attribute o "insert" y) [i,e] [] Y) z):=λA Pr s st Q X P E B R Z K n=>
 lG F.slot_list_insert F.type_list_insert r S f (lb rfl) W B R Z n λa N L k J=>h.Kc B k J (λu v c d D H G q I J=>by
  obtain⟨l,j,rfl,hj,f,hz,J⟩:=J
  obtain⟨t,rfl⟩:=G.c
  obtain⟨vs',n',U,O,z0,p⟩:=jR I.H f
  have T:vs'.size<=64:=p▸cy hz
  have M:¬(!Builtin.List.listFitsIndex (j:Int))=true:=by
   erw[show Builtin.List.listFitsIndex (j:Int)=true from fitsIndex_both (by lia) (by lia)];decide
  have m:(if (j:Int)<0 then((j:Int)+vs'.size).toNat else min (j:Int).toNat vs'.size)=j:=by(erw[ca (Int.not_lt.mpr (hO j))];erw[lp _];erw[p];exact Eq.substr (Nat.min_eq_left hj) rfl)
  generalize (j:Int)=V at M m ⊢
  have e:((vs'.extract 0 j).push v++vs'.extract j).toList=vs'.toList.take j++v::vs'.toList.drop j:=by
   (erw[Array.toList_append];erw[Array.toList_push];erw[Array.toList_extract];erw[Array.toList_extract];rewrite[io];erw[singleton_append])
   exact ab (λb=>vs'.toList.take j++v::b) (take_of_length_le (by erw[ki];exact cr _))
  exact call_meets F.slot_list_insert (⟨_,U,rfl⟩:D.TypeIs (.ref a) "list") F.entry_list_insert (F.args_list_insert_3 _ _ _) (AutoSeq1.list_insert_list_int_val_1 a vs' n' V t v M (ae T (by decide))) ⟨U,K _ _ _ _ .none (I.Ff (k:=D.toks) f U (by
   show RVs _ ((vs'.extract 0 (if V<0 then(V+vs'.size).toNat else min V.toNat vs'.size)).push v++vs'.extract (if V<0 then(V+vs'.size).toNat else min V.toNat vs'.size)).toList _
   (erw[m];erw[e])
   exact(O.take j).append (.cons q (O.drop j))) (by(erw[bp];erw[ik];erw[length_take];erw[ki]);unfold szl;lia)) J⟩) n
theorem in1_units(Q:OKA g A):A.in1.units+20<cLine:=ax (by show A.units+1+20<=A.units+200 * g.n+150;lia) Q.units
theorem ES.ge(O:g.Ok){co x:CE}{k:Expr}{Y U:Pos}(N:b4 o=true)(D:[k,d].all noStar=true)(l:(Y.endLine==U.line)=true)(I:ES g z w co (eval o z))(h:ESs g z w [x,C] (spliced (backTo U (starEach [k,d] z)))) :
  ES g z w (.ge co x C) (eval (.Call (.Attribute o "get" Y) [k,d] [] U) z):=λA Pr s st Q X P E L R M b B=>
 uV F.slot_dict_get F.type_dict_get N D l (lb rfl) I L R M B λa n t J j=>h.Kc L J j (λu v c d m i r S f j=>by
  obtain⟨V,l,W,j⟩:=j
  obtain⟨Z,K,_,H,p,T⟩:=f.H.dct a V l
  exact ib F.slot_dict_get (⟨_,p,rfl⟩:m.TypeIs (.ref a) "dict") F.entry_dict_get (wU (A:=A.in1) (f.H.noSys O.T Z) (in1_units L) r W p T K (λe k=>b _ _ _ _ S (f.toks k) ((show(au V c).getD d=d from ab (Option.getD · d) e)▸j)) λy G e q k=>b _ _ _ _ q (f.toks k) ((show(au V c).getD d=G from ab (Option.getD · d) e)▸j)) (F.args_dict_get_3 _ _ _)) B
theorem ES.ge1(O:g.Ok){co C:CE}{k:Expr}{Y U:Pos}(D:b4 o=true)(I:[k].all noStar=true)(L:(Y.endLine==U.line)=true)(M:ES g z w co (eval o z))(h:ESs g z w [C] (spliced (backTo U (starEach [k] z)))) :
  ES g z w (.ge co C (.c .none)) (eval (.Call (.Attribute o "get" Y) [k] [] U) z):=λA q s st Q X P E t R d b B=>
 uV F.slot_dict_get F.type_dict_get D I L (lb rfl) M t R d B λa n T J j=>h.pN t J j (λu c m p i l r r j=>by
  obtain⟨V,L,S,j⟩:=(show ∃N,p.H.dct a=some N/\c.keyOk=true/\Q ((au N c).getD .none) p from j)
  obtain⟨W,Z,_,K,f,x⟩:=l.H.dct a V L
  exact ib F.slot_dict_get (⟨_,f,rfl⟩:m.TypeIs (.ref a) "dict") F.entry_dict_get (uU (A:=A.in1) (l.H.noSys O.T W) (in1_units t) i S f x Z (λe k=>b _ _ _ _ .none (l.toks k) ((show(au V c).getD .none=.none from ab (Option.getD · CV.none) e)▸j)) λy H e G k=>b _ _ _ _ G (l.toks k) ((show(au V c).getD .none=H from ab (Option.getD · CV.none) e)▸j)) (F.args_dict_get_2 _ _)) B
end
theorem Fg(p:CV.bD l=true){c:CV}(h:c∈l):c.pure=true:=by
 induction h with
 | head=>exact eB p
 | tail _ _ z=>exact z (eE p)
section
variable{g:G}{w:Env}{Y:AT}
theorem ES.ind{co d:CE}{e:Expr}{z U:Pos}(W:b4 o=true)(Z:[e].all noStar=true)(T:(z.endLine==U.line)=true)(K:ES g w Y co (eval o w))(h:ESs g w Y [d] (spliced (backTo U (starEach [e] w)))) :
  ES g w Y (.ind co d) (eval (.Call (.Attribute o "index" z) [e] [] U) w):=λA Pr s st Q X P E x R H G i=>
 lG F.slot_list_index F.type_list_index W Z T (lb rfl) K x R H i λa r C J O=>h.pN x J O (λv c b u q S ζ ζ O=>by
  obtain⟨l,T,B,n,p3,p4,V,O⟩:=O
  obtain⟨k,n',p,f,N,j⟩:=jR S.H T
  obtain⟨as,ra⟩:=q.reads B
  obtain⟨bs,rb⟩:=f.reads n
  have L:∀m (V:m<k.size),PyData.eqv (SeqAt.readOf b.heap k[m]) (pd c)=decide (l[m]'(j▸V)=c):=λm V=>by
   have t:m<l.length:=j▸V
   obtain⟨y,y1,y2⟩:=f.arr (bm t)
   have D:=Fg n (fg t)
   obtain⟨cs,rc⟩:=y2.reads D
   rw[al ((Array.getElem?_eq_getElem V).symm.trans y1),SeqAt.readOf_eq (gx D) rc,lC D B]
  have I:l.findIdx (λy=>decide (y=c))<l.length:=findIdx_lt_length_of_exists ⟨c,V,cn rfl⟩
  exact call_meets F.slot_list_index (⟨_,p,rfl⟩:b.TypeIs (.ref a) "list") F.entry_list_index (F.args_list_index_2 _ _)
   (SeqAt.list_indexAt a k n' none #[] v (λy=>PyData.eqv (SeqAt.readOf b.heap y) (pd c)) (l.findIdx λy=>decide (y=c)) (j▸I) (Int.lt_of_lt_of_le (hV.mpr I) (fa (Int.ofNat_le.mpr N) (by decide))) ((L _ _).trans (findIdx_getElem (w:=I))) λm V M=>(L _ _).trans (not_of_lt_findIdx M))
   ⟨p,SeqAt.items_eqAt rb ra (iR n) (gx B) (room_in x p3),G _ _ _ _ (.int _ _) (S.toks _) O⟩) i
theorem Fi(x:RVs h y l):(∀z∈l,∃s:Str,z=.str s/\s.cps.size<64)->∃Q:List Str,StrsAre y Q/\Q.length=l.length/\(Q.map (·.length)).sum<=l.length * 64:=
 x.ind (P:=λy l=>(∀z∈l,∃s:Str,z=.str s/\s.cps.size<64)->∃Q:List Str,StrsAre y Q/\Q.length=l.length/\(Q.map (·.length)).sum<=l.length * 64) (λv=>⟨[],.nil,rfl,cr _⟩) λa v V U=>by
  obtain⟨s,rfl,k⟩:=U _ aM
  obtain⟨Q,j,J,o⟩:=V λz O=>U z (bb _ O)
  obtain⟨t,rfl⟩:=a.c
  exact⟨s::Q,.cons _ _ j,ab Nat.succ J,by(erw[jp];erw[sum_cons];erw[ik];erw[Nat.succ_mul _ _];erw[kb _ _]);exact h7 o (cy k)⟩
theorem ES.jo{co p:CE}{e:Expr}{y U:Pos}(n:b4 o=true)(f:[e].all noStar=true)(N:(y.endLine==U.line)=true)(D:ES g w Y co (eval o w))(h:ESs g w Y [p] (spliced (backTo U (starEach [e] w)))) :
  ES g w Y (.jo co p) (eval (.Call (.Attribute o "join" y) [e] [] U) w):=by
 intro A I s st Q X P E L R M d T
 refine lF n f N (lb rfl) (D A I s st _ X _ E L R M (λu c x O m j V=>λq=>?_) T)
 obtain⟨t,rfl,V⟩:=V
 obtain⟨t0,rfl⟩:=m.c
 with_reducible refine GM.join ?_
 refine fD f (h.pN L j V (λv c s' i r F S S V=>?_) T)
 obtain⟨l,C,rfl,b,J,V⟩:=V
 obtain⟨a,vs,rfl,W,_,Z⟩:=r.c
 obtain⟨ys,K,H,G⟩:=Fi Z J
 have B:(ys.map (·.length)).sum+ys.length * 64<=8192:=H▸ae (lk G _) (by rw[← Nat.add_mul];exact Nat.mul_le_mul_right 64 (h7 (cy b) (cy b)))
 refine join_tupleC W K (ae (bv C) (by decide)) (ae B (by decide)) λt' k=>d _ _ _ _ (.str _ _) (F.toks k) (V _ ?_)
 have z:=StrLaws.join_length_le t ys
 rw[show t.length=1 from C] at z
 erw[show Txt.join t ys=join t ys by first | rfl | exact StrLaws.glued_eq_join t ys]
 exact ax (ae z (ae (ew (Nat.mul_le_mul_left _ (by decide)) _) B)) (by decide)
section
variable{z:Bn}{st:St}{c:CV}{Q:Da}{P:AC}
theorem G7(O:g.Ok)(R:Rep g z w Y s st)(J:RV s.heap v c)(T:POk g z w Y Q P)(h:HM c st Q):wpAny (model g.prog g.w) A (call (.builtin "len") [v]) P E s:=by
 obtain⟨n,V,N,C⟩:=h
 have U:(n:Int)<2 ^ 63:=Int.lt_of_le_of_lt (Int.ofNat_le.mpr N) (by decide)
 have y:=λt k=>T (.int n t) _ { s with toks:=k } _ (.int _ _) (R.toks _) C
 clear T C
 cases c with
 | str x=>
  obtain⟨t,rfl⟩:=J.c
  obtain rfl:x.cps.size=n:=al V
  exact PySem.P.len_str (Int.not_le.mpr U) (y _ _)
 | tup l=>
  obtain⟨a,o,rfl,j,_,p⟩:=J.c
  obtain rfl:o.size=n:=p.size.trans (al V)
  exact call_function_entry kind_len plain_len entry_len (args_len1 _) (len_body_tuple j U (y _ _))
 | ref a=>
  obtain rfl:v=.ref a:=J.c
  cases f:st.H.getL a with
  | some l=>
   obtain⟨o,j,b,_⟩:=R.H.cS f
   obtain rfl:o.size=n:=b.size.trans (al ((ab (Option.elim · _ _) f).symm.trans V))
   exact call_len_list j U (y _ _)
  | none=>
   obtain⟨L,B,D⟩:=e0.mp ((ab (Option.elim · _ _) f).symm.trans V)
   obtain⟨I,j,b,p,M⟩:=R.H.BE B
   obtain rfl:I.length=n:=M.trans D
   exact wR (R.H.noSys O.T (R.H.dct a L B).1) j p (y _ _)
 | _=>exact nos V
theorem Ib(O:g.Ok)(p:g.hd=true)(l:FS g)(U:findIn g.K (.ref 100) "__len__"=some (some (.ref 83)))(V:typeIn g.K (.ref 83)=some (.type "function"))(j:OKA g A)(y:Rep g z w Y s st){a:Nat}(L:st.H.cls a=some 100)(T:POk g z w Y Q P)
(J:g.Φ 83 [.ref a] st.H λr H=>∃n:Nat,r=.int n/\n<2 ^ 30/\Q r { st with H:=H }):wpAny (model g.prog g.w) A (call (.builtin "len") [.ref a]) P E s:=by
 obtain⟨_,x,f,k,C,_,_,b,h⟩:=y.H.inst L rfl
 have I:InstAt s.heap a (instObj 100 x) 100 (some (dictOf f k)):=⟨C,rfl,rfl,b⟩
 have B:=y.H.inK O.X
 refine call_function_entry kind_len plain_len entry_len (args_len1 _) ?_
 unfold Builtin.«len»
 refine ag (m:=oneArg "len" _) (bj (ag (m:=callSpecial? (.ref a) (ofString "__len__")) (special_fn B I U V ?_)))
 refine wpAny_call (l 83 [.ref a] [.ref a] A.in1 (frz s st.H) s st.H _ _ ⟨j.handled p,by have:=j.units;show A.units+1+200 * g.n+100<cLine;lia,by have:=j.depth;show A.depth+10 * g.n+5<recursionLimit;lia,j.guards,j.frames⟩ (y.ofr.freeze y.H) y.H.freeze (.cons (.ref a) .nil) J
  λr c N d D o J=>?_)
 obtain⟨n,rfl,M,J⟩:=J
 obtain⟨t,rfl⟩:=D.c
 refine ag (eA (bj (ag (wpAny_letGo ?_))))
 show wpAny _ _ (if ((n:Nat):Int)<0 then _ else _) _ _ _
 erw[ca (Int.not_lt.mpr (hO n))]
 show wpAny _ _ (if ((n:Nat):Int)≥2 ^ 63 then _ else _) _ _ _
 erw[ca (Int.not_le.mpr (Int.lt_trans (hV.mpr M) (by decide)))]
 exact ag (wpAny_mkInt (bj ⟨_,rfl,T _ _ _ _ (.int _ _) ((y.of (o.weaken y.H.eY y.H.base) (y.H.tk o.keeps)).toks _) J⟩))
end
theorem ES.len(O:g.Ok)(k:g.hd=true)(t:FS g)(z:findIn g.K (.ref 100) "__len__"=some (some (.ref 83)))(y:typeIn g.K (.ref 83)=some (.type "function")){l:CE}{e:Expr}(x:w.kindOf "len"=some .globalImplicit)(V:nsIn g.K mainGlobals "len"=some none)(C:[e].all noStar=true)
(h:ESs g w Y [l] (spliced (backTo U (starEach [e] w)))):ES g w Y (.b1 .len l) (eval (.Call (.Name "len" T) [e] [] U) w):=by
 intro A N s st Q X P E L R b j B
 refine Call_ (dD (v:=.builtin "len") O R x (by decide) (by decide) V rfl ?_)
 refine fD C (h.pN L R b (λv c D J V o n n p=>?_) B)
 cases c with
 | ref a=>
  by_cases f:J.H.cls a=some 100
  ·exact(V.c:v=.ref a)▸Ib O k t z y L o f j (cast (ch f) p)
  ·exact G7 O o V j (cast (ca f) p)
 | _=>exact G7 O o V j p
theorem Rep.G8{s':Shared}{st:St}(R:Rep g z w Y s st)(k:∀b o,s.heap.get? b=some o->s'.heap.get? b=some o)(U:s'.os=s.os)(v:s'.gens=s.gens){a:Nat}(V:∀o,s.heap.get? a≠some o)
(Q:PL s'.heap a vs)(j:RVs s.heap vs.toList l)(J:l.length<=szl):Rep g z w Y s' { st with H:=st.H.aA a l }:=by
 have y:=R.ext k U v
 exact y.of (y.H.aA (λO O=>rfl) Q (j.mono (TK.of_keep k)) J (λo p=>let ⟨f,e,_⟩:=R.H.b3 _ o p;V f e) (λo e=>Q.elim λn h=>al (h.symm.trans e)▸rfl) rfl rfl) (TK.refl _)
theorem ES.list(O:g.Ok){x:CE}{B z:Pos}{e:Expr}(N:w.kindOf "list"=some .globalImplicit)(J:nsIn g.K mainGlobals "list"=some none)(D:[e].all noStar=true)
(h:ESs g w Y [x] (spliced (backTo z (starEach [e] w)))):ES g w Y (.b1 .list x) (eval (.Call (.Name "list" B) [e] [] z) w):=by
 intro A G s st Q X P E I R M d i
 refine Call_ (dD (v:=.type "list") O R N (by decide) (by decide) J rfl ?_)
 refine lE D (h.pN I R M (λv c s' r J f F F L=>?_) i)
 obtain⟨l,t,C,L⟩:=L
 have y:∀(p:Addr) (T:String) (o:Obj) (items:Db) (n:Nat),(T="list"∨T="tuple")->s'.heap.get? p=some o->o.cls=.type T->o.data=.seq items n->RVs s'.heap items.toList l->wpAny (model g.prog g.w) A (call (.type "list") [.ref p]) P E s':=λp T o items n S U V j b=>
  call_list_seq p S U V j (λW u k Z=>d _ _ _ _ (.ref _) (f.G8 (s':={ s' with heap:=W }) k rfl rfl (bI _) ⟨_,Z⟩ b C) (L _ (f.H.free (bI _)))) (ae (bv b.size) C)
 cases c with
 | tup m=>
  obtain⟨a,vs,rfl,⟨o,U,V,n,j⟩,_,K⟩:=J.c
  exact y _ "tuple" o _ n (.inr rfl) U V j (al t▸K)
 | ref a=>
  obtain⟨vs,⟨o,U,V,n,j⟩,H,_⟩:=f.H.cS t
  exact(J.c:v=.ref a)▸y _ "list" o _ n (.inl rfl) U V j H
 | _=>exact nos t
theorem ES.tuple(O:g.Ok){t:CE}{e:Expr}(N:w.kindOf "tuple"=some .globalImplicit)(y:nsIn g.K mainGlobals "tuple"=some none)(D:[e].all noStar=true)
(h:ESs g w Y [t] (spliced (backTo z (starEach [e] w)))):ES g w Y (.b1 .tuple t) (eval (.Call (.Name "tuple" n) [e] [] z) w):=by
 intro A F s st Q X P E I R M T d
 refine Call_ (dD (v:=.type "tuple") O R N (by decide) (by decide) y rfl ?_)
 refine lE D (h.pN I R M (λv c s' i y J r r U=>?_) d)
 obtain⟨l,p,x,U⟩:=U
 cases c with
 | tup m=>
  obtain⟨a,f,rfl,V,j,C⟩:=y.c
  obtain rfl:=al p
  exact call_tuple_same V (T _ _ _ _ (.tup V j C) J U)
 | ref a=>
  obtain⟨f,V,j,C⟩:=J.H.cS p
  refine(y.c:v=.ref a)▸call_tuple_list V (λL k=>?_) (ae (bv j.size) x)
  have B:∀b o,s'.heap.get? b=some o->(L.push { cls:=.type "tuple",data:=.seq f }).get? b=some o:=λb o e=>aS L _ b o (k b o e)
  exact T _ _ _ _ (.tup ⟨_,dv _ rfl,rfl,_,rfl⟩ x (j.mono (TK.of_keep B))) (J.ext (s':={ s' with heap:=L.push { cls:=.type "tuple",data:=.seq f } }) B rfl rfl) U
 | _=>exact nos p
theorem ES.uK(O:g.Ok)(k:w.kindOf "set"=some .globalImplicit)(j:nsIn g.K mainGlobals "set"=some none):ES g w Y .uK (eval (.Call (.Name "set" V) [] [] y) w):=by
 intro A p s st Q X P E f R J o l
 refine Call_ (dD (v:=.type "set") O R k (by decide) (by decide) j rfl ?_)
 refine lE (es:=[]) rfl (spliced_nil ?_)
 refine call_set_0 λz=>?_
 have U:=aS s.heap { cls:=.type "set",dict:=none,data:=.set #[] 0 (.fresh 0 0 z) }
 exact o _ _ _ _ (.ref _) (R.of (R.H.M5 (s':={ s with heap:=s.heap.push { cls:=.type "set",dict:=none,data:=.set #[] 0 (.fresh 0 0 z) } }) U (bI _) (dv _ rfl) rfl rfl rfl rfl) (TK.of_keep U)) (J _ (R.H.free (bI _)))
theorem ES.d0:ES g w Y .d0 (eval (.Dict [] [] z) w):=by
 intro A V s st Q X P E k R y U j
 erw[eval_Dict_empty _]
 refine ag (mB ?_)
 exact wpAny_newObj_type (U _ _ _ _ (.ref _) R.newD (y _ (R.H.free (bI _))))
theorem av.Kd{w:World}{os:OsState}{H:CH}(R:av w y os z U s H){a:Nat}(v:s.heap.get? a=some o)(V:o.cls=.type "dict")(Q:¬ Own s.heap H a):H.free a where
 ro:=by
  cases e:H.ro a with
  | none=>rfl
  | some l=>
   obtain⟨k,_,_,p,c,_⟩:=R.ro a l e
   have:=R.old a k p
   rw[v] at this;cases this
   rw[V] at c;exact absurd c (by decide)
 lst:=Classical.byContradiction λh=>Q (.inl h)
 dct:=Classical.byContradiction λh=>Q (.inr (.inl h))
 cls:=Classical.byContradiction λh=>Q (.inr (.inr (.inl h)))
 att:=λn=>Classical.byContradiction λh=>R.att n a h (Classical.byContradiction λj=>Q (.inr (.inr (.inl j))))
theorem ES.d1{H G:CE}{v:Expr}(hk:ES g w Y H (eval k w))(hv:ES g w Y G (eval v w)):ES g w Y (.d1 H G) (eval (.Dict [some k] [v] j) w):=by
 intro A Pr s st Q X P E D R hw hP N
 have hr:=D.units
 rw[arm_eval_Dict]
 refine ag (mB ?_)
 rw[zip_pairTrees [some k] [v] w j rfl rfl]
 have I:pairTrees [some k] [v] w j≠[]:=λe=>by cases e
 have J:(pairTrees [some k] [v] w j).length=1:=rfl
 rw[dictDisplay_pairs _ I (by rw[J];decide)]
 refine ag ?_
 unfold subDict
 refine ag (wpAny_alloc ?_)
 refine ag (eA ?_)
 rw[ch (by rw[J];decide)]
 have kp:=aS s.heap (dictOf [] 0)
 have hf:=bI s.heap
 have f:=R.ext (s':={ s with heap:=s.heap.push (dictOf [] 0) }) kp rfl rfl
 have M:(s.heap.push (dictOf [] 0)).get? s.heap.objs.size=some (dictOf [] 0):=dv _ rfl
 have m:¬ Own (s.heap.push (dictOf [] 0)) st.H s.heap.objs.size:=λh=>(R.H.ownAt (R.H.oM kp h)).elim hf
 have l:frz { s with heap:=s.heap.push (dictOf [] 0) } st.H s.heap.objs.size (dictOf [] 0):=⟨M,m⟩
 refine ag (pairTrees_cons_walk ?_)
 refine hk A (frz { s with heap:=s.heap.push (dictOf [] 0) } st.H) _ st _ X _ _ D f.freeze hw (λu c z0 i hu L z=>?_) λq y z=>⟨(N q y z).1,λe s' T r=>(N q y z).2 e s' (T.dX f.H) (f.dX r)⟩
 refine hv.run D L z (λx d U F T V S tk z=>?_) λq y z=>⟨(N q y z).1,λe s' T r=>(N q y z).2 e s' (T.dX f.H) (f.dX r)⟩
 refine pairTrees_nil_walk ?_
 refine eA ?_
 obtain⟨C,z⟩:=z
 obtain⟨oD,a,O⟩:=V.H.b3 _ _ l
 have O:=O.eq (by decide)
 subst O
 have B:=V.H.fU l
 have W:=f.dX V
 rw[forIn_cons]
 refine ag (ag ?_)
 show wpAny _ _ (dictSet s.heap.objs.size u x >>= λS=>pure (ForInStep.yield PUnit.unit)) _ _ U
 refine ag (pJ (A:=A) (es:=[]) (kvs:=[]) (by lia) (hu.mono tk) T C a .nil dt (cf Nat.zero_lt_one (by unfold szl;exact aw rfl)) λk h' fs hb hd Z K hz=>bj ?_)
 dsimp only
 rw[forIn_nil]
 refine bj (bj (bj ?_))
 have t:TK U.heap h':=.upd a wO hb
 have R5:=W.H.G3 (s':={ U with heap:=h',toks:=k }) (kvs:=aW [] c d) hb hd (Z.mono t) K hz (λo p=>let ⟨o',e,_⟩:=R.H.b3 _ o p;hf o' e) (λo e=>al (a.symm.trans e)▸rfl)
  (λb c dx es n h1 h2 S S q=>B (.inr (.inr (.inr ⟨b,c,_,h1,h2,by rw[q]⟩)))) rfl rfl
 exact bj (hP _ _ _ _ (.ref _) (W.of R5 t) (z _ (W.H.Kd a rfl B)))
end
section
variable{w:World}{os:OsState}{z:Heap}{Q:Bn}{s':Shared}{H:CH}
theorem av.side(R:av w Y os z Q s H){wr:Fa}(k:∀b o,b∉wr->s.heap.get? b=some o->s'.heap.get? b=some o)(V:∀b∈wr,(∀o,¬ Q b o)/\¬ Own s.heap H b/\∀O,¬ IsTup s.heap b O)
(L:s'.os=s.os)(T:s'.gens=s.gens):av w Y os z Q s' H/\TK s.heap s'.heap:=by
 have t:TK s.heap s'.heap:=λb O x=>x.elim λo y=>⟨o,k b o (λU=>(V b U).2.2 O x) y.1,y.2⟩
 have v:∀b o,Own s.heap H b->s.heap.get? b=some o->s'.heap.get? b=some o:=λb o U e=>k b o (λh=>(V b h).2.1 U) e
 have j:∀{a c},H.cls a=some c->Own s.heap H a:=λe=>.inr (.inr (.inl (e▸cw _)))
 exact⟨{
  os:=L.trans R.os
  gens:=T.trans R.gens
  base:=R.base
  b3:=λb o p=>(R.b3 b o p).imp λC y=>⟨k b C (λU=>(V b U).1 o p) y.1,y.2⟩
  old:=λb o e=>k b o (λU=>(V b U).1 o (R.base b o e)) (R.old b o e)
  ro:=λa l e=>(R.ro a l e).keep t
  lst:=λa l e=>⟨(R.lst a l e).1,(R.lst a l e).2.keep t λo q g=>v a o (.inl (e▸cw _)) q⟩
  dct:=λa l e=>⟨(R.dct a l e).1,(R.dct a l e).2.keep t λo q g=>v a o (.inr (.inl (e▸cw _))) q⟩
  ins:=λa c e=>⟨(R.ins a c e).1,(R.ins a c e).2.keep t (λo q g=>v a o (j e) q) (λJ q=>v a _ (j e) q) λJ B n q1 N q y=>⟨N,B,n,v J _ (.inr (.inr (.inr ⟨a,c,_,e,q1,rfl⟩))) q,y⟩⟩
  one:=λa b c d J f U A D=>R.one a b c d J f U ((R.ins a c f).2.back (λo=>v a o (j f)) A) ((R.ins b d U).2.back (λo=>v b o (j U)) D)
  att:=R.att },t⟩
end
noncomputable abbrev FR:=List (Str×Value)
inductive BX(prog:Program)(w:World)(es:D2)(kvs:At):Prop
 | mk (lvs:FR) (h1:Pairs (strKind prog w) es lvs) (h2:lvs.length=kvs.length) (h3:(lvs.map (·.1)).Nodup) (h4:∀e∈es,∃k,(strKind prog w).is k e.key=true/\e.hash=(strKind prog w).hash k)
   (h5:∀(i:Nat) (k v:CV),kvs[i]?=some (k,v)->∃x u,lvs[i]?=some (x,u)/\k=CV.str x) (h6:∀x∈lvs.map (·.1),CV.str x∈kvs.map (·.1))
theorem nS(x:REs w h Y z):z.all (λp=>isS p.1)=true->(z.map (·.1)).Nodup->BX prog w Y z:=
 x.ind (P:=λY z=>z.all (λp=>isS p.1)=true->(z.map (·.1)).Nodup->BX prog w Y z) (λQ Q=>⟨[],.nil,rfl,dt,(λQ h=>nomatch h),(λQ Q Q h=>nomatch h),(λQ h=>nomatch h)⟩) λ{e k v Y z} a b c d r f V j=>by
  have V:=bn.mp V
  have j:=ei.mp j
  obtain⟨J,g,l,L,T,C,O⟩:=f V.2 j.2
  cases k with
  | str x=>
   obtain⟨t,B⟩:=c.c
   have U:(strKind prog w).is x e.key=true:=by erw[B];exact strKind_is prog w x t
   exact⟨(x,e.val)::J,.cons U rfl g,ab Nat.succ l,ei.mpr ⟨λn=>j.1 (O x n),L⟩,λN o=>(bt.mp o).elim (λq=>q▸⟨x,U,a⟩) (T N),λi k v U=>by
    cases i with
    | zero=>exact⟨x,_,rfl,(ab Prod.fst (al U)).symm⟩
    | succ i=>exact C i k v U,λy A=>(bt.mp A).elim (λq=>q▸aM) λq=>bb _ (O y q)⟩
  | _=>exact ff V.1
section
open AutoSeq1 (wpAny_loadPart')
set_option maxRecDepth 100000 in
theorem uW(t:Addr)(o:Obj)(items:Db)(n:Nat)(Y:o.cls=.type "tuple")(U:o.data=.seq items n) :
  Meets (Builtin.«enumerate.__new__» ⟨[.type "enumerate",.ref t],[]⟩) (λj R s=>s.heap.get? t=some o/\
   R (.ok (.ret (.ref (s.heap.push { cls:=.type "tuple_iterator",data:=.fields #[.ref t,.int 0 0] }).objs.size)))
    {s with heap:=(s.heap.push { cls:=.type "tuple_iterator",data:=.fields #[.ref t,.int 0 0] }).push { cls:=.type "enumerate",data:=.fields #[.none,.bool false,.ref s.heap.objs.size,rawInt 0,.none,.none] } }):=
 .of_wp λQ w A R s h=>by
  obtain⟨v,g,d,V,os⟩:=s;obtain⟨z,h⟩:=h
  have y:=sub_enumerate
  have k:Heap.IsTuple (Shared.heap ⟨v,g,d,V,os⟩) t items:=⟨_,z,Y,n,U⟩
  wp_walk using wpAny_loadPart' z
  refine wpAny_stack_any λst=>bj ?_
  generalize Builtin.SmallTypes.calledThroughType.match_1 _ _ _ _=b
  cases b <;>
  ·wp_walk using wpAny_loadPart' z,wpAny_pyIter_tuple k
   exact⟨_,rfl,h⟩
section
variable{z:Program}{w:World}{A:Around}{E:AC}{s:Shared}
theorem wZ{items:Db}{Q:AC}(V:s.heap.IsTuple t items)
(h:∀y,IsEnum y (s.heap.objs.size+1) s.heap.objs.size 0 .none->y.IsTupleIter s.heap.objs.size t 0->y.objs.size=s.heap.objs.size+2->
   (∀b o,s.heap.get? b=some o->y.get? b=some o)->Q (.ref (s.heap.objs.size+1)) { s with heap:=y }) :
  wpAny (model z w) A (call (.type "enumerate") [.ref t]) Q E s:=by
 obtain⟨o,k,j,n,J⟩:=V
 refine callType_new F.called_enumerate (by decide) (F.typeCall_enumerate_1 _) (F.newCall_enumerate_1 _) (λY=>F.args_object_init_2 Y _) F.entry_enumerate_new
  (uW t o items n j J) ⟨k,?_⟩
 have U:(s.heap.push { cls:=.type "tuple_iterator",data:=.fields #[.ref t,.int 0 0] }).objs.size=s.heap.objs.size+1:=Heap.size_push ..
 show _/\_
 erw[U]
 have v:IsEnum ((s.heap.push { cls:=.type "tuple_iterator",data:=.fields #[.ref t,.int 0 0] }).push
   {cls:=.type "enumerate",data:=.fields #[.none,.bool false,.ref s.heap.objs.size,rawInt 0,.none,.none] }) (s.heap.objs.size+1) s.heap.objs.size 0 .none:=by
  have:=dv (s.heap.push { cls:=.type "tuple_iterator",data:=.fields #[.ref t,.int 0 0] })
   (o:={ cls:=.type "enumerate",data:=.fields #[.none,.bool false,.ref s.heap.objs.size,rawInt 0,.none,.none] }) rfl
  rw[U] at this;exact this
 refine⟨⟨_,v,rfl⟩,h _ v ⟨_,dA _ (dv _ rfl),rfl,rfl⟩ (by(erw[Heap.size_push _ _];exact Eq.substr U rfl)) λb o x=>dA _ (dA _ x)⟩
theorem w4{items:Db}{Q:AC}(y:s.heap.IsTupleIter Y t i)(J:s.heap.IsTuple t items)(O:items[i]?=some x)
(p:∀V,V.IsTupleIter Y t (i+1)->Heap.SameBut Y s.heap V->Q x { s with heap:=V }):wpAny (model z w) A (Builtin.SmallTypes.nextOf (.ref Y)) Q E s:=by
 obtain⟨o,v,f,U⟩:=id y
 obtain⟨g,k,_,l,j⟩:=J
 unfold Builtin.SmallTypes.nextOf
 refine ag (ke (name:=ofString "__next__") y.typeIs F.slot_tuple_iterator_next
  (ib F.slot_tuple_iterator_next y.typeIs F.entry_tuple_iterator_next ?_ (F.args_tuple_iterator_next_1 _)))
 show wpAny _ _ (field (.ref Y) 0 >>= _) _ _ s
 refine ag (wpAny_field v U (x:=.ref t) rfl ?_)
 show wpAny _ _ (if (Value.ref t==Value.none)=true then _ else _) _ _ s
 erw[ca (show ¬ ((Value.ref t==Value.none)=true) from c6)]
 show wpAny _ _ (field (.ref Y) 1 >>= _) _ _ s
 refine ag (wpAny_field v U (x:=.int i 0) rfl ?_)
 show wpAny _ _ (seqItems? (.ref t) >>= _) _ _ s
 refine ag (wpAny_seqItems k j ?_)
 simp only[lp,O]
 refine ag (wpAny_setField v U (by simp) (bj ⟨x,rfl,bj (p _ ?_ (Heap.SameBut.update ..))⟩))
 exact⟨_,fp _ v (Obj.isFreed_of_fields (Obj.data_mapFields U _)),(Obj.cls_mapFields ..).trans f,by
  erw[Obj.data_mapFields U _];simp[rawInt]⟩
theorem AH{items:Db}(J:A.handled=none)(y:s.heap.IsTupleIter Y t i)(O:s.heap.IsTuple t items)(p:items[i]?=none)
(f:∀U e,Heap.ExtBut Y s.heap U->(∃o,U.get? e=some o/\o.cls=.type "StopIteration")->E (.ref e) { s with heap:=U }) :
  wpAny (model z w) A (Builtin.SmallTypes.nextOf (.ref Y)) Q E s:=by
 obtain⟨o,v,g,V⟩:=id y
 obtain⟨l,k,_,L,j⟩:=O
 unfold Builtin.SmallTypes.nextOf
 refine ag (ke (name:=ofString "__next__") y.typeIs F.slot_tuple_iterator_next
  (ib F.slot_tuple_iterator_next y.typeIs F.entry_tuple_iterator_next ?_ (F.args_tuple_iterator_next_1 _)))
 show wpAny _ _ (field (.ref Y) 0 >>= _) _ _ s
 refine ag (wpAny_field v V (x:=.ref t) rfl ?_)
 show wpAny _ _ (if (Value.ref t==Value.none)=true then _ else _) _ _ s
 erw[ca (show ¬ ((Value.ref t==Value.none)=true) from c6)]
 show wpAny _ _ (field (.ref Y) 1 >>= _) _ _ s
 refine ag (wpAny_field v V (x:=.int i 0) rfl ?_)
 show wpAny _ _ (seqItems? (.ref t) >>= _) _ _ s
 refine ag (wpAny_seqItems k j ?_)
 simp only[lp,p]
 refine ag (ld (ag (wpAny_setField v V (by simp) ?_)))
 show wpAny _ _ (newExc (.type "StopIteration") [] >>= _) _ _ _
 refine ag ?_
 simp only[newExc,newTuple]
 refine ag (wpAny_newObj_type ?_ (by size_fits))
 refine ag (m:=firstArgMember _ _) (wpAny_of_eq (a:=Value.none) (by first | rfl | (simp only[firstArgMember];rfl)) ?_)
 refine wpAny_newObj_type ?_ (by size_fits)
 simp only[raiseNew]
 refine ag (wpAny_handled ?_)
 first | erw[show A.in1.handled=none from J] | rw[J]
 refine ag (bj (wpAny_throw ?_))
 exact f _ _ (((Heap.SameBut.update ..).extBut.push _).push _) ⟨_,dv _ rfl,rfl⟩
end
theorem Ic{A:Around}(J:A.handled=none)(z t:Addr)(V:t≠z)(items:Db) :
  Draws prog w A z [z,t] items.size (λi v=>items[i]?=some v) (λi h=>h.IsTupleIter z t i/\h.IsTuple t items) where
 live:=λU U st=>let ⟨o,O,_⟩:=st.1;⟨o,O⟩
 frame:=λU U U st k=>⟨st.1.at λo e=>k z (by simp) o e,st.2.at λo e=>k t (by simp) o e⟩
 item:=λi s Q E j st p=>by
  refine w4 st.1 st.2 (x:=items[i]) (by simp[j]) λf y Y=>?_
  exact p _ f s.toks (by simp[j]) ⟨y,st.2.extBut Y.extBut V⟩ Y
 done:=λs Q E st g=>AH J st.1 st.2 (by simp) g
end
inductive ItR(h:Heap)(I:Addr):List Addr->It->Prop
 | list {a i:Nat}:h.IsListIter I a i->a≠I->ItR h I [I] (.list a i)
 | tup {t:Addr} {vs:Db} {i:Nat} {l:B2}:h.IsTupleIter I t i->h.IsTuple t vs->t≠I->RVs h (vs.toList.drop i) l->ItR h I [I] (.items l)
 | str {x:Str} {tk:Tok} {i:Nat}:h.IsStrIter I "str_ascii_iterator" x tk i->ItR h I [I] (.items ((x.cps.toList.drop i).map λc=>.str ⟨#[c]⟩))
 | rng {a c:Int} {n i:Nat}:IsRangeIter h I (a+(i:Nat) * c) ((n:Int) - (i:Nat)) c->i<=n->ItR h I [I] (.items ((range' i (n - i)).map λ(j:Nat)=>.int (a+j * c)))
 | keys {a n i:Nat}:h.IsKeyIter I a i n n->a≠I->ItR h I [I] (.keys a n i)
 | uX {J a k:Nat}:(∃old,IsEnum h I J k old)->h.IsListIter J a k->I≠J->a≠I->a≠J->ItR h I [I,J] (.enum k (.list a k))
 | uY {J t k:Nat} {vs:Db} {l:B2}:(∃old,IsEnum h I J k old)->h.IsTupleIter J t k->h.IsTuple t vs->I≠J->t≠I->t≠J->RVs h (vs.toList.drop k) l->k<=vs.size->ItR h I [I,J] (.enum k (.items l))
theorem ItR.keep{h':Heap}(x:ItR h I wr w)(k:∀b∈wr,∀o,h.get? b=some o->h'.get? b=some o)(t:TK h h'):ItR h' I wr w:=by
 have z:∀{l},wr=I::l->∀o,h.get? I=some o->h'.get? I=some o:=λe o q=>k I (e▸aM) o q
 cases x with
 | list a b=>exact .list (a.at (z rfl)) b
 | tup a b c d=>exact .tup (a.at (z rfl)) (t _ _ b) c (d.mono t)
 | str a=>obtain⟨o,y,r⟩:=a;exact .str ⟨o,z rfl o y,r⟩
 | rng a b=>exact .rng (z rfl _ a) b
 | keys a b=>exact .keys (a.at (z rfl)) b
 | uX a b c d e=>obtain⟨Q,a⟩:=a;exact .uX ⟨Q,z rfl _ a⟩ (b.at λo q=>k _ (by simp) o q) c d e
 | uY a b c d e f g i=>obtain⟨Q,a⟩:=a;exact .uY ⟨Q,z rfl _ a⟩ (b.at λo q=>k _ (by simp) o q) (t _ _ c) d e f (g.mono t) i
noncomputable def pO:List String:=["enumerate","zip","dict_itemiterator","dict_reverseitemiterator","odict_iterator","itertools.zip_longest","itertools.pairwise"]
section
variable{z:Program}{w:World}{s:Shared}
set_option tactic.hygienic true in
theorem nT{Q:Do}(V:s.heap.get? I=some o)(k:o.cls=.type n)(j:pO.contains n=false)(h:Q () s) :
  wpAny (model z w) A (letOwnedTupleGo y (.ref I) v) Q E s:=by
 have Y:wpAny (model z w) A (do
   let (.ref r,.ref a):=(Value.ref I,v) | return
   let o ← load r
   match o.cls,o.data with
   | .type n,.fields U=>
    if ["enumerate","zip","dict_itemiterator","dict_reverseitemiterator","odict_iterator","itertools.zip_longest","itertools.pairwise"].contains n&&U[0]?==some (rawInt a) then
     rule "for.unpacks-the-owned-tuple"
     updateField r 0 .none
   | _,_=>pure ()) Q E s:=by
  cases v <;> first | exact bj h | skip
  rename_i a
  refine ag (wpAny_load V ?_)
  erw[k]
  cases o.data <;> first | exact bj h | skip
  rename_i U
  show wpAny _ _ (if (pO.contains n&&U[0]?==some (rawInt a))=true then _ else _) _ _ s
  (erw[j];erw[Bool.false_and _];erw[ca c6])
  exact bj h
 cases y <;> first | exact Y | exact bj h
end
noncomputable def uZ:It->Expr->Prop
 | .enum _ _,t=>∃z k p,t=.Tuple z k p
 | _,_=>True
theorem u0{l:B2}{z:Cl}(x:RVs h (z.drop i) (c::r)):∃v,z[i]?=some v/\RV h v c/\RVs h (z.drop (i+1)) r:=by
 cases e:z.drop i with
 | nil=>rw[e] at x;cases x
 | cons v Q=>
  rw[e] at x
  cases x with
  | cons a b=>
   have w:z[i]?=some v:=by
    have:(z.drop i)[0]?=some v:=by erw[e];rfl
    rwa [getElem?_drop,Nat.add_zero] at this
   have y:z.drop (i+1)=Q:=by
    (erw[ip drop_drop];erw[e]);rfl
   exact⟨v,w,a,y▸b⟩
theorem u5{z:Cl}(x:RVs h (z.drop i) []):z[i]?=none:=by
 cases e:z.drop i with
 | nil=>exact fi (drop_eq_nil_iff.mp e)
 | cons v Q=>rw[e] at x;cases x
section
variable{g:G}{z:Env}{Q:AT}
noncomputable abbrev KpW(w:Fa)(h y:Heap):Prop:=∀b o,b∉w->h.get? b=some o->y.get? b=some o
noncomputable def NtW(w:Fa)(h:Heap):Prop:=∀b∈w,∀o,h.get? b=some o->o.cls≠.type "tuple"
theorem KpW.tk(k:KpW wr h w)(n:NtW wr h):TK h w:=λb v ⟨o,y,Y,q⟩=>⟨o,k b o (λU=>n b U o y Y) y,Y,q⟩
theorem j6(x:Heap.ExtBut I h w):KpW [I] h w:=λb o y q=>x b o (λe=>y (e▸aM)) q
noncomputable def ItO(h:Heap)(b:Addr):Prop:=∃o n,h.get? b=some o/\o.cls=.type n/\n≠"tuple"/\n≠"frame"
theorem rX{h:Heap}(x:∃o,h.get? a=some o/\o.cls=.type n/\o.data=d)(w:n≠"tuple"/\n≠"frame"):ItO h a:=x.elim λo y=>⟨o,n,y.1,y.2.1,w⟩
theorem rY(x:ItO h a):∀b∈[a],ItO h b:=λy w=>(bc.mp w).symm▸x
theorem G9(x:ItO h a)(y:ItO h b):∀c∈[a,b],ItO h c:=λc w=>(bt.mp w).elim (λe=>e.symm▸x) (rY y c)
theorem ItR.objs(x:ItR h I y Y):∀b∈y,ItO h b:=
 x.casesOn (motive:=λy w w=>∀b∈y,ItO h b) (λa w=>rY (rX a (by decide))) (λa w w w=>rY (rX a (by decide))) (λa=>rY (rX a (by decide))) (λa w=>rY ⟨_,_,a,rfl,by decide⟩) (λa w=>rY (rX a (by decide)))
  (λa c w w w=>G9 (a.elim λw a=>⟨_,_,a,rfl,by decide⟩) (rX c (by decide))) (λa c w w w w w w=>G9 (a.elim λw a=>⟨_,_,a,rfl,by decide⟩) (rX c (by decide)))
theorem ItO.ne(x:ItO h b)(k:∀n,n≠"tuple"/\n≠"frame"->n≠t):∀o,h.get? b=some o->o.cls≠.type t:=λw Y e=>
 x.elim λw y=>y.elim λn y=>k n y.2.2 (Value.type.inj (y.2.1.symm.trans ((ab Obj.cls (al (y.1.symm.trans Y))).trans e)))
theorem ItR.nc(x:ItR h I w Y):NtW w h:=λb U=>(x.objs b U).ne λv y=>y.1
theorem ItR.u6(x:ItR h I w Y):∀b∈w,∀o,h.get? b=some o->o.cls≠.type "frame":=λb U=>(x.objs b U).ne λv y=>y.2
theorem ItR.live(x:ItR h I w Y):∀b∈w,∃o,h.get? b=some o:=λb U=>(x.objs b U).elim λo y=>y.elim λv y=>⟨o,y.1⟩
section
variable{H:CH}{P:Option (CV×It)->Prop}
theorem jS(h:It.next H (.items l)=some r)(k:P (Ar l)):P r:=al h▸k
theorem pP(h:It.next H (.list a i)=some r)(k:∀l,H.getL a=some l->P (l[i]?.map λv=>(v,.list a (i+1)))):P r:=
 (e0.mp h).elim λl q=>q.2▸k l q.1
theorem u7(h:It.next H (.keys a n i)=some r)(k:∀w,H.dct a=some w->w.length=n->w.all (λp=>isS p.1)=true->P (w[i]?.map λp=>(p.1,.keys a n (i+1)))):P r:=
 (kf.mp h).elim λw e=>by
  by_cases q:w.length=n/\w.all (λp=>isS p.1)=true
  ·exact al ((ch q).symm.trans e.2)▸k w e.1 q.1 q.2
  ·exact nos ((ca q).symm.trans e.2)
theorem AI(h:It.next H (.pairs a n i)=some r)(k:∀w:List (CV×CV),P (w[i]?.map λp=>(.tup [p.1,p.2],.pairs a n (i+1)))):P r:=
 (kf.mp h).elim λw e=>by
  by_cases q:w.length=n
  ·exact al ((ch q).symm.trans e.2)▸k w
  ·exact nos ((ca q).symm.trans e.2)
noncomputable def u9(k:Nat)(r:Option (CV×It)):Option (CV×It):=r.map λp=>(.tup [.int k,p.1],.enum (k+1) p.2)
theorem pQ(h:It.next H (.enum k t)=some r)(f:∀w,It.next H t=some w->P (u9 k w)):P r:=
 (e0.mp h).elim λw e=>e.2▸f w e.1
end
theorem rZ{w:Type}{l:List w}{i:Nat}(e:l.drop i=[]):l[i]?=none:=fi (drop_eq_nil_iff.mp e)
theorem nh{w:Type}{l r:List w}{i:Nat}{c:w}(e:l.drop i=c::r):l[i]?=some c:=by
 have:(l.drop i)[0]?=some c:=by erw[e];rfl
 rwa [getElem?_drop,Nat.add_zero] at this
theorem ni{w:Type}{l r:List w}{i:Nat}{c:w}(e:l.drop i=c::r):l.drop (i+1)=r:=by(erw[ip drop_drop];erw[e]);rfl
noncomputable def NxK(s:Shared)(I:Addr)(y:Fa)(Y:Expr)(K:Option Value->Shared->Prop)(r:Option (CV×It)):Prop:=match r with
 | none=>∀w U,KpW y s.heap w->K none { s with heap:=w,toks:=U }
 | some p=>∀v w U,RV w v p.1->ItR w I y p.2->uZ p.2 Y->KpW y s.heap w->K (some v) { s with heap:=w,toks:=U }
noncomputable def NxQ(g:G)(A:Around)(Y:Expr)(I:Addr)(K:Option Value->Shared->Prop)(E:AC)(r:Option Value)(w:Shared):Prop:=match r with
 | none=>K none w
 | some v=>wpAny (model g.prog g.w) A (letOwnedTupleGo Y (.ref I) v) (λU y=>K (some v) y) E w
section
variable{A:Around}{Y:Bn}{s:Shared}{H:CH}{I a i k J:Nat}{w:Expr}{K:Option Value->Shared->Prop}{E:AC}{l:B2}{y:Db}
theorem BY(U:r=none->∀V tk,KpW O s.heap V->K none { s with heap:=V,toks:=tk })(j:∀c o,r=some (c,o)->∀v V tk,RV V v c->ItR V I O o->uZ o w->KpW O s.heap V->K (some v) { s with heap:=V,toks:=tk }):NxK s I O w K r:=by
 cases r with
 | none=>exact U rfl
 | some p=>exact j p.1 p.2 rfl
noncomputable abbrev NxG(g:G)(A:Around)(w:Expr)(I:Addr)(K:Option Value->Shared->Prop)(E:AC)(s:Shared):Prop:=wpAny (model g.prog g.w) A (pyNext (.ref I)) (NxQ g A w I K E) E s
theorem lH{Q:Do}(x:∃o,s.heap.get? I=some o/\o.cls=.type n/\o.data=d)(U:pO.contains n=false)(h:Q () s):wpAny (model g.prog g.w) A (letOwnedTupleGo w (.ref I) v) Q E s:=
 x.elim λV y=>nT y.1 y.2.1 U h
theorem Fj(T:A.handled=none)(R:av g.w g.AN g.os g.h₀ Y s H)(V:s.heap.IsListIter I a i)(f:a≠I)(n:NtW [I] s.heap)(e:H.getL a=some l)(j:NxK s I [I] w K (l[i]?.map λv=>(v,.list a (i+1)))):NxG g A w I K E s:=by
 obtain⟨y,L,t,_⟩:=R.cS e
 cases o:l[i]? with
 | none=>
  rw[o] at j
  exact wpAny_pyNext_list_end T V L (Array.getElem?_eq_none (t.size▸eC.mp o)) λO p=>j O s.toks (j6 p)
 | some c=>
  rw[o] at j
  obtain⟨v,x,C⟩:=t.arr o
  exact wpAny_pyNext_list_item V L x λO U p=>lH (s:={ s with heap:=O }) U (by decide) (j v O s.toks (C.mono ((j6 p.extBut).tk n)) (.list U f) trivial (j6 p.extBut))
theorem Ie(T:A.handled=none)(V:s.heap.IsTupleIter I a i)(O:s.heap.IsTuple a y)(p:a≠I)(f:RVs s.heap (y.toList.drop i) l)(n:NtW [I] s.heap)(L:NxK s I [I] w K (Ar l)):NxG g A w I K E s:=by
 cases l with
 | nil=>exact wpAny_pyNext_tuple_end T V O (hU.symm.trans (u5 f)) λj o=>L j s.toks (j6 o)
 | cons c l=>
  obtain⟨v,x,C,b⟩:=u0 (l:=[]) f
  exact wpAny_pyNext_tuple_item V O (hU.symm.trans x) λj U o=>
   have t:=(j6 o.extBut).tk n
   lH (s:={ s with heap:=j }) U (by decide) (L v j s.toks (C.mono t) (.tup U (t _ _ O) p (b.mono t)) trivial (j6 o.extBut))
theorem Ig{x:Str}(p:A.handled=none)(v:s.heap.IsStrIter I "str_ascii_iterator" x o i)(V:NxK s I [I] w K (Ar ((x.cps.toList.drop i).map λc=>.str ⟨#[c]⟩))):NxG g A w I K E s:=by
 cases e:x.cps.toList.drop i with
 | nil=>
  rw[e] at V
  exact wpAny_pyNext_ascii_end p v (hU.symm.trans (rZ e)) λj O=>V j s.toks (j6 O)
 | cons f L=>
  rw[e] at V
  exact wpAny_pyNext_ascii_item v (hU.symm.trans (nh e)) λj U O=>
   lH (s:={ s with heap:=j,toks:=s.toks+1 }) U (by decide) (V _ j (s.toks+1) (.str _ _) (ni e▸.str U) trivial (j6 O.extBut))
theorem Ih{b c:Int}{n:Nat}(f:A.handled=none)(V:IsRangeIter s.heap I (b+(i:Nat) * c) ((n:Int) - (i:Nat)) c)(L:i<=n)(o:NxK s I [I] w K (Ar ((range' i (n - i)).map λ(j:Nat)=>.int (b+j * c)))):NxG g A w I K E s:=by
 rcases Nat.eq_or_lt_of_le L with e | v
 ·rw[e,Nat.sub_self] at o
  exact wpAny_pyNext_range_end f V (e▸Int.le_of_eq (Int.sub_self _)) λO p=>o O s.toks (j6 p)
 ·rw[show n - i=n - (i+1)+1 from(Nat.succ_pred_eq_of_pos (Nat.sub_pos_of_lt v)).symm,range'_succ] at o
  exact wpAny_pyNext_range_item V (Int.sub_pos_of_lt (hV.mpr v)) λO U p=>
   nT (s:={ s with heap:=O,toks:=s.toks+1 }) U rfl (by decide) (o _ O (s.toks+1) (.int _ _) (.rng (by
    rw[show b+((i+1:Nat):Int) * c=b+(i:Int) * c+c by rw[Int.natCast_succ,Int.add_mul,Int.one_mul,Int.add_assoc],show(n:Int) - ((i+1:Nat):Int)=(n:Int) - (i:Int) - 1 by rw[Int.natCast_succ,Int.sub_sub]]
    exact U) v) trivial (j6 p.extBut))
theorem Fo(M:A.handled=none)(R:av g.w g.AN g.os g.h₀ Y s H)(j:s.heap.IsKeyIter I a i n n)(T:a≠I)(e:H.dct a=some V)(q1:V.length=n)(q2:V.all (λp=>isS p.1)=true)(O:NxK s I [I] w K (V[i]?.map λp=>(p.1,.keys a n (i+1)))):NxG g A w I K E s:=by
 obtain⟨_,h,_,b,d,B⟩:=R.dct a V e
 obtain⟨v,m,N,r,F,P,_⟩:=nS (prog:=g.prog) B q2 h
 have c:v.length=n:=N.trans q1
 subst c
 have D:s.heap.DictAt (strKind g.prog g.w) a v v.length:=⟨_,b.toArray,d,(by first | exact⟨rfl,rfl⟩ | exact⟨rfl,rfl,rfl⟩),ab (λn=>Data.dict b.toArray n) (B.length.trans q1),λe S=>F e (mem_toArray.mp S),m,r⟩
 cases f:V[i]? with
 | none=>
  rw[f] at O
  exact wpAny_pyNext_dict_end M j D (eC.mpr (N▸eC.mp f)) λL C=>O L s.toks (j6 C)
 | some p=>
  rw[f] at O
  obtain⟨x,u,W,X⟩:=P i p.1 p.2 f
  exact wpAny_pyNext_dict_item j D W λZ L o U C=>by
   obtain⟨t,rfl⟩:=Value.isStrOf_shape o
   exact lH (s:={ s with heap:=L }) U (by decide) (O _ L s.toks (X▸.str _ _) (.keys U T) trivial (j6 C.extBut))
theorem yK{V:Heap}{n:Nat}{j:Fa}(O:V.IsTuple T #[.int n t,v])(p:T∉j)(k:KpW j V U)(t:TK h U)(y:RV h v c):RV U (.ref T) (.tup [.int n,c]):=
 O.elim λo x=>.tup ⟨o,k T o p x.1,x.2⟩ (aw rfl) (.cons (.int _ _) (.cons (y.mono t) .nil))
theorem BZ(F:A.handled=none)(R:av g.w g.AN g.os g.h₀ Y s H)(P:∃h k p,w=.Tuple h k p)(B:∃V,IsEnum s.heap I J k V)(O:s.heap.IsListIter J a k)(S:I≠J)(X:a≠I)(Z:a≠J)(n:NtW [I,J] s.heap)(e:H.getL a=some l)(N:NxK s I [I,J] w K (u9 k (l[k]?.map λv=>(v,.list a (k+1))))):NxG g A w I K E s:=by
 obtain⟨y,G,u,_⟩:=R.cS e
 have W:=WalksT.enumerate (prog:=g.prog) (w:=g.w) F I J a S X Z y
 cases D:l[k]? with
 | none=>
  rw[D] at N
  exact B.elim λV B=>wpAny_pyNext_enum_end F B O G (Array.getElem?_eq_none (u.size▸eC.mp D)) λf d=>N f s.toks λb o M q=>d b o (λeq=>M (eq▸bb _ aM)) q
 | some c=>
  rw[D] at N
  obtain⟨v,Q,y2⟩:=u.arr D
  refine W.item k s _ E (ms.mp Q).1 ⟨B,O,G⟩ λT i f L hP ζ hT hM m=>?_
  obtain⟨t,x,d,hv⟩:=hP
  obtain⟨h,ek,ep,r⟩:=id P
  have z:=λU (C:(∃V,IsEnum U I J (k+1:Nat) V)/\U.IsListIter J a (k+1)/\U.IsList a y) (j:KpW [I,J] f U)=>
   have kk:KpW [I,J] s.heap U:=λb o M q=>j b o M (m b o M q)
   N (.ref T) U L (yK (hv▸hT) (W.apart k T f hM) j (kk.tk n) (al (Q.symm.trans d)▸y2)) (.uX C.1 C.2.1 S X Z) P kk
  exact r▸W.go h ek ep k T { s with heap:=f,toks:=L } _ E hM z
theorem B0{t:Nat}(i:A.handled=none)(P:∃D k p,w=.Tuple D k p)(R:∃j,IsEnum s.heap I J k j)(L:s.heap.IsTupleIter J t k)(S:s.heap.IsTuple t y)(M:I≠J)(X:t≠I)(Z:t≠J)(G:RVs s.heap (y.toList.drop k) l)(d:k<=y.size)(n:NtW [I,J] s.heap)(u:NxK s I [I,J] w K (u9 k (Ar l))):NxG g A w I K E s:=by
 have W:=WalksT.enumerateD (Ic (prog:=g.prog) (w:=g.w) (A:=A.in1) i J t Z y) I M (λh=>(bt.mp h).elim M λh=>X (bc.mp h).symm) aM
 cases l with
 | nil=>
  have O:k=y.size:=eD d (Array.getElem?_eq_none_iff.mp (hU.symm.trans (u5 G)))
  subst O
  exact W.done s _ E ⟨R,L,S⟩ u
 | cons c l=>
  obtain⟨v,N,H,y3⟩:=u0 (l:=[]) G
  have N:=hU.symm.trans N
  have C:=(ms.mp N).1
  refine W.item k s _ E C ⟨R,L,S⟩ λT Q m B hP ζ e Y O=>?_
  obtain⟨t',x,hx,hv⟩:=hP
  obtain⟨D,ek,ep,r⟩:=id P
  have z:=λU (f:(∃j,IsEnum U I J (k+1:Nat) j)/\U.IsTupleIter J t (k+1)/\U.IsTuple t y) (V:KpW [I,J] m U)=>
   have F:KpW [I,J] s.heap U:=λb o a q=>V b o a (O b o a q)
   u (.ref T) U B (yK (hv▸e) (W.apart k T m Y) V (F.tk n) (al (N.symm.trans hx)▸H)) (.uY f.1 f.2.1 f.2.2 M X Z (y3.mono (F.tk n)) C) P F
  exact r▸W.go D ek ep k T { s with heap:=m,toks:=B } _ E Y z
theorem yL(j:A.handled=none)(R:av g.w g.AN g.os g.h₀ Y s H)(B:ItR s.heap I O o)(p:uZ o w)(v:o.next H=some r)(N:NxK s I O w K r):NxG g A w I K E s:=
 B.casesOn (motive:=λO o f=>NtW O s.heap->uZ o w->o.next H=some r->NxK s I O w K r->NxG g A w I K E s)
  (λU V n f v=>pP (P:=λr=>NxK s I [I] w K r->NxG g A w I K E s) v λl e=>Fj j R U V n e)
  (λU L V t n f v=>jS (P:=λr=>NxK s I [I] w K r->NxG g A w I K E s) v (Ie j U L V t n))
  (λU n f v=>jS (P:=λr=>NxK s I [I] w K r->NxG g A w I K E s) v (Ig j U))
  (λU D n f v=>jS (P:=λr=>NxK s I [I] w K r->NxG g A w I K E s) v (Ih j U D))
  (λU V n f v=>u7 (P:=λr=>NxK s I [I] w K r->NxG g A w I K E s) v λd e q1 q2=>Fo j R U V e q1 q2)
  (λT U x c C n p v=>pQ (P:=λr=>NxK s I _ w K r->NxG g A w I K E s) v λM h=>pP (P:=λr=>NxK s I _ w K (u9 _ r)->NxG g A w I K E s) h λl e=>BZ j R p T U x c C n e)
  (λT U L x c C t b n p v=>pQ (P:=λr=>NxK s I _ w K r->NxG g A w I K E s) v λM h=>jS (P:=λr=>NxK s I _ w K (u9 _ r)->NxG g A w I K E s) h (B0 j p T U L x c C t b n))
  B.nc p v N
end
end
noncomputable def Apart(z:Bn)(s:Shared)(H:CH)(Q:Fa):Prop:=∀b∈Q,(∀o,¬ z b o)/\¬ Own s.heap H b/\∀o,s.heap.get? b=some o->o.cls≠.type "tuple"
section
variable{w:World}{os:OsState}{z:Heap}{Q:Bn}{s':Shared}{H:CH}
theorem av.apart1(R:av w y os z Q s H)(k:∀b o,s.heap.get? b=some o->s'.heap.get? b=some o){a:Nat}(Y:∀o,s.heap.get? a≠some o)(v:s'.heap.get? a=some o)(V:o.cls≠.type "tuple") :
  (∀o,¬ Q a o)/\¬ Own s'.heap H a/\∀o,s'.heap.get? a=some o->o.cls≠.type "tuple":=
 ⟨λo p=>let ⟨U,e,_⟩:=R.b3 a o p;Y U e,R.iw k Y,λU e=>by rw[v] at e;cases e;exact V⟩
end
section
variable{g:G}{z:Env}{w:AT}
noncomputable def iy(Q:CI):It->Prop
 | .enum _ _=>∃y,Q=.enum y
 | _=>True
variable(g) in
noncomputable def IS(z:Env)(w:AT)(v:CI)(e:Expr):Prop:=
 ∀(A:Around) (Y:Bn) (s:Shared) (st:St) (Q:It->St->Prop) (X:D1) (P:AC) (E:AC),OKA g A->Rep g Y z w s st->wpI g.Φ g.M v st Q X->
  (∀I V U s' st',ItR s'.heap I V U->iy v U->Apart Y s' st'.H V->Rep g Y z w s' st'->Q U st'->P (.ref I) s')->
  EOk g A Y z w X E->
  wpAny (model g.prog g.w) A (eval e z) (λx y=>wpAny (model g.prog g.w) A (pyIter x) P E y) E s
noncomputable abbrev itS(s:Shared)(n:String)(d:Db):Shared:={ s with heap:=s.heap.push { cls:=.type n,data:=.fields d } }
theorem r5{s:Shared}:(itS s n d).heap.get? s.heap.objs.size=some { cls:=.type n,data:=.fields d }:=dv _ rfl
theorem av.pR{H:CH}(R:av g.w g.AN g.os g.h₀ Q s H)(y:n≠"tuple"):Apart Q (itS s n d) H [s.heap.objs.size]:=λb Y=>
 (bc.mp Y).symm▸R.apart1 (aS _ _) (bI _) r5 λe=>y (Value.type.inj e)
theorem IS.val(O:g.Ok)(h:ES g z w N (eval e z)):IS g z w (.val N) e:=by
 intro A m s st Q X P E i R r p F
 refine h A m s st _ X _ E i R r (λv c V J L U Y=>?_) F
 have k:=λo=>aS V.heap o
 cases c with
 | str x=>
  obtain⟨t,rfl⟩:=L.c
  exact wpAny_pyIter_ascii Y.1 (p _ [_] _ (itS V "str_ascii_iterator" #[.str x t,.int 0 0]) _ (.str (i:=0) ⟨_,r5,rfl,rfl⟩) trivial (U.H.pR (by decide)) (U.ext (k _) rfl rfl) Y.2)
 | tup l=>
  obtain⟨a,S,rfl,j,W,D⟩:=L.c
  exact wpAny_pyIter_tuple j (p _ [_] _ (itS V "tuple_iterator" #[.ref a,.int 0 0]) _ (.tup (i:=0) ⟨_,r5,rfl,rfl⟩ (TK.of_keep (k _) _ _ j) (j.elim λo y=>dr (fv y.1)) (D.mono (TK.of_keep (k _)))) trivial (U.H.pR (by decide)) (U.ext (k _) rfl rfl) Y)
 | ref a=>
  obtain rfl:v=.ref a:=L.c
  dsimp only at Y
  cases T:J.H.getL a with
  | some l=>
   rw[T] at Y
   obtain⟨S,j,W,D⟩:=U.H.cS T
   exact wpAny_pyIter_list j (p _ [_] _ (itS V "list_iterator" #[.ref a,.int 0 0]) _ (.list ⟨_,r5,rfl,rfl⟩ (j.elim λo y=>dr (fv y.1))) trivial (U.H.pR (by decide)) (U.ext (k _) rfl rfl) Y)
  | none=>
   rw[T] at Y
   dsimp only at Y
   cases C:J.H.dct a with
   | none=>rw[C] at Y;exact Y.elim
   | some f=>
    rw[C] at Y
    obtain⟨Z,b,_,I,M,d⟩:=U.H.dct a f C
    obtain⟨B,K,H,G,u,_⟩:=nS (prog:=g.prog) d Y.1 b
    have q:V.heap.DictAt (strKind g.prog g.w) a B f.length:=⟨_,I.toArray,M,⟨rfl,rfl,rfl⟩,ab (λn=>Data.dict I.toArray n) d.length,λe he=>u e (mem_toArray.mp he),K,G⟩
    refine wpAny_pyIter_dict (U.H.noSys O.T Z) q ?_
    erw[H]
    exact p _ [_] _ (itS V "dict_keyiterator" #[.ref a,.int 0 0,.int f.length 0,.int f.length 0]) _ (.keys ⟨_,r5,rfl,rfl⟩ (dr (fv M))) trivial (U.H.pR (by decide)) (U.ext (k _) rfl rfl) Y.2
 | _=>exact Y.elim
theorem IS.enum(O:g.Ok){D:CE}{e:Expr}(r:z.kindOf "enumerate"=some .globalImplicit)(C:nsIn g.K mainGlobals "enumerate"=some none)(F:[e].all noStar=true)
(h:ESs g z w [D] (spliced (backTo L (starEach [e] z)))):IS g z w (.enum D) (.Call (.Name "enumerate" i) [e] [] L):=by
 intro A S s st Q X P E W R Z I K
 refine Call_ (dD (v:=.type "enumerate") O R r (by decide) (by decide) C rfl ?_)
 refine lE F (h.pN W R Z (λv c s' st' C t H H p=>?_) K)
 have G:=bI s'.heap
 have u:∀o,s'.heap.get? (s'.heap.objs.size+1)≠some o:=λo e=>absurd (fv e) (Nat.not_lt.mpr (gN _))
 have T:s'.heap.objs.size+1≠s'.heap.objs.size:=Nat.succ_ne_self _
 have M:=λ(Y:Heap) (k:∀b o,s'.heap.get? b=some o->Y.get? b=some o) (V j:Obj) (J:Y.get? (s'.heap.objs.size+1)=some V) (q:V.cls≠.type "tuple") (B:Y.get? s'.heap.objs.size=some j) (c2:j.cls≠.type "tuple")=>
  (show Apart S { s' with heap:=Y } st'.H [s'.heap.objs.size+1,s'.heap.objs.size] from λb n=>(bt.mp n).elim (λe=>e.symm▸t.H.apart1 (s':={ s' with heap:=Y }) k u J q) λn=>(bc.mp n).symm▸t.H.apart1 (s':={ s' with heap:=Y }) k G B c2)
 have d:Value.type "enumerate"≠Value.type "tuple":=by decide
 cases c with
 | tup l=>
  obtain⟨a,vs,rfl,J,B,m⟩:=C.c
  have x:a<s'.heap.objs.size:=J.elim λo y=>fv y.1
  exact wZ J λY f U hz k=>wpAny_pyIter_enum (s:={ s' with heap:=Y }) f (I _ [_,_] _ { s' with heap:=Y } _ (.uY ⟨_,f⟩ U (TK.of_keep k _ _ J) T (dr (im x)) (dr x) (m.mono (TK.of_keep k)) (dd _)) ⟨_,rfl⟩ (U.elim λo y=>M Y k _ o f d y.1 (y.2.1▸by decide)) (t.ext k rfl rfl) p)
 | ref a=>
  obtain rfl:v=.ref a:=C.c
  dsimp only at p
  cases N:st'.H.getL a with
  | some l=>
   rw[N] at p
   obtain⟨vs,J,B,m⟩:=t.H.cS N
   have x:a<s'.heap.objs.size:=J.elim λo y=>fv y.1
   exact call_enumerate_list J λY f U hz k=>wpAny_pyIter_enum (s:={ s' with heap:=Y }) f (I _ [_,_] _ { s' with heap:=Y } _ (.uX ⟨_,f⟩ U T (dr (im x)) (dr x)) ⟨_,rfl⟩ (U.elim λo y=>M Y k _ o f d y.1 (y.2.1▸by decide)) (t.ext k rfl rfl) p)
  | none=>rw[N] at p;exact p.elim
 | _=>exact p.elim
end
theorem RVs.Ii{z:Cl}{a c:CV}(x:RVs h z [a,b,c]):∃u v w,z=[u,v,w]/\RV h u a/\RV h v b/\RV h w c:=by
 obtain⟨u,r,rfl,p,x⟩:=x.c
 obtain⟨v,w,rfl,q,y⟩:=x.two'
 exact⟨u,v,w,rfl,p,q,y⟩
theorem vc(b:Int):Builtin.Range.rangeSize 0 b 1=b.toNat:=(rangeSize_nat 0 b).trans (ab (λi:Int=>(i.toNat:Int)) (Int.sub_zero b))
theorem Ij{x:Int}(h:-(2 ^ 20)<x):-(2 ^ 62)<=x:=fa (by decide) (Int.le_of_lt h)
theorem Ik{x:Int}(h:x<2 ^ 20):x<2 ^ 62:=Int.lt_trans h (by decide)
theorem B3{z:Type}{p:Prop}[Decidable p]{x l:z}(h:(if p then some x else none)=some l):p/\l=x:=
 if q:p then⟨q,(al ((ch q).symm.trans h)).symm⟩ else nos ((ca q).symm.trans h)
theorem B7{Z:List CV->Prop}(h:kI z=some l)(Q:∀b:Int,(-(2 ^ 20)<b/\b<2 ^ 20)->(l=(range b.toNat).map λ(i:Nat)=>.int i)->Z [.int b])
(w:∀a b:Int,((-(2 ^ 20)<b/\b<2 ^ 20)/\-(2 ^ 20)<a/\a<2 ^ 20)->(l=(range (a - b).toNat).map λ(i:Nat)=>.int (a - i))->Z [.int a,.int b,.int (-1)]):Z z:=by
 cases z with
 | nil=>exact nos h
 | cons a r=>
  refine CV.iP (R:=(·=some l)) (P:=λa=>Z (a::r)) nos h λa h=>?_
  cases r with
  | nil=>exact(B3 h).elim (Q a)
  | cons b r=>
   refine CV.iP (R:=(·=some l)) (P:=λb=>Z (.int a::b::r)) nos h λb h=>?_
   cases r with
   | nil=>exact nos h
   | cons c r=>
    refine CV.iP (R:=(·=some l)) (P:=λc=>Z (.int a::.int b::c::r)) nos h λc h=>?_
    obtain⟨⟨⟨y,rfl⟩,p⟩,e⟩:=B3 h
    exact eP.mp y▸w a b p e
section
variable{g:G}{z:Env}{s:Shared}{st:St}
theorem Il{h:Heap}{n:Nat}(x:h.get? I=some { cls:=.type "range_iterator",data:=.fields #[rawInt a,rawInt (n:Int),rawInt c] }) :
  ItR h I [I] (.items ((range n).map λ(j:Nat)=>.int (a+j * c))):=by
 have Q:=ItR.rng (h:=h) (I:=I) (a:=a) (c:=c) (n:=n) (i:=0) (by(erw[Int.natCast_zero];erw[Int.zero_mul _];erw[Int.add_zero _];erw[Int.sub_zero _]);exact x) (dd _)
 rwa [Nat.sub_zero,← range_eq_range'] at Q
noncomputable def Im(g:G)(z:Env)(y:AT)(Y:Bn)(Q:It->St->Prop)(P:AC):Prop:=
 ∀I w l s st,ItR s.heap I w (.items l)->Apart Y s st.H w->Rep g Y z y s st->Q (.items l) st->P (.ref I) s
theorem Io(w:Im g z y Y Q P)(R:Rep g Y z y s st){a c:Int}{n:Nat}(U:Q (.items ((range n).map λ(j:Nat)=>.int (a+j * c))) st) :
  P (.ref s.heap.objs.size) (itS s "range_iterator" #[rawInt a,rawInt (n:Int),rawInt c]):=
 w _ [_] _ _ st (Il r5) (R.H.pR (by decide)) (R.ext (aS _ _) rfl rfl) U
theorem yM(U:Im g z y Y Q P)(R:Rep g Y z y s st){c:Int}{u:Tok}{n:Nat}(V:Builtin.Range.small a b c=true)
(k:Builtin.Range.rangeSize a b c=n)(J:Q (.items ((range n).map λ(j:Nat)=>.int (a+j * c))) st)(w:Nat) :
  wpAny (model g.prog g.w) A (pyIter (.ref s.heap.objs.size)) P E { s with heap:=s.heap.push { cls:=.type "range",data:=.fields #[.int a t,.int b u,.int c v] },toks:=w }:=by
 refine wpAny_pyIter_range (IsRange.new s.heap a b c t u v) V ?_
 erw[k]
 exact Io (s:={ s with heap:=s.heap.push { cls:=.type "range",data:=.fields #[.int a t,.int b u,.int c v] },toks:=w }) U (R.ext (aS _ _) rfl rfl) J
theorem IS.rng(O:g.Ok){L:FK}(D:z.kindOf "range"=some .globalImplicit)(o:nsIn g.K mainGlobals "range"=some none)(M:L.all noStar=true)
(h:ESs g z y V (spliced (backTo J (starEach L z)))):IS g z y (.rng V) (.Call (.Name "range" N) L [] J):=by
 intro A Y s st Q X P E d R t m i
 refine Call_ (dD (v:=.type "range") O R D (by decide) (by decide) o rfl (lE M (h.run d R t (λvs T c r U C B C C n=>?_) i)))
 have p:Im g z y Y Q P:=λI F l s st a=>m I F _ s st a trivial
 obtain⟨l,S,n⟩:=n
 refine B7 (Z:=λT=>RVs c.heap vs T->wpAny (model g.prog g.w) A (call (.type "range") ([]++vs)) (λx f=>wpAny (model g.prog g.w) A (pyIter x) P E f) E c) S (λb q e U=>?_) (λa b q e U=>?_) U <;> subst e
 ·obtain⟨v,rfl,o⟩:=U.one rfl
  obtain⟨k,rfl⟩:=o.c
  refine call_range_1 (yM p B (small_one (by decide) (by decide) (Ij q.1) (Ik q.2)) (vc b) ?_ _)
  rwa [map_congr_left λ(j:Nat) _=>show CV.int (0+(j:Int) * 1)=.int j by(erw[Int.zero_add _];exact Eq.substr (Int.mul_one _) rfl)]
 ·obtain⟨u,v,w,rfl,W,o,t⟩:=U.Ii
  obtain⟨k,rfl⟩:=W.c
  obtain⟨K,rfl⟩:=o.c
  obtain⟨Z,rfl⟩:=t.c
  refine call_range_3 (by decide) (yM p B (small_down (Ij q.2.1) (Ik q.2.2) (Ij q.1.1) (Ik q.1.2)) (rangeSize_downNat a b) ?_ _) (.inl (PyProof.noPylong_small (by decide)))
  rwa [map_congr_left λ(j:Nat) _=>show CV.int (a+(j:Int) * -1)=.int (a - j) by(erw[Int.mul_neg _ _];erw[Int.mul_one _]);rfl]
end
theorem AJ(M:Model)(O:Ctx)(E:Value->Pos->Shared->Prop)(p:Pos)(s:Shared)(b:s.heap.Ns a m)(z:Str)(v:Value)(B:∀o,s.heap.get? a=some o->o.cls=T)(Q:Unit->Pos->Shared->Prop)
(f:∀k,k.Ns a (λx=>if x=z then some v else m x)->Heap.SameBut a s.heap k->(∀o,k.get? a=some o->o.cls=T)->Q () p { s with heap:=k,toks:=s.toks+1 }):Sem.wp M O (nsSet a z v) Q E p s:=by
 obtain⟨o,j,g,U,l,J,L⟩:=b
 have C:=B o U
 simp only[nsSet,strHash,Sem.wp_bind',Sem.wp_cmd_ask,Sem.wp_pure',Sem.wp_cmd_mkText]
 erw[Sem.wp_loadPart_of M O E p { s with toks:=s.toks+1 } (o:=o) _ U _]
 have V:j.any (·.refKey)=false:=by
  rw[Array.any_eq_false'];intro e N;obtain⟨n,t,h⟩:=J e N;simp[DictEntry.refKey,h]
 simp only[l,aRefKeyMayBeTheName_at,V,Bool.and_false,Bool.false_eq_true,if_false,Sem.wp_cmd_updatePart]
 obtain⟨c,d,D,I⟩:=o
 subst l
 refine⟨by erw[U];rfl,?_⟩
 cases Y:j.findIdx? (·.key.isStr z) with
 | some i=>
  refine f _ ⟨_,_,g,fp _ U (by simp only[Obj.putName_eq,Obj.putNameByArray,Y];rfl),by simp only[Obj.putName_eq,Obj.putNameByArray,Y];rfl,J.modify _ _,λx=>?_⟩ (Heap.SameBut.update ..) λA w=>?_
  ·show _=if x=z then some v else m x
   rw[← L];exact findBy_modify (λn v=>v.isStr n) Value.isStr_inj j z x v i Y
  ·rw[fp _ U (by simp only[Obj.putName_eq,Obj.putNameByArray,Y];rfl)] at w
   obtain rfl:=al w
   simp only[Obj.putName_eq,Obj.putNameByArray,Y]
   exact C
 | none=>
  refine f _ ⟨_,_,g+1,fp _ U (by simp only[Obj.putName_eq,Obj.putNameByArray,Y];rfl),by simp only[Obj.putName_eq,Obj.putNameByArray,Y];rfl,J.push _ _ _ _,λx=>?_⟩ (Heap.SameBut.update ..) λA w=>?_
  ·show _=if x=z then some v else m x
   rw[← L]
   exact findBy_push (λn v=>v.isStr n) j z x _ _ v (λy=>by
    show(z==y)=decide (y=z)
    by_cases h:y=z
    ·subst h;simp
    ·have:¬ z=y:=λe=>h e.symm
     simp[h,this]) Y
  ·rw[fp _ U (by simp only[Obj.putName_eq,Obj.putNameByArray,Y];rfl)] at w
   obtain rfl:=al w
   simp only[Obj.putName_eq,Obj.putNameByArray,Y]
   exact C
theorem nj{s:Shared}{z:Env}{Q:Do}(Y:z.kindOf w=some .local)(U:s.heap.Ns z.locals m)(V:∀o,s.heap.get? z.locals=some o->o.cls=T)
(h:∀y,y.Ns z.locals (λx=>if x=w then some v else m x)->Heap.SameBut z.locals s.heap y->(∀o,y.get? z.locals=some o->o.cls=T)->Q () { s with heap:=y,toks:=s.toks+1 })
(k:(z.scope.kind==.class||(z.scope.kind==.module&&z.locals != z.globals))=false):wpAny M A (storeName z w v) Q E s:=by
 erw[storeName_local Y k _]
 exact λj p J=>AJ M j _ p s U w v V _ h
structure az(g:G)(wc:Bool)(Pr:Bn)(env:Env)(vm:AT)(s:Shared)(st:St):Prop where
 H:av g.w g.AN g.os g.h₀ Pr s st.H
 L:mY env vm s.heap st.L
 np:∀b,aK env vm b->((b=env.locals∨wc=true)->∀o,¬ Pr b o)/\¬ Own s.heap st.H b
 inj:wc=true->∀x i y j a,(x,i)∈vm->(y,j)∈vm->(env.kindOf x=some .cell∨env.kindOf x=some .free)->(env.kindOf y=some .cell∨env.kindOf y=some .free)->env.cells.lookup x=some a->env.cells.lookup y=some a->x=y
 ofr:∀b∈g.fs.filterMap (·.frame),(b=env.locals/\∀o,s.heap.get? b=some o->o.cls=.type "frame")∨∃o,Pr b o/\AB o
noncomputable def gz(vm:AT):Prop:=∀x i y j,(x,i)∈vm->(y,j)∈vm->(x=y↔i=j)
theorem mY.mono{vm':AT}(R:mY env vm h L)(k:∀p∈vm',p∈vm):mY env vm' h L:=
 ⟨R.kind,R.glob,R.bi,let ⟨m,Q,w⟩:=R.ns;⟨m,Q,λx i z=>w x i (k _ z)⟩,λx i z=>R.cell x i (k _ z)⟩
theorem iU{h:Heap}(x:h.Ns a m)(y:Db):¬ IsTup h a y:=λ⟨_,z,_,_,Q⟩=>
 x.elim λw x=>x.elim λw x=>x.elim λw x=>Data.noConfusion (x.2.1.symm.trans ((ab Obj.data (al (x.1.symm.trans z))).trans Q))
theorem lI{h:Heap}(x:h.IsCell a v)(w:Db):¬ IsTup h a w:=λ⟨_,z,_,_,Q⟩=>
 x.elim λy x=>Data.noConfusion (x.2.symm.trans ((ab Obj.data (al (x.1.symm.trans z))).trans Q))
theorem nU{h:Heap}(x:h.Ns a m)(y:h.IsCell a v):False:=
 x.elim λz x=>x.elim λz x=>x.elim λz x=>y.elim λz y=>Data.noConfusion (x.2.1.symm.trans ((ab Obj.data (al (x.1.symm.trans y.1))).trans y.2))
theorem yN{h z:Heap}{H:CH}(w:∀b,b≠a->z.get? b=h.get? b)(y:¬ Own h H a){b:Addr}:Own z H b->Own h H b:=λo=>o.imp id λo=>o.imp id λo=>o.imp id λ⟨i,c,Y,Q,U,v⟩=>
 ⟨i,c,Y,Q,(w i λe=>y (e▸.inr (.inr (.inl (Q▸cw c))))).symm.trans U,v⟩
section
variable{g:G}{w:Bool}{env:Env}{Q:AT}
theorem mY.jt(R:mY env Q h L)(z:(x,i)∈Q)(Y:env.kindOf x=some .cell∨env.kindOf x=some .free):∃a v,env.cells.lookup x=some a/\h.IsCell a v:=
 (R.cell x i z Y).elim λa y=>y.elim λr y=>⟨a,r,y.1,y.2.1⟩
theorem az.freeze{st:St}(R:az g w O env Q s st):Rep g (frz s st.H) env Q s st:=by
 refine⟨R.H.freeze,R.L,λb k=>?_,λb k=>?_⟩
 rotate_left
 ·rcases R.ofr b k with⟨rfl,h⟩ | ⟨o,p,q⟩
  ·obtain⟨m,⟨o,es,j,z,f,_⟩,_⟩:=R.L.ns
   exact⟨o,⟨z,(R.np _ (.inl rfl)).2⟩,h o z,es,j,f⟩
  ·obtain⟨y,Y,U⟩:=R.H.eY b o p
   exact⟨y,Y,q.same U⟩
 have J:=(R.np b k).2
 rcases k with rfl | ⟨x,i,l,t,T⟩
 ·obtain⟨m,⟨o,es,j,z,_⟩,_⟩:=R.L.ns
  exact⟨o,z,J⟩
 ·obtain⟨a,v,V,o,z,_⟩:=R.L.jt l t
  rw[T] at V;cases V
  exact⟨o,z,J⟩
theorem az.dX{st:St}(R:az g w V env Q s st)(U:Rep g (frz s st.H) env Q s' Y):az g w V env Q s' Y:=
 ⟨U.H.weaken R.H.eY R.H.base,U.L,λb v=>⟨(R.np b v).1,by obtain⟨o,p⟩:=U.fr b v;exact U.H.fU p⟩,R.inj,λb v=>by
  rcases R.ofr b v with⟨rfl,h⟩ | h
  ·refine .inl ⟨rfl,λo J=>?_⟩
   obtain⟨m,⟨k,es,f,z,l,_⟩,_⟩:=R.L.ns
   obtain⟨j,y,O⟩:=U.H.b3 _ _ ⟨z,(R.np _ (.inl rfl)).2⟩
   rw[J] at y;cases y
   erw[O.cls];exact h _ z
  ·exact .inr h⟩
theorem iz(Y:env.kindOf x=some .local)(z:env.kindOf y=some .cell∨env.kindOf y=some .free):y≠x:=λe=>z.elim (λh=>nomatch (show some NameKind.local=some cell from Y.symm.trans (e▸h))) λh=>nomatch (show some NameKind.local=some free from Y.symm.trans (e▸h))
theorem lJ(h:(y,j)∈(x,i)::Q)(e:y≠x):(y,j)∈Q:=(bt.mp h).resolve_left λq=>e (ab Prod.fst q)
theorem AtV.set{L:E1}{i:Nat}(x:AtV h (L j) r)(t:TK h z)(n:j≠i):AtV z (dU L i c j) r:=Eq.mpr (ab (λo=>AtV z o r) (iQ L c n)) (x.mono t)
theorem AtV.new(y:RV z v c):AtV z (dU L i c i) (some v):=Eq.mpr (ab (λo=>AtV z o (some v)) (gy L i c)) ⟨v,rfl,y⟩
section
variable{st:St}{i:Nat}{c:CV}{P:Do}
theorem az.nV(R:az g w Y env Q s st)(l:env.kindOf x=some .local)(F:RV s.heap v c)(O:∀y j,(y,j)∈Q->(y=x↔j=i))
(S:∀s',az g w Y env ((x,i)::Q) s' { st with L:=dU st.L i c }->TK s.heap s'.heap->(∀b o,b≠env.locals->s.heap.get? b=some o->s'.heap.get? b=some o)->P () s'):wpAny (model g.prog g.w) A (storeName env x v) P E s:=by
 obtain⟨m,B,q⟩:=R.L.ns
 obtain⟨T,N,D,J,_⟩:=id B
 refine nj (T:=T.cls) l B (λo I=>ab Obj.cls (al (I.symm.trans J))) (λW X n Z=>?_) (by erw[R.L.kind];rfl)
 have p:=R.np env.locals (.inl rfl)
 have kk:=j6 n.extBut
 obtain⟨R',t⟩:=R.H.side (s':={ s with heap:=W,toks:=s.toks+1 }) (wr:=[env.locals]) kk (λb f=>(bc.mp f).symm▸⟨p.1 (.inl rfl),p.2,iU B⟩) rfl rfl
 refine S _ { H:=R',L:=⟨R.L.kind,R.L.glob,R.L.bi,⟨_,X,λy j V U=>?_⟩,λy j V U=>?_⟩,np:=λb f=>?_,inj:=λhw y j z k a V hz U C=>R.inj hw y j z k a (lJ V (iz l U)) (lJ hz (iz l C)) U C,ofr:=λb f=>(R.ofr b f).imp (λe:b=env.locals/\∀o,s.heap.get? b=some o->o.cls=.type "frame"=>⟨e.1,λo I=>(Z o (e.1▸I)).trans (e.2 _ (e.1▸J))⟩) id } t λb o f e=>n.extBut b o f e
 ·by_cases e:y=x
  ·have hj:j=i:=(bt.mp V).elim (λh=>ab Prod.snd h) λh=>(O y j h).mp e
   erw[hj]
   exact(ch e).symm▸AtV.new (F.mono t)
  ·have V:=lJ V e
   exact(ca e).symm▸(q y j V U).set t λM=>e ((O y j V).mpr M)
 ·have e:=iz l U
  have V:=lJ V e
  obtain⟨a,r,ha,d,q'⟩:=R.L.cell y j V U
  exact⟨a,r,ha,d.elim λo z=>⟨o,n.extBut a o (λe=>nU B (e▸d)) z.1,z.2⟩,q'.set t λM=>e ((O y j V).mpr M)⟩
 ·have z:=R.np b (f.imp id λ⟨y,j,V,U,hl⟩=>⟨y,j,lJ V (iz l U),U,hl⟩)
  exact⟨z.1,λh=>z.2 (yN n.2 p.2 h)⟩
theorem az.pS(R:az g w Y env Q s st)(I:(x,i)∈Q)(l:w=true)(T:env.kindOf x=some .cell)(S:RV s.heap v c)(J:∀y j,(y,j)∈Q->(y=x↔j=i))
(W:∀s',az g w Y env Q s' { st with L:=dU st.L i c }->TK s.heap s'.heap->(∀b o,¬ aK env Q b->s.heap.get? b=some o->s'.heap.get? b=some o)->P () s'):wpAny (model g.prog g.w) A (storeName env x v) P E s:=by
 obtain⟨m,M,q⟩:=R.L.ns
 obtain⟨a,d,D,U⟩:=R.L.jt I (.inl T)
 refine wpAny_storeName_cell R.L.kind T D U (λX Z f=>?_)
 have C:aK env Q a:=.inr ⟨x,i,I,.inl T,D⟩
 have O:=R.np a C
 obtain⟨K,t⟩:=R.H.side (s':={ s with heap:=X }) (wr:=[a]) (j6 f.extBut) (λb k=>(bc.mp k).symm▸⟨O.1 (.inr l),O.2,lI U⟩) rfl rfl
 have B:env.locals≠a:=λe=>nU (e▸M) U
 refine W _ { H:=K,L:=⟨R.L.kind,R.L.glob,R.L.bi,⟨m,M.elim λo z=>z.elim λG z=>z.elim λu z=>⟨o,G,u,f.extBut _ o B z.1,z.2⟩,λy j p V=>?_⟩,λy j p V=>?_⟩,np:=λb k=>⟨(R.np b k).1,λh=>(R.np b k).2 (yN f.2 O.2 h)⟩,inj:=R.inj,ofr:=λb k=>(R.ofr b k).imp (λe:b=env.locals/\∀o,s.heap.get? b=some o->o.cls=.type "frame"=>⟨e.1,λo ho=>e.2 o ((f.2 b (e.1▸B)).symm.trans ho)⟩) id } t λb o k e=>f.extBut b o (λh=>k (h▸C)) e
 ·exact(q y j p V).set t λn=>iz V (.inl T) ((J y j p).mpr n).symm
 ·by_cases e:y=x
  ·have hj:=(J y j p).mp e
   exact⟨a,some v,e▸D,Z,hj▸AtV.new (S.mono t)⟩
  ·obtain⟨F,r,N,hr,q'⟩:=R.L.cell y j p V
   exact⟨F,r,N,hr.elim λo z=>⟨o,f.extBut F o (λn=>e (R.inj l y j x i a p I V (.inl T) (n▸N) D)) z.1,z.2⟩,q'.set t λn=>e ((J y j p).mpr n)⟩
end
theorem az.store{st:St}(R:az g w T env Q s st)(O:gz Q)(C:(x,i)∈Q)(f:w=true)(Y:env.kindOf x=some .local∨env.kindOf x=some .cell)(B:RV s.heap v c)
{P:Do}(n:∀s',az g w T env Q s' { st with L:=dU st.L i c }->TK s.heap s'.heap->(∀b o,¬ aK env Q b->s.heap.get? b=some o->s'.heap.get? b=some o)->P () s'):wpAny (model g.prog g.w) A (storeName env x v) P E s:=by
 have U:∀y j,(y,j)∈Q->(y=x↔j=i):=λy j V=>O y j x i V C
 rcases Y with Y | Y
 ·refine R.nV Y B U λs' J t N=>n s' ⟨J.H,J.L.mono λp D=>bb _ D,λb l=>J.np b ?_,λI y j z k a V M=>J.inj I y j z k a (bb _ V) (bb _ M),J.ofr⟩ t λb o l e=>N b o (λh=>l (.inl h)) e
  rcases l with rfl | ⟨y,j,V,r⟩
  ·exact .inl rfl
  ·exact .inr ⟨y,j,bb _ V,r⟩
 ·exact R.pS C f Y B U n
end
theorem az.mono{vm':AT}{st:St}(R:az g Q Pr env vm s st)(k:∀p∈vm',p∈vm):az g Q Pr env vm' s st:=
 ⟨R.H,R.L.mono k,λb w=>R.np b (by
  rcases w with rfl | ⟨y,j,z,r⟩
  ·exact .inl rfl
  ·exact .inr ⟨y,j,k _ z,r⟩),λY x i y j a U z=>R.inj Y x i y j a (k _ U) (k _ z),R.ofr⟩
theorem aK.mono{vm':AT}(h:aK env vm b)(k:∀p∈vm,p∈vm'):aK env vm' b:=by
 rcases h with rfl | ⟨y,j,z,r⟩
 ·exact .inl rfl
 ·exact .inr ⟨y,j,k _ z,r⟩
inductive NT(wc:Bool)(env:Env)(vmF vm:AT):List Nat->List Expr->Prop
 | nil:NT wc env vmF vm [] []
 | cons {x:Str} {i:Nat} {pos:Pos} {is:Bz} {es:FK}:(x,i)∈vmF->(env.kindOf x=some .local∨(env.kindOf x=some .cell/\(x,i)∈vm/\wc=true))->NT wc env vmF vm is es->NT wc env vmF vm (i::is) (.Name x pos::es)
theorem NT.more{vm w:AT}(k:∀p∈vm,p∈w)(x:NT U z Q vm y Y):NT U z Q w y Y:=
 x.rec (motive:=λy Y v=>NT U z Q w y Y) .nil λa b v V=>.cons a (b.imp id λh=>⟨h.1,k _ h.2.1,h.2.2⟩) V
noncomputable def nameOf(e:Expr):Option Str:=match e with
 | .Name x _=>some x
 | _=>none
noncomputable def Ke(e:Expr):List Expr:=match e with
 | .Tuple z _ _=>z
 | _=>[]
noncomputable def pairsOf(z:Bz)(Q:FK):List (Str×Nat):=match z with
 | []=>[]
 | i::z=>match Q with
  | []=>[]
  | e::Q=>(nameOf e).elim [] λx=>(x,i)::pairsOf z Q
section
variable{g:G}{w:Bool}{Q:Env}
theorem bind1{vm:AT}(a:gz Y)(U:∀p∈vm,p∈Y){st:St}(R:az g w C Q vm s st)(D:(x,i)∈Y)
(V:Q.kindOf x=some .local∨(Q.kindOf x=some .cell/\(x,i)∈vm/\w=true))(B:RV s.heap v c){P:Do}
(n:∀z,az g w C Q ((x,i)::vm) z { st with L:=dU st.L i c }->TK s.heap z.heap->(∀b o,¬ aK Q vm b->s.heap.get? b=some o->z.heap.get? b=some o)->P () z):wpAny (model g.prog g.w) A (assign (.Name x J) Q v) P E s:=by
 refine wpAny_assign_Name ?_
 have k:∀y j,(y,j)∈vm->(y=x↔j=i):=λy j I=>a y j x i (U _ I) D
 rcases V with V | ⟨V,N,O⟩
 ·exact R.nV V B k λz f t l=>n z f t λb o M e=>l b o (λh=>M (.inl h)) e
 ·refine R.pS N O V B k λz f t l=>n z (f.mono λp T=>?_) t l
  rcases bt.mp T with rfl | T
  ·exact N
  ·exact T
theorem bindAll(m:gz y){P:Do}:∀{Y:FK} {z:Cl} {U:B2} {vm:AT} {s:Shared} {st:St} {L:E1},
  NT w Q y vm k Y->(∀p∈vm,p∈y)->az g w N Q vm s st->RVs s.heap z U->jQ st.L k U=some L->
  (∀j,az g w N Q (pairsOf k Y++vm) j { st with L:=L }->TK s.heap j.heap->(∀b o,¬ aK Q y b->s.heap.get? b=some o->j.heap.get? b=some o)->P () j)->
  wpAny (model g.prog g.w) A (assignInOrder ((assignEach Y Q).map (·.2)) z) P E s:=by
 induction k with
 | nil=>
  intro Y z U vm s st L h O R f J l
  cases h
  cases U with
  | cons=>exact nos J
  | nil=>
   obtain rfl:z=[]:=f.c
   obtain rfl:=al J
   exact bj (l s R (TK.refl _) λD D D e=>e)
 | cons i k r=>
  intro Y z U vm s st L h O R f J l
  cases h with
  | @cons x _ T _ Y I F S=>
  cases U with
  | nil=>exact nos J
  | cons c U=>
   obtain⟨v,M,rfl,a,b⟩:=f.c
   show wpAny _ _ (do holding M (assign (.Name x T) Q v);assignInOrder ((assignEach Y Q).map (·.2)) M) P E s
   refine ag (eA (bind1 m O R I F a λj W t X=>?_))
   refine r (vm:=(x,i)::vm) (S.more λp V=>bb _ V) (λp V=>(bt.mp V).elim (λe=>e▸I) (O p)) W (b.mono t) J λC B Z n=>?_
   refine l C (B.mono λp V=>?_) (t.trans Z) λb o d e=>n b o d (X b o (λh=>d (h.mono O)) e)
   have V:p∈(x,i)::(pairsOf k Y++vm):=V
   exact(bt.mp V).elim (λh=>cq _ (h▸aM)) λh=>(dC.mp h).elim (de _) λh=>cq _ (bb _ h)
noncomputable def pT(w:Bool)(Q:Env)(y Y:AT):LT->Expr->Prop
 | .n i,t=>∃x z,t=.Name x z/\NT w Q y Y [i] [t]
 | .t v,t=>∃U k z,t=.Tuple U k z/\NT w Q y Y v U
noncomputable def aB(t:LT)(e:Expr):List (Str×Nat):=match t with
 | .n i=>pairsOf [i] [e]
 | .t z=>pairsOf z (Ke e)
theorem ju(x:NT w Q U V y z):(assignEach z Q).length=y.length/\(assignEach z Q).findIdx? (·.1)=none:=
 x.rec (motive:=λy z k=>(assignEach z Q).length=y.length/\(assignEach z Q).findIdx? (·.1)=none) ⟨rfl,rfl⟩ λ{x i Y y z} a b k v=>by
  show((false,assign (.Name x Y) Q)::assignEach z Q).length=_/\findIdx? _ ((false,assign (.Name x Y) Q)::assignEach z Q)=none
  rw[findIdx?_cons,v.2]
  exact⟨ab Nat.succ v.1,rfl⟩
theorem nX{is:Bz}:∀{cs:B2} {L z:E1},jQ L is cs=some z->is.length=cs.length:=by
 induction is with
 | nil=>
  intro cs L z h
  cases cs with
  | nil=>rfl
  | cons=>exact nos h
 | cons i is y=>
  intro cs L z h
  cases cs with
  | nil=>exact nos h
  | cons=>exact ab Nat.succ (y h)
theorem tN{vm:AT}(I:gz U)(Y:∀p∈vm,p∈U){A:Around}(W:A.handled=none){st:St}(R:az g w T Q vm s st)(M:pT w Q U vm t J)(d:RV s.heap v c)
(l:gu st.L t c=some L){P:Do}
(r:∀s',az g w T Q (aB t J++vm) s' { st with L:=L }->TK s.heap s'.heap->(∀b o,¬ aK Q U b->s.heap.get? b=some o->s'.heap.get? b=some o)->P () s'):wpAny (model g.prog g.w) A (assign J Q v) P E s:=by
 cases t with
 | n i=>
  obtain⟨x,C,rfl,f⟩:=M
  cases l
  cases f with
  | cons X Z _=>exact bind1 I Y R X Z d λs' B t N=>r s' B t λb o V e=>N b o (λh=>V (h.mono Y)) e
 | t q=>
  obtain⟨es,k,C,rfl,f⟩:=M
  cases c with
  | tup cs=>
   obtain⟨a,vs,rfl,K,h2,F⟩:=d.c
   refine wpAny_assign_Tuple W K ((ju f).1.trans ((nX l).trans F.size.symm)) (ju f).2 λS H=>?_
   have O:∀b o,s.heap.get? b=some o->S.get? b=some o:=λb o e=>H b o (dr (fv e)) e
   have G:az g w T Q vm { s with heap:=S } st:=⟨R.H.ext O rfl rfl,R.L.ext O,λb V=>⟨(R.np b V).1,λD=>(R.np b V).2 (R.H.oM O D)⟩,R.inj,λb V=>(R.ofr b V).imp (λe:b=Q.locals/\∀o,s.heap.get? b=some o->o.cls=.type "frame"=>⟨e.1,λo D=>R.L.ns.elim λm y=>y.1.elim λj z=>z.elim λu z=>z.elim λu z=>al ((O _ j z.1).symm.trans (e.1▸D))▸e.2 j (e.1▸z.1)⟩) id⟩
   exact bindAll I f Y G (F.mono (TK.of_keep O)) l λs' B t N=>r s' B ((TK.of_keep O).trans t) λb o V e=>N b o V (O b o e)
  | _=>exact nos l
end
section
variable{z:Program}{w:World}{s:Shared}
theorem yO(h:ItR s.heap I Y U){P:AC}(Q:P (.ref I) s):wpAny (model z w) A (pyIter (.ref I)) P E s:=by
 cases h with
 | list a b=>exact wpAny_pyIter_listiter a Q
 | tup a _ _ _=>exact wpAny_pyIter_tupleiter a Q
 | str a=>exact wpAny_pyIter_striter_ascii a Q
 | rng a _=>exact wpAny_pyIter_rangeiter a Q
 | keys a _=>exact wpAny_pyIter_keyiter a Q
 | uX a _ _ _ _=>obtain⟨y,a⟩:=a;exact wpAny_pyIter_enum a Q
 | uY a _ _ _ _ _ _ _=>obtain⟨y,a⟩:=a;exact wpAny_pyIter_enum a Q
end
noncomputable def bP(env:Env):List (Str×NameKind)->List (Str×Addr)->List (Str×Addr)
 | [],acc=>acc
 | (n,k)::r,acc=>bP env r (if k==.free then(n,(env.cells.lookup n).getD 0)::acc else acc)
noncomputable abbrev GE:=List (Str×Addr)
theorem iV{env:Env}:∀{names:List (Str×NameKind)} {acc:GE},((y,.free)∈names∨acc.lookup y=some ((env.cells.lookup y).getD 0))->
  (bP env names acc).lookup y=some ((env.cells.lookup y).getD 0)
 | [],acc,h=>by
  rcases h with h | h
  ·cases h
  ·exact h
 | (n,k)::r,acc,h=>by
  unfold bP
  refine iV ?_
  by_cases z:(k==free)=true
  ·erw[ch z]
   by_cases e:y=n
   ·subst e;right;simp
   ·rcases h with h | h
    ·rcases bt.mp h with h | h
     ·cases h;exact absurd rfl e
     ·exact .inl h
    ·right
     have:(y==n)=false:=lw.mpr e
     simp[lh,this,h]
  ·erw[ca z]
   rcases h with h | h
   ·rcases bt.mp h with h | h
    ·cases h;exact absurd rfl z
    ·exact .inl h
   ·exact .inr h
theorem w7{z:Env}{w:Scope}(h:∀y,(y,free)∈w.names->∃a,z.cells.lookup y=some a):closureFor w z=pure (bP z w.names []):=by
 have U:∀(Q:List (Str×NameKind)) (Y:GE),(∀y,(y,free)∈Q->∃a,z.cells.lookup y=some a)->
   (forIn Q Y λ(x:Str×NameKind) (o:GE)=>(if (x.2==free)=true then(do let c ← cellOf z x.1;pure (ForInStep.yield ((x.1,c)::o))) else pure (ForInStep.yield o):Sem (ForInStep (List (Str×Addr)))))=pure (bP z Q Y):=by
  intro Q
  induction Q with
  | nil=>intro Y _;rfl
  | cons p r O=>
   obtain⟨n,k⟩:=p
   intro Y v
   rw[forIn_cons]
   by_cases V:(k==free)=true
   ·have j:k=.free:=by cases k <;> first | rfl | cases V
    subst j
    obtain⟨a,f⟩:=v n aM
    have g:cellOf z n=pure a:=by unfold cellOf;exact Eq.substr f rfl
    have e:bP z ((n,free)::r) Y=bP z r ((n,(z.cells.lookup n).getD 0)::Y):=rfl
    simp only[mi,if_true,g,pure_bind]
    (erw[O _ λy J=>v y (bb _ J)];erw[e];erw[f])
    rfl
   ·simp only[V,if_false,pure_bind,Bool.false_eq_true]
    have e:bP z ((n,k)::r) Y=bP z r (if (k==free)=true then(n,(z.cells.lookup n).getD 0)::Y else Y):=rfl
    (erw[O _ λy J=>v y (bb _ J)];erw[e];exact Eq.substr (ca V) rfl)
 unfold closureFor
 have:=U w.names [] h
 simpa using this
section
variable{g:G}{env:Env}{vm:AT}
structure lK(scope:Scope)(env:Env)(vm vm0:AT):Prop where
 kind:scope.kind=.function
 Ip:∀y∈scope.names,y.2≠.cell
 names:∀y∈scope.names,y.2=.local->scope.names.lookup y.1=some .local
 free:∀y,(y,NameKind.free)∈scope.names->∃i,(y,i)∈vm/\(env.kindOf y=some .cell∨env.kindOf y=some .free)
 v0:∀x i,(x,i)∈vm0->(x,i)∈vm/\(x,NameKind.free)∈scope.names/\(env.kindOf x=some .cell∨env.kindOf x=some .free)/\∀C cl,(compEnvC scope cl C env).kindOf x=some .cell∨(compEnvC scope cl C env).kindOf x=some .free
theorem w9(V:lK z env vm y){st st':St}(Q:Rep g k env vm s st)(R:av g.w g.AN g.os g.h₀ k s' st'.H)(n:st'.L=st.L)(t:TK s.heap s'.heap)(N:s'.heap.Ns C m)(f:(∀o,¬ k C o)/\¬ Own s'.heap st'.H C) :
  az g false k (compEnvC z (bP env z.names []) C env) y s' st':=by
 have T:∀x i,(x,i)∈y->∃a,env.cells.lookup x=some a/\(bP env z.names []).lookup x=some a/\∃o,k a o:=λx i w=>by
  obtain⟨J,c,O,_⟩:=V.v0 x i w
  obtain⟨a,v,U,_⟩:=Q.L.jt J O
  refine⟨a,U,?_,Q.fr a (.inr ⟨x,i,J,O,U⟩)⟩
  have:=iV (env:=env) (names:=z.names) (acc:=[]) (.inl c)
  (erw[this];erw[U]);rfl
 have A:=Q.L.keep (h':=s'.heap) (λb o j e=>by
  obtain⟨I,p⟩:=Q.fr b j
  exact Q.H.same R p e) t
 refine⟨R,⟨V.kind,Q.L.glob,Q.L.bi,⟨m,N,λx i w B=>?_⟩,λx i w B=>?_⟩,λb j=>?_,λh=>(nomatch h),λb j=>.inr (Q.ofr b j)⟩
 ·rcases(V.v0 x i w).2.2.2 C (bP env z.names []) with h | h <;> rw[B] at h <;> cases h
 ·obtain⟨J,c,O,_⟩:=V.v0 x i w
  obtain⟨a,U,Y,_⟩:=T x i w
  obtain⟨D,r,l,E,q⟩:=A.cell x i J O
  exact⟨D,r,al (U.symm.trans l)▸Y,E,n▸q⟩
 ·rcases j with rfl | ⟨x,i,w,_,L⟩
  ·exact⟨λM=>f.1,f.2⟩
  ·obtain⟨a,U,Y,o,p⟩:=T x i w
   have:(bP env z.names []).lookup x=some b:=L
   rw[Y] at this;cases this
   refine⟨λh=>?_,R.fU p⟩
   rcases h with h | h
   ·exact absurd p (h▸f.1 o)
   ·cases h
end
theorem r6:∀{names:List (Str×NameKind)} {acc:GE},(bP env names acc).lookup y=some a->(y,free)∈names∨acc.lookup y=some a
 | [],acc,h=>.inr h
 | (n,k)::r,acc,h=>by
  have w:(bP env r (if k==.free then(n,(env.cells.lookup n).getD 0)::acc else acc)).lookup y=some a:=h
  clear h
  rcases r6 w with h | h
  ·exact .inl (bb _ h)
  ·by_cases z:(k==free)=true
   ·rw[ch z] at h
    have Q:k=.free:=by cases k <;> first | rfl | cases z
    subst Q
    by_cases e:y=n
    ·subst e;exact .inl aM
    ·have:(y==n)=false:=lw.mpr e
     rw[lh,this] at h
     exact .inr h
   ·rw[ca z] at h
    exact .inr h
section
variable{g:G}{env:Env}{vm:AT}
theorem Apart.nt{H:CH}(h:Apart z s H Q):∀b∈Q,(∀o,¬ z b o)/\¬ Own s.heap H b/\∀w,¬ IsTup s.heap b w:=λb y=>
 let ⟨Y,U,v⟩:=h b y;⟨Y,U,λw ⟨o,V,k,_⟩=>v o V k⟩
theorem gA{s':Shared}{H:CH}{os:OsState}(R:av w p os z O s H){U:Fa}(k:∀b o,b∉U->s.heap.get? b=some o->s'.heap.get? b=some o)(f:∀b∈U,¬ Own s.heap H b){b:Addr}(h:¬ Own s.heap H b):¬ Own s'.heap H b:=by
 rintro(x | x | x | ⟨j,J,t,v,Q,V⟩)
 ·exact h (.inl x)
 ·exact h (.inr (.inl x))
 ·exact h (.inr (.inr (.inl x)))
 ·have y:j∉U:=λl=>f j l (.inr (.inr (.inl (by erw[v];exact cw _))))
  obtain⟨_,⟨_,o,Y,_,L⟩ | ⟨T,c,m,Y,_⟩⟩:=R.ins j J v
  ·have:=k _ _ y Y;rw[Q] at this;cases this;rw[L] at V;cases V
  ·have:=k _ _ y Y;rw[Q] at this;cases this
   exact h (.inr (.inr (.inr ⟨j,J,_,v,Y,V⟩)))
theorem az.side{env:Env}{vm:AT}{s':Shared}{st:St}(R:az g V y env vm s st){wr:Fa}(k:∀b o,b∉wr->s.heap.get? b=some o->s'.heap.get? b=some o)
(j:∀b∈wr,(∀o,¬ y b o)/\¬ Own s.heap st.H b/\∀O,¬ IsTup s.heap b O)(J:∀b∈wr,¬ aK env vm b)(p:s'.os=s.os)(f:s'.gens=s.gens):az g V y env vm s' st/\TK s.heap s'.heap:=by
 obtain⟨l,t⟩:=R.H.side k j p f
 exact⟨⟨l,R.L.keep (λb o Q e=>⟨o,k b o (λY=>J b Y Q) e,.refl o⟩) t,λb Q=>⟨(R.np b Q).1,gA R.H k (λb Q=>(j b Q).2.1) (R.np b Q).2⟩,R.inj,λb Q=>(R.ofr b Q).imp (λ⟨e,h⟩=>⟨e,λo T=>by
  subst e
  obtain⟨m,⟨w,U,v,z,_⟩,_⟩:=R.L.ns
  have:=k _ w (λY=>J _ Y (.inl rfl)) z
  rw[T] at this;cases this
  exact h _ z⟩) id⟩,t⟩
inductive jv(g:G)(scope:Scope)(env:Env)(vmF:AT):List CE->List Expr->Prop
 | nil:jv g scope env vmF [] []
 | one {cc:CE} {c:Expr}:(∀C cl,TS g (compEnvC scope cl C env) vmF cc (isTrue c (compEnvC scope cl C env) (eval c (compEnvC scope cl C env))))->jv g scope env vmF [cc] [c]
structure iA(g:G)(Pr:Bn)(env':Env)(vm0:AT)(I:Addr)(wr:Fa)(D:Addr)(h₂:Heap)(ci:CI)(s:Shared)(st:St)(it:It)(acc:B2):Prop where
 F:az g false Pr env' vm0 s st
 itr:ItR s.heap I wr it
 itf:iy ci it
 apart:Apart Pr s st.H wr
 off:env'.locals∉wr/\D∉wr/\D≠env'.locals
 d:∃vs n,s.heap.get? D=some { cls:=.type "list",dict:=none,data:=.seq vs n,slots:=#[] }/\RVs s.heap vs.toList acc
 dn:(∀o,¬ Pr D o)/\¬ Own s.heap st.H D
 tk:TK h₂ s.heap
theorem iA.freeOf{H:CH}(R:av g.w g.AN g.os g.h₀ Q s H)(y:∀o,¬ Q a o)(z:¬ Own s.heap H a):H.free a where
 ro:=by
  cases e:H.ro a with
  | none=>rfl
  | some l=>
   obtain⟨w,_,_,p,c,_⟩:=R.ro a l e
   exact absurd (R.base a w p) (y w)
 lst:=Classical.byContradiction λh=>z (.inl h)
 dct:=Classical.byContradiction λh=>z (.inr (.inl h))
 cls:=Classical.byContradiction λh=>z (.inr (.inr (.inl h)))
 att:=λn=>Classical.byContradiction λh=>R.att n a h (Classical.byContradiction λY=>z (.inr (.inr (.inl Y))))
theorem vd(h:iy Y w)(Q:(∃U k p,z=.Tuple U k p)∨∀y,Y≠.enum y):uZ w z:=by
 cases w with
 | enum k t=>
  obtain⟨y,rfl⟩:=h
  rcases Q with Q | Q
  ·exact Q
  ·exact absurd rfl (Q y)
 | _=>trivial
theorem jT{Q:Type}{o:Option Q}{f:Q->CV×It}(Y:∀a,iy w (f a).2)(e:o.map f=some (c,z)):iy w z:=
 (e0.mp e).elim λa y=>(show(f a).2=z from ab Prod.snd y.2)▸Y a
theorem pU{H:CH}(h:iy w y)(e:y.next H=some (some (c,z))):iy w z:=by
 cases y with
 | enum k t=>exact pQ (P:=λr=>r=some (c,z)->iy w z) e (λU Q e=>jT (λQ=>h) e) rfl
 | list a i=>exact pP (P:=λr=>r=some (c,z)->iy w z) e (λl Q e=>jT (f:=λv=>(v,It.list a (i+1))) (λQ=>trivial) e) rfl
 | items l=>
  cases l with
  | nil=>exact nomatch (al e)
  | cons v l=>exact(show It.items l=z from ab Prod.snd (al (al e)))▸trivial
 | keys a n i=>exact u7 (P:=λr=>r=some (c,z)->iy w z) e (λY Q Q Q e=>jT (f:=λp:CV×CV=>(p.1,It.keys a n (i+1))) (λQ=>trivial) e) rfl
 | pairs a n i=>exact AI (P:=λr=>r=some (c,z)->iy w z) e (λY e=>jT (f:=λp:CV×CV=>(.tup [p.1,p.2],It.pairs a n (i+1))) (λQ=>trivial) e) rfl
theorem pV(V:lK z env vm w){st:St}(U:Rep g Y env vm s st)(h:aK (compEnvC z (bP env z.names []) C env) y b):b=C∨∃o,Y b o:=by
 rcases h with rfl | ⟨x,i,_,_,Q⟩
 ·exact .inl rfl
 ·right
  have Q:(bP env z.names []).lookup x=some b:=Q
  rcases r6 Q with h | h
  ·obtain⟨i,k,j⟩:=V.free x h
   obtain⟨a,v,J,_⟩:=U.L.jt k j
   have:=iV (env:=env) (names:=z.names) (acc:=[]) (.inl h)
   rw[Q,J] at this
   cases this
   exact U.fr _ (.inr ⟨x,i,k,j,J⟩)
  ·cases h
theorem iA.dX{st:St}(N:iA g L z y I O D w t s st T U)
(j:Rep g (frz s st.H) z y s' Y):iA g L z y I O D w t s' Y T U/\TK s.heap s'.heap:=by
 have p:∀b o,s.heap.get? b=some o->¬ Own s.heap st.H b->∃v,s'.heap.get? b=some v/\fC o v:=λb o e h=>j.H.b3 b o ⟨e,h⟩
 have tk:=N.F.H.tk (s':=s') p
 obtain⟨x,n,c,C⟩:=N.d
 have V:∀b∈O,∀o,s.heap.get? b=some o->s'.heap.get? b=some o:=λb Q o q=>by
  obtain⟨v,e,f⟩:=p b o q (N.apart b Q).2.1
  rw[f.eq (N.itr.u6 b Q o q)] at e;exact e
 have l:s'.heap.get? D=some { cls:=.type "list",dict:=none,data:=.seq x n,slots:=#[] }:=by
  obtain⟨v,e,f⟩:=p D _ c N.dn.2
  rw[f.eq (by show Value.type "list"≠Value.type "frame";decide)] at e;exact e
 refine⟨⟨N.F.dX j,N.itr.keep V tk,N.itf,λb Q=>⟨(N.apart b Q).1,?_,?_⟩,N.off,⟨x,n,l,C.mono tk⟩,⟨N.dn.1,j.H.fU (b:=D) ⟨c,N.dn.2⟩⟩,N.tk.trans tk⟩,tk⟩
 ·obtain⟨o,J⟩:=N.itr.live b Q
  exact j.H.fU (b:=b) ⟨J,(N.apart b Q).2.1⟩
 ·obtain⟨o,J⟩:=N.itr.live b Q
  have:=V b Q o J
  intro v k
  rw[this] at k;cases k
  exact(N.apart b Q).2.2 _ J
theorem iA.mono{w:AT}{st:St}(N:iA g Pr z y I wr D Q Y s st U acc)(k:∀p∈w,p∈y) :
  iA g Pr z w I wr D Q Y s st U acc:=⟨N.F.mono k,N.itr,N.itf,N.apart,N.off,N.d,N.dn,N.tk⟩
theorem iA.side{st:St}(N:iA g k z j I wr D Q J s st O U)
(l:az g false k z Y s' { st with L:=L })(t:TK s.heap s'.heap)(p:∀b o,b≠z.locals->(∀o,¬ k b o)->s.heap.get? b=some o->s'.heap.get? b=some o)(w:∀b,¬ Own s.heap st.H b->¬ Own s'.heap st.H b):iA g k z Y I wr D Q J s' { st with L:=L } O U:=by
 obtain⟨T,n,x,c⟩:=N.d
 have v:∀b∈wr,∀o,s.heap.get? b=some o->s'.heap.get? b=some o:=λb y o q=>p b o (λh=>N.off.1 (h▸y)) (N.apart b y).1 q
 refine⟨l,N.itr.keep v t,N.itf,λb y=>⟨(N.apart b y).1,w b (N.apart b y).2.1,?_⟩,N.off,⟨T,n,p D _ N.off.2.2 N.dn.1 x,c.mono t⟩,⟨N.dn.1,w D N.dn.2⟩,N.tk.trans t⟩
 obtain⟨o,f⟩:=N.itr.live b y
 have:=v b y o f
 intro C V
 rw[this] at V;cases V
 exact(N.apart b y).2.2 _ f
theorem r7{st:St}{K:It}(hA:OKA g A)
(L:ES g (compEnvC z f C env) V J (eval l (compEnvC z f C env)))
(N:iA g r (compEnvC z f C env) V I R D O Z s st K k)
(hw:wpE g.Φ g.M J st Q (λS S=>False)){P:AC}
(hP:∀c s' y,iA g r (compEnvC z f C env) V I R D O Z s' y K (k++[c])->Q c y->P .none s')(W:¬ aK (compEnvC z f C env) V D)(Y:∀c y,Q c y->k.length<=szl) :
  wpAny (model g.prog g.w) A (eval l (compEnvC z f C env)) (λx t=>wpAny (model g.prog g.w) A (call (.builtin "list.append") [.ref D,x]) P E t) E s:=by
 refine L A (frz s st.H) s st Q _ _ E hA N.F.freeze hw (λv c s' y hv X H=>?_) λS S h=>h.elim
 obtain⟨U,tk⟩:=N.dX X
 obtain⟨T,n,M,G⟩:=U.d
 have Y:=Y _ _ H
 unfold szl at Y
 have z0:T.size=k.length:=G.size
 refine call_meets F.slot_list_append (⟨_,M,rfl⟩:s'.TypeIs (.ref D) "list") F.entry_list_append (F.args_list_append_2 _ _) (list_append D T n v (by unfold sizeLine;lia)) ⟨M,?_⟩
 obtain⟨d,e⟩:∃d,Obj.mapSeq (λj=>j.push v) { cls:=.type "list",dict:=none,data:=.seq T n,slots:=#[] }={ cls:=.type "list",dict:=none,data:=.seq (T.push v) d,slots:=#[] }:=⟨_,rfl⟩
 have h1:(s'.heap.update D (Obj.mapSeq λj=>j.push v)).get? D=some { cls:=.type "list",dict:=none,data:=.seq (T.push v) d,slots:=#[] }:=by
  rw[fp _ M (by erw[e];rfl),e]
 have m:∀b o,b∉[D]->s'.heap.get? b=some o->(s'.heap.update D (Obj.mapSeq λj=>j.push v)).get? b=some o:=λb o w q=>by
  rw[hJ _ _ (λh=>w (by simp[h]))];exact q
 have p:∀b∈[D],(∀o,¬ r b o)/\¬ Own s'.heap y.H b/\∀u,¬ IsTup s'.heap b u:=λb w=>by
  rw[bc] at w;subst w
  exact⟨U.dn.1,U.dn.2,λu ⟨o,h2,hc,_⟩=>by rw[M] at h2;cases h2;exact absurd (show Value.type "list"=Value.type "tuple" from hc) (by decide)⟩
 obtain⟨F2,i⟩:=U.F.side (s':={ s' with heap:=s'.heap.update D (Obj.mapSeq λj=>j.push v) }) m p (λb w=>by rw[bc] at w;subst w;exact W) rfl rfl
 have B:∀b∈R,∀o,s'.heap.get? b=some o->(s'.heap.update D (Obj.mapSeq λj=>j.push v)).get? b=some o:=λb w o q=>m b o (λh=>by rw[bc] at h;subst h;exact N.off.2.1 w) q
 refine hP c _ y ⟨F2,U.itr.keep B i,N.itf,λb w=>⟨(N.apart b w).1,gA X.H m (λb w=>(p b w).2.1) (U.apart b w).2.1,?_⟩,N.off,⟨_,d,h1,?_⟩,⟨N.dn.1,gA X.H m (λb w=>(p b w).2.1) U.dn.2⟩,U.tk.trans i⟩ H
 ·obtain⟨o,ho⟩:=U.itr.live b w
  have:=B b w o ho
  intro o' a
  rw[this] at a;cases a
  exact(U.apart b w).2.2 _ ho
 ·erw[Array.toList_push]
  exact(G.mono i).append (.cons (hv.mono i) .nil)
theorem iB{s':Shared}{H:CH}(R:av g.w g.AN g.os g.h₀ V s H)(U:∀j o,Own s.heap H j->s.heap.get? j=some o->s'.heap.get? j=some o)(h:¬ Own s.heap H b):¬ Own s'.heap H b:=by
 rintro(x | x | x | ⟨j,v,J,y,z,Y⟩)
 ·exact h (.inl x)
 ·exact h (.inr (.inl x))
 ·exact h (.inr (.inr (.inl x)))
 ·have Q:Own s.heap H j:=.inr (.inr (.inl (by erw[y];exact cw _)))
  obtain⟨_,⟨_,o,w,_,k⟩ | ⟨O,p,m,w,_⟩⟩:=R.ins j v y
  ·have:=U _ _ Q w;rw[z] at this;cases this;rw[k] at Y;cases Y
  ·have:=U _ _ Q w;rw[z] at this;cases this
   exact h (.inr (.inr (.inr ⟨j,v,_,y,w,Y⟩)))
theorem r8{Q:Expr}(V:lK z env vm vm0){A:Around}(R0:Rep g T env vm U x){st:St}
(hh:A.handled=none)(hF:gz (aB t Q++vm0))(ht:pT false (compEnvC z (bP env z.names []) C env) (aB t Q++vm0) vm0 t Q)(z1:(∃es k p,Q=.Tuple es k p)∨∀ce,R≠.enum ce)
(N:iA g T (compEnvC z (bP env z.names []) C env) vm0 I S D y R s st it O)(hn:it.next st.H=some r)
{K:Shared->Prop}{K':AC}
(B:r=none->∀s',az g false T (compEnvC z (bP env z.names []) C env) vm0 s' st->(∃F n,s'.heap.get? D=some { cls:=.type "list",dict:=none,data:=.seq F n,slots:=#[] }/\RVs s'.heap F.toList O)->¬ Own s'.heap st.H D->TK y s'.heap->K s')
(a:∀c Y,r=some (c,Y)->∃L,gu st.L t c=some L/\∀s',iA g T (compEnvC z (bP env z.names []) C env) (aB t Q++vm0) I S D y R s' { st with L:=L } Y O->K' .none s') :
  wpAny (model g.prog g.w) A (pyNext (.ref I)) (λr f=>match r with
   | none=>K f
   | some v=>wpAny (model g.prog g.w) A (letOwnedTupleGo Q (.ref I) v) (λζ U=>wpAny (model g.prog g.w) A (assign Q (compEnvC z (bP env z.names []) C env) v) (λζ J=>K' .none J) E U) E f) E s:=by
 have M:∀{b z2},aK (compEnvC z (bP env z.names []) C env) z2 b->b=C∨∃o,T b o:=λh=>pV V R0 h
 have hC:(compEnvC z (bP env z.names []) C env).locals=C:=rfl
 have W:∀b∈S,¬ aK (compEnvC z (bP env z.names []) C env) vm0 b:=λb w h=>by
  rcases M h with rfl | ⟨o,p⟩
  ·exact N.off.1 w
  ·exact(N.apart b w).1 o p
 refine yL (K:=λr s=>match r with | none=>K s | some v=>wpAny (model g.prog g.w) A (assign Q (compEnvC z (bP env z.names []) C env) v) (λζ J=>K' .none J) E s) hh N.F.H N.itr (vd N.itf z1) hn (BY (λhr d P m=>?_) (λc Y hr v d P hv hI ζ m=>?_))
 ·obtain⟨F',X⟩:=N.F.side (s':={ s with heap:=d,toks:=P }) m N.apart.nt W rfl rfl
  obtain⟨F,n,hd,i⟩:=N.d
  exact B hr _ F' ⟨F,n,m D _ N.off.2.1 hd,i.mono X⟩ (gA N.F.H m (λb w=>(N.apart b w).2.1) N.dn.2) (N.tk.trans X)
 ·obtain⟨F',X⟩:=N.F.side (s':={ s with heap:=d,toks:=P }) m N.apart.nt W rfl rfl
  obtain⟨F,n,hd,i⟩:=N.d
  have l:∀b,¬ Own s.heap st.H b->¬ Own d st.H b:=λb w=>gA (s':={ s with heap:=d,toks:=P }) N.F.H m (λb w=>(N.apart b w).2.1) w
  have Z:iy R Y:=pU N.itf (hr▸hn)
  have z3:Apart T { s with heap:=d,toks:=P } st.H S:=λb w=>⟨(N.apart b w).1,l b (N.apart b w).2.1,hI.nc b w⟩
  have N':iA g T (compEnvC z (bP env z.names []) C env) vm0 I S D y R { s with heap:=d,toks:=P } st Y O:=
   ⟨F',hI,Z,z3,N.off,⟨F,n,m D _ N.off.2.1 hd,i.mono X⟩,⟨N.dn.1,l D N.dn.2⟩,N.tk.trans X⟩
  obtain⟨L,hL,z4⟩:=a c Y hr
  refine tN hF (λp hp=>cq _ hp) hh F' ht hv hL λs' R' t2 z0=>z4 s' ?_
  refine N'.side R' t2 (λb o w hp e=>z0 b o (λhf=>?_) e) λb w=>iB N'.F.H (λj o hj e=>z0 j o (λhf=>?_) e) w
  ·rcases M hf with h | ⟨o',p⟩
   ·exact w h
   ·exact hp o' p
  ·rcases M hf with h | ⟨o',p⟩
   ·subst h;exact(N'.F.np _ (.inl rfl)).2 hj
   ·exact N'.F.H.fU p hj
noncomputable abbrev coE(env:Env)(z:Scope)(C:Addr):Env:=compEnvC z (bP env z.names []) C env
noncomputable def coT(g:G)(t:LT)(z:FV)(Q:CE)(v:CV)(s:St)(K:Option CV->St->Prop):Prop:=
 ∃L,gu s.L t v=some L/\rS g.Φ g.M z { s with L:=L } (λb s=>if b=true then wpE g.Φ g.M Q s (λr s=>K (some r) s) (λw w=>False) else K none s) (λw w=>False)
noncomputable def Hf(Q:Da)(L:E1)(z:B2)(s:St):Prop:=z.length<=szl/\∀c,s.H.free c->Q (.ref c) ⟨s.H.aA c z,L⟩
theorem yP{st:St}(h:gv Q w k U z st):∃j r,k=j+1/\U.next st.H=some r/\(r=none->w z st)/\
  ∀v y,r=some (v,y)->Q v st λr Y=>z.length<szl/\gv Q w j y (r.elim z λx=>z++[x]) Y:=by
 cases k with
 | zero=>exact h.elim
 | succ k=>
  have h:=show(U.next st.H).elim False λo=>o.elim (w z st) λp=>Q p.1 st λr Y=>z.length<szl/\gv Q w k p.2 (r.elim z λx=>z++[x]) Y from h
  cases e:U.next st.H with
  | none=>rw[e] at h;exact h.elim
  | some r=>rw[e] at h;exact⟨k,r,rfl,rfl,λV=>by subst V;exact h,λv y V=>by subst V;exact h⟩
noncomputable def Kf(h:Heap)(D:Addr)(z:B2):Prop:=∃Q n,h.get? D=some { cls:=.type "list",dict:=none,data:=.seq Q n,slots:=#[] }/\RVs h Q.toList z
structure CoH(g:G)(env:Env)(vm:AT)(M9:CE)(ci:CI)(t:LT)(elt tgt:Expr)(scope:Scope)(vm0:AT)(A:Around)(Pr:Bn)(s₂:Shared)(Kg:St)(C D:Addr)(Fin:Fk)(Z:Shared->Prop):Prop where
 V:lK scope env vm vm0
 R:Rep g Pr env vm s₂ Kg
 ok:OKA g A
 hh:A.handled=none
 F:gz (aB t tgt++vm0)
 tg:pT false (coE env scope C) (aB t tgt++vm0) vm0 t tgt
 to:(∃es k p,tgt=.Tuple es k p)∨∀ce,ci≠.enum ce
 el:ES g (coE env scope C) (aB t tgt++vm0) M9 (eval elt (coE env scope C))
 fr:∀{vmX},¬ aK (coE env scope C) vmX D
 fin:∀s' st' acc,az g false Pr (coE env scope C) vm0 s' st'->Kf s'.heap D acc->¬ Own s'.heap st'.H D->TK s₂.heap s'.heap->Fin acc st'->Z s'
section
variable{Q:CE}{ci:CI}{Y iter:Expr}{scope:Scope}{vm0:AT}{Pr:Bn}{w:Shared}{z:St}{C D I:Addr}{Fin:Fk}{wr:Fa}{U:It}{n:Nat}{P:AC}{use:Option (Value->Sem Unit)}
inductive CoI(g:G)(env:Env)(vm0:AT)(Pr:Bn)(C I:Addr)(wr:Fa)(D:Addr)(h₂:Heap)(ci:CI)(scope:Scope)(turn:CV->St->(Option CV->St->Prop)->Prop)(Fin:Fk)(k:Nat)(s':Shared):Prop
 | mk (st':St) (it':It) (acc:B2) (N:iA g Pr (coE env scope C) vm0 I wr D h₂ ci s' st' it' acc) (hl:gv turn Fin k it' acc st'):CoI g env vm0 Pr C I wr D h₂ ci scope turn Fin k s'
theorem B8(X:CoH g env vm Q ci t y Y scope vm0 A Pr w z C D Fin (compPost (model g.prog g.w) A E use P (.ref D) C (.ok .next)))(N:iA g Pr (coE env scope C) vm0 I wr D w.heap ci j z U [])(F:gv (coT g t [] Q) Fin n U [] z) :
  codeAny (model g.prog g.w) A (.compLoop (.ListComp y [⟨Y,iter,[],0⟩] scope v) 0 (.ref I) (.ref D) (coE env scope C)) (compPost (model g.prog g.w) A E use P (.ref D) C) j:=by
 refine kcp_loop (CoI g env vm0 Pr C I wr D w.heap ci scope (coT g t [] Q) Fin) ?_ n (.mk z U [] N F)
 rintro k s' ⟨st',R,T,S,W⟩
 obtain⟨k,r,rfl,x,o,O⟩:=yP W
 refine r8 (K':=λe f=>wpAny (model g.prog g.w) A (eval y (coE env scope C)) _ _ f) X.V X.R X.hh X.F X.tg X.to S x (λb l B Z a M=>X.fin l st' T B Z a M (o b)) (λc J b=>?_)
 obtain⟨L,K,s⟩:=O c J b
 exact⟨L,K,λl d=>r7 X.ok X.el d s (λc u m H i=>⟨k,dq k,.mk m J _ (H.mono λp G=>cq _ G) i.2⟩) X.fr λe e h=>cy h.1⟩
theorem B9(s:TS g (coE env scope C) (aB t Y++vm0) M (isTrue j (coE env scope C) (eval j (coE env scope C))))(X:CoH g env vm Q ci t y Y scope vm0 A Pr w z C D Fin (compPost (model g.prog g.w) A E use P (.ref D) C (.ok .next)))(N:iA g Pr (coE env scope C) vm0 I wr D w.heap ci f z U [])(u:gv (coT g t [M] Q) Fin n U [] z) :
  codeAny (model g.prog g.w) A (.compLoop (.ListComp y [⟨Y,iter,[j],0⟩] scope v) 0 (.ref I) (.ref D) (coE env scope C)) (compPost (model g.prog g.w) A E use P (.ref D) C) f:=by
 refine kct_loop (CoI g env vm0 Pr C I wr D w.heap ci scope (coT g t [M] Q) Fin) ?_ n (.mk z U [] N u)
 rintro k s' ⟨st',q,d,V,hl⟩
 obtain⟨k,r,rfl,m,l,T⟩:=yP hl
 refine r8 (K':=λa x=>wpAny (model g.prog g.w) A (isTrue _ (coE env scope C) _) _ _ x) X.V X.R X.hh X.F X.tg X.to V m (λi o e hd F R=>X.fin o st' d e hd F R (l i)) (λc J i=>?_)
 obtain⟨L,hL,S⟩:=T c J i
 refine⟨L,hL,λo B=>s A (frz o _) o _ _ _ _ _ X.ok B.F.freeze S (λc3 s3 W R3 O=>?_) λa a h=>h.elim⟩
 obtain⟨b,hb,O⟩:=O
 refine⟨b,hb,?_⟩
 obtain⟨G,_⟩:=B.dX R3
 cases b with
 | false=>exact⟨k,dq k,.mk W J _ (G.mono λp Z=>cq _ Z) O.2⟩
 | true=>exact r7 X.ok X.el G O (λc s4 K N4 H=>⟨k,dq k,.mk K J _ (N4.mono λp Z=>cq _ Z) H.2⟩) X.fr λa a h=>cy h.1
end
theorem Ca(z7:g.hd=true){use:Option (Value->Sem Unit)}{K:FV}{G L iter:Expr}(V:lK w env vm vm0)(u:∀x,foldedSetIterable iter env x=pure x)(hi:IS g env vm ci iter)
(hF:gz (aB t L++vm0))(ht:∀C cl,pT false (compEnvC w cl C env) (aB t L++vm0) vm0 t L)(z9:(∃es k p,L=.Tuple es k p)∨∀ce,ci≠.enum ce)
(z2:∀C cl,ES g (compEnvC w cl C env) (aB t L++vm0) B (eval G (compEnvC w cl C env)))(r:jv g w env (aB t L++vm0) K z1)
{st:St}(hA:OKA g A)(R:Rep g M env vm s st)(hw:wpE g.Φ g.M (.co B t ci K) st Q X)
(hP:∀D C s' f m,Rep g M env vm s' f->Q (.ref D) f->s'.heap.Ns C m->(∀o,¬ M C o)->¬ Own s'.heap f.H C->compPost (model g.prog g.w) A E use P (.ref D) C (.ok .next) s')
(hE:EOk g A M env vm X E) :
  wpAny (model g.prog g.w) A (comprehension (.ListComp G [⟨L,iter,z1,0⟩] w z8) w env p (newList []) false (eval iter env) use) P E s:=by
 have hh:=hA.handled z7
 refine wpAny_comprehension_free (use:=use) rfl u (w7 λy hy=>?_) V.kind V.names (hi A M s st _ X _ E hA R hw (λI wr it z Y hI z3 z4 J H=>?_) hE)
 ·obtain⟨i,h1,h3⟩:=V.free y hy
  obtain⟨a,v,ha,_⟩:=R.L.jt h1 h3
  exact⟨a,ha⟩
 obtain⟨n,H⟩:=H
 refine wpAny_newObj_type (wpAny_newFunctionEnv V.Ip (by intro y hy;simp at hy) (λU l O=>?_) V.kind)
 dsimp only at l O ⊢
 generalize q:z.heap.push { cls:=.type "list",dict:=none,data:=.seq ([]:Cl).toArray }=T at l O ⊢
 have hC:T.objs.size=z.heap.objs.size+1:=by(erw[ip q];exact Eq.substr (Heap.size_push _ _) rfl)
 have F:z.heap.objs.size≠T.objs.size:=by erw[hC];exact dr (dq _)
 have nD:=bI z.heap
 have nC:∀o,z.heap.get? T.objs.size≠some o:=λo e=>absurd (fv e) (by erw[hC];exact Nat.not_lt.mpr (gN _))
 have c:∀b o,z.heap.get? b=some o->U.get? b=some o:=λb o e=>O.extBut b o (λh=>nC o (h▸e)) (dA _ (q▸dA _ e))
 have zz:U.get? z.heap.objs.size=some { cls:=.type "list",dict:=none,data:=.seq (#[]:Db) 0,slots:=#[] }:=
  O.extBut _ _ F (dA _ (q▸dv _ rfl))
 have z0:TK z.heap U:=TK.of_keep c
 have R3:av g.w g.AN g.os g.h₀ M { z with heap:=U,toks:=z.toks+([]:FR).length } Y.H:=J.H.ext c rfl rfl
 have z5:(∀o,¬ M T.objs.size o)/\¬ Own U Y.H T.objs.size:=⟨λo p=>let ⟨o',e,_⟩:=J.H.b3 _ o p;nC o' e,J.H.iw (s':={ z with heap:=U }) c nC⟩
 have S:(∀o,¬ M z.heap.objs.size o)/\¬ Own U Y.H z.heap.objs.size:=⟨λo p=>let ⟨o',e,_⟩:=J.H.b3 _ o p;nD o' e,J.H.iw (s':={ z with heap:=U }) c nD⟩
 have F3:=w9 V J (s':={ z with heap:=U,toks:=z.toks+([]:FR).length }) (st':=Y) R3 rfl z0 l z5
 have z6:∀b∈wr,b<z.heap.objs.size:=λb hb=>by obtain⟨o,ho⟩:=hI.live b hb;exact fv ho
 have W:ItR U I wr it:=hI.keep (λb hb o e=>c b o e) z0
 have N:iA g M (compEnvC w (bP env w.names []) T.objs.size env) vm0 I wr z.heap.objs.size z.heap ci { z with heap:=U,toks:=z.toks+([]:FR).length } Y it []:=
  ⟨F3,W,z3,λb hb=>⟨(z4 b hb).1,iB (s':={ z with heap:=U }) J.H (λj o ζ e=>c j o e) (z4 b hb).2.1,W.nc b hb⟩,
   ⟨λhm=>absurd (z6 _ hm) (by show ¬ T.objs.size<_;erw[hC];exact Nat.not_lt.mpr (gN _)),λhm=>absurd (z6 _ hm) (kv _),F⟩,⟨#[],0,zz,.nil⟩,S,z0⟩
 have zq:∀{zw},¬ aK (compEnvC w (bP env w.names []) T.objs.size env) zw z.heap.objs.size:=λhf=>by
  rcases pV V J hf with h | ⟨o,p⟩
  ·exact F h
  ·exact S.1 o p
 have zy:∀(s':Shared) (f:St) (d:B2),az g false M (compEnvC w (bP env w.names []) T.objs.size env) vm0 s' f->Kf s'.heap z.heap.objs.size d->
   ¬ Own s'.heap f.H z.heap.objs.size->TK z.heap s'.heap->Hf Q Y.L d f->
   compPost (model g.prog g.w) A E use P (.ref z.heap.objs.size) T.objs.size (.ok .next) s':=by
  intro s' f d F' hd zu zv ⟨hz,H⟩
  obtain⟨m,hm,_⟩:=F'.L.ns
  obtain⟨vs,n',hd,hr⟩:=hd
  have R5:=F'.H.aA (s':=s') (a:=z.heap.objs.size) (λζ ζ=>rfl) ⟨n',hd⟩ hr hz S.1 (λo e=>by rw[hd] at e;cases e;rfl) rfl rfl
  refine hP _ _ _ ⟨f.H.aA z.heap.objs.size d,Y.L⟩ _ (J.of R5 zv) (H _ (iA.freeOf F'.H S.1 zu)) hm z5.1 ?_
  have Z:=(F'.np _ (.inl rfl)).2
  rintro(h | h | h | h)
  ·have h:upd f.H.lst z.heap.objs.size d T.objs.size≠none:=h
   rw[iQ _ _ (en F)] at h
   exact Z (.inl h)
  ·exact Z (.inr (.inl h))
  ·exact Z (.inr (.inr (.inl h)))
  ·exact Z (.inr (.inr (.inr h)))
 have X:CoH g env vm B ci t G L w vm0 A M z Y T.objs.size z.heap.objs.size (Hf Q Y.L) (compPost (model g.prog g.w) A E use P (.ref z.heap.objs.size) T.objs.size (.ok .next)):=
  ⟨V,J,hA,hh,hF,ht _ _,z9,z2 _ _,zq,zy⟩
 cases r with
 | nil=>exact codeAny_compStart_list (B8 X N H) (yO W (B8 X N H))
 | one r=>exact codeAny_compStart_list (B9 (r _ _) X N H) (yO W (B9 (r _ _) X N H))
theorem ES.co(f:g.hd=true){w iter:Expr}(V:lK z env vm vm0)(U:∀x,foldedSetIterable iter env x=pure x)(h:IS g env vm l iter)
(d:gz (aB t w++vm0))(i:∀C O,pT false (compEnvC z O C env) (aB t w++vm0) vm0 t w)(T:(∃e k p,w=.Tuple e k p)∨∀r,l≠.enum r)
(o:∀C O,ES g (compEnvC z O C env) (aB t w++vm0) y (eval j (compEnvC z O C env)))(c:jv g z env (aB t w++vm0) Y J) :
  ES g env vm (.co y t l Y) (eval (.ListComp j [⟨w,iter,J,0⟩] z L) env):=by
 intro A Pr s st Q X P E F R S W Z
 rw[eval_ListComp]
 refine Ca (use:=none) f V U h d i T o c F R S (λD C s' st' m N K a B n=>⟨m,a,λI H=>?_⟩) Z
 have G:KpW [C] s'.heap I:=j6 H.extBut
 obtain⟨u,q⟩:=N.H.side (s':={ s' with heap:=I }) G (λb M=>by
  rw[bc] at M;subst M
  exact⟨B,n,iU a⟩) rfl rfl
 exact W _ _ _ _ (.ref D) (N.of u q) K
end
theorem all_range{l:B2}(Y:∀y∈l,∃b,y=.bool b):(range l.length).all (λi=>decide (l[i]?=some (.bool true)))=l.all λy=>decide (y=.bool true):=by
 rw[Bool.eq_iff_iff,eQ,eQ]
 constructor
 ·intro h y w
  obtain⟨i,Q⟩:=iq.mp w
  have z:i<l.length:=by
   rcases mc i l.length with h | h
   ·exact h
   ·rw[fi h] at Q;cases Q
  have:=h i (du.mpr z)
  rw[Q] at this
  simpa using this
 ·intro h i Q
  have z:=du.mp Q
  rw[bm z]
  have:=h l[i] (fg z)
  simpa using this
section
variable{g:G}{env:Env}{z:AT}
set_option tactic.hygienic true in
theorem ES.all(O:g.Ok)(t:g.hd=true){M:CE}{u:Pos}{e:Expr}(q:env.kindOf "all"=some .globalImplicit)(T:nsIn g.K mainGlobals "all"=some none)(hs:[e].all noStar=true)
(h:ESs g env z [M] (spliced (backTo pos (starEach [e] env)))):ES g env z (.b1 .all M) (eval (.Call (.Name "all" u) [e] [] pos) env):=by
 intro A Pr s st Q X P E d R hw hP hE
 have m:=d.handled t
 refine Call_ (dD (v:=.builtin "all") O R q (by decide) (by decide) T rfl ?_)
 refine fD hs (h.pN d R hw (λv c s' z0 T r ζ ζ x=>?_) hE)
 obtain⟨l,C,F,x⟩:=x
 have nd:=bI s'.heap
 have S:∀(vs:Db),RVs s'.heap vs.toList l->TruthOf g.prog g.w A.in1 (λi v=>vs[i]?=some v) (λi=>decide (l[i]?=some (.bool true))):=by
  intro vs f i v w Q2 E2 U Y
  have V:i<l.length:=by
   rcases mc i vs.size with h | h
   ·erw[ip f.size];exact h
   ·rw[Array.getElem?_eq_none h] at U;cases U
  obtain⟨y,W,Z⟩:=f.arr (bm V)
  rw[U] at W;cases W
  obtain⟨b,J⟩:=F l[i] (fg V)
  rw[J] at Z
  cases Z
  have Y:Q2 (decide (l[i]?=some (.bool true))) w:=Y
  rw[bm V,J] at Y
  refine wpAny_truthy_bool ?_
  cases b <;> simpa using Y
 have p:∀(vs:Db) (I:Addr) (w:Shared),RVs s'.heap vs.toList l->I=s'.heap.objs.size->w.os=s'.os->w.gens=s'.gens->w.drawn=s'.drawn->(∀b o,s'.heap.get? b=some o->w.heap.get? b=some o)->∀L B,(∀b o,b∉[I]->w.heap.get? b=some o->L.get? b=some o)->
   P (.bool ((range vs.size).all λi=>decide (l[i]?=some (.bool true)))) { w with heap:=L,toks:=B }:=by
  intro vs I w f hI e1 e2 e3 k L B kk
  (erw[f.size];erw[all_range F])
  exact hP _ _ _ _ (.bool _) (r.ext (s':={ w with heap:=L,toks:=B }) (λb o e=>kk b o (λK=>by rw[bc] at K;subst K;subst hI;exact nd o e) (k b o e)) e1 e2) x
 refine call_all_walk ?_
 cases T <;> try (cases C;done)
 ·rename_i a vs l0 j n H
  cases C
  refine wpAny_pyIter_tuple j ?_
  have N:a≠s'.heap.objs.size:=by obtain⟨o,D,_⟩:=j;exact dr (fv D)
  have G:=aS s'.heap { cls:=.type "tuple_iterator",data:=.fields #[.ref a,.int 0 0] }
  exact⟨_,_,_,_,_,_,_,rfl,Walks.tuple (A:=A.in1) m _ a N vs,⟨⟨_,dv _ rfl,rfl,rfl⟩,TK.of_keep G _ _ j⟩,S vs H,p vs _ _ H rfl rfl rfl rfl G⟩
 ·rename_i a
  obtain⟨vs,j,n,_⟩:=r.H.cS C
  refine wpAny_pyIter_list j ?_
  have N:a≠s'.heap.objs.size:=by obtain⟨o,D,_⟩:=j;exact dr (fv D)
  exact⟨_,_,_,_,_,_,_,rfl,Walks.list (A:=A.in1) m _ a N vs,⟨⟨_,dv _ rfl,rfl,rfl⟩,j.push _⟩,S vs n,p vs _ _ n rfl rfl rfl rfl (aS _ _)⟩
end
inductive FlR(h:Heap):Flow->Fl->Prop
 | next:FlR h .next .next
 | brk:FlR h .brk .brk
 | cont:FlR h .cont .cont
 | ret {v:Value} {c:CV}:RV h v c->FlR h (.ret v) (.ret c)
section
variable{g:G}{env:Env}{vm:AT}
noncomputable abbrev Ap:=Fl->St->Prop
variable(g) in
noncomputable def SS(env:Env)(vm:AT)(cs:CS)(t:Sem Flow):Prop:=
 ∀(A:Around) (w:Bn) (s:Shared) (st:St) (Q:Ap) (X:D1) (P:Flow->Shared->Prop) (E:AC),OKA g A->az g true w env vm s st->wpS g.Φ g.M cs st Q X->
  (∀f y s' z,FlR s'.heap f y->az g true w env vm s' z->Q y z->P f s')->
  (∀q z,X q z->A.handled=none/\∀e s',ExcAt s'.heap z.H w e q->az g true w env vm s' z->E e s')->wpAny (model g.prog g.w) A t P E s
noncomputable abbrev FB:=List CS
variable(g) in
noncomputable def SSs(env:Env)(vm:AT)(y:FB)(t:Sem Flow):Prop:=
 ∀(A:Around) (w:Bn) (s:Shared) (st:St) (Q:Ap) (X:D1) (P:Flow->Shared->Prop) (E:AC),OKA g A->az g true w env vm s st->aj g.Φ g.M y st Q X->
  (∀f Y s' z,FlR s'.heap f Y->az g true w env vm s' z->Q Y z->P f s')->
  (∀q z,X q z->A.handled=none/\∀e s',ExcAt s'.heap z.H w e q->az g true w env vm s' z->E e s')->wpAny (model g.prog g.w) A t P E s
theorem ES.inS(h:ES g env vm U t){st:St}{P:AC}{E:AC}(k:OKA g A)(R:az g true w env vm s st)(j:wpE g.Φ g.M U st Q X)
(J:∀v c s' z,RV s'.heap v c->az g true w env vm s' z->TK s.heap s'.heap->Q c z->P v s')
(V:∀q z,X q z->A.handled=none/\∀e s',ExcAt s'.heap z.H w e q->az g true w env vm s' z->E e s'):wpAny (model g.prog g.w) A t P E s:=
 h A (frz s st.H) s st Q X P E k R.freeze j (λv c s' z o y Y=>J v c s' z o (R.dX y) (R.H.tk y.H.keeps) Y)
  λq z Y=>⟨(V q z Y).1,λe s' O y=>(V q z Y).2 e s' (O.dX R.H) (R.dX y)⟩
theorem TS.inS(h:TS g env vm U t){st:St}{P:Dx}{E:AC}(V:OKA g A)(R:az g true w env vm s st)(k:wpE g.Φ g.M U st Q X)
(j:∀c s' z,az g true w env vm s' z->Q c z->∃b,truth z.H c=some b/\P b s')
(v:∀q z,X q z->A.handled=none/\∀e s',ExcAt s'.heap z.H w e q->az g true w env vm s' z->E e s'):wpAny (model g.prog g.w) A t P E s:=
 h A (frz s st.H) s st Q X P E V R.freeze k (λc s' z Y y=>j c s' z (R.dX Y) y)
  λq z y=>⟨(v q z y).1,λe s' J Y=>(v q z y).2 e s' (J.dX R.H) (R.dX Y)⟩
theorem SSs.nil:SSs g env vm [] (execs [] env):=λA Pr s st Q X P E y R z w Y=>wpAny_execs_nil (w _ _ _ _ .next R z)
theorem SSs.cons{c:CS}{U:FB}{b:Stmt}{bs:List Stmt}(h:SS g env vm c (exec b env))(j:SSs g env vm U (execs bs env)):SSs g env vm (c::U) (execs (b::bs) env):=by
 intro A v s st Q X P E V R J z k
 refine wpAny_execs_cons (h A v s st _ X _ E V R (show wpS _ _ c st _ X from J) (λf p s' Y o w y=>?_) k)
 cases o with
 | next=>exact j A v s' Y Q X P E V w y z k
 | brk=>exact z _ _ _ _ .brk w y
 | cont=>exact z _ _ _ _ .cont w y
 | ret O=>exact z _ _ _ _ (.ret O) w y
theorem SS.pass:SS g env vm .pass (exec (.Pass z) env):=λA Y s st Q X P E U R w y v=>wpAny_Pass (y _ _ _ _ .next R w)
theorem SS.brk:SS g env vm .brk (exec (.Break z) env):=λA Y s st Q X P E U R w y v=>wpAny_Break (y _ _ _ _ .brk R w)
theorem SS.cont:SS g env vm .cont (exec (.Continue z) env):=λA Y s st Q X P E U R w y v=>wpAny_Continue (y _ _ _ _ .cont R w)
theorem SS.ret(h:ES g env vm w (eval e env)):SS g env vm (.ret w) (exec (.Return (some e) z) env):=by
 intro A O s st Q X P E y R Y U V
 exact wpAny_Return_some (h.inS y R Y (λv c s' k j J p o=>U _ _ _ _ (.ret j) J o) V)
theorem SS.ex{z:Pos}(h:ES g env vm w (eval e env))(y:interactive env=false)(Y:swapsWith e none z.line env=pure false):SS g env vm (.ex w) (exec (.Expr e z) env):=by
 intro A p s st Q X P E U R V k j
 exact wpAny_Expr_any (h.inS U R V (λv c f J l o L O=>k _ _ _ _ .next o O) j) y Y
theorem SS.bad:SS g env vm .bad t:=λA w s st Q X P E y R z Y U=>z.elim
theorem SS.ite(l:TS g env vm J (isTrue w env (eval w env)))(L:SSs g env vm a (execs y env))(t:SSs g env vm b (execs z env)) :
  SS g env vm (.ite J a b) (exec (.If w y z v) env):=by
 intro A o s st Q X P E V R T O k
 refine wpAny_If (l.inS V R T (λc p Y f x=>?_) k)
 obtain⟨q,j,U⟩:=x
 refine⟨q,j,?_⟩
 cases q with
 | true=>exact L A o p Y Q X P E V f U O k
 | false=>exact t A o p Y Q X P E V f U O k
theorem SS.Na{w:Pos}(V:gz vm)(h:ES g env vm Y (eval e env))(k:(x,i)∈vm)(j:env.kindOf x=some .local∨env.kindOf x=some .cell)(J:swapsWith e (some (.Name x z)) w.line env=pure false) :
  SS g env vm (.asg (.n i) Y) (exec (.Assign [.Name x z] e w) env):=by
 intro A b s st Q X P E o R O p f
 refine wpAny_Assign_Name (h.inS o R O (λv c B l L t U T=>?_) f) J
 exact t.store V k rfl j L λC y U U=>p _ _ _ _ .next y T
theorem SS.Nb(K:g.hd=true){O iter:Expr}{N:Pos}(H:gz vm)(G:(x,i)∈vm)(hk:env.kindOf x=some .local)
(hs:swapsWith (.ListComp O [⟨w,iter,f,0⟩] z J) (some (.Name x y)) N.line env=pure true)
(V:lK z env vm vm0)(c:∀x,foldedSetIterable iter env x=pure x)(hi:IS g env vm S iter)
(hF:gz (aB t w++vm0))(ht:∀C W,pT false (compEnvC z W C env) (aB t w++vm0) vm0 t w)(u:(∃es k p,w=.Tuple es k p)∨∀ce,S≠.enum ce)
(a:∀C W,ES g (compEnvC z W C env) (aB t w++vm0) Y (eval O (compEnvC z W C env)))(z0:jv g z env (aB t w++vm0) U f) :
  SS g env vm (.asg (.n i) (.co Y t S U)) (exec (.Assign [.Name x y] (.ListComp O [⟨w,iter,f,0⟩] z J) N) env):=by
 intro A Pr s st Q X P E hA R hw hP hE
 have hw:wpE g.Φ g.M (.co Y t S U) st (λv st=>tn g.Φ g.M (.n i) v st (Q .next) X) X:=hw
 erw[exec_Assign_Name_used _ _ _ _ hs]
 refine ag (mB (ag ?_))
 show wpAny _ A (do let _ ← comprehension (.ListComp O [⟨w,iter,f,0⟩] z J) z env _ (newList []) false (eval iter env) (some (assign (.Name x y) env))) _ _ s
 refine ag (wpAny_mono (Ca (P:=λζ s'=>P .next s') (use:=some (assign (.Name x y) env)) K V c hi hF ht u a z0 hA R.freeze hw (λD C s' l m Z n hm I z1=>?_)
  λq l n=>⟨(hE q l n).1,λe s' G Z=>(hE q l n).2 e s' (G.dX R.H) (R.dX Z)⟩) (λζ s' n=>bj (bj n)) λζ ζ e=>e)
 have M:¬ aK env vm C:=λhf=>by
  obtain⟨o,p⟩:=Z.fr C hf
  exact I o p
 have RF:=R.dX Z
 show wpAny _ A (assign (.Name x y) env (.ref D)) _ _ _
 refine wpAny_assign_Name (RF.store H G rfl (.inl hk) (.ref D) λL z2 t kk=>?_)
 have T:L.heap.Ns C m:=by
  obtain⟨o,es,ep,ho,r⟩:=hm
  exact⟨o,es,ep,kk C o M ho,r⟩
 refine⟨m,T,λh' z3=>?_⟩
 have z4:KpW [C] L.heap h':=j6 z3.extBut
 have B:¬ Own L.heap l.H C:=iB RF.H (λj o hj e=>kk j o (λhf=>(RF.np j hf).2 hj) e) z1
 obtain⟨R4,_⟩:=z2.side (s':={ L with heap:=h' }) z4 (λb h=>by
  rw[bc] at h;subst h
  exact⟨λo p=>by obtain⟨d,F,_⟩:=R.H.eY b o p;exact I d F,B,iU T⟩) (λb h=>by
  rw[bc] at h;subst h;exact M) rfl rfl
 exact hP _ _ _ _ .next R4 n
theorem SS.Nc(y:g.hd=true){w:Pos}(f:gz vm)(h:ES g env vm o (eval e env))(l:pT true env vm vm (.t Y) z)(t:swapsWithSole [z] e w.line env=pure false)(U:swappedStores [z] e env=pure none)
(T:(assignEach [z] env).map (·.2)=[assign z env]):SS g env vm (.asg (.t Y) o) (exec (.Assign [z] e w) env):=by
 intro A M s st Q X P E O R x C b
 refine wpAny_Assign_stores (h.inS O R x (λv c d V B n k j=>?_) b) t U
 erw[T]
 obtain⟨N,L,rfl,a,j⟩:=j
 exact tN f (λk p=>p) (O.handled y) n l B (show gu V.L (.t Y) (.tup N)=some L from a) λD J k k=>C _ _ _ _ .next (J.mono λp I=>cq _ I) j
end
theorem ve(x:Str)(z:Int)(k v:Value):∀Q:List DictEntry,(putL x z k v Q).length<=Q.length+1
 | []=>cr _
 | e::r=>by
  simp only[putL]
  split
  ·simp
  ·simpa using ve x z k v r
section
variable{g:G}{env:Env}{vm:AT}
theorem az.vf{st:St}(R:az g z Q env vm s st)(k:Nat):az g z Q env vm { s with toks:=k } st:=⟨R.H.toks k,R.L.ext λw w e=>e,R.np,R.inj,R.ofr⟩
theorem Rep.setAttr(O:g.Ok){st:St}(R:Rep g y env vm s st){a n:Nat}(U:st.H.cls a=some c)(V:bu c=true)(k:g.AN[n]?=some x)(f:n<g.nA)(l:RV s.heap v Y)
{P:Do}(T:∀s',Rep g y env vm s' { st with H:=st.H.bH n a Y }->TK s.heap s'.heap->P () s'):wpAny (model g.prog g.w) A (setAttr (.ref a) x v) P E s:=by
 obtain⟨_,N,C,m,j,_,_,Q,J⟩:=R.H.inst U V
 have z:=O.T.cls c V
 obtain⟨b,_⟩:=z.att n x k f
 have o:C.length<=900:=ae J.few O.T.few
 refine HU (R.H.inK O.X) j Q J.keys z.sa z.po b z.hd (ae (ve ..) (by lia)) λw p B=>?_
 have t:TK s.heap w:=.upd Q wO p
 exact T { s with heap:=w,toks:=s.toks+2 } (R.of (R.H.bH O.T.nd U j Q (s':={ s with heap:=w,toks:=s.toks+2 }) p k B l rfl rfl) t) t
theorem SS.Nd(O:g.Ok){n:Nat}{y:Pos}(h:ES g env vm j (eval e env))(T:ES g env vm J (eval o env))(b:g.AN[n]?=some x)(B:n<g.nA)(N:swapsWith e (some (.Attribute o x z)) y.line env=pure false) :
  SS g env vm (.asg (.at J n) j) (exec (.Assign [.Attribute o x z] e y) env):=by
 intro A W s st Q X P E p R D I f
 refine plainObj_wpAny_Assign_Attribute (h.inS p R D (λv c l V M Y m U=>?_) f) N
 refine T.inS p Y U (λu d L k i w t U=>?_) f
 obtain⟨a,C,rfl,r,F,U⟩:=U
 obtain rfl:u=.ref a:=i.c
 exact w.freeze.setAttr O r F b B (M.mono t) λZ S m=>I _ _ _ _ .next (w.dX S) U
theorem SS.Nf(O:g.Ok){V:Pos}(h:ES g env vm i (eval e env))(ho:ES g env vm r (eval o env))(hk:ES g env vm F (eval k env))(hs:swapsWith e (some (.Subscript o k w)) V.line env=pure false) :
  SS g env vm (.asg (.ix r F) i) (exec (.Assign [.Subscript o k w] e V) env):=by
 intro A Pr s st Q X P E L R hw hP T
 have z0:=L.units
 refine wpAny_Assign_Subscript (h.inS L R hw (λv c S x hv j ζ U=>?_) T) hs
 refine ho.inS L j U (λu d W C hu J t U=>hk.inS L J U (λy b Y B hy z t' U=>?_) T) T
 obtain⟨a,n,rfl,N,f,hz,U⟩:=U
 obtain rfl:u=.ref a:=hu.c
 obtain⟨np,D,_,es,Z,hr⟩:=z.H.dct a n N
 refine wV (by lia) hy (hv.mono (t.trans t')) f Z hr D hz λk' K fs H I M l m=>?_
 have G:TK Y.heap K:=.upd Z wO H
 have q:=z.freeze
 have R5:=q.H.bx (s':={ Y with heap:=K,toks:=k' }) H I (M.mono G) l m (λo p=>p.2 (.inr (.inl (N▸cw _)))) (.inr (N▸cw _)) rfl rfl
 exact hP _ _ _ _ .next (z.dX (q.of R5 G)) U
theorem RVs.set{v:Value}{c:CV}(w:RV h v c)(n:Nat)(x:RVs h z Q):RVs h (z.set n v) (Q.set n c):=
 x.ind (P:=λz Q=>∀n,RVs h (z.set n v) (Q.set n c)) (λY=>.nil) (λa b y n=>by
  cases n with
  | zero=>exact .cons w b
  | succ n=>exact .cons a (y n)) n
theorem tO{s:Shared}{k:Int}{Q:Do}(U:s.heap.get? l=some { cls:=.type "list",dict:=none,data:=.seq y m,slots:=#[] })
(o:0<=k)(z:k<2 ^ 63)(f:k<y.size)(O:Q () { s with heap:=s.heap.update l (Obj.mapSeq (·.setIfInBounds k.toNat v)) }):wpAny (model Y w) A (setItem (.ref l) (.int k t) v) Q E s:=by
 have V:s.heap.IsList l y:=⟨_,U,rfl,m,rfl⟩
 unfold setItem
 try with_reducible refine eA ?_
 first | refine ag (bj ?_) | skip
 refine ag (wpAny_sequenceKey V.typeIs (by decide) ?_)
 refine ag (ke (name:=ofString "__setitem__") V.typeIs slot_list_setitem
  (ib slot_list_setitem V.typeIs entry_list_setitem ?_ (args_list_setitem _ _ _)))
 show wpAny _ _ (Builtin.List.listSubscript? (.int k t) >>= _) _ _ s
 refine ag (wpAny_listSubscript_int (fitsIndex_of o z) ?_)
 clear z
 obtain⟨j,rfl⟩:=Int.eq_ofNat_of_zero_le o
 have p:j<y.size:=by lia
 have J:y[j]?=some y[j]:=Array.getElem?_eq_getElem p
 show wpAny _ _ ((seqItemAt l j >>= λr=>pure (r.map (j,·))) >>= _) _ _ s
 refine ag (ag (wpAny_seqItemAt U rfl (bj ?_)))
 erw[J]
 show wpAny _ _ (setSeqItemAt l j v >>= _) _ _ s
 refine ag (wpAny_setSeqItemAt U rfl ?_)
 first
  | exact ag (bj (bj ⟨.none,rfl,bj O⟩))
  | exact bj ⟨.none,rfl,bj O⟩
theorem SS.Cb(O:g.Ok){U:Pos}(h:ES g env vm B (eval e env))(W:ES g env vm N (eval o env))(Z:ES g env vm D (eval k env))(K:swapsWith e (some (.Subscript o k w)) U.line env=pure false) :
  SS g env vm (.asg (.li N D) B) (exec (.Assign [.Subscript o k w] e U) env):=by
 intro A Pr s st Q X P E f R H G L
 refine wpAny_Assign_Subscript (h.inS f R H (λv c I T q V ζ Y=>?_) L) K
 refine W.inS f V Y (λu d M x hu j t Y=>Z.inS f j Y (λy b J C hy z t' Y=>?_) L) L
 obtain⟨a,l,n,rfl,i,rfl,hn,Y⟩:=Y
 obtain rfl:u=.ref a:=hu.c
 obtain⟨t0,rfl⟩:=hy.c
 obtain⟨vs,m,r,h2,F,S⟩:=jR z.H i
 have p:(n:Int)<vs.size:=hV.mpr (S▸hn)
 refine tO r (hO n) (Int.lt_of_lt_of_le p (fa (Int.ofNat_le.mpr (S▸F)) (by decide))) p ?_
 erw[lp _]
 refine G _ _ _ _ .next (z.dX (z.freeze.Ff (k:=J.toks) (f:=(·.setIfInBounds n v)) i r ?_ (by erw[length_set];exact F))) Y
 erw[Array.toList_setIfInBounds]
 exact RVs.set (q.mono (t.trans t')) n h2
theorem SS.ir(C:gz vm)(h:ES g env vm T (eval e env))(j:(x,i)∈vm)(z:env.kindOf x=some .local∨env.kindOf x=some .cell) :
  SS g env vm (.ir i O T) (exec (.AugAssign (.Name x Y) (tL O) e p) env):=by
 intro A Pr s st Q X P E I R f B M
 obtain⟨c,n,f⟩:=f
 have U:∀{v},RV s.heap v c->wpAny (model g.prog g.w) A (eval e env) (λu V=>wpAny (model g.prog g.w) A (inplaceOp (tL O) v u) (λr k=>wpAny (model g.prog g.w) A (storeName env x r) (λJ=>P .next) E k) E V) E s:=λ{v} F=>by
  refine h.inS I R f (λu d N S W D t o=>?_) M
  obtain⟨a,b,rfl,rfl,l,o⟩:=o
  obtain⟨tv,rfl⟩:=F.c
  obtain⟨tu,rfl⟩:=W.c
  rcases l with rfl | rfl
  ·refine AutoIntOps.iadd_0 ?_
   refine(D.vf (N.toks+1)).store C j rfl z (.int (a+b) _) λL w J J=>B _ _ _ _ .next w o
  ·refine AutoIntOps.isub_0 ?_
   refine(D.vf (N.toks+1)).store C j rfl z (.int (a - b) _) λL w J J=>B _ _ _ _ .next w o
 refine wpAny_AugAssign_Name ?_
 rcases z with z | z
 ·obtain⟨m,Z,q⟩:=R.L.ns
  exact(n▸q x i j z:AtV s.heap (some _) (m x)).elim λv y=>wpAny_loadName_local R.L.kind z Z y.1 (U y.2)
 ·obtain⟨a,r,K,H,q⟩:=R.L.cell x i j (.inl z)
  obtain⟨v,rfl,G⟩:=(n▸q:AtV s.heap (some _) r)
  exact wpAny_loadName_cell R.L.kind z K H (U G)
theorem SS.iN(O:g.Ok){n:Nat}(ho:ES g env vm W (eval o env))(h:ES g env vm (.c (.int j)) (eval e env))(Z:g.AN[n]?=some x)(K:n<g.nA) :
  SS g env vm (.iN W n J (.c (.int j))) (exec (.AugAssign (.Attribute o x p) (tL J) e N) env):=by
 intro A Pr s st Q X P E G R hw hP q
 refine wpAny_AugAssign_AttributeAny (ho.inS G R hw (λu c z0 z hu Y D V=>?_) q)
 obtain⟨r,C,l,rfl,f,hr,V⟩:=V
 refine yG O Y.H Z K hu hr λw k I=>?_
 have L:=Y.vf k
 have M:wpE g.Φ g.M (.c (.int j)) z (λy st=>st=z/\∃a b,r=.int a/\y=.int b/\(J=.add∨J=.sub)/\Q .next { st with H:=st.H.bH n l (.int (if J=.add then a+b else a - b)) }) X:=⟨rfl,V⟩
 refine h.inS G L M (λy d U m hy v t V=>?_) q
 obtain⟨rfl,a,b,rfl,rfl,F,V⟩:=V
 obtain rfl:u=.ref l:=hu.c
 obtain⟨tw,rfl⟩:=I.c
 obtain⟨ty,rfl⟩:=hy.c
 have S:bu C=true:=BG hr (Z:=λc=>c=.ref l->bu C=true) (λa C' hc S D e=>al (hc.symm.trans ((ab (CH.cls _) (CV.ref.inj e)).trans f))▸S) rfl
 have T:∀(i:Int) (B:Nat),i=(if J=.add then a+b else a - b)->wpAny (model g.prog g.w) A (setAttr (.ref l) x (.int i U.toks)) (λD=>P .next) E { U with toks:=B }:=λi B e=>by
  subst e
  exact(v.vf B).freeze.setAttr O f S Z K (.int _ _) λs' R' D=>hP _ _ _ _ .next ((v.vf B).dX R') V
 rcases F with rfl | rfl
 ·exact AutoIntOps.iadd_0 (T (a+b) _ rfl)
 ·exact AutoIntOps.isub_0 (T (a - b) _ rfl)
noncomputable def whT(g:G)(z:CE)(s:St)(K:Bool->St->Prop):Prop:=wpE g.Φ g.M z s (λv s=>∃q,truth s.H v=some q/\K q s) (λQ Q=>False)
noncomputable def whB(g:G)(b:FB)(Q:Ap)(s:St)(K:Bool->St->Prop):Prop:=aj g.Φ g.M b s (λf s=>match f with | .next | .cont=>K true s | .brk=>K false s | .ret v=>Q (.ret v) s) (λz z=>False)
inductive WhI(g:G)(Pr:Bn)(env:Env)(vm:AT)(ct:CE)(b:FB)(Q:Ap)(k:Nat)(s:Shared):Prop
 | mk (st:St) (R:az g true Pr env vm s st) (hl:uN (whT g ct) (whB g b Q) (Q .next) (Q .next) k st):WhI g Pr env vm ct b Q k s
theorem SS.whl(a:TS g env vm j (isTrue w env (eval w env)))(D:SSs g env vm b (execs Y env)):SS g env vm (.whl j b) (exec (.While w Y [] p) env):=by
 intro A x s st Q X P E C R l L i
 obtain⟨n,l⟩:=l
 refine wpAny_While (codeAny_whileLoop (WhI g x env vm j b Q) (λk e ⟨t,I,B⟩=>?_) n (.mk st R l))
 cases k with
 | zero=>exact B.elim
 | succ k=>
  refine a.inS C I (show whT g j t (λq st=>if q=true then whB g b Q st (λM st=>if M=true then uN (whT g j) (whB g b Q) (Q .next) (Q .next) k st else Q .next st) else Q .next st) from B) (λc J v U V=>?_) (λo o h=>h.elim)
  obtain⟨q,T,O⟩:=V
  refine⟨q,T,?_⟩
  cases q with
  | false=>exact wpAny_execs_nil (L _ _ _ _ .next U O)
  | true=>
   refine D A x J v _ (λo o=>False) _ _ C U O (λf r N y d z V=>?_) (λo o h=>h.elim)
   cases d with
   | next=>exact⟨k,dq k,.mk y z V⟩
   | cont=>exact⟨k,dq k,.mk y z V⟩
   | brk=>exact L _ _ _ _ .next z V
   | ret m=>exact L _ _ _ _ (.ret m) z V
noncomputable def tP(env:Env)(vm:AT)(s:Shared)(H:CH)(b:Addr)(o:Obj):Prop:=s.heap.get? b=some o/\¬ Own s.heap H b/\¬ aK env vm b
theorem az.vg{st:St}(R:az g true Q env vm s st):∀b o,Q b o->∃z,tP env vm s st.H b z/\fC o z:=λb o p=>by
 obtain⟨z,e,q⟩:=R.H.b3 b o p
 exact⟨z,⟨e,R.H.fU p,λw=>(R.np b w).1 (.inr rfl) o p⟩,q⟩
theorem av.tQ{os:OsState}{H:CH}(R:av w Q os z y s H)(U:∀b o,y b o->¬ aK env vm b):av w Q os z (tP env vm s H) s H where
 os:=R.os
 gens:=R.gens
 b3:=λb o p=>⟨o,p.1,.refl o⟩
 old:=R.old
 base:=λb o e=>⟨R.old b o e,R.fU (R.base b o e),U _ _ (R.base b o e)⟩
 ro:=R.ro
 lst:=λa l e=>⟨λo p=>p.2.1 (.inl (by erw[e];exact cw _)),(R.lst a l e).2⟩
 dct:=λa l e=>⟨λo p=>p.2.1 (.inr (.inl (by erw[e];exact cw _))),(R.dct a l e).2⟩
 ins:=λa c e=>by
  obtain⟨_,r⟩:=R.ins a c e
  refine⟨λo p=>p.2.1 (.inr (.inr (.inl (by erw[e];exact cw _)))),?_⟩
  rcases r with r | ⟨v,V,k,Y,J,j⟩
  ·exact .inl r
  ·exact .inr ⟨v,V,k,Y,λo p=>p.2.1 (.inr (.inr (.inr ⟨a,c,_,e,Y,rfl⟩))),j⟩
 one:=R.one
 att:=R.att
theorem az.tQ{st:St}(R:az g true Y env vm s st):az g true (tP env vm s st.H) env vm s st:=
 ⟨R.H.tQ λb o p U=>(R.np b U).1 (.inr rfl) o p,R.L,λb y=>⟨λv o p=>p.2.2 y,(R.np b y).2⟩,R.inj,λb y=>(R.ofr b y).imp id λ⟨o,p,q⟩=>by
  obtain⟨z,Q,w⟩:=R.vg b o p
  exact⟨z,Q,q.same w⟩⟩
theorem az.Cc{st:St}(R:az g true y env vm s st)(w:az g true (tP env vm s st.H) env vm s' z):az g true y env vm s' z:=
 ⟨w.H.weaken R.vg R.H.base,w.L,λb Q=>⟨(R.np b Q).1,(w.np b Q).2⟩,R.inj,λb Q=>by
  rcases R.ofr b Q with⟨rfl,h⟩ | h
  ·rcases w.ofr _ Q with Y | ⟨o,p,_⟩
   ·exact .inl Y
   ·exact absurd (.inl rfl) p.2.2
  ·exact .inr h⟩
structure pW(g:G)(Pr:Bn)(env:Env)(vm:AT)(I:Addr)(wr:Fa)(ci:CI)(s:Shared)(st:St)(it:It):Prop where
 F:az g true Pr env vm s st
 itr:ItR s.heap I wr it
 itf:iy ci it
 apart:Apart Pr s st.H wr
 off:∀b∈wr,¬ aK env vm b
section
variable{Q:Bn}{z:Fa}{U:CI}{st:St}{w:It}{L:E1}
theorem pW.nx(N:pW g Q env vm I z U s st w)(J:w.next st.H=some (some (c,Y)))(k:KpW z s.heap v)(j:ItR v I z Y):pW g Q env vm I z U { s with heap:=v,toks:=tk } st Y:=
 ⟨(N.F.side (s':={ s with heap:=v,toks:=tk }) k N.apart.nt N.off rfl rfl).1,j,pU N.itf J,λb V=>⟨(N.apart b V).1,gA (s':={ s with heap:=v,toks:=tk }) N.F.H k (λb V=>(N.apart b V).2.1) (N.apart b V).2.1,j.nc b V⟩,N.off⟩
theorem pW.bind(N:pW g Q env vm I z U s st w)(R:az g true Q env vm s' { st with L:=L })(t:TK s.heap s'.heap)(V:∀b o,¬ aK env vm b->s.heap.get? b=some o->s'.heap.get? b=some o):pW g Q env vm I z U s' { st with L:=L } w:=
 have k:ItR s'.heap I z w:=N.itr.keep (λb v o q=>V b o (N.off b v) q) t
 ⟨R,k,N.itf,λb v=>⟨(N.apart b v).1,iB N.F.H (λj o J e=>V j o (λO=>(N.F.np j O).2 J) e) (N.apart b v).2.1,k.nc b v⟩,N.off⟩
theorem az.tkF(R:az g true Q env vm s st)(f:az g true (tP env vm s st.H) env vm s' y):TK s.heap s'.heap:=λb p ⟨o,j,k,r⟩=>by
 have J:¬ aK env vm b:=λl=>by
  rcases l with rfl | ⟨x,i,t,T,c⟩
  ·obtain⟨m,C,_⟩:=R.L.ns
   exact iU C p ⟨o,j,k,r⟩
  ·obtain⟨a,v,O,V⟩:=R.L.jt t T
   exact lI (al (O.symm.trans c)▸V) p ⟨o,j,k,r⟩
 obtain⟨N,B,n⟩:=f.H.b3 b o ⟨j,λh=>R.H.Bw h o j k,J⟩
 exact⟨o,n.eq (k▸λe=>nomatch Value.type.inj e)▸B,k,r⟩
theorem pW.Cc(N:pW g Q env vm I z U s st w)(R:az g true (tP env vm s st.H) env vm s' y):pW g Q env vm I z U s' y w:=by
 have V:∀b∈z,∀o,s.heap.get? b=some o->s'.heap.get? b=some o/\tP env vm s st.H b o:=λb v o e=>by
  have p:tP env vm s st.H b o:=⟨e,(N.apart b v).2.1,N.off b v⟩
  obtain⟨f,j,J⟩:=R.H.b3 b o p
  exact⟨J.eq (N.itr.u6 b v o e)▸j,p⟩
 have k:ItR s'.heap I z w:=N.itr.keep (λb v o e=>(V b v o e).1) (N.F.tkF R)
 exact⟨N.F.Cc R,k,N.itf,λb v=>(N.itr.live b v).elim λo O=>⟨(N.apart b v).1,R.H.fU (V b v o O).2,k.nc b v⟩,N.off⟩
end
theorem Fp{st:St}(h:iu z Q w k U st):∃j r,k=j+1/\U.next st.H=some r/\(r=none->Q st)/\
  ∀v Y,r=some (v,Y)->z v st λb y=>if b=true then iu z Q w j Y y else w y:=by
 cases k with
 | zero=>exact h.elim
 | succ k=>
  have h:=show(U.next st.H).elim False λo=>o.elim (Q st) λp=>z p.1 st λb y=>if b=true then iu z Q w k p.2 y else w y from h
  cases e:U.next st.H with
  | none=>rw[e] at h;exact h.elim
  | some r=>rw[e] at h;exact⟨k,r,rfl,rfl,λV=>by subst V;exact h,λv Y V=>by subst V;exact h⟩
noncomputable def Cd(g:G)(t:LT)(b:FB)(Q:Ap)(v:CV)(s:St)(K:Bool->St->Prop):Prop:=
 ∃L,gu s.L t v=some L/\aj g.Φ g.M b { s with L:=L } (λf s=>match f with | .next | .cont=>K true s | .brk=>K false s | .ret v=>Q (.ret v) s) (λz z=>False)
inductive LoI(g:G)(Pr:Bn)(env:Env)(vm:AT)(I:Addr)(wr:Fa)(ci:CI)(body:CV->St->(Bool->St->Prop)->Prop)(fin out:St->Prop)(k:Nat)(s:Shared):Prop
 | mk (st:St) (it:It) (N:pW g Pr env vm I wr ci s st it) (hl:iu body fin out k it st):LoI g Pr env vm I wr ci body fin out k s
theorem SS.fr(z3:g.hd=true){iter:Expr}(hF:gz vm)(a:∀x,foldedSetIterable iter env x=pure x)(hi:IS g env vm i iter)(ht:pT true env vm vm t l)(z5:(∃es k p,l=.Tuple es k p)∨∀ce,i≠.enum ce)
(F:SSs g env vm b (execs Y env))(ho:SSs g env vm o (execs z env)):SS g env vm (.fr t i b o) (exec (.For l iter Y z z4) env):=by
 intro A Pr s st Q X P E hA R hw hP hE
 have hh:=hA.handled z3
 have hw:wpI g.Φ g.M i st (λit st=>∃n,iu (Cd g t b Q) (λs=>aj g.Φ g.M o s Q (λy y=>False)) (Q .next) n it st) X:=hw
 refine wpAny_For (hi A (frz s st.H) s st _ X _ E hA R.freeze hw (λI wr it U V hI S D C j=>?_)
  λq T j=>⟨(hE q T j).1,λe s' hx R'=>(hE q T j).2 e s' (hx.dX R.H) (R.dX R')⟩) a
 obtain⟨n,j⟩:=j
 have N:pW g Pr env vm I wr i U V it:=⟨R.dX C,hI,S,λb F=>⟨λo p=>by
  obtain⟨W,Z,_⟩:=R.H.eY b o p
  exact(D b F).1 W Z,(D b F).2⟩,λb F hf=>by
  obtain⟨o,p⟩:=C.fr b hf
  exact(D b F).1 o p⟩
 refine codeAny_forLoop_any (LoI g Pr env vm I wr i (Cd g t b Q) (λs=>aj g.Φ g.M o s Q (λy y=>False)) (Q .next)) (λk s' ⟨T,z9,M,hl⟩=>?_) n (.mk V it N j)
 obtain⟨k,r,rfl,z0,d,m⟩:=Fp hl
 refine yL (K:=λr w=>match r with
  | none=>wpAny (model g.prog g.w) A (execs z env) (λf B=>P f B) _ w
  | some v=>wpAny (model g.prog g.w) A (assign l env v) (λy U=>wpAny (model g.prog g.w) A (execs Y env) _ _ U) _ w) hh M.F.H M.itr (vd M.itf z5) z0 (BY (λhr h' tk kk=>?_) (λc J hr v h' tk hv z6 y kk=>?_))
 ·exact ho A Pr _ _ Q (λy y=>False) _ _ hA (M.F.side (s':={ s' with heap:=h',toks:=tk }) kk M.apart.nt M.off rfl rfl).1 (d hr) hP (λy y h=>h.elim)
 ·obtain⟨L,hL,z7⟩:=m c J hr
  have N1:=M.nx (tk:=tk) (hr▸z0) kk z6
  refine tN hF (λy p=>p) hh N1.F ht hv hL λw z1 t2 z8=>?_
  have N2:=N1.bind (z1.mono (vm':=vm) λp hp=>cq _ hp) t2 z8
  refine F A (tP env vm w T.H) w _ _ (λy y=>False) _ _ hA N2.F.tQ z7 (λf fl B O hf z2 j=>?_) (λy y h=>h.elim)
  have N3:=N2.Cc z2
  cases hf with
  | next=>exact⟨k,dq k,.mk O J N3 j⟩
  | cont=>exact⟨k,dq k,.mk O J N3 j⟩
  | brk=>exact hP _ _ _ _ .next N3.F j
  | ret hv=>exact hP _ _ _ _ (.ret hv) N3.F j
end
section
variable{w:World}{U:Bi}{os:OsState}{Q:Heap}{s':Shared}{H:CH}
theorem av.Kh(R:av w U os Q Y s H){wr:Fa}(k:∀b o,b∉wr->s.heap.get? b=some o->∃f,s'.heap.get? b=some f/\fC o f)(v:∀b o,Own s.heap H b->s.heap.get? b=some o->s'.heap.get? b=some o)
(N:∀b o,Q.get? b=some o->s'.heap.get? b=some o)(T:∀b∈wr,(∀o,¬ Y b o)/\∀g,¬ IsTup s.heap b g)(A:s'.os=s.os)(D:s'.gens=s.gens):av w U os Q Y s' H/\TK s.heap s'.heap:=by
 have t:TK s.heap s'.heap:=λb g x=>x.elim λo y=>(k b o (λV=>(T b V).2 g x) y.1).elim λf z=>⟨o,z.2.eq (y.2.1▸λe=>nomatch Value.type.inj e)▸z.1,y.2⟩
 have J:∀{a c},H.cls a=some c->Own s.heap H a:=λe=>.inr (.inr (.inl (e▸cw _)))
 exact⟨{
  os:=A.trans R.os
  gens:=D.trans R.gens
  base:=R.base
  old:=N
  b3:=λb o p=>(R.b3 b o p).elim λj y=>(k b j (λV=>(T b V).1 o p) y.1).imp λC z=>⟨z.1,y.2.trans z.2⟩
  ro:=λa l e=>(R.ro a l e).keep t
  lst:=λa l e=>⟨(R.lst a l e).1,(R.lst a l e).2.keep t λo q B=>v a o (.inl (e▸cw _)) q⟩
  dct:=λa l e=>⟨(R.dct a l e).1,(R.dct a l e).2.keep t λo q B=>v a o (.inr (.inl (e▸cw _))) q⟩
  ins:=λa c e=>⟨(R.ins a c e).1,(R.ins a c e).2.keep t (λo q B=>v a o (J e) q) (λO q=>v a _ (J e) q) λO E n q1 I q y=>⟨I,E,n,v O _ (.inr (.inr (.inr ⟨a,c,_,e,q1,rfl⟩))) q,y⟩⟩
  one:=λa b c d O L V M h=>R.one a b c d O L V ((R.ins a c L).2.back (λo=>v a o (J L)) M) ((R.ins b d V).2.back (λo=>v b o (J V)) h)
  att:=R.att },t⟩
end
structure Hg(h h':Heap)(fl:Fa)(a T:Addr):Prop where
 keep:∀b o,b≠a->h.get? b=some o->∃o',h'.get? b=some o'/\(o'=o∨(b∈fl/\∃sl,o'={ o with slots:=sl }))
 e:∃oe oe' vs,h.get? a=some oe/\h'.get? a=some oe'/\oe'.cls=oe.cls/\oe'.data=.fields vs/\vs[1]?=some (.ref T)
 t:∃oT ts,h'.get? T=some oT/\oT.cls=.type "traceback"/\oT.data=.fields ts/\3<ts.size
 new:∀o,h.get? T≠some o
section
variable{A:Around}{s:Shared}
theorem Ce{Q:Do}
(n:A.frames=some (Y::w))(I:s.heap.FunFrames O (Y::w))(d:Y.frame=some L)(x:s.heap.get? e=some l)(c:l.data=.fields t)(m:t[1]?=some .none)
(h:∀i T,Hg s.heap i ((Y::w).filterMap (·.frame)) e T->Q () { s with heap:=i }):wpAny M A (noteFrame (.ref e) Y) Q E s:=by
 have p:1<t.size:=(ms.mp m).1
 have f:e∉(Y::w).filterMap (·.frame):=λC=>by
  obtain⟨_,o,J,N⟩:=I.mem C
  rw[x] at J;injection J with J;subst J;exact N t c
 unfold noteFrame
 simp only[d]
 refine ag (wpAny_field x c m ?_)
 erw[ca (by decide)]
 refine ag (wpAny_frameOf_fun n I d λz y=>?_)
 refine ag (wpAny_entryPlaceOf λB a=>?_)
 unfold EntryCells.newEntry newFields
 refine ag (wpAny_newObj_type ?_ (a.sizeOk5 _ _ _ _ _))
 have U:z.get? e=some l:=(y.2.1 e f).trans x
 have v:=dA (h:=z) { cls:=.type "traceback",dict:=none,data:=.fields ([Value.none,.ref L,.none,rawInt L,.none]++(if B.isEmpty then replicate 6 Value.none else B)).toArray } U
 refine wpAny_setField v c p (h _ z.objs.size ?_)
 have D:z.objs.size≠e:=ma (fv U)
 have V:=Obj.data_mapFields c (·.setIfInBounds 1 (Value.ref z.objs.size))
 have k:=fp (Obj.mapFields (·.setIfInBounds 1 (Value.ref z.objs.size))) v (Obj.isFreed_of_fields V)
 have j:=(hJ (z.push { cls:=.type "traceback",dict:=none,data:=.fields ([Value.none,.ref L,.none,rawInt L,.none]++(if B.isEmpty then replicate 6 Value.none else B)).toArray })
  (Obj.mapFields (·.setIfInBounds 1 (Value.ref z.objs.size))) (en D)).trans (dv z rfl)
 refine⟨λb o g r=>?_,⟨l,_,_,x,k,Obj.cls_mapFields _ _,V,by simp[p]⟩,⟨_,_,j,rfl,rfl,by simp⟩,λo J=>?_⟩
 ·by_cases C:b∈(Y::w).filterMap (·.frame)
  ·obtain⟨F,P⟩:=y.2.2 b o r
   refine⟨_,?_,.inr ⟨C,F,rfl⟩⟩
   rw[hJ _ _ (en g)]
   exact dA _ P
  ·refine⟨o,?_,.inl rfl⟩
   rw[hJ _ _ (en g)]
   exact dA _ ((y.2.1 b C).trans r)
 ·have:=fv J
  rw[← y.1] at this
  exact absurd this (kv _)
theorem xd{oT:Obj}{Q:Do}(J:s.heap.get? e=some U)(O:U.data=.fields v)(p:v[1]?=some (.ref T))(k:s.heap.get? T=some oT)(z:oT.data=.fields V)(j:3<V.size)
(h:∀Y,(∀b o,b∉[T]->s.heap.get? b=some o->Y.get? b=some o)->(∃w y,Y.get? T=some w/\w.cls=oT.cls/\w.data=.fields y/\3<y.size)->Q () { s with heap:=Y }):wpAny M A (setFlight (.ref e) none) Q E s:=by
 unfold setFlight
 refine ag (wpAny_field J O p ?_)
 erw[ch (show(Value.ref T != Value.none)=true from by simp)]
 refine wpAny_setField k z j (h _ (λb o f e=>?_) ⟨_,_,fp _ k (Obj.isFreed_of_fields (Obj.data_mapFields z _)),Obj.cls_mapFields _ _,Obj.data_mapFields z _,by simpa using j⟩)
 rw[hJ _ _ (λq=>f (by simp[q]))]
 exact e
end
structure jw(g:G):Prop where
 all:∀e∈g.fs,e.scope.kind≠.module/\∃L,e.frame=some L/\g.h₀.get? L=none
theorem lM{h z:Heap}:∀{l:List Env},(∀e∈l,e.scope.kind≠.module/\∃L o,e.frame=some L/\z.get? L=none/\h.get? L=some o/\∀w,o.data≠.fields w)->h.FunFrames z l
 | [],_=>trivial
 | e::l,H=>⟨(H e aM).1,(H e aM).2,lM λy Q=>H y (bb _ Q)⟩
section
variable{g:G}{env:Env}{vm:AT}
theorem az.tR{st:St}(R:az g Q w env vm s st){b:Addr}(y:b∈g.fs.filterMap (·.frame)):¬ Own s.heap st.H b/\∃o,s.heap.get? b=some o/\AB o:=by
 rcases R.ofr b y with⟨rfl,h⟩ | ⟨o,p,q⟩
 ·obtain⟨m,⟨o,Y,U,z,v,_⟩,_⟩:=R.L.ns
  exact⟨(R.np _ (.inl rfl)).2,o,z,h o z,Y,U,v⟩
 ·obtain⟨V,e,k⟩:=R.H.b3 b o p
  exact⟨R.H.fU p,V,e,q.same k⟩
theorem az.AK{st:St}(R:az g w y env vm s st)(Y:jw g):s.heap.FunFrames g.h₀ g.fs:=lM λe z=>by
 obtain⟨U,L,Q,v⟩:=Y.all e z
 obtain⟨_,o,V,_,j,J,k⟩:=R.tR (mem_filterMap.mpr ⟨e,z,Q⟩)
 exact⟨U,L,o,Q,v,V,λO q=>by rw[k] at q;cases q⟩
theorem kK{st:St}(R:az g V k env vm s st)(y:s.heap.get? a=some o)(Y:o.data=.fields j):¬ aK env vm a:=by
 rintro(rfl | ⟨x,i,J,O,p⟩)
 ·obtain⟨m,⟨f,l,L,z,Q,_⟩,_⟩:=R.L.ns
  rw[y] at z;cases z
  rw[Y] at Q;cases Q
 ·obtain⟨t,v,w,f,z,U⟩:=R.L.jt J O
  rw[p] at w;cases w
  rw[y] at z;cases z
  rw[Y] at U;cases U
theorem tS{st:St}(R:az g y Y env vm s st)(h:aK env vm a):∃o,s.heap.get? a=some o:=by
 rcases h with rfl | ⟨x,i,U,V,k⟩
 ·obtain⟨m,⟨w,J,O,z,j,_⟩,_⟩:=R.L.ns
  exact⟨w,z⟩
 ·obtain⟨p,v,Q,w,z,f⟩:=R.L.jt U V
  rw[k] at Q;cases Q
  exact⟨w,z⟩
structure je(g:G)(Pr:Bn)(env:Env)(vm:AT)(s:Shared)(H:CH)(a T:Addr)(q:Exc):Prop where
 e:∃oe vs,s.heap.get? a=some oe/\oe.cls=.type (aE q)/\oe.data=.fields vs/\vs[1]?=some (.ref T)
 t:∃oT ts,s.heap.get? T=some oT/\oT.cls=.type "traceback"/\oT.data=.fields ts/\3<ts.size
 eo:¬ Own s.heap H a
 tp:∀o,¬ Pr T o
 to:¬ Own s.heap H T
 tf:¬ aK env vm T
theorem xe(q:Exc):aE q≠"tuple"/\aE q≠"frame":=by cases q <;> decide
theorem az.noted{st:St}(R:az g true l env vm s st)(S:jw g){q:Exc}(N:Hg s.heap Y (g.fs.filterMap (·.frame)) a T)(x:ExcAt s.heap st.H l (.ref a) q) :
  az g true l env vm { s with heap:=Y } st/\je g l env vm { s with heap:=Y } st.H a T q:=by
 obtain⟨a',ob,t,W,E,c,I,X,O⟩:=x
 cases W
 have C:=kK R c X
 have M:∀b o,b∉[a]->s.heap.get? b=some o->∃V,Y.get? b=some V/\fC o V:=λb o Q e=>(N.keep b o (λq=>Q (bc.mpr q)) e).imp λV y=>
  ⟨y.1,y.2.imp id λz=>⟨(R.tR z.1).2.elim λk w=>al (w.1.symm.trans e)▸w.2.1,z.2⟩⟩
 have d:∀b o,b≠a->s.heap.get? b=some o->b∉g.fs.filterMap (·.frame)->Y.get? b=some o:=λb o Q e J=>(N.keep b o Q e).elim λV y=>y.2.elim (λq=>q▸y.1) λz=>absurd z.1 J
 have i:∀b o,Own s.heap st.H b->s.heap.get? b=some o->Y.get? b=some o:=λb o Q e=>d b o (λq=>O (q▸Q)) e λJ=>(R.tR J).1 Q
 have Z:∀b o,g.h₀.get? b=some o->Y.get? b=some o:=λb o e=>d b o (λq=>E o (q▸R.H.base b o e)) (R.H.old b o e) λJ=>(mem_filterMap.mp J).elim λe' z=>(S.all e' z.1).2.elim λL y=>
  nomatch ((al (z.2.symm.trans y.1)▸y.2:g.h₀.get? b=none).symm.trans e)
 have B:∀r,¬ IsTup s.heap a r:=λr x=>x.elim λV y=>(xe q).1 (Value.type.inj (I.symm.trans ((ab Obj.cls (al (c.symm.trans y.1))).trans y.2.1)))
 obtain⟨R',tk⟩:=R.H.Kh (s':={ s with heap:=Y }) (wr:=[a]) M i Z (λb Q=>(bc.mp Q).symm▸⟨E,B⟩) rfl rfl
 have U:∀b,¬ Own s.heap st.H b->¬ Own Y st.H b:=λb Q=>iB (s':={ s with heap:=Y }) R.H (λj o hj e=>i j o hj e) Q
 have F:∀b o,aK env vm b->s.heap.get? b=some o->∃V,Y.get? b=some V/\fC o V:=λb o Q=>M b o λJ=>C (bc.mp J▸Q)
 have n:(∀o,s.heap.get? env.locals=some o->o.cls=.type "frame")->∀o,Y.get? env.locals=some o->o.cls=.type "frame":=λh o A=>by
  obtain⟨m,⟨k,_,_,v,_⟩,_⟩:=R.L.ns
  obtain⟨P,f,sm⟩:=F _ k (.inl rfl) v
  exact al (f.symm.trans A)▸sm.cls.trans (h _ v)
 refine⟨⟨R',R.L.keep (λb o Q e=>F b o Q e) tk,λb Q=>⟨(R.np b Q).1,U b (R.np b Q).2⟩,R.inj,λb Q=>(R.ofr b Q).imp (λ⟨e,h⟩=>by subst e;exact⟨rfl,n h⟩) id⟩,?_⟩
 obtain⟨oe,D,vs,h1,h2,h3,h4,h5⟩:=N.e
 exact⟨⟨D,vs,h2,h3.trans ((ab Obj.cls (al (h1.symm.trans c))).trans I),h4,h5⟩,N.t,U a O,λo p=>(R.H.b3 _ _ p).elim λV y=>N.new _ y.1,U T (R.H.iw (s':=s) (λζ ζ e=>e) N.new),λh=>(tS R h).elim N.new⟩
end
theorem pX(q:Exc):isSubtype (.type (aE q)) (.type "BaseException")=pure true:=by cases q <;> (erw[isSubtype_type _ _];kernel_rfl)
theorem pY(q:Exc):isSubtype (.type (aE q)) (.type (aE q))=pure true:=by cases q <;> (erw[isSubtype_type _ _];kernel_rfl)
theorem xg(q:Exc):isSubtype (.type ((Manifest.find? (aE q)).elim "type" λx=>x.metatype)) (.type "tuple")=pure false:=by cases q <;> (erw[isSubtype_type _ _];kernel_rfl)
theorem pZ(q:Exc):bootBuiltins (aE q)=some (.type (aE q)):=by cases q <;> decide +kernel
theorem Iq:isSubtype (.type "KeyError") (.type "IndexError")=pure false:=by erw[isSubtype_type _ _];kernel_rfl
theorem Ir:isSubtype (.type "IndexError") (.type "KeyError")=pure false:=by erw[isSubtype_type _ _];kernel_rfl
inductive kB(g:G)(env:Env):List Exc->Expr->Prop
 | one {q:Exc} {npos:Pos}:env.kindOf (aE q)=some .globalImplicit->nsIn g.K mainGlobals (aE q)=some none->kB g env [q] (.Name (aE q) npos)
 | two {p1 p2 pos:Pos} {k:Nat}:(∀q,env.kindOf (aE q)=some .globalImplicit/\nsIn g.K mainGlobals (aE q)=some none)->kB g env [.index,.key] (.Tuple [.Name (aE .index) p1,.Name (aE .key) p2] k pos)
section
variable{g:G}{z:AT}
theorem je.off{st:St}(R:az g true k env z s st){q:Exc}(x:je g k env z s st.H a T q){P:Do}
(h:∀s',az g true k env z s' st->je g k env z s' st.H a T q->P () s'):wpAny (model g.prog g.w) A (setFlight (.ref a) none) P E s:=by
 obtain⟨D,I,J,B,n,N⟩:=x.e
 obtain⟨oT,m,j,w,o,M⟩:=x.t
 refine xd J n N j o M λO p ⟨f,l,L,Y,U,c⟩=>?_
 have C:a≠T:=λe=>by
  subst e
  rw[J] at j;cases j
  rw[B] at w
  revert w;cases q <;> decide
 obtain⟨d,tk⟩:=R.side (s':={ s with heap:=O }) p (λb Q=>by
  rw[bc] at Q;subst Q
  exact⟨x.tp,x.to,λi ⟨r,v,V,_⟩=>by
   rw[j] at v;cases v
   rw[w] at V;exact absurd V (by decide)⟩) (λb Q=>by
  rw[bc] at Q;subst Q;exact x.tf) rfl rfl
 have y:∀b,¬ Own s.heap st.H b->¬ Own O st.H b:=λb Q=>gA (s':={ s with heap:=O }) R.H p (λb Q=>by
  rw[bc] at Q;subst Q;exact x.to) Q
 exact h _ d ⟨⟨D,I,p a _ (by simp[C]) J,B,n,N⟩,⟨f,l,L,Y.trans w,U,c⟩,y a x.eo,x.tp,y T x.to,x.tf⟩
theorem az.Iu{st:St}(R:az g Q w env z s st)(b:Bool):az (g.uh b) Q w env z s st:=⟨R.H,R.L,R.np,R.inj,R.ofr⟩
theorem az.Ng{st:St}(R:az (g.uh b) Q w env z s st):az g Q w env z s st:=⟨R.H,R.L,R.np,R.inj,R.ofr⟩
theorem je.ty{H:CH}{q:Exc}(x:je g Q env z s H a T q):s.TypeIs (.ref a) (aE q):=x.e.elim λw y=>y.elim λvs y=>⟨w,y.1,y.2.1⟩
theorem je.keep{s':Shared}{H:CH}{q:Exc}(x:je g Q env z s H a T q)(k:∀b o,s.heap.get? b=some o->s'.heap.get? b=some o)(w:∀b,¬ Own s.heap H b->¬ Own s'.heap H b):je g Q env z s' H a T q:=
 ⟨x.e.imp λY y=>y.imp λvs y=>⟨k _ _ y.1,y.2⟩,x.t.imp λY y=>y.imp λvs y=>⟨k _ _ y.1,y.2⟩,w a x.eo,x.tp,w T x.to,x.tf⟩
noncomputable def Kl(g:G)(env:Env)(z:AT)(A:Around)(Y:Bn)(st:St)(a T:Addr)(q:Exc)(w:Stmt)(Q:List Stmt)(P:Flow->Shared->Prop):Prop:=
 ∀s,az g true Y env z s st->je g Y env z s st.H a T q->∀U,wpAny (model g.prog g.w) (A.mark (some (.ref a))) (setFlight (.ref a) none) (λv y=>wpAny (model g.prog g.w) (A.mark (some (.ref a))) (execs (w::Q) env) P U y) U s
theorem vh(O:g.Ok){st:St}{q:Exc}(R:az g true Y env z s st)(H:je g Y env z s st.H a T q)
(U:∀q,env.kindOf (aE q)=some .globalImplicit/\nsIn g.K mainGlobals (aE q)=some none)(run:Kl g env z A Y st a T q w Q P)
(k:isSubtype (.type (aE q)) (.type "IndexError")=pure v)(J:isSubtype (.type (aE q)) (.type "KeyError")=pure V)(p:(v||V)=true) :
  wpAny (model g.prog g.w) A (handleBy (.ref a) env [.ExceptHandler (some (.Tuple [.Name (aE .index) t,.Name (aE .key) x] C y)) none (w::Q) c]) P E s:=by
 refine wpAny_handleBy_tup2 (X:=aE q) (T1:="IndexError") (T2:="KeyError") (b1:=v) (b2:=V) (pX .index) (xg .index) (pX .key) (xg .key) k J (wpAny_Tuple ?_)
 (erw[d9 rfl];erw[d9 rfl])
 refine spliced_cons (dD O R.freeze (U .index).1 (by decide) (by decide) (U .index).2 (pZ .index) (spliced_cons (dD O R.freeze (U .key).1 (by decide) (by decide) (U .key).2 (pZ .key) (spliced_nil ⟨by unfold sizeLine;exact aw rfl,?_⟩))))
 have f:=aS s.heap { cls:=.type "tuple",data:=.seq [Value.type "IndexError",.type "KeyError"].toArray }
 have L:je g Y env z { s with heap:=s.heap.push { cls:=.type "tuple",data:=.seq [Value.type "IndexError",.type "KeyError"].toArray } } st.H a T q:=H.keep f λb B=>iB R.H (λj o l e=>f j o e) B
 refine⟨_,rfl,⟨_,dv _ rfl,rfl,_,rfl⟩,L.ty,?_⟩
 erw[ch p]
 exact run _ (R.side (s':={ s with heap:=s.heap.push { cls:=.type "tuple",data:=.seq [Value.type "IndexError",.type "KeyError"].toArray } }) (wr:=[]) (λb o l e=>f b o e) (λl h=>(nomatch h)) (λl h=>(nomatch h)) rfl rfl).1 L _
theorem SS.tr(O:g.Ok)(F:g.hd=true)(p:jw g)(l:g.fs=env::J)(S:env.frame=some env.locals)
(hb:SSs g env z b (execs k env))(hk:kB g env W t)(hh:SSs (g.uh false) env z h (execs (V::y) env)) :
  SS g env z (.try b W h) (exec (.Try k [.ExceptHandler (some t) none (V::y) hp] [] [] Z) env):=by
 intro A Pr s st Q X P E o R hw L hE
 have hw:aj g.Φ g.M b st Q (λq st=>q∈W/\aj g.Φ g.M h st Q (λx x=>False)):=hw
 refine wpAny_Try_except (hb A Pr s st Q _ _ _ o R hw (λf fl c Y hf w j=>?_) (λq Y j=>⟨o.handled F,λe c hx w=>?_⟩))
 ·cases hf with
  | next=>exact wpAny_execs_nil (L _ _ _ _ .next w j)
  | brk=>exact L _ _ _ _ .brk w j
  | cont=>exact L _ _ _ _ .cont w j
  | ret hv=>exact L _ _ _ _ (.ret hv) w j
 obtain⟨C,j⟩:=j
 obtain⟨a,ob,tp,rfl,z9,z0,zz,z1,zq⟩:=id hx
 have hl:=w.AK p
 have B:=o.frames
 rw[l] at hl B
 refine Ce B hl S z0 z1 rfl λh' T N=>?_
 rw[← l] at N
 obtain⟨n,D⟩:=w.noted p N hx
 refine D.off n λI U v=>?_
 have z2:OKA (g.uh false) (A.mark (some (.ref a))):=⟨λh=>(nomatch h),o.units,o.depth,o.guards,o.frames⟩
 have run:Kl g env z A Pr Y a T q V y P:=λz5 M d E'=>
  d.off M λm i z6=>hh (A.mark (some (.ref a))) Pr m Y Q (λx x=>False) P E' z2 (i.Iu false) j (λf fl s' z3 hf R' z4=>L f fl s' z3 hf R'.Ng z4) (λx x h=>h.elim)
 cases hk with
 | @one q' z7 r h2=>
  rw[bc] at C
  subst C
  refine wpAny_handleBy_builtin (X:=aE q) (T:=aE q) (b:=true) (pX q) (xg q) (pY q) (dD O U.freeze r (by cases q <;> decide) (by cases q <;> decide) h2 (pZ q) ⟨rfl,v.ty,run I U v _⟩)
 | @two p1 p2 z8 tk r=>
  cases q with
  | key=>exact vh O U v r run Iq (pY .key) rfl
  | index=>exact vh O U v r run (pY .index) Ir rfl
theorem az.ext{s':Shared}{st:St}(R:az g Q Pr env z s st)(k:∀b o,s.heap.get? b=some o->s'.heap.get? b=some o)(y:s'.os=s.os)(Y:s'.gens=s.gens):az g Q Pr env z s' st/\TK s.heap s'.heap:=
 R.side (wr:=[]) (λb o w e=>k b o e) (λw h=>(nomatch h)) (λw h=>(nomatch h)) y Y
theorem Cf{Q:Type}(f:Nat->Option Q){i j:Nat}(h:i≠j)(v w:Q):upd (upd f i v) j w=upd (upd f j w) i v:=by
 funext b
 unfold upd
 by_cases y:b=i
 ·subst y;simp[h]
 ·by_cases Y:b=j
  ·subst Y;simp[en h]
  ·simp[y,Y]
theorem SS.Nh(f:g.hd=true){w:Expr}{U:Pos}(S:gz z)(h:ES g env z F (eval e env))(hx:(x,i)∈z)(hy:(y,j)∈z)(l:env.kindOf x=some .local)(t:env.kindOf y=some .local)(T:i≠j)
(hs:swapsWithSole [w] e U.line env=pure false)(C:swappedStores [w] e env=pure (some [x,y])):SS g env z (.asg (.t [i,j]) F) (exec (.Assign [w] e U) env):=by
 intro A Pr s st Q X P E W R hw hP hE
 rw[exec_Assign_arm]
 refine ag (mB ?_)
 erw[hs]
 refine ag (bj ?_)
 erw[ca (by decide)]
 refine ag (h.inS W R hw (λv c s' Y B R' N O=>?_) hE)
 erw[C]
 refine ag (bj ?_)
 obtain⟨Z,L,rfl,p,O⟩:=O
 have V:=nX (is:=[i,j]) (cs:=Z) p
 match Z,V,p,B with
 | [D,I],_,p,B=>
 cases p
 cases B with
 | @tup a items _ h1 h2 h3=>
  have M:items.size=2:=h3.size
  unfold assignStores
  dsimp only
  refine ag (ld ?_)
  have k:=wpAny_unpackItems_tuple (prog:=g.prog) (w:=g.w) (E:=E) (Q:=λd J=>wpAny (model g.prog g.w) A (do
   assignInOrder ([x,y].reverse.map λn=>bindName env n) d.reverse
   pure .next) P E J) (W.handled f) h1 (λh' he=>?_)
  ·rw[M] at k
   exact ag k
  ·have k1:∀b o,s'.heap.get? b=some o->h'.get? b=some o:=λb o e=>he b o (dr (fv e)) e
   obtain⟨R1,t1⟩:=R'.ext (s':={ s' with heap:=h' }) k1 rfl rfl
   obtain⟨m,v2,r,r1,r2⟩:=h3.two'
   erw[r]
   refine ag ?_
   show wpAny _ _ (do
    holding [m] (bindName env y v2)
    assignInOrder [bindName env x] [m]) _ E _
   refine ag (eA (wpAny_bindName (R1.store S hy rfl (.inl t) (r2.mono t1) λs2 R2 t2 N=>?_)))
   show wpAny _ _ (do
    holding [] (bindName env x m)
    assignInOrder [] []) _ E _
   refine ag (eA (wpAny_bindName (R2.store S hx rfl (.inl l) ((r1.mono t1).mono t2) λs3 R3 N N=>?_)))
   refine bj (bj (hP _ _ _ _ .next R3 ?_))
   have e:dU (dU Y.L i D) j I=dU (dU Y.L j I) i D:=Cf Y.L T D I
   rw[e] at O
   exact O
end
section
noncomputable abbrev Go:=Nat->Nat
variable{n:Nat}{key:Go}
variable(n key) in
noncomputable def sp{z:Type}:KasT z->(z->Prop)->Prop
 | .ret a,Q=>Q a
 | .ask i j k,Q=>i<n/\j<n/\sp (k (decide (key i<key j))) Q
theorem lN{w y:Type}{f:w->KasT y}{Q:y->Prop}(t:KasT w):sp n key t (λa=>sp n key (f a) Q)->sp n key (t.bind f) Q:=
 t.rec (motive:=λt=>sp n key t (λa=>sp n key (f a) Q)->sp n key (t.bind f) Q) (λz h=>h) λz z z Y h=>⟨h.1,h.2.1,Y _ h.2.2⟩
noncomputable abbrev Fm:=Array Nat
variable(n) in
structure Pm(p:Fm):Prop where
 size:p.size=n
 perm:p.toList.Perm (range n)
variable(n) in
structure Pp(p:Fm):Prop extends Pm n p where
 pos:0<n
noncomputable def KP(key:Go)(p:Fm)(i:Nat):Nat:=key (p.getD i 0)
theorem Pp.lt(h:Pp n p)(i:Nat):p.getD i 0<n:=by
 by_cases z:i<p.size
 ·(rewrite[Array.getD];erw[dif_pos z])
  exact du.mp (h.perm.mem_iff.mp (Array.mem_toList_iff.mpr (Array.getElem_mem z)))
 ·(rewrite[Array.getD];erw[dif_neg z]);exact h.pos
theorem jx{p q:Fm}{i j:Nat}(h:p[i]?=q[j]?):KP key p i=KP key q j:=
 ab key (Array.getD_eq_getD_getElem?.trans ((ab (Option.getD · 0) h).trans Array.getD_eq_getD_getElem?.symm))
theorem Pp.rev(h:Pp n p)(i j:Nat):Pp n (kas_rev p i j):=⟨⟨(kas_rev_size i j).trans h.size,(mirror_perm _ _ _ _).toList.trans h.perm⟩,h.pos⟩
theorem Pp.bub(h:Pp n p)(i j:Nat):Pp n (bubble p i j):=⟨⟨(bubble_size _ _ _).trans h.size,(bubble_perm _ _ _).toList.trans h.perm⟩,h.pos⟩
theorem Cg{p:Fm}{i j k:Nat}(z:j<=p.size)(h:i<=k/\k<j):KP key (kas_rev p i j) k=KP key p (i+j - 1 - k):=jx ((getElem?_mirror_all (i:=i) z k).trans (ch h))
theorem nq{p:Fm}{a k c:Nat}(z:k+1<=p.size)(h:∀i,a<=i->i<k+1->KP key p i=c):KP key (kas_rev p a (k+1))=KP key p:=by
 funext i
 by_cases q:a<=i/\i<k+1
 ·have e:a+(k+1) - 1 - i=a+(k - i):=Nat.add_sub_assoc (db q.2) a
  refine(Cg z q).trans ((h _ ?_ ?_).trans (h i q.1 q.2).symm)
  ·erw[e];exact dE _ _
  ·erw[e];exact hX (ae (lk q.1 _) (bv (kS (db q.2))))
 ·exact jx ((getElem?_mirror_all (i:=a) z i).trans (ca q))
theorem p5{z:Type}{i:Nat}{w y:KasT z}{Q:z->Prop}(Y:Pp n p)(U:KP key p i<KP key p j->sp n key w Q)(v:KP key p j<=KP key p i->sp n key y Q) :
  sp n key (.ask (p.getD i 0) (p.getD j 0) λc=>if c=true then w else y) Q:=
 ⟨Y.lt i,Y.lt j,if h:key (p.getD i 0)<key (p.getD j 0) then by erw[cn h];exact U h else by erw[dT h];exact v (Nat.le_of_not_lt h)⟩
noncomputable def Mo(r:Nat->Nat->Prop)(f:Go)(k:Nat):Prop:=∀i j,i<=j->j<k->r (f i) (f j)
noncomputable abbrev Asc(key:Go)(p:Fm)(k:Nat):Prop:=Mo (λa b=>a<=b) (KP key p) k
noncomputable abbrev Dsc(key:Go)(p:Fm)(k:Nat):Prop:=Mo (λa b=>b<=a) (KP key p) k
theorem Mo.snoc{k:Nat}(h:Mo r f (k+1))(Q:∀a,r a a)(w:∀{a b c},r a b->r b c->r a c)(y:r (f k) (f (k+1))):Mo r f (k+2):=λi j z Y=>
 (hZ (db Y)).elim (h i j z) λe=>e▸(hZ (e▸z:i<=k+1)).elim (λU=>w (h i k (db U) (dq k)) y) λe=>e▸Q _
theorem Mo.one{r:Nat->Nat->Prop}{f:Go}(w:∀a,r a a):Mo r f 1:=λi j z Q=>(Nat.lt_one_iff.mp (ax z Q)).trans (Nat.lt_one_iff.mp Q).symm▸w _
theorem Mo.up{k:Nat}(h:Asc key p (k+1))(z:KP key p k<=KP key p (k+1)):Asc key p (k+2):=h.snoc cr ae z
theorem Mo.dn{k:Nat}(h:Dsc key p (k+1))(z:KP key p (k+1)<=KP key p k):Dsc key p (k+2):=h.snoc cr (λa b=>ae b a) z
theorem Km{N:Nat}(Y:Pp n p){Q:Nat->Prop}(y:∀m,m+1<=N->Asc key p (m+1)->(m+1<N->KP key p (m+1)<KP key p m)->Q (m+1))(f:Nat):∀k,k+1+f=N->Asc key p (k+1)->sp n key (kas_asc p f (k+1)) Q:=by
 induction f with
 | zero=>exact λk e z=>y k (bv e) z λh=>absurd (hN h e.symm) (kv _)
 | succ f U=>exact λk e z=>p5 Y (λw=>y k (e▸dE _ _) z λv=>w) λw=>U (k+1) ((Nat.succ_add _ _).trans e) (z.up w)
noncomputable def Eqs(key:Go)(p:Fm)(k q:Nat):Prop:=∀i,k+1 - (q+1)<=i->i<k+1->KP key p i=KP key p k
theorem Eqs.z:Eqs key p k 0:=λi Q w=>ab _ (eD (db w) Q)
theorem Ko{N:Nat}(t:N<=n){Q:Array Nat×Nat×Nat->Prop}(J:∀p k q,Pp n p->k+1<=N->Dsc key p (k+1)->Eqs key p k q->Q (p,k+1,q))(f:Nat):∀(p:Fm) (k q:Nat),Pp n p->k+1+f=N->Dsc key p (k+1)->Eqs key p k q->sp n key (kas_desc f p (k+1) q) Q:=by
 induction f with
 | zero=>exact λp k q z e y Y=>J p k q z (bv e) y Y
 | succ f o=>
  intro p k q z e y Y
  have O:k+1<=N:=e▸dE _ _
  have g:k+1+1+f=N:=(Nat.succ_add _ _).trans e
  refine p5 z (λv=>?_) λv=>p5 z (λx=>J p k q z O y Y) λU=>o p (k+1) (q+1) z g (y.dn U) λi T V=>?_
  ·have l:∀w,Pp n w->KP key w=KP key p->sp n key (kas_desc f w (k+2) 0) Q:=λw j L=>o w (k+1) 0 j g (Mo.dn (p:=w) (show Mo _ _ _ from L▸y) (L▸cy v)) Eqs.z
   by_cases h:q>0
   ·erw[ch h];exact l _ (z.rev _ _) (nq (z.size▸ae O t) Y)
   ·erw[ca h];exact l p z rfl
  ·exact(hZ (db V)).elim (λV=>(Y i (Nat.succ_sub_succ (k+1) (q+1)▸T) V).trans (eD v U)) λe=>ab _ e
section
variable{Q:Nat×Array Nat->Prop}(z:∀m p',Pp n p'->m+1<=n->Asc key p' (m+1)->Q (m+1,p'))
include z
theorem Ci{k:Nat}(y:Pp n p)(Y:k+1<=n)(v:Dsc key p (k+1)):sp n key (kas_tail3 (k+1) n p) Q:=
 lN _ (Km (N:=n) (y.rev 0 (k+1)) (λm V J o=>z m _ (y.rev 0 (k+1)) V J) _ k (kS Y) λi j w U=>by
  have e:∀i,i<k+1->KP key (kas_rev p 0 (k+1)) i=KP key p (0+(k+1) - 1 - i):=λi h=>Cg (y.size▸Y) ⟨dd _,h⟩
  (erw[e i (ax w U)];erw[e j U])
  exact v _ _ (Nat.sub_le_sub_left w _) (hX (ae (Nat.sub_le _ _) (bv (lL k)))))
theorem r9{k:Nat}(J:Pp n p)(o:k+2<=n)(O:Dsc key p (k+2)):sp n key (kas_descPart (k+1) n p) Q:=
 lN _ (Ko (cr n) (λj U v w y Y V=>by
  show sp n key (if v>0 then kas_tail3 (U+1) n (kas_rev j (U+1 - (v+1)) (U+1)) else kas_tail3 (U+1) n j) Q
  by_cases h:v>0
  ·erw[ch h];exact Ci z (w.rev _ _) y (show Mo _ _ _ from nq (w.size▸y) V▸Y)
  ·erw[ca h];exact Ci z w y Y) _ p (k+1) 0 J (kS o) O Eqs.z)
theorem Iv(Y:Pp n p):sp n key (kas_count n p) Q:=
 lN _ (Km (N:=n) Y (λm U v J=>by
  by_cases V:m+1=n
  ·erw[ch (ey.mpr V)]
   exact z m p Y U v
  ·have y:=Nat.lt_of_le_of_ne U V
   erw[ca (mt ey.mp V)]
   by_cases h:m+1>1
   ·erw[ch h]
    refine p5 Y (λf=>z m p Y U v) λg=>?_
    have w:∀i,0<=i->i<m+1->KP key p i=KP key p m:=λi f o=>eD (v i m (db o) (dq m)) (ae g (v 0 i (dd _) o))
    have e:=nq (Y.size▸U) w
    exact r9 z (Y.rev 0 (m+1)) y (show Mo _ _ _ from e▸Mo.dn (p:=p) (λi j k O=>bv ((w j (dd _) O).trans (w i (dd _) (ax k O)).symm)) (cy (J y)))
   ·erw[ca h]
    obtain rfl:m=0:=Nat.le_zero.mp (kz (Nat.le_of_not_lt h))
    exact r9 z Y y (Mo.dn (p:=p) (Mo.one cr) (cy (J y)))) _ 0 (kS Y.pos) (Mo.one cr))
end
theorem Cj{l r:Nat}(h:l<r):l<=(l+r) / 2:=(Nat.le_div_iff_mul_le Nat.zero_lt_two).mpr (Nat.mul_two l▸ew (cy h) l)
theorem xh{l r:Nat}(h:l<r):(l+r) / 2<r:=(Nat.div_lt_iff_lt_mul Nat.zero_lt_two).mpr (Nat.mul_two r▸Nat.add_lt_add_right h r)
theorem Iw(O:Pp n p)(V:Asc key p k){Q:Nat->Prop}(j:∀m,m<=k->(∀i,i<m->KP key p i<=KP key p k)->(∀i,m<=i->i<k->KP key p k<=KP key p i)->Q m)(f:Nat) :
  ∀(l r:Nat),r<=k->l<=r->r<=l+f->(∀i,i<l->KP key p i<=KP key p k)->(∀i,r<=i->i<k->KP key p k<=KP key p i)->sp n key (kas_place p k f l r) Q:=by
 induction f with
 | zero=>exact λl r w z y Y U=>j l (ae z w) Y λi a b=>U i (ae y a) b
 | succ f J=>
  intro l r w z y Y U
  show sp n key (if l≥r then KasT.ret l else KasT.ask (p.getD k 0) (p.getD ((l+r) / 2) 0) λc=>if c=true then kas_place p k f l ((l+r) / 2) else kas_place p k f ((l+r) / 2+1) r) Q
  by_cases h:l≥r
  ·erw[ch h]
   exact j l (ae z w) Y λi a b=>U i (ae h a) b
  ·erw[ca h]
   have h:=Nat.lt_of_not_le h
   have o:=cf (xh h) w
   exact p5 O (λv=>J l _ (cy o) (Cj h) (db (cf (xh h) y)) Y λi a b=>ae (cy v) (V _ _ a b)) λv=>
    J _ r w (xh h) (ae y (ae (lk (Cj h) _) (bv (Nat.succ_add _ _).symm))) (λi a=>ae (V i _ (db a) o) v) U
theorem tT{p:Fm}{z m:Nat}(Q:z<p.size)(w:m<=z)(k:Nat):(bubble p z (z - m))[k]?=if k=m then p[z]? else if m<k/\k<=z then p[k - 1]? else p[k]?:=by
 have e:=getElem?_bubble Q (z - m) (Nat.sub_le _ _) k
 rwa [mn w] at e
theorem Fq{g:Go}{m k:Nat}(V:m<=k)(y:Mo (λa b=>a<=b) f k)(J:∀i,i<m->f i<=f k)(o:∀i,m<=i->i<k->f k<=f i)
(w:∀i,i<m->g i=f i)(Y:g m=f k)(U:∀i,m<=i->i<k->g (i+1)=f i):Mo (λa b=>a<=b) g (k+1):=λi j z Q=>by
 rcases Nat.lt_trichotomy j m with h | h | h
 ·show g i<=g j
  (erw[w i (ax z h)];erw[w j h])
  exact y i j z (cf h V)
 ·subst h
  show g i<=g j
  erw[Y]
  exact(hZ z).elim (λv=>w i v▸J i v) λe=>e▸bv Y
 ·match j,h,z,Q with
  | j+1,h,z,Q=>
   have h:=db h
   have Q:=Nat.lt_of_succ_lt_succ Q
   show g i<=g (j+1)
   erw[U j h Q]
   rcases Nat.lt_trichotomy i m with q | q | q
   ·erw[w i q];exact y i j (ae (cy q) h) Q
   ·(erw[q];erw[Y]);exact o j h Q
   ·match i,q,z with
    | i+1,q,z=>
     erw[U i (db q) (ax (kz z) Q)]
     exact y i j (kz z) Q
theorem Ni{Q:Array Nat->Prop}(V:∀Y,Pp n Y->Asc key Y n->Q Y)(f:Nat):∀(p:Fm) (k:Nat),Pp n p->k+f=n->Asc key p k->sp n key (kas_bin f p k) Q:=by
 induction f with
 | zero=>exact λp k z e w=>V p z (e▸w)
 | succ f j=>
  intro p k z e w
  have U:k<p.size:=z.size▸e▸Nat.lt_add_of_pos_right (ft f)
  exact lN _ (Iw z w (λm y J o=>j _ (k+1) (z.bub _ _) ((Nat.succ_add _ _).trans e)
   (Fq y w J o (λi h=>jx ((tT U y i).trans ((ca (dr h)).trans (ca λq=>Nat.lt_asymm h q.1)))) (jx ((tT U y m).trans (ch rfl)))
    λi v O=>jx ((tT U y (i+1)).trans ((ca (ma (hX v))).trans (ch ⟨hX v,O⟩)))))
   k 0 k (cr _) (dd _) (bv (lL k).symm) (λi h=>absurd h (ij _)) λi a b=>absurd b (Nat.not_lt_of_le a))
theorem Kq(U:0<n){Q:Array Nat->Prop}(z:∀p,Pm n p->Asc key p n->Q p):sp n key (kas_sort n) Q:=
 lN _ (Iv (λm w y v Y=>by
  show sp n key (if m+1<n then kas_bin (n - max (m+1) 1) w (max (m+1) 1) else KasT.ret w) Q
  erw[Nat.max_eq_left (Nat.le_add_left 1 m)]
  by_cases h:m+1<n
  ·erw[ch h]
   exact Ni (λp h=>z p h.toPm) _ _ _ y (kS (cy h)) Y
  ·erw[ca h]
   exact z _ y.toPm (eD v (Nat.le_of_not_lt h)▸Y)) (p:=toArray (range n)) ⟨⟨eh,List.Perm.refl _⟩,U⟩)
end
theorem vj{n:Nat}{key:Go}{Q:Nat->Nat->(Bool->Shared->Prop)->Shared->Prop}{I:Shared->Prop}(U:∀i j,i<n->j<n->∀C s,I s->(∀z,I z->C (decide (key i<key j)) z)->Q i j C s){Y:Type}{G:Y->Shared->Prop}{t:KasT Y} :
  ∀{s:Shared},sp n key t (λa=>∀z,I z->G a z)->I s->t.kasWp Q G s:=
 t.rec (motive:=λt=>∀{s:Shared},sp n key t (λa=>∀z,I z->G a z)->I s->t.kasWp Q G s) (λa V h w=>h _ w) λi j k v s h w=>U i j h.1 h.2.1 _ s w λz y=>v _ h.2.2 y
noncomputable def Knd.atom:Knd->Bool
 | .tup _=>false
 | _=>true
theorem gQ(h:pA z=true):z.all Knd.atom=true/\z≠[]:=by
 cases z with
 | nil=>exact absurd h c6
 | cons k z=>exact⟨h,(by intro h;injection h)⟩
noncomputable def ltV(x y:CV):Bool:=!(leV y x)
theorem Ft{a b:Str}(h:a.cps.toList=b.cps.toList):a=b:=ab mk (Array.toList_inj.mp h)
theorem gB{x:CV}(h:x.is .int=true):∃i,x=.int i:=by
 cases x <;> first | exact⟨_,rfl⟩ | exact absurd h c6
theorem gC{x:CV}(h:x.is .str=true):∃s,x=.str s:=by
 cases x <;> first | exact⟨_,rfl⟩ | exact absurd h c6
theorem p6{k:Knd}(w:k.atom=true){x y:CV}(z:x.is k=true)(Q:y.is k=true):leV x y=true∨leV y x=true:=by
 cases k with
 | int=>
  obtain⟨a,rfl⟩:=gB z;obtain⟨b,rfl⟩:=gB Q
  exact(Int.le_total a b).imp cn cn
 | str=>
  obtain⟨a,rfl⟩:=gC z;obtain⟨b,rfl⟩:=gC Q
  exact(List.le_total a.cps.toList b.cps.toList).imp cn cn
 | tup _=>exact absurd w c6
theorem p7{k:Knd}(V:k.atom=true){x y z:CV}(Q:x.is k=true)(w:y.is k=true)(Y:z.is k=true)(U:leV x y=true)(v:leV y z=true):leV x z=true:=by
 cases k with
 | int=>
  obtain⟨a,rfl⟩:=gB Q;obtain⟨b,rfl⟩:=gB w;obtain⟨c,rfl⟩:=gB Y
  exact cn (fa (a7 (p:=a<=b) U) (a7 (p:=b<=c) v))
 | str=>
  obtain⟨a,rfl⟩:=gC Q;obtain⟨b,rfl⟩:=gC w;obtain⟨c,rfl⟩:=gC Y
  exact cn (List.le_trans (a7 (p:=a.cps.toList<=b.cps.toList) U) (a7 (p:=b.cps.toList<=c.cps.toList) v))
 | tup _=>exact absurd V c6
theorem kC{k:Knd}(U:k.atom=true){x y:CV}(z:x.is k=true)(Q:y.is k=true)(w:leV x y=true)(Y:leV y x=true):x=y:=by
 cases k with
 | int=>
  obtain⟨a,rfl⟩:=gB z;obtain⟨b,rfl⟩:=gB Q
  exact ab CV.int (Int.le_antisymm (a7 (p:=a<=b) w) (a7 (p:=b<=a) Y))
 | str=>
  obtain⟨a,rfl⟩:=gC z;obtain⟨b,rfl⟩:=gC Q
  exact ab CV.str (Ft (List.le_antisymm (a7 (p:=a.cps.toList<=b.cps.toList) w) (a7 (p:=b.cps.toList<=a.cps.toList) Y)))
 | tup _=>exact absurd U c6
theorem oO(h:CV.iss [] l=true):l=[]:=by
 cases l with
 | nil=>rfl
 | cons _ _=>exact absurd h c6
theorem gD(h:CV.iss (k::z) l=true):∃x r,l=x::r/\x.is k=true/\CV.iss z r=true:=by
 cases l with
 | nil=>exact absurd h c6
 | cons x r=>exact⟨x,r,rfl,bn.mp h⟩
theorem lO:lA (x::l) (x::m)=lA l m:=ch rfl
theorem f6(e:x≠y):lA (x::l) (y::m)=leV x y:=ca e
theorem xj{z:List Knd}(Q:z.all Knd.atom=true)(w:CV.iss z l=true)(Y:CV.iss z m=true):lA l m=true∨lA m l=true:=by
 induction z generalizing l m with
 | nil=>cases oO w;exact .inl rfl
 | cons k z U=>
  obtain⟨x,l,rfl,a,b⟩:=gD w
  obtain⟨y,m,rfl,c,d⟩:=gD Y
  have Q:=bn.mp Q
  by_cases e:x=y
  ·subst e;(erw[lO];erw[lO]);exact U Q.2 b d
  ·(erw[f6 e];erw[f6 (en e)]);exact p6 Q.1 a c
theorem AL{z:List Knd}(Q:z.all Knd.atom=true)(U:CV.iss z l=true)(v:CV.iss z m=true)(w:lA l m=true)(Y:lA m l=true):l=m:=by
 induction z generalizing l m with
 | nil=>exact(oO U).trans (oO v).symm
 | cons k z V=>
  obtain⟨x,l,rfl,a,b⟩:=gD U
  obtain⟨y,m,rfl,c,d⟩:=gD v
  have Q:=bn.mp Q
  by_cases e:x=y
  ·subst e;rw[lO] at w Y;exact ab (x::·) (V Q.2 b d w Y)
  ·exact absurd (kC Q.1 a c ((f6 e).symm.trans w) ((f6 (en e)).symm.trans Y)) e
theorem xm{w:List Knd}(U:w.all Knd.atom=true)(j:CV.iss w l=true)(o:CV.iss w m=true)(O:CV.iss w p=true)(Y:lA l m=true)(Q:lA m p=true):lA l p=true:=by
 induction w generalizing l m p with
 | nil=>cases oO j;rfl
 | cons k w g=>
  obtain⟨x,l,rfl,a,b⟩:=gD j
  obtain⟨y,m,rfl,c,d⟩:=gD o
  obtain⟨z,p,rfl,e,f⟩:=gD O
  have U:=bn.mp U
  by_cases V:x=y
  ·subst V
   rw[lO] at Y
   by_cases v:x=z
   ·subst v;rw[lO] at Q ⊢;exact g U.2 b d f Y Q
   ·rw[f6 v] at Q ⊢;exact Q
  ·rw[f6 V] at Y
   by_cases v:y=z
   ·subst v;exact(f6 V).trans Y
   ·rw[f6 v] at Q
    by_cases J:x=z
    ·subst J;exact absurd (kC U.1 a c Y Q) V
    ·exact(f6 J).trans (p7 U.1 a c e Y Q)
structure Ordered(S:CV->Prop):Prop where
 total:∀x y,S x->S y->leV x y=true∨leV y x=true
 trans:∀x y z,S x->S y->S z->leV x y=true->leV y z=true->leV x z=true
 anti:∀x y,S x->S y->leV x y=true->leV y x=true->x=y
theorem ic{y:CV}(h:y.is (.tup z)=true):∃l,y=.tup l/\CV.iss z l=true:=by
 cases y <;> first | exact⟨_,rfl,h⟩ | exact absurd h c6
theorem vn(v:pA j=true):Ordered (λy=>y.is (.tup j)=true) where
 total:=λx y Q w=>by
  obtain⟨l,rfl,Y⟩:=ic Q;obtain⟨m,rfl,U⟩:=ic w
  exact xj (gQ v).1 Y U
 trans:=λx y z Q w J V k=>by
  obtain⟨l,rfl,Y⟩:=ic Q;obtain⟨m,rfl,U⟩:=ic w;obtain⟨p,rfl,o⟩:=ic J
  exact xm (gQ v).1 Y U o V k
 anti:=λx y Q w V k=>by
  obtain⟨l,rfl,Y⟩:=ic Q;obtain⟨m,rfl,U⟩:=ic w
  exact ab CV.tup (AL (gQ v).1 Y U V k)
noncomputable def vo(l:B2)(x:CV):Nat:=l.countP λy=>ltV y x
theorem AM{Q:Type}{p q:Q->Bool}{l:List Q}(h:∀x∈l,p x=true->q x=true)(e:∃x∈l,p x=false/\q x=true):l.countP p<l.countP q:=by
 induction l with
 | nil=>exact e.elim λj y=>nomatch y.1
 | cons x l v=>
  obtain⟨y,z,w,Y⟩:=e
  have U:=λx V=>h x (bb _ V)
  (erw[countP_cons];erw[countP_cons])
  rcases bt.mp z with rfl | z
  ·(erw[w];erw[Y]);exact hX (countP_mono_left U)
  ·refine Nat.add_lt_add_of_lt_of_le (v U ⟨y,z,w,Y⟩) ?_
   cases k:p x with
   | false=>exact dd _
   | true=>erw[h x aM k];exact cr _
theorem yQ(O:Ordered S){l:B2}(Y:∀y∈l,S y){x y:CV}(p:x∈l)(f:y∈l):(vo l x<vo l y)↔ltV x y=true:=by
 have w:=Y x p
 have U:=Y y f
 have v:∀{a b:CV},ltV a b=true->leV b a≠true:=λh e=>by unfold ltV at h;rw[e] at h;exact absurd h c6
 have V:∀{a b:CV},leV b a≠true->ltV a b=true:=λh=>by unfold ltV;erw[Bool.eq_false_iff.mpr h];rfl
 refine⟨λh=>V λg=>absurd h (Nat.not_lt.mpr (countP_mono_left λz k j=>V λQ=>v j (O.trans _ _ _ U w (Y z k) g Q))),λh=>?_⟩
 have J:leV x y=true:=(O.total x y w U).resolve_right (v h)
 refine AM (λz k Q=>V λo=>v Q (O.trans _ _ _ w U (Y z k) J o)) ⟨x,p,?_,h⟩
 have:leV x x=true:=(O.total x x w w).elim id id
 unfold ltV;erw[this];rfl
theorem yR(h:leV x y=true):oq x (y::l)=x::y::l:=ch h
theorem yS(h:¬ leV x y=true):oq x (y::l)=y::oq x l:=ca h
theorem sd(x:CV)(l:B2):(oq x l).Perm (x::l):=by
 induction l with
 | nil=>exact .refl _
 | cons y l z=>
  by_cases h:leV x y=true
  ·rw[yR h]
  ·rw[yS h];exact(z.cons y).trans (.swap ..)
theorem iW(l:B2):(fN l).Perm l:=by
 induction l with
 | nil=>exact .refl _
 | cons x l z=>exact(sd x _).trans (z.cons x)
theorem vp(O:Ordered S)(U:S x){l:B2}(v:∀y∈l,S y)(V:l.Pairwise (λa b=>leV a b=true)):(oq x l).Pairwise (λa b=>leV a b=true):=by
 induction l with
 | nil=>exact fb _ _
 | cons y l j=>
  have w:=pairwise_cons.mp V
  have k:=v y aM
  have Y:=λz Q=>v z (bb _ Q)
  by_cases h:leV x y=true
  ·erw[yR h]
   refine pairwise_cons.mpr ⟨λz Q=>?_,V⟩
   rcases bt.mp Q with rfl | Q
   ·exact h
   ·exact O.trans _ _ _ U k (Y z Q) h (w.1 z Q)
  ·erw[yS h]
   refine pairwise_cons.mpr ⟨λz Q=>?_,j Y w.2⟩
   rcases bt.mp ((sd x l).mem_iff.mp Q) with rfl | Q
   ·exact(O.total y z k U).resolve_right h
   ·exact w.1 z Q
theorem tU(O:Ordered S){l:B2}(w:∀y∈l,S y):(fN l).Pairwise (λa b=>leV a b=true):=by
 induction l with
 | nil=>exact .nil
 | cons x l Y=>
  have Q:=λz U=>w z (bb _ U)
  exact vp O (w x aM) (λy v=>Q y ((iW l).mem_iff.mp v)) (Y Q)
theorem tV(O:Ordered S){l m:B2}(z:∀y∈l,S y)(Q:m.Perm l)(w:m.Pairwise (λa b=>leV a b=true)):m=fN l:=
 Perm.eq_of_pairwise (le:=λa b=>leV a b=true) (λa b Y U v V=>O.anti a b (z a (Q.mem_iff.mp Y)) (z b ((iW l).mem_iff.mp U)) v V) w (tU O z) (Q.trans (iW l).symm)
section
variable{z:Program}{w:World}{A:Around}{s:Shared}
theorem Ck{Q:Cl}(h:Q.length<2):(Q.toArray.zip Q.toArray).map (·.2)=toArray ((toArray (range Q.length)).toList.map λi=>Q.getD i Value.none):=by
 cases Q with
 | nil=>simp
 | cons v r=>
  cases r with
  | nil=>simp
  | cons=>exact absurd h (Nat.not_lt.mpr (Nat.le_add_left 2 _))
theorem Fv{n:Nat}(h:n<2):Asc key p n:=λi j y U=>by
 have Q:j=0:=Nat.lt_one_iff.mp (cf U (db h))
 have Y:i=0:=Nat.le_zero.mp (Q▸y)
 (erw[Y];erw[Q]);exact cr _
theorem AO{y:Cl}{P:PySem.Fin->Shared->Prop}{key:Go}{κ:SortKind}(M:s.heap.get? a=some (seqObj "list" y.toArray n))(O:y.length<64)
(G:2<=y.length->∀(f:Shared),(∀b o,b≠a->s.heap.get? b=some o->f.heap.get? b=some o)->∀Q:SortKind->Shared->Prop,Q κ f->wpAny (model z w) A (keyKind' y.toArray) Q (λU U=>False) f)
(u:∀i j,i<y.length->j<y.length->∀(f:Shared),(∀b o,b≠a->s.heap.get? b=some o->f.heap.get? b=some o)->∀C:Bool->Shared->Prop,C (decide (key i<key j)) f->wpAny (model z w) A (keyLt' κ (y.getD i Value.none) (y.getD j Value.none)) C (λU U=>False) f)
(h:∀(p:Fm) (r:Heap) (c:Nat),Pm y.length p->Asc key p y.length->(∀b o,b≠a->s.heap.get? b=some o->r.get? b=some o)->r.get? a=some (seqObj "list" (toArray (p.toList.map λi=>y.getD i Value.none)) c)->P (.done (.ret .none)) { s with heap:=r }) :
  wpAny (model z w) A (Builtin.«list.sort» ⟨[.ref a],[]⟩) P E s:=by
 have ha:a<s.heap.objs.size:=fv M
 have f:=Heap.SameBut.update s.heap a (Obj.mapSeq λU=>(#[]:Db))
 obtain⟨d,T⟩:∃d,(s.heap.update a (Obj.mapSeq λU=>(#[]:Db))).get? a=some (seqObj "list" #[] d):=⟨_,get?_update_seq M λU=>#[]⟩
 erw[list_sort_plain _]
 refine ag (listItems_at M rfl ?_)
 refine ag (listUpdate_at M rfl ?_ (by(erw[size_toArray];erw[sizeLine_eq]);exact ae (cy O) (by decide)) (dd _))
 refine ag (seqEpoch_at T rfl ?_)
 refine ag (wpAny_newTuple ?_ (by show y.length<=_;erw[sizeLine_eq];exact ae (cy O) (by decide)))
 refine ag (wpAny_newList ?_ (dd _))
 refine eA ?_
 show wpAny (model z w) A _ P E { s with heap:=((s.heap.update a (Obj.mapSeq λU=>(#[]:Db))).push (seqObj "tuple" y.toArray 0)).push (seqObj "list" #[] 0) }
 generalize K:((s.heap.update a (Obj.mapSeq λU=>(#[]:Db))).push (seqObj "tuple" y.toArray 0)).push (seqObj "list" #[] 0)=H
 have F:∀b o,b≠a->s.heap.get? b=some o->H.get? b=some o:=λb o m e=>by
  erw[ip K]
  exact dA _ (dA _ (f.extBut b o m e))
 have g:H.get? a=some (seqObj "list" #[] d):=by
  erw[ip K]
  exact dA _ (dA _ T)
 have B:∀(p:Fm),Pm y.length p->Asc key p y.length->∀Y:SortSt,(arrOf Y).map (·.2)=toArray (p.toList.map λi=>y.getD i Value.none)->failedOf Y=none->
   wpAny (model z w) A (do
    let sorted:=(arrOf Y).map (·.2)
    let V:=(← seqEpoch a) != d
    Builtin.List.listUpdate (.ref a) λU=>sorted
    if let some e:=failedOf Y then rule "list.sort.comparison-raised";throw e
    if V then rule "list.sort.modified";raiseError "ValueError" "list modified during sort"
    ret .none) P E { s with heap:=H }:=by
  intro p l N Y k D
  have R:(toArray (p.toList.map λi=>y.getD i Value.none)).size=y.length:=by(erw[size_toArray];erw[ba _];erw[Array.length_toList];exact Eq.substr l.size rfl)
  dsimp only
  erw[k]
  obtain⟨S,W⟩:∃S,(H.update a (Obj.mapSeq λU=>toArray (p.toList.map λi=>y.getD i Value.none))).get? a=some (seqObj "list" (toArray (p.toList.map λi=>y.getD i Value.none)) S):=⟨_,get?_update_seq g λU=>toArray (p.toList.map λi=>y.getD i Value.none)⟩
  refine ag (seqEpoch_at g rfl ?_)
  refine ag (listUpdate_at g rfl ?_ (dd _) (ae (bv R) (by erw[sizeLine_eq];exact ae (cy O) (by decide))))
  erw[D]
  simp only[bne_self_eq_false,Bool.false_eq_true,if_false]
  exact bj (h p _ S l N (λb o m e=>(Heap.SameBut.update H a _).extBut b o m (F b o m e)) W)
 dsimp only
 by_cases t:y.toArray.size<2
 ·(erw[ch t];erw[ch t])
  refine ag (bj ?_)
  erw[StateT.run_pure _ _]
  refine ag (bj ?_)
  have v:y.length<2:=t
  refine B (toArray (range y.length)) ⟨eh,List.Perm.refl _⟩ (Fv v) (SortSt.mk' general' (y.toArray.zip y.toArray) #[] 7 none) ?_ rfl
  show(y.toArray.zip y.toArray).map (·.2)=_
  exact Ck v
 ·(erw[ca t];erw[ca t])
  have v:2<=y.length:=Nat.not_lt.mp t
  refine ag (wpAny_mono (G v { s with heap:=H } F (λL J=>L=κ/\J={ s with heap:=H }) ⟨rfl,rfl⟩) (λL s0 q=>?_) λU U x=>x.elim)
  obtain⟨rfl,rfl⟩:=q
  have run:=kat_run (E:=E) (ks:=y) (Q:=λY J=>J={ s with heap:=H }/\∃p:Array Nat,Pm y.length p/\Asc key p y.length/\(arrOf Y).map (·.2)=toArray (p.toList.map λi=>y.getD i Value.none)/\failedOf Y=none) (G:=λp J=>J={ s with heap:=H }/\Pm y.length p/\Asc key p y.length) (κ:=L) rfl v O
   (λp Y J l X D ⟨e,Z,I⟩=>⟨e,p,Z,I,kat_snds rfl X,D⟩)
   (vj (n:=y.length) (key:=key) (I:=λJ=>J={ s with heap:=H }) (λi j hi hj C J e hC=>by subst e;exact u i j hi hj _ F C (hC _ rfl))
    (Kq (cf Nat.zero_lt_two v) λp l N=>λJ e=>⟨e,l,N⟩) rfl)
  refine ag (wpAny_mono run ?_ λU U e=>e)
  rintro⟨⟨⟩,Y⟩ J ⟨rfl,p,l,N,k,D⟩
  exact B p l N Y k D
theorem vq{vs:Cl}{Q:AC}{key:Go}{κ:SortKind}(L:s.heap.IsList l vs.toArray)(v:vs.length<64)
(t:2<=vs.length->∀(y:Shared),(∀b o,s.heap.get? b=some o->y.heap.get? b=some o)->∀Q:SortKind->Shared->Prop,Q κ y->wpAny (model z w) A.in1.in1 (keyKind' vs.toArray) Q (λg g=>False) y)
(T:∀i j,i<vs.length->j<vs.length->∀(y:Shared),(∀b o,s.heap.get? b=some o->y.heap.get? b=some o)->∀C:Bool->Shared->Prop,C (decide (key i<key j)) y->wpAny (model z w) A.in1.in1 (keyLt' κ (vs.getD i Value.none) (vs.getD j Value.none)) C (λg g=>False) y)
(h:∀(p:Fm) (O:Heap) (c:Nat) (D:Addr),Pm vs.length p->Asc key p vs.length->(∀b o,s.heap.get? b=some o->O.get? b=some o)->(∀o,s.heap.get? D≠some o)->O.get? D=some (seqObj "list" (toArray (p.toList.map λi=>vs.getD i Value.none)) c)->Q (.ref D) { s with heap:=O }) :
  wpAny (model z w) A (call (.builtin "sorted") [.ref l]) Q E s:=by
 refine call_function_entry kind_sorted plain_sorted entry_sorted (args_sorted1 _) ?_
 unfold Builtin.«sorted»
 refine ag (m:=checkCount "sorted" 1 1 _) (bj ?_)
 refine ag (collect_list L ?_ (by erw[sizeLine_eq];exact ae (cy v) (by decide)))
 refine ag (wpAny_newList ?_ (by erw[sizeLine_eq];exact ae (cy v) (by decide)))
 have V:((s.heap.push (seqObj "list" #[] 0)).update s.heap.objs.size (Obj.mapSeq (·++vs.toArray))).objs.size=s.heap.objs.size+1:=by
  (rewrite[Heap.size_update];exact Eq.substr (size_push' _ _) rfl)
 have f:(((s.heap.push (seqObj "list" #[] 0)).update s.heap.objs.size (Obj.mapSeq (·++vs.toArray))).push (seqObj "list" vs.toArray 0)).get? (s.heap.objs.size+1)=some (seqObj "list" vs.toArray 0):=by
  erw[ip V];exact dv _ rfl
 have Y:∀b o,s.heap.get? b=some o->(((s.heap.push (seqObj "list" #[] 0)).update s.heap.objs.size (Obj.mapSeq (·++vs.toArray))).push (seqObj "list" vs.toArray 0)).get? b=some o:=λb o q=>by
  have J:b<s.heap.objs.size:=fv q
  rw[Heap.get?_push_ne _ _ _ (by erw[V];exact dr (im J)),Heap.get?_update_ne _ _ _ _ (dr J),Heap.get?_push_ne _ _ _ (dr J)]
  exact q
 have U:∀b o,s.heap.get? b=some o->b≠s.heap.objs.size+1:=λb o q=>dr (im (fv q))
 show wpAny _ _ _ _ _ { s with heap:=((s.heap.push (seqObj "list" #[] 0)).update s.heap.objs.size (Obj.mapSeq (·++vs.toArray))).push (seqObj "list" vs.toArray 0) }
 erw[V]
 refine ag (eA (ib slot_list_sort ⟨_,f,rfl⟩ entry_list_sort ?body (args_list_sort _)))
 case body=>
  refine AO (s:={ s with heap:=((s.heap.push (seqObj "list" #[] 0)).update s.heap.objs.size (Obj.mapSeq (·++vs.toArray))).push (seqObj "list" vs.toArray 0) }) f v
   (λx y k=>t x y λb o q=>k b o (U b o q) (Y b o q)) (λi j B n y k=>T i j B n y λb o q=>k b o (U b o q) (Y b o q)) λp O c N a k I=>⟨_,rfl,bj ⟨_,rfl,?_⟩⟩
  exact h p O c _ N a (λb o q=>k b o (U b o q) (Y b o q)) (λo q=>absurd rfl (U _ o q)) I
noncomputable def knT:Knd->String
 | .str=>"str"
 | _=>"int"
theorem AP{k:Knd}(Q:RV h v c)(Y:k.atom=true)(y:c.is k=true):typeOf v=pure (.type (knT k)):=by
 cases k with
 | int=>obtain⟨a,rfl⟩:=gB y;obtain⟨t,rfl⟩:=Q.c;rfl
 | str=>obtain⟨a,rfl⟩:=gC y;obtain⟨t,rfl⟩:=Q.c;rfl
 | tup _=>exact ff Y
theorem yT(h:CV.iss (k::Q) m=true):∃x r,m=x::r/\x.is k=true/\CV.iss Q r=true:=by
 cases m with
 | nil=>exact ff h
 | cons x r=>exact⟨x,r,rfl,(bn.mp h).1,(bn.mp h).2⟩
theorem Cm(h:CV.iss [] m=true):m=[]:=by
 cases m with
 | nil=>rfl
 | cons=>exact ff h
theorem xo{k:Knd}(J:k.atom=true)(x:RVs h vs l):(∀y∈l,y.is (.tup (k::V))=true)->∃Q,KatTups h vs Q/\Q.length=vs.length/\∀f∈Q,typeOf f=pure (.type (knT k)):=
 x.ind (P:=λvs l=>(∀y∈l,y.is (.tup (k::V))=true)->∃Q,KatTups h vs Q/\Q.length=vs.length/\∀f∈Q,typeOf f=pure (.type (knT k))) (λO=>⟨[],.nil,rfl,λO h=>(nomatch h)⟩) λ{v c vs l} a b p j=>by
  obtain⟨Q,g,L,t⟩:=p λy T=>j y (bb _ T)
  obtain⟨m,rfl,C⟩:=ic (j c aM)
  obtain⟨ad,i,rfl,⟨o,B,N,n,D⟩,_,I⟩:=a.c
  obtain⟨x,r,rfl,M,_⟩:=yT C
  obtain⟨u,Y,U⟩:=I.arr (i:=0) (c:=x) rfl
  exact⟨u::Q,.cons B N D Y g,ab Nat.succ L,λf d=>(bt.mp d).elim (λe=>e▸AP U J M) (t f)⟩
theorem se{k:Knd}(y:k.atom=true){c:CV}(Q:c.is k=true):c.pure=true/\c.depth=0:=by
 cases k with
 | int=>obtain⟨a,rfl⟩:=gB Q;exact⟨rfl,rfl⟩
 | str=>obtain⟨a,rfl⟩:=gC Q;exact⟨Q,rfl⟩
 | tup _=>exact ff y
theorem xq{k:Knd}(J:k.atom=true){u:Value}(y:RV s.heap u c)(Y:RV s.heap v d)(U:c.is k=true)(V:d.is k=true){Q:Dx}(h:Q (!(leV d c)) s):wpAny (model z w) A (oneLt' b u v) Q E s:=by
 cases k with
 | int=>
  obtain⟨i,rfl⟩:=gB U;obtain⟨j,rfl⟩:=gB V
  obtain⟨o,rfl⟩:=y.c;obtain⟨O,rfl⟩:=Y.c
  have e:(!(leV (.int j) (.int i)))=decide (i<j):=(decide_not (p:=j<=i)).symm.trans (decide_eq_decide.mpr Int.not_le)
  rw[e] at h
  cases b with
  | true=>exact oneLt_int h
  | false=>exact kat_one _ _ (PySem.P.lt_int h)
 | str=>
  obtain⟨i,rfl⟩:=gC U;obtain⟨j,rfl⟩:=gC V
  obtain⟨o,rfl⟩:=y.c;obtain⟨O,rfl⟩:=Y.c
  have e:(!(leV (.str j) (.str i)))=decide (i.cps.toList<j.cps.toList):=(decide_not (p:=j.cps.toList<=i.cps.toList)).symm.trans (decide_eq_decide.mpr ⟨λh=>Classical.not_not.mp λq=>h (List.not_lt.mp q),λh q=>List.not_lt.mpr q h⟩)
  rw[e] at h
  cases b with
  | true=>exact oneLt_str h
  | false=>exact kat_one _ _ (PySem.P.lt_str h)
 | tup _=>exact ff J
theorem AQ{Q:Dx}(t:A.units<cLine){V:List Knd}:∀{vs j:Cl} {y Y:B2} {i:Nat},V.all Knd.atom=true->RVs s.heap vs y->RVs s.heap j Y->CV.iss V y=true->CV.iss V Y=true->Q (!(lA Y y)) s->
  KatLex z w A b false Q (vs.zip j) i s:=by
 induction V with
 | nil=>
  intro vs j y Y i _ J p o O h
  obtain rfl:=Cm o
  obtain rfl:=Cm O
  obtain rfl:vs=[]:=J.c
  exact kat_nil h
 | cons k V T=>
  intro vs j y Y i U J p o O h
  have U:=bn.mp U
  obtain⟨c,y,rfl,f,C⟩:=yT o
  obtain⟨d,Y,rfl,g,B⟩:=yT O
  obtain⟨v,vs,rfl,a,x⟩:=J.c
  obtain⟨N,j,rfl,l,n⟩:=p.c
  have h:Q (!(if d=c then lA Y y else leV d c)) s:=h
  have L:=se U.1 f
  erw[zip_cons_cons]
  refine kat_cons (rU a l L.1 (se U.1 g).1 (by erw[L.2];exact t) ?_)
  by_cases e:c=d
  ·rw[ch e.symm] at h
   erw[cn e]
   exact kat_yes (T U.2 x n C B h)
  ·rw[ca (en e)] at h
   erw[dT e]
   exact kat_no (xq U.1 a l f g h)
end
theorem getD_some{z:Type}{l:List z}{i:Nat}{d v:z}(h:l[i]?=some v):l.getD i d=v:=by rw[getD_eq_getElem?_getD,h];rfl
theorem map_getD{z:Type}(l:List z)(d:z):(range l.length).map (λi=>l.getD i d)=l:=by
 apply ext_getElem?
 intro i
 rw[eM]
 by_cases h:i<l.length
 ·rw[getElem?_range h,bm h]
  show some (l.getD i d)=_
  rw[getD_eq_getElem?_getD,bm h];rfl
 ·rw[fi (by simpa using h),fi (by simpa using h)];rfl
theorem yU{z:List Knd}:∀{l:B2},CV.iss z l=true->l.length=z.length:=by
 induction z with
 | nil=>exact λh=>ab List.length (Cm h)
 | cons k z Q=>exact λh=>(yT h).elim λx y=>y.elim λr y=>(ab List.length y.1).trans (ab Nat.succ (Q y.2.2))
theorem RVs.pick(x:RVs h vs l){z:Bz}(Q:∀i∈z,i<l.length):RVs h (z.map λi=>vs.getD i Value.none) (z.map λi=>l.getD i CV.none):=by
 induction z with
 | nil=>exact .nil
 | cons i z y=>
  have w:=bm (Q i aM)
  obtain⟨u,Y,U⟩:=x.get i w
  (erw[jp];erw[jp];erw[getD_some Y];erw[getD_some w])
  exact .cons U (y λj V=>Q j (bb _ V))
theorem tW{p:Fm}{n:Nat}(y:p.size=n)(h:Asc key p n):p.toList.Pairwise (λa b=>key a<=key b):=by
 rw[pairwise_iff_getElem]
 intro i j z w Q
 have:=h i j (cy Q) (by erw[ip y];simpa using w)
 have e:∀{i:Nat} (z:i<p.toList.length),p.getD i 0=p.toList[i]:=λ{i} z=>by
  have:i<p.size:=by simpa using z
  simp[Array.getD,this]
 unfold KP at this
 rwa [e z,e w] at this
section
variable{g:G}{z:Env}{w:AT}
theorem ES.sorted(O:g.Ok){cx:CE}{e:Expr}(hk:z.kindOf "sorted"=some .globalImplicit)(L:nsIn g.K mainGlobals "sorted"=some none)(hs:[e].all noStar=true)
(h:ESs g z w [cx] (spliced (backTo f (starEach [e] z)))):ES g z w (.b1 .sorted cx) (eval (.Call (.Name "sorted" np) [e] [] f) z):=by
 intro A Pr s st Q X P E hA R hw hP hE
 have z4:=hA.units
 refine Call_ (dD (v:=.builtin "sorted") O R hk (by decide) (by decide) L rfl ?_)
 refine fD hs (h.pN hA R hw (λv c s' z5 L W ζ ζ Z=>?_) hE)
 obtain⟨a,l,ks,rfl,hl,K,t,Y,Z⟩:=Z
 obtain rfl:v=.ref a:=L.c
 obtain⟨vs,h1,F,h3⟩:=W.H.cS hl
 obtain⟨T,H⟩:=gQ t
 have G:=vn t
 have U:vs.toList.length=l.length:=F.length
 obtain⟨k,ks,rfl⟩:=exists_cons_of_ne_nil H
 have z0:k.atom=true:=(bn.mp T).1
 have z1:A.in1.in1.units<cLine:=by show A.units+1+1<cLine;lia
 refine vq (vs:=vs.toList) (key:=λi=>vo l (l.getD i .none)) (κ:=tuples' (Value.type (knT k) != Value.type "tuple")) (by erw[Array.toArray_toList];exact h1) (by erw[U];exact K) (λhn s1 b Q hQ=>?_) (λi j hi hj s1 b C B=>?_) λp h' c D hp n b hD N=>?_
 ·have S:=F.mono (TK.of_keep b)
  obtain⟨fs,t1,t2,t3⟩:=xo z0 S Y
  exact kat_kind t1 (by lia) (λv L=>Looks.of_pure (t3 v L)) (by exact Eq.substr (mi _) rfl) hQ
 ·have S:=F.mono (TK.of_keep b)
  have V:i<l.length:=U▸hi
  have J:j<l.length:=U▸hj
  obtain⟨u,u1,u2⟩:=S.get i (bm V)
  obtain⟨v,v1,v2⟩:=S.get j (bm J)
  (erw[getD_some u1];erw[getD_some v1])
  rw[getD_some (bm V),getD_some (bm J)] at B
  have z2:decide (vo l l[i]<vo l l[j])=ltV l[i] l[j]:=by
   (rewrite[Bool.eq_iff_iff];erw[decide_eq_true_eq])
   exact yQ G Y (fg V) (fg J)
  rw[z2] at B
  obtain⟨cs,ec,I⟩:=ic (Y _ (fg V))
  obtain⟨ds,ed,M⟩:=ic (Y _ (fg J))
  rw[ec] at u2 B
  rw[ed] at v2 B
  obtain⟨x,xs,rfl,⟨ox,hx,_,nx,dx⟩,_,x3⟩:=u2.c
  obtain⟨y,ys,rfl,⟨oy,hy,_,ny,dy⟩,_,y3⟩:=v2.c
  refine kat_lt hx dx hy dy ?_
  have z3:decide (xs.size<ys.size)=false:=by
   (erw[x3.size];erw[y3.size];erw[yU I];erw[yU M])
   exact dT (kv _)
  erw[z3]
  exact AQ z1 T x3 y3 I M B
 ·have o:∀i∈p.toList,i<l.length:=λi hi=>by
   have:=hp.perm.mem_iff.mp hi
   rw[du,U] at this
   exact this
  have hm:(p.toList.map λi=>l.getD i .none)=fN l:=by
   refine tV G Y ?_ ?_
   ·have:=hp.perm.map (λi=>l.getD i CV.none)
    rw[U,map_getD] at this
    exact this
   ·rw[pairwise_map]
    refine(tW hp.size n).imp_of_mem λ{x y} hx hy d=>?_
    have m:=o x hx
    have r:=o y hy
    rw[getD_some (bm m),getD_some (bm r)] at d ⊢
    have hn:¬ ltV l[y] l[x]=true:=λq=>absurd ((yQ G Y (fg r) (fg m)).mpr q) (Nat.not_lt.mpr d)
    simpa [ltV] using hn
  have hr:RVs s'.heap (p.toList.map λi=>vs.toList.getD i Value.none) (fN l):=hm▸F.pick o
  have hz:(fN l).length<=szl:=by erw[(iW l).length_eq];unfold szl;lia
  exact hP _ _ { s' with heap:=h' } _ (.ref D) (W.G8 (s':={ s' with heap:=h' }) b rfl rfl hD ⟨_,N⟩ (by simpa using hr) hz) (Z _ (W.H.free hD))
end
theorem Cn{n:Str}{v:Value}{l:FR}:((n,v)::l).lookup n=some v:=lh.trans (ab (λb=>match b with | true=>some v | false=>l.lookup n) (mi n))
theorem yV{l:FR}(h:n≠m):((m,v)::l).lookup n=l.lookup n:=lh.trans (ab (λb=>match b with | true=>some v | false=>l.lookup n) (lw.mpr h))
theorem oz{n:Str}{Q:Bi}:∀{z:Cl},n∉Q.take z.length->(Q.zip z).lookup n=none:=by
 induction Q with
 | nil=>exact λy=>rfl
 | cons p Q w=>
  intro z h
  cases z with
  | nil=>rfl
  | cons v z=>exact(yV (ne_of_not_mem_cons (show n∉p::Q.take z.length from h))).trans (w (not_mem_of_not_mem_cons (show n∉p::Q.take z.length from h)))
theorem jf{n:Str}{Q:Bi}:∀{z:Cl},n∈Q.take z.length->((Q.zip z).lookup n).isNone=false:=by
 induction Q with
 | nil=>exact λh=>absurd (take_nil▸h) cp
 | cons p Q w=>
  intro z h
  cases z with
  | nil=>exact absurd h cp
  | cons v z=>
   by_cases e:n=p
   ·subst e;exact ab Option.isNone Cn
   ·exact(ab Option.isNone (yV e)).trans (w ((bt.mp h).resolve_left e))
theorem p8(h:n≠m)(l:FR):(l++[(m,v)]).lookup n=l.lookup n:=by
 induction l with
 | nil=>exact yV h
 | cons x l z=>(erw[cons_append];erw[lh];erw[lh];exact Eq.substr z rfl)
noncomputable def yW(x:Str×Value)(t:FR):Sem (ForInStep (List (Str×Value))):=if (List.lookup x.fst t).isNone=true then pure (ForInStep.yield (t++[(x.fst,x.snd)])) else pure (ForInStep.yield t)
theorem xr(l:FR):∀(z:FR),(l.map (·.1)).Nodup->forIn l z yW=pure (z++l.filter λx=>(z.lookup x.1).isNone):=by
 induction l with
 | nil=>exact λz U=>forIn_nil.trans (ab pure (eR z).symm)
 | cons x l Q=>
  intro z h
  have h:=ei.mp h
  rw[forIn_cons]
  cases e:(List.lookup x.1 z).isNone with
  | true=>
   (rewrite[yW];erw[ch e];erw[pure_bind _ _];erw[ll (p:=λy:Str×Value=>(z.lookup y.1).isNone) e])
   refine(Q _ h.2).trans (ab pure ((io _ _ _).trans (ab (λl=>z++x::l) (filter_congr λy w=>ab Option.isNone (p8 (λY:y.1=x.1=>h.1 (bo.mpr ⟨y,w,Y⟩)) z)))))
  | false=>
   (rewrite[yW];erw[e];erw[ca c6];erw[pure_bind _ _];erw[lm (p:=λy:Str×Value=>(z.lookup y.1).isNone) (λq=>c6 (e.symm.trans q))])
   exact Q _ h.2
theorem nu{z Q:Type}{f g:z->Option Q}{l:List z}(h:∀x∈l,f x=g x):l.filterMap f=l.filterMap g:=by
 induction l with
 | nil=>rfl
 | cons x l w=>(erw[filterMap_cons];erw[filterMap_cons];erw[h x aM];exact Eq.substr (w λy Y=>h y (bb _ Y)) rfl)
theorem AS{z:Bi}:∀{Q:Cl},z.Nodup->Q.length=z.length->(z.filterMap λn=>((z.zip Q).lookup n).map (n,·))=z.zip Q:=by
 induction z with
 | nil=>exact λy y=>rfl
 | cons p z Y=>
  intro Q h w
  cases Q with
  | nil=>exact absurd w.symm (ml _)
  | cons v Q=>
   have h:=ei.mp h
   refine(filterMap_cons_some (f:=λn=>(((p,v)::z.zip Q).lookup n).map (n,·)) (b:=(p,v)) (ab (Option.map (p,·)) Cn)).trans (ab ((p,v)::·) ((nu (f:=λn=>(((p,v)::z.zip Q).lookup n).map (n,·)) (g:=λn=>((z.zip Q).lookup n).map (n,·)) λn U=>?_).trans (Y h.2 (Nat.succ.inj w))))
   exact ab (Option.map (n,·)) (yV λe=>h.1 (e▸U))
theorem sf{Q:Bi}:∀{z rest:Cl},z.length<=Q.length->Q.zip (z++rest)=Q.zip z++(Q.drop z.length).zip rest:=by
 induction Q with
 | nil=>
  intro z rest h
  obtain rfl:=fw (Nat.le_zero.mp h)
  rfl
 | cons p Q w=>
  intro z rest h
  cases z with
  | nil=>rfl
  | cons v z=>exact ab _ (w (kz h))
theorem xu{z Q:Type}{l:List z}:∀{r:List Q},l.zip r=(l.take r.length).zip r:=by
 induction l with
 | nil=>exact λ{r}=>by exact Eq.substr take_nil rfl
 | cons a l w=>
  intro r
  cases r with
  | nil=>rfl
  | cons b r=>exact ab _ w
theorem Co{ps:Bi}{z d1 d2:Cl}{k:Nat}(Q:ps.Nodup)(w:k+d1.length=z.length)(U:z.length<=ps.length) :
  ps.zip z++((ps.drop k).zip (d1++d2)).filter (λx=>((ps.zip z).lookup x.1).isNone)=ps.zip (z++d2):=by
 (erw[sf U];erw[sf (ki▸Nat.le_sub_of_add_le (kb k _▸w▸U))];erw[drop_drop];erw[w];erw[filter_append _ _])
 have v:((ps.drop k).zip d1).filter (λx=>((ps.zip z).lookup x.1).isNone)=[]:=filter_eq_nil_iff.mpr λx y=>by
  have q:x.1∈(ps.drop k).take d1.length:=(of_mem_zip (show(x.1,x.2)∈((ps.drop k).take d1.length).zip d1 from xu (l:=ps.drop k)▸y)).1
  erw[jf (w▸take_add▸cq _ q)]
  exact c6
 have V:((ps.drop z.length).zip d2).filter (λx=>((ps.zip z).lookup x.1).isNone)=(ps.drop z.length).zip d2:=filter_eq_self.mpr λx y=>
  ab Option.isNone (oz λY=>(kO.mp ((take_append_drop z.length ps).symm▸Q:(ps.take z.length++ps.drop z.length).Nodup)).2.2 _ Y _ (of_mem_zip (show(x.1,x.2)∈_ from y)).1 rfl)
 (erw[v];erw[V];exact Eq.substr (nil_append _) rfl)
theorem Fw{p:Arguments}(Q:p.posonlyargs=[])(w:p.vararg=none)(y:p.kwonlyargs=[])(z:p.kwarg=none):p={ p with posonlyargs:=[],vararg:=none,kwonlyargs:=[],kwarg:=none }:=by
 cases p;cases Q;cases w;cases y;cases z;rfl
theorem Fx{P V D:Nat}(z:V<=P)(Q:D<=P)(w:P<=V+D):P - D+(D - (P - V))=V:=by
 obtain⟨r,rfl⟩:=Nat.exists_eq_add_of_le z
 obtain⟨e,rfl⟩:=Nat.exists_eq_add_of_le (Nat.le_of_add_le_add_left w)
 (erw[Nat.add_sub_cancel_left _ _];erw[Nat.add_sub_cancel_left _ _];erw[kb V r];rewrite[Nat.add_sub_add_left])
 exact hY (Nat.le_of_add_le_add_left (kb V r▸Q))
theorem Cp{w:Bi}{Q dV:Cl}(Y:w.Nodup)(U:Q.length<=w.length)(v:dV.length<=w.length)(y:w.length<=Q.length+dV.length) :
  ((w++[]).filterMap λn=>((w.zip Q++((w.drop (w.length - dV.length)).zip dV).filter λx:Str×Value=>((w.zip Q).lookup x.1).isNone).lookup n).map (n,·))=w.zip (Q++dV.drop (dV.length - (w.length - Q.length))):=by
 have z:=Co (k:=w.length - dV.length) (d1:=dV.take (dV.length - (w.length - Q.length))) (d2:=dV.drop (dV.length - (w.length - Q.length))) Y ((ab (w.length - dV.length+·) (length_take_of_le (Nat.sub_le _ _))).trans (Fx U v y)) U
 rw[take_append_drop] at z
 (erw[eR _];erw[z])
 exact AS Y (by(erw[bp];erw[ki];erw[mn (Nat.sub_le_iff_le_add'.mpr y)]);exact kS U)
section
theorem Cr{z:Type}{a b:Sem z}{Q:z->Shared->Prop}(e:a=b)(h:wpAny M A b Q E s):wpAny M A a Q E s:=e▸h
theorem Fy{l:Bi}{p:Str->Bool}(h:∀n∈l,p n=false):(!(l.filter p).isEmpty)=false:=by
 erw[filter_eq_nil_iff.mpr λn z=>(h n z).symm▸c6];rfl
noncomputable def p9(fd:FuncData):List Str:=fd.params.args.map (·.arg)
noncomputable def Cs(Q:Bi)(z:Cl)(Y U:Option (Array Value)->Sem (List (Str×Value)))(y:List Value->List Value)(o:Option (Array Value)):Sem (List (Str×Value)):=
 if (decide (z.length>Q.length)&&true)=true then Y o else if (!((Q.take (Q.length - (y (o.getD #[]).toList).length)).filter λn=>((Q.zip z).lookup n).isNone).isEmpty)=true then U o else
  forIn ((Q.drop (Q.length - (y (o.getD #[]).toList).length)).zip (y (o.getD #[]).toList)) (Q.zip z) yW >>= λw=>pure ((Q++[]).filterMap λn=>(w.lookup n).map (n,·))
theorem AU(fd:FuncData)(z:Cl):∃Q w,bindArgs { fd with params:={ fd.params with posonlyargs:=[],vararg:=none,kwonlyargs:=[],kwarg:=none } } ⟨z,[]⟩=seqItems? fd.defaults >>= Cs (p9 fd) z Q w λd=>d.drop (d.length - (p9 fd).length):=⟨_,_,rfl⟩
theorem Fz{fd:FuncData}{w:Cl}(Y:(p9 fd).Nodup)
(V:∀Q:Option (Array Value)->Shared->Prop,(∀r,(r.getD #[]).toList=dV->Q r s)->wpAny M A (seqItems? fd.defaults) Q E s)(v:w.length<=(p9 fd).length)(U:dV.length<=(p9 fd).length)(y:(p9 fd).length<=w.length+dV.length){Q:List (Str×Value)->Shared->Prop}
(h:Q ((p9 fd).zip (w++dV.drop (dV.length - ((p9 fd).length - w.length)))) s):wpAny M A (bindArgs { fd with params:={ fd.params with posonlyargs:=[],vararg:=none,kwonlyargs:=[],kwarg:=none } } ⟨w,[]⟩) Q E s:=by
 obtain⟨k,j,e⟩:=AU fd w
 refine Cr e (ag (V _ λr J=>?_))
 have o:(r.getD #[]).toList.drop ((r.getD #[]).toList.length - (p9 fd).length)=dV:=by rw[J,Nat.sub_eq_zero_of_le U];rfl
 have z:∀L:List Value->List Value,L (r.getD #[]).toList=dV->wpAny M A (Cs (p9 fd) w k j L r) Q E s:=λL O=>by
  unfold Cs
  rw[O]
  refine lr (dT λh=>Nat.not_lt.mpr v (a7 (bn.mp h).1)) (lr (dT λh=>c6 ((Fy λn p=>jf (take_subset_take_left _ (Nat.sub_le_iff_le_add.mpr y) p)).symm.trans h)) (ag (Cr (xr _ _ ?_) (bj (bj (Cp Y v U y▸h))))))
  rw[map_fst_zip (by rw[ki,mn U];exact cr _)]
  exact Y.sublist (drop_sublist _ _)
 exact z (λd=>d.drop (d.length - (p9 fd).length)) o
theorem Ct{fd:FuncData}{z:Cl}(v:fd.params.posonlyargs=[])(V:fd.params.args.map (·.arg)=w)(k:fd.params.vararg=none)(j:fd.params.kwonlyargs=[])(Y:fd.params.kwarg=none)(U:w.Nodup)
(J:∀Q:Option (Array Value)->Shared->Prop,(∀r,(r.getD #[]).toList=dV->Q r s)->wpAny M A (seqItems? fd.defaults) Q E s)(o:z.length<=w.length)(O:dV.length<=w.length)(y:w.length<=z.length+dV.length){Q:List (Str×Value)->Shared->Prop}
(h:Q (w.zip (z++dV.drop (dV.length - (w.length - z.length)))) s):wpAny M A (bindArgs fd ⟨z,[]⟩) Q E s:=by
 subst V
 exact Cr (ab (λp=>bindArgs { fd with params:=p } ⟨z,[]⟩) (Fw v k j Y)) (Fz U J o O y h)
end
noncomputable def f7(fd:FuncData)(f:Nat)(L:Addr):Env:=newEnv fd.scope L mainGlobals (cellsFrom (L+1) fd.scope.names []) (fd.qualname++".<locals>.") (some f) fd.code none builtinsNs
theorem rM{names:List (Str×NameKind)}:∀{n:Nat} {acc:GE},((x,cell)∈names∨∃a,acc.lookup x=some a)->∃a,(cellsFrom n names acc).lookup x=some a:=by
 induction names with
 | nil=>exact λh=>h.elim (λh=>nomatch h) id
 | cons p r y=>
  intro n acc h
  obtain⟨z,Q⟩:=p
  show ∃a,List.lookup x (if (Q==cell)=true then cellsFrom (n+1) r ((z,n)::acc) else cellsFrom n r acc)=some a
  by_cases w:(Q==cell)=true
  ·erw[ch w]
   refine y ?_
   cases e:x==z with
   | true=>exact .inr ⟨n,by(erw[lh];exact Eq.substr e rfl)⟩
   | false=>exact h.imp (λh=>(bt.mp h).resolve_left λq=>(lw.mp e) (ab Prod.fst q)) λ⟨a,Y⟩=>⟨a,by(erw[lh];erw[e]);exact Y⟩
  ·erw[ca w]
   exact y (h.imp_left λh=>(bt.mp h).resolve_left λq=>w (ey.mpr (ab Prod.snd q).symm))
theorem FA{i:Nat}(z:B2):∀{k:Nat},i<k->locs k z i=none:=by
 induction z with
 | nil=>exact λw=>rfl
 | cons v z Q=>exact λh=>(ca (dr h)).trans (Q (im h))
noncomputable def yX(k:Nat)(z:B2)(L:E1):Nat->Option CV:=match z with
 | []=>L
 | v::z=>yX (k+1) z (dU L k v)
theorem AW{i:Nat}(z:B2):∀(k:Nat) (L:E1),yX k z L i=(locs k z i).elim (L i) some:=by
 induction z with
 | nil=>exact λQ Q=>rfl
 | cons v z w=>
  intro k L
  refine(w (k+1) (dU L k v)).trans ?_
  show _=Option.elim (if i=k then some v else locs (k+1) z i) (L i) some
  by_cases e:i=k
  ·(erw[ch e];erw[FA z (e▸dq k)];erw[e]);exact gy L k v
  ·erw[ca e];exact ab (λo=>Option.elim (locs (k+1) z i) o some) (iQ L v e)
theorem AX(z:B2):yX 0 z (λQ=>none)=locs 0 z:=by
 funext i
 rw[AW]
 cases locs 0 z i <;> rfl
section
variable{g:G}{z:AT}
theorem storeAll(o:gz z)(f:Str×Value->PUnit->Sem (ForInStep PUnit))(O:∀n v u,f (n,v) u=(do storeName env n v;pure (.yield ⟨⟩))){Q:PUnit->Shared->Prop}
(Y:Bi):∀(w:Cl) (y:B2) (k:Nat) (s:Shared) (st:St),(∀i x,Y[i]?=some x->(x,k+i)∈z/\(env.kindOf x=some .local∨env.kindOf x=some .cell))->y.length=Y.length->RVs s.heap w y->az g true Pr env z s st->
   (∀s',az g true Pr env z s' { st with L:=yX k y st.L }->Q ⟨⟩ s')->wpAny (model g.prog g.w) A (forIn (Y.zip w) ⟨⟩ f) Q E s:=by
 induction Y with
 | nil=>
  intro w y k s st V U j R h
  obtain rfl:=fw U
  exact gw (h s R)
 | cons p Y l=>
  intro w y k s st V U j R h
  cases y with
  | nil=>exact absurd U.symm (ml _)
  | cons c y=>
   obtain⟨v,T,rfl,a,b⟩:=j.c
   have J:=V 0 p rfl
   erw[zip_cons_cons]
   refine fO ?_
   rw[O]
   exact ag (R.store o J.1 rfl J.2 a λs' C t N=>bj (l T y (k+1) s' _ (λi x B=>(iv k i)▸V (i+1) x B) (Nat.succ.inj U) (b.mono t) C h))
theorem Cu{fd:FuncData}{H:CH}(R:av g.w g.AN g.os g.h₀ V s H)(N:Fls g V)(hF:gz z)(k:fd.scope.kind=.function)(J:∀x i,(x,i)∈z->fd.scope.names.lookup x=some .local∨fd.scope.names.lookup x=some .cell)
{c:Bi}{C:B2}(hp:∀i x,c[i]?=some x->(x,i)∈z)(hl:C.length=c.length)(hv:RVs s.heap w C){Q:Env->Shared->Prop}
(h:∀s',az (g.fr (f7 fd f s.heap.objs.size::g.fs)) true V (f7 fd f s.heap.objs.size) z s' ⟨H,locs 0 C⟩->Q (f7 fd f s.heap.objs.size) s') :
  wpAny (model g.prog g.w) A (newFunctionEnv fd.scope mainGlobals [] (c.zip w) (fd.qualname++".<locals>.") (some f) fd.code none builtinsNs) Q E s:=by
 simp only[newFunctionEnv,Option.isSome_none,Bool.false_eq_true,if_false]
 refine ag (wpAny_alloc ?_)
 refine ag (wpAny_layCells _ (λP O D=>by cases z0:O==cell <;> simp) _ _ _ _ ?_)
 have B:=cellsFrom_ok fd.scope.names (s.heap.push { cls:=.type "frame",data:=.dict #[] }) (s.heap.objs.size+1) [] ⟨λY Y hm=>(nomatch hm),Pairwise.nil⟩ (by erw[Heap.size_push _ _];exact cr _)
 rw[Heap.size_push] at B
 erw[show({ s with heap:=s.heap.push { cls:=.type "frame",data:=.dict #[] } }:Shared).heap.objs.size=s.heap.objs.size+1 from Heap.size_push ..]
 have I:∀b o,s.heap.get? b=some o->(pushCells (s.heap.push { cls:=.type "frame",data:=.dict #[] }) fd.scope.names).get? b=some o:=λb o e=>pushCells_keeps _ _ b o (dA _ e)
 have M:(pushCells (s.heap.push { cls:=.type "frame",data:=.dict #[] }) fd.scope.names).get? s.heap.objs.size=some { cls:=.type "frame",data:=.dict #[] }:=pushCells_keeps _ _ _ _ (dv _ rfl)
 have d:(pushCells (s.heap.push { cls:=.type "frame",data:=.dict #[] }) fd.scope.names).Ns s.heap.objs.size (λY=>none):=(Heap.Ns.new s.heap (.type "frame")).keeps (pushCells_keeps _ _)
 have R1:av g.w g.AN g.os g.h₀ V { s with heap:=pushCells (s.heap.push { cls:=.type "frame",data:=.dict #[] }) fd.scope.names } H:=R.ext I rfl rfl
 have v:∀b,s.heap.objs.size<=b->(∀o,¬ V b o)/\¬ Own (pushCells (s.heap.push { cls:=.type "frame",data:=.dict #[] }) fd.scope.names) H b:=λb l=>by
  have S:∀o,s.heap.get? b≠some o:=λo e=>absurd (fv e) (Nat.not_lt.mpr l)
  exact⟨λo p=>by
   obtain⟨o',e,_⟩:=R.b3 b o p
   exact S o' e,R.iw (s':={ s with heap:=_ }) I S⟩
 have W:(f7 fd f s.heap.objs.size).locals=s.heap.objs.size:=rfl
 have z1:(f7 fd f s.heap.objs.size).cells=cellsFrom (s.heap.objs.size+1) fd.scope.names []:=rfl
 have L:∀x,(f7 fd f s.heap.objs.size).kindOf x=fd.scope.names.lookup x:=λY=>rfl
 have RF:az (g.fr (f7 fd f s.heap.objs.size::g.fs)) true V (f7 fd f s.heap.objs.size) z { s with heap:=pushCells (s.heap.push { cls:=.type "frame",data:=.dict #[] }) fd.scope.names } ⟨H,λY=>none⟩:=by
  refine⟨R1,⟨k,rfl,rfl,⟨_,d,λx i t X=>rfl⟩,λx i t X=>?_⟩,λb l=>?_,λY x i y j a t hy z2 z3 m r=>?_,λb l=>?_⟩
  ·have F:fd.scope.names.lookup x=some .cell:=by
    rcases X with h | h
    ·exact h
    ·rw[L] at h
     rcases J x i t with Z | Z <;> rw[Z] at h <;> cases h
   obtain⟨a,n⟩:=rM (x:=x) (n:=s.heap.objs.size+1) (names:=fd.scope.names) (acc:=[]) (.inl (mem_of_lookup F))
   exact⟨a,none,n,(B.empty x a (mem_of_lookup n)).1,rfl⟩
  ·have T:s.heap.objs.size<=b:=by
    rcases l with rfl | ⟨x,i,_,_,n⟩
    ·exact cr _
    ·exact Nat.le_of_succ_le (B.empty x b (mem_of_lookup n)).2
   exact⟨λY=>(v b T).1,(v b T).2⟩
  ·exact name_of_addr B.apart (mem_of_lookup m) (mem_of_lookup r)
  ·have U:b∈(f7 fd f s.heap.objs.size::g.fs).filterMap (·.frame):=l
   rw[filterMap_cons,show(f7 fd f s.heap.objs.size).frame=some s.heap.objs.size from rfl] at U
   rcases bt.mp U with rfl | U
   ·exact .inl ⟨rfl,λo ho=>by
     rw[M] at ho;cases ho;rfl⟩
   ·exact .inr (N b U)
 refine ag (storeAll (g:=(g.fr (f7 fd f s.heap.objs.size::g.fs))) (env:=f7 fd f s.heap.objs.size) (Pr:=V) hF _ (λY Y Y=>rfl) c w C 0 _ ⟨H,λY=>none⟩ (λi x t=>?_) hl (hv.mono (TK.of_keep I)) RF λs' R'=>bj (h s' ?_))
 ·have:=hp i x t
  erw[lL _]
  exact⟨this,by erw[L _];exact J x i this⟩
 ·rw[← AX];exact R'
end
structure yY(K:Frag)(h₀:Heap)(f:Nat)(d:Fn)(fd:FuncData)(body:List Stmt)(vm:AT):Prop where
 obj:∃o,h₀.get? f=some o/\o.data=.func fd
 body:fd.body=.stmts body
 clo:fd.closure=[]
 glob:fd.globals=mainGlobals
 bi:fd.builtins=builtinsNs
 co:fd.scope.isCoroutine=false
 gen:fd.scope.isGenerator=false
 kind:fd.scope.kind=.function
 code:h₀.CodeRec fd.code fd.qualname
 Iz:gz vm
 vk:∀x i,(x,i)∈vm->fd.scope.names.lookup x=some .local∨fd.scope.names.lookup x=some .cell
 po:fd.params.posonlyargs=[]
 va:fd.params.vararg=none
 ko:fd.params.kwonlyargs=[]
 kw:fd.params.kwarg=none
 par:∀i x,(fd.params.args.map (·.arg))[i]?=some x->(x,i)∈vm
 nd:(fd.params.args.map (·.arg)).Nodup
 ar:(fd.params.args.map (·.arg)).length=d.arity
 df:d.dflt.length<=d.arity
 dfl:(fd.defaults=.none/\d.dflt=[])∨∃T o vs n,fd.defaults=.ref T/\h₀.get? T=some o/\o.data=.seq vs n/\RVs h₀ vs.toList d.dflt
structure Prog(g:G)(F:Nat->Option Fn):Prop where
 ok:g.Ok
 defs:∀f d,F f=some d->∃fd body vm,yY g.K g.h₀ f d fd body vm/\
  ∀(n:Nat) (fs:List Env) (L:Addr),jw (g.dn n (calls F g.M n) (f7 fd f L::fs))->FS (g.dn n (calls F g.M n) (f7 fd f L::fs))->
   SSs (g.dn n (calls F g.M n) (f7 fd f L::fs)) (f7 fd f L) vm d.body (execs body (f7 fd f L))
theorem jw.push{g:G}(h:jw (g.fr (Q))){e:Env}(y:e.scope.kind≠.module)(Y:e.frame=some L)(U:g.h₀.get? L=none):jw (g.dn n (w) (e::Q)):=
 ⟨λv z=>by
  rcases bt.mp z with rfl | z
  ·exact⟨y,L,Y,U⟩
  ·exact h.all v z⟩
theorem yY.Nj{g:G}{fd:FuncData}{body:List Stmt}{H:CH}(D:yY g.K g.h₀ f d fd body U)(R:av g.w g.AN g.os g.h₀ v s H) :
  ∃Y,RVs s.heap Y d.dflt/\∀Q:Option (Array Value)->Shared->Prop,∀E,(∀r,(r.getD #[]).toList=Y->Q r s)->wpAny (model g.prog g.w) A (seqItems? fd.defaults) Q E s:=by
 rcases D.dfl with⟨z,w⟩ | ⟨T,oT,V,k,z,w,j,J⟩
 ·exact⟨[],w▸.nil,λQ E y=>z▸bj (y none rfl)⟩
 ·exact⟨V.toList,J.mono (TK.of_keep R.old),λQ E y=>z▸wpAny_seqItems (R.old T oT w) j (y _ rfl)⟩
theorem room{a n u c d e L:Nat}(h:a+u * (n+1)+e<L)(k:c+d<=u+e):a+c+u * n+d<L:=
 ax (ae (bv ((ab (·+d) (Nat.add_right_comm a c (u * n))).trans (Nat.add_assoc _ c d))) (ae (ew k (a+u * n)) (bv ((Nat.add_assoc (a+u * n) u e).symm.trans (ab (·+e) (Nat.add_assoc a (u * n) u)))))) h
theorem Prog.fs(P:Prog g F):∀(n:Nat) (fs:List Env),jw (g.fr (fs))->FS (g.dn n (calls F g.M n) (fs))
 | 0,fs,p=>λf w k A Pr s H Q R O l Y a L E=>L.elim
 | n+1,fs,p=>by
  intro f w k A Pr s H Q R O l Y a L E
  obtain⟨d,K,U,v,L⟩:=L
  obtain⟨fd,X,vm,D,u⟩:=P.defs f d K
  obtain⟨o,q,t⟩:=D.obj
  have hu:A.units+200 * (n+1)+100<cLine:=O.units
  have T:A.depth+10 * (n+1)+5<recursionLimit:=O.depth
  have Y:av g.w g.AN g.os g.h₀ Pr s H:=Y
  have I:=Y.old f o q
  have j:=a.length
  refine codeAny_call_function (ax (ae (dE _ _) (dE _ _)) T) I t D.co D.gen D.body (D.code.keeps Y.old) ?_
  obtain⟨dV,x,M⟩:=D.Nj (A:=A.in1) Y
  have J:=x.length
  have y:=D.ar
  refine Ct D.po rfl D.va D.ko D.kw D.nd (λQ=>M Q _) (ae (bv j) (ae U (bv y.symm))) (ae (bv J) (ae D.df (bv y.symm))) (y.symm▸j.symm▸J.symm▸v) ?_
  (erw[D.glob];erw[D.clo];erw[D.bi])
  have m:RVs s.heap (w++dV.drop (dV.length - ((fd.params.args.map (·.arg)).length - w.length))) (k++d.dflt.drop (d.dflt.length - (d.arity - k.length))):=by
   (erw[J];erw[j];erw[y])
   exact a.append (x.drop _)
  have i:(k++d.dflt.drop (d.dflt.length - (d.arity - k.length))).length=(fd.params.args.map (·.arg)).length:=by
   (erw[bp];erw[ki];erw[y];erw[mn (Nat.sub_le_of_le_add (kb _ _▸v))])
   exact kS U
  have c:Fls (g.fr (fs)) Pr:=l
  refine Cu (g:=(g.fr (fs))) (f:=f) Y c D.Iz D.kind D.vk D.par i m λC z=>⟨P.ok.nolimit.keeps z.H.old,codeAny_func ?_⟩
  have r:g.h₀.get? s.heap.objs.size=none:=by
   cases e:g.h₀.get? s.heap.objs.size with
   | none=>rfl
   | some o=>exact absurd (fv (Y.old _ _ e)) (kv _)
  have V:jw (g.dn n (calls F g.M n) (f7 fd f s.heap.objs.size::fs)):=p.push (by show fd.scope.kind≠.module;erw[D.kind];decide) rfl r
  have b:jw (g.fr (f7 fd f s.heap.objs.size::fs)):=⟨V.all⟩
  have S:OKA (g.dn n (calls F g.M n) (f7 fd f s.heap.objs.size::fs)) (A.deeper (f7 fd f s.heap.objs.size)):=⟨λB=>O.handled,
   room (u:=200) hu (by decide),room (u:=10) T (by decide),O.guards,ab (Option.map (f7 fd f s.heap.objs.size::·)) O.frames⟩
  refine u n fs s.heap.objs.size V (Prog.fs P n _ b) (A.deeper (f7 fd f s.heap.objs.size)) Pr C ⟨H,locs 0 (k++d.dflt.drop (d.dflt.length - (d.arity - k.length)))⟩ _ (λB B=>False) _ _ S ⟨z.H,z.L,z.np,z.inj,z.ofr⟩ L (λfl fc s' z0 hf Z N=>?_) λB B h=>h.elim
  cases hf with
  | next=>exact E _ _ _ _ .none Z.H N
  | brk=>exact N.elim
  | cont=>exact N.elim
  | ret W=>exact E _ _ _ _ W Z.H N
section
variable{g:G}{z:Env}{w:AT}
theorem qt
(h:wpAny M A (eval y z) (λv Y=>wpAny M A (converted 115 v) (λr U=>wpAny M A (formatField r empty) Q E U) E Y) E s):wpAny M A (eval (.FormattedValue y 115 none k) z) Q E s:=by
 rw[arm_eval_FormattedValue]
 refine ag (wpAny_mono h (λv Y V=>?_) λj j x=>x)
 refine ag (mB ?_)
 show wpAny _ _ (do let J ← holding [v] (converted 115 v);formatField J empty) Q E Y
 exact ag (eA V)
theorem Cv{x:Str}(h:x.length<=1000000):x.length<=sizeLine:=ae h (by decide)
theorem Cw:(ofString " -> ").length=4:=by decide +kernel
theorem Nk{x:Str}(h:x.length<=1000000):(x++ofString " -> ").length<=sizeLine:=by(erw[strLen_append _ _];erw[Cw]);exact ae (lk h 4) (by decide)
theorem FD{x y:Str}(h:x.length<=1000000)(Q:y.length<=1000000):(x++ofString " -> "++y).length<=sizeLine:=by(erw[strLen_append _ _];erw[strLen_append _ _];erw[Cw]);exact ae (h7 (lk h 4) Q) (by decide)
theorem AY(x:Str):empty++x=x:=by
 show mk (#[]++x.cps)=mk x.cps
 exact Eq.substr Array.empty_append rfl
theorem vt{x:Str}{Q:AC}(U:x.length<=1000000)(h:∀v k,Q (.str x v) { s with toks:=k }) :
  wpAny M A (converted 115 (.str x t)) (λr y=>wpAny M A (formatField r empty) Q E y) E s:=by
 show wpAny M A (habitSame "fstring-hands-on-the-str" (.str x t)) _ E s
 exact habitSame_str (λv k=>formatField_str (λY V=>h Y V) (Cv U)) (Cv U)
theorem Cx(Q:Bi):pds (Q.map .str)=Q.map .str:=by
 induction Q with
 | nil=>rfl
 | cons x r y=>exact ab (PyData.str x::·) y
theorem xw{Q:Bi}(h:∀x∈Q,x.cps.toList.all (Nat.blt · 128)=true):CV.bD (Q.map .str)=true/\PyData.showableAll (Q.map .str)=true/\PyData.hasDictAll (Q.map .str)=false/\PyData.depthAll (Q.map .str)=0:=by
 induction Q with
 | nil=>exact⟨rfl,rfl,rfl,rfl⟩
 | cons x r Y=>
  have i:=Y λy U=>h y (bb _ U)
  exact⟨bn.mpr ⟨h x aM,i.1⟩,i.2.1,i.2.2.1,(Nat.zero_max _).trans i.2.2.2⟩
theorem ES.js(O:g.Ok)(Z:ES g z w N (eval a z))(hb:ES g z w D (eval b z)) :
  ES g z w (.js N D) (eval (.JoinedStr [.FormattedValue a 115 none S,.Constant (.str (ofString " -> ")) k W,.FormattedValue b 115 none I] x) z):=by
 intro A M s st Q X P E L R hw h m
 refine JoinedStr_many (joinParts_cons (qt (Z A M s st _ X _ E L R hw (λv c i V hv J Y=>?_) m)))
 obtain⟨f,rfl,j,Y⟩:=Y
 obtain⟨t0,rfl⟩:=hv.c
 refine vt j λt' r=>?_
 show(empty++f).length<=sizeLine/\wpAny _ A (joinParts (empty++f) _) P E _
 erw[AY f]
 refine⟨Cv j,joinParts_cons (wpAny_Constant_str ⟨Nk j,?_⟩)⟩
 show wpAny _ A (joinParts _ [eval (.FormattedValue b 115 none I) z]) P E _
 refine joinParts_cons (qt ((hb A M _ V _ X _ E L ((J.toks _).toks _) Y (λu d U C F y Y=>?_) m)))
 rcases Y with⟨t,rfl,B,Y⟩ | ⟨l,xs,rfl,hl,hp,T,Y⟩
 ·obtain⟨t1,rfl⟩:=F.c
  exact vt B λt' r=>⟨FD j B,joinParts_nil (h _ _ _ _ (.str _ _) ((y.toks _).toks _) (Y _)) (FD j B)⟩
 ·obtain rfl:u=.ref l:=F.c
  obtain⟨ws,⟨o,ho,hc,n,hd⟩,h2,_⟩:=y.H.cS hl
  have q:=xw hp
  obtain⟨as,p⟩:=h2.reads q.1
  rw[Cx] at p
  show wpAny _ A (pyStrObj (.ref l)) _ E U
  refine pyStrObj_of_reads (.list ho hc hd p) q.2.1 (λe=>nomatch q.2.2.1.symm.trans e) L.guards (ax (h7 (dE _ _) (by show PyData.depthAll _+1+1<=150;erw[q.2.2.2];decide)) L.units) (λζ ζ e=>e) (λh' u tk hk=>?_) (Cv T)
  exact formatField_str (λz0 r=>⟨FD j T,joinParts_nil (h _ _ _ _ (.str _ _) (y.ext (s':={ U with heap:=h',toks:=_ }) hk rfl rfl) Y) (FD j T)⟩) (Cv T)
end
theorem ah(h:(a&&b)=true):a=true:=(bn.mp h).1
theorem ai(h:(a&&b)=true):b=true:=(bn.mp h).2
theorem gR{a:Bool}(h:(!a)=true):a=false:=Bool.not_eq_true' a▸h
noncomputable abbrev NM:=List (Str×NameKind)
noncomputable abbrev VM:=List (Str×Nat)
noncomputable def tX:List Nat->List Nat->Bool
 | [],m=>m.isEmpty
 | a::l,m=>match m with
  | []=>false
  | b::m=>Nat.beq a b&&tX l m
theorem sj:∀{l m:Bz},tX l m=true->l=m
 | [],[],_=>rfl
 | a::l,b::m,h=>by(erw[Nat.eq_of_beq_eq_true (ah h)];exact Eq.substr (sj (ai h)) rfl)
theorem nY:∀l:List Nat,tX l l=true
 | []=>rfl
 | a::l=>bn.mpr ⟨Nat.beq_refl a,nY l⟩
noncomputable def cV(a b:Str):Bool:=tX a.cps.toList b.cps.toList
theorem aL:cV a b=true↔a=b:=by
 refine⟨λh=>?_,λh=>h▸nY _⟩
 obtain⟨a⟩:=a;obtain⟨b⟩:=b
 exact ab mk (Array.toList_inj.mp (sj h))
theorem vv(h:cV a b=false):a≠b:=λe=>Bool.noConfusion ((aL.mpr e).symm.trans h)
theorem lP(h:cV a b=false):(a==b)=false:=lw.mpr (vv h)
noncomputable def kd:NM->Str->Option NameKind
 | [],_=>none
 | p::r,x=>if cV x p.1=true then some p.2 else kd r x
theorem yZ:∀(l:NM) (x:Str),kd l x=l.lookup x
 | [],_=>rfl
 | p::r,x=>by
  unfold kd
  erw[lh]
  cases h:cV x p.1 with
  | true=>(erw[aL.mp h];erw[mi _]);rfl
  | false=>erw[lP h];exact yZ r x
noncomputable def qA:VM->Str->Nat->Bool
 | [],_,_=>false
 | p::r,x,i=>(Nat.beq i p.2&&cV x p.1)||qA r x i
theorem cL:∀{l:VM} {x:Str} {i:Nat},qA l x i=true->(x,i)∈l
 | (y,j)::r,x,i,h=>(eb.mp h).elim (λh=>by(erw[Nat.eq_of_beq_eq_true (ah h)];erw[aL.mp (ai h)]);exact aM) λh=>bb _ (cL h)
noncomputable def y9:VM->Bool
 | []=>true
 | p::r=>r.all (λq=>!(cV p.1 q.1)&&!(Nat.beq p.2 q.2))&&y9 r
theorem tY:∀{l:VM},y9 l=true->gz l
 | [],_=>λQ Q Q Q h=>nomatch h
 | (x,i)::r,h=>by
  have z:∀{y:Str} {j:Nat},(y,j)∈r->x≠y/\i≠j:=λV=>
   have U:=eQ.mp (ah h) _ V
   ⟨vv (gR (ah U)),λe=>Bool.noConfusion ((Nat.beq_eq.mpr e).symm.trans (gR (ai U)))⟩
  intro a j b k w Y
  rcases bt.mp w with e | w <;> rcases bt.mp Y with v | Y
  ·cases e;cases v;exact⟨λQ=>rfl,λQ=>rfl⟩
  ·cases e;exact⟨λe=>absurd e (z Y).1,λe=>absurd e (z Y).2⟩
  ·cases v;exact⟨λe=>absurd e.symm (z w).1,λe=>absurd e.symm (z w).2⟩
  ·exact tY (ai h) a j b k w Y
structure CK where
 glob:List (Str×CV)
 fns:List (Str×Nat)
 nZ:List Str
 AN:List Str
 nA:Nat
structure CK.Ok(ck:CK)(g:G):Prop where
 ok:g.Ok
 glob:∀p∈ck.glob,∃v,nsIn g.K mainGlobals p.1=some (some v)/\∀h,RV h v p.2
 fns:∀p∈ck.fns,nsIn g.K mainGlobals p.1=some (some (.ref p.2))/\keepIn g.K (.ref p.2)=true
 nZ:∀x∈ck.nZ,nsIn g.K mainGlobals x=some none
 an:g.AN=ck.AN
 na:g.nA=ck.nA
 wQ:∀c m f,g.M c m=some f->keepIn g.K (.ref f)=true
 l83:findIn g.K (.ref 100) "__len__"=some (some (.ref 83))
 f83:typeIn g.K (.ref 83)=some (.type "function")
noncomputable def Kr:Str:=⟨⟨[95,95,100,101,98,117,103,95,95]⟩⟩
noncomputable def Hh:Str:=⟨⟨[95,95,99,108,97,115,115,100,105,99,116,95,95]⟩⟩
theorem FE:Kr=ofString "__debug__":=by decide +kernel
theorem Cy:Hh=ofString "__classdict__":=by decide +kernel
noncomputable def kM(x:Str):Bool:=!(cV x Kr)&&!(cV x Hh)
theorem jy(h:kM x=true):(x==ofString "__debug__")=false:=FE▸lP (gR (ah h))
theorem Cz(h:kM x=true):(x==ofString "__classdict__")=false:=Cy▸lP (gR (ai h))
noncomputable def Ks(a b:CV):Bool:=match a,b with
 | .str a,.str b=>cV a b
 | .ref a,.ref b=>Nat.beq a b
 | _,_=>false
theorem FF(h:Ks a b=true):a=b:=by
 cases a <;> cases b <;> first | exact ab _ (aL.mp h) | exact ab _ (Nat.eq_of_beq_eq_true h) | exact ff h
noncomputable def IB:List (Str×CV)->Str->CV->Bool
 | [],_,_=>false
 | p::r,x,c=>(Ks c p.2&&cV x p.1)||IB r x c
theorem vz:∀{l:List (Str×CV)} {x:Str} {c:CV},IB l x c=true->(x,c)∈l
 | (y,d)::r,x,c,h=>(eb.mp h).elim (λh=>by(erw[FF (ah h)];erw[aL.mp (ai h)]);exact aM) λh=>bb _ (vz h)
noncomputable def Ku(l:Bi)(x:Str):Bool:=l.any (cV x)
theorem CA(h:Ku l x=true):x∈l:=(any_eq_true.mp h).elim λy h=>aL.mp h.2▸h.1
noncomputable def atN(l:Bi)(n:Nat)(x:Str):Bool:=match l[n]? with
 | some y=>cV x y
 | none=>false
theorem tZ(h:atN l n x=true):l[n]?=some x:=by
 unfold atN at h
 cases e:l[n]? with
 | none=>rw[e] at h;exact ff h
 | some y=>rw[e] at h;exact ab some (aL.mp h).symm
noncomputable def CB(nm:NM)(l:NM):NM:=l.map λp=>if p.2=.free/\kd nm p.1=some .cell then(p.1,.cell) else p
structure bQ(env:Env)(nm:NM):Prop where
 names:env.scope.names=nm
 kind:env.scope.kind=.function
theorem bQ.kd{nm:NM}(h:bQ z nm)(x:Str):z.kindOf x=Mine.Internal.kd nm x:=by
 (erw[yZ _ _];erw[ip h.names]);rfl
theorem bQ.comp{nm:NM}(h:bQ Q nm){z:Scope}(w:z.kind=.function)(y:GE)(C:Addr):bQ (compEnvC z y C Q) (CB nm z.names):=
 ⟨map_congr_left λp Y=>by
  show(if (p.2==.free&&Q.scope.kind==.function&&Q.kindOf p.1==some .cell)=true then(p.1,cell) else p)=if p.2=.free/\Mine.Internal.kd nm p.1=some .cell then(p.1,cell) else p
  rw[h.kind,h.kd p.1]
  by_cases e:p.2=.free/\Mine.Internal.kd nm p.1=some .cell
  ·rw[ch e,ch (by rw[e.1,e.2];rfl)]
  ·rw[ca e,ca λq=>e ⟨ey.mp (ah (ah q)),ey.mp (ai q)⟩],w⟩
noncomputable def kCF(k:Option NameKind):Bool:=decide (k=some .cell∨k=some .free)
noncomputable def CD(l:NM)(x:Str):Bool:=l.any λp=>decide (p.2=.free)&&cV x p.1
theorem xx(h:CD l x=true):(x,free)∈l:=(any_eq_true.mp h).elim λp h=>a7 (ah h.2)▸aL.mp (ai h.2)▸h.1
noncomputable def qB(nm:NM)(Q:VM)(z:NM):VM:=Q.filter λp=>CD z p.1&&kCF (kd nm p.1)&&kCF (kd (CB nm z) p.1)
noncomputable def CF(nm:NM)(Q:VM)(z:Scope):Bool:=
 decide (z.kind=.function)&&z.names.all (λp=>decide (p.2≠.cell/\(p.2=.local->kd z.names p.1=some .local))&&(decide (p.2≠.free)||(Q.any (λq=>cV p.1 q.1)&&kCF (kd nm p.1))))
theorem CG{nm:NM}(h:bQ w nm)(j:CF nm U v=true):lK v w U (qB nm U v.names):=by
 have J:=a7 (ah j)
 have Q:=eQ.mp (ai j)
 refine⟨J,λy Y=>(a7 (ah (Q y Y))).1,λy Y e=>yZ ..▸(a7 (ah (Q y Y))).2 e,λy Y=>?_,λx i o=>?_⟩
 ·have q:=(eb.mp (ai (Q _ Y))).resolve_left λq=>a7 q rfl
  obtain⟨z,O,V⟩:=any_eq_true.mp (ah q)
  exact⟨z.2,(aL.mp V:y=z.1)▸O,(h.kd y).symm▸a7 (ai q)⟩
 ·obtain⟨p,k⟩:=eJ.mp o
  exact⟨p,xx (ah (ah k)),(h.kd x).symm▸a7 (ai (ah k)),λC f=>((h.comp J f C).kd x).symm▸a7 (ai k)⟩
noncomputable def ua:Str:=⟨⟨[97,112,112,101,110,100]⟩⟩
noncomputable def IC:Str:=⟨⟨[112,111,112]⟩⟩
noncomputable def uc:Str:=⟨⟨[105,110,115,101,114,116]⟩⟩
noncomputable def FG:Str:=⟨⟨[103,101,116]⟩⟩
noncomputable def xy:Str:=⟨⟨[105,110,100,101,120]⟩⟩
noncomputable def CJ:Str:=⟨⟨[106,111,105,110]⟩⟩
noncomputable def ID:Str:=⟨⟨[108,101,110]⟩⟩
noncomputable def CL:Str:=⟨⟨[108,105,115,116]⟩⟩
noncomputable def xA:Str:=⟨⟨[116,117,112,108,101]⟩⟩
noncomputable def ud:Str:=⟨⟨[115,111,114,116,101,100]⟩⟩
noncomputable def IE:Str:=⟨⟨[97,108,108]⟩⟩
noncomputable def Kv:Str:=⟨⟨[115,101,116]⟩⟩
noncomputable def CM:Str:=⟨⟨[101,110,117,109,101,114,97,116,101]⟩⟩
noncomputable def CN:Str:=⟨⟨[114,97,110,103,101]⟩⟩
noncomputable def CP:Str:=⟨⟨[32,45,62,32]⟩⟩
theorem FH:CP=ofString " -> ":=by decide +kernel
theorem CQ:ua=ofString "append":=by decide +kernel
theorem Kw:IC=ofString "pop":=by decide +kernel
theorem CR:uc=ofString "insert":=by decide +kernel
theorem Hi:FG=ofString "get":=by decide +kernel
theorem FI:xy=ofString "index":=by decide +kernel
theorem IF:CJ=ofString "join":=by decide +kernel
theorem Kx:ID=ofString "len":=by decide +kernel
theorem IG:CL=ofString "list":=by decide +kernel
theorem FJ:xA=ofString "tuple":=by decide +kernel
theorem CT:ud=ofString "sorted":=by decide +kernel
theorem Ky:IE=ofString "all":=by decide +kernel
theorem Kz:Kv=ofString "set":=by decide +kernel
theorem II:CM=ofString "enumerate":=by decide +kernel
theorem FL:CN=ofString "range":=by decide +kernel
structure VK where
 zA:Str->Pos->Bool:=λζ ζ=>false
 ue:Const->Bool:=λζ=>false
 zB:Expr->Str->Pos->Bool:=λζ ζ ζ=>false
 FN:Expr->Expr->Bool:=λζ ζ=>false
 xB:Option Expr->Option Expr->Option Expr->Bool:=λζ ζ ζ=>false
 FO:List Expr->Bool:=λζ=>false
 kLi:List Expr->Bool:=λζ=>false
 zC:List (Option Expr)->List Expr->Bool:=λζ ζ=>false
 FP:Expr->Operator->Expr->Bool:=λζ ζ ζ=>false
 FT:Expr->List CmpOp->List Expr->Bool:=λζ ζ ζ=>false
 kUn:UnaryOp->Expr->Bool:=λζ ζ=>false
 zD:BoolOp->List Expr->Bool:=λζ ζ=>false
 kIf:Expr->Expr->Expr->Bool:=λζ ζ ζ=>false
 zE:Expr->List Expr->List Keyword->Pos->Bool:=λζ ζ ζ ζ=>false
 IJ:Expr->Int->Option Expr->Bool:=λζ ζ ζ=>false
 zF:List Expr->Bool:=λζ=>false
 CU:Expr->List Comprehension->Scope->Pos->Bool:=λζ ζ ζ ζ=>false
noncomputable def vw(k:VK)(e:Expr):Bool:=match e with
 | .Name x p=>k.zA x p
 | .Constant c _ _=>k.ue c
 | .Attribute o x p=>k.zB o x p
 | .Subscript o x _=>k.FN o x
 | .Slice l u s _=>k.xB l u s
 | .Tuple z _ _=>k.FO z
 | .List z _=>k.kLi z
 | .Dict w Q _=>k.zC w Q
 | .BinOp a o b _=>k.FP a o b
 | .Compare a os y _=>k.FT a os y
 | .UnaryOp o a _=>k.kUn o a
 | .BoolOp o Q _=>k.zD o Q
 | .IfExp t a b _=>k.kIf t a b
 | .Call f z w p=>k.zE f z w p
 | .FormattedValue a Y s _=>k.IJ a Y s
 | .JoinedStr Q _=>k.zF Q
 | .ListComp a U v p=>k.CU a U v p
 | _=>false
section
variable{P:Expr->Prop}
theorem jm(h:vw k e=true)(n:∀x p,k.zA x p=true->P (.Name x p))(N:∀c z Y,k.ue c=true->P (.Constant c z Y))(A:∀o x p,k.zB o x p=true->P (.Attribute o x p))(D:∀o x z,k.FN o x=true->P (.Subscript o x z))(E:∀l u s z,k.xB l u s=true->P (.Slice l u s z))(I:∀Q z Y,k.FO Q=true->P (.Tuple Q z Y))(M:∀Q z,k.kLi Q=true->P (.List Q z))(d:∀y w z,k.zC y w=true->P (.Dict y w z))(m:∀a o b z,k.FP a o b=true->P (.BinOp a o b z))(i:∀a os L z,k.FT a os L=true->P (.Compare a os L z))(U:∀o a z,k.kUn o a=true->P (.UnaryOp o a z))(v:∀o w z,k.zD o w=true->P (.BoolOp o w z))(V:∀t a b z,k.kIf t a b=true->P (.IfExp t a b z))(j:∀f Q y p,k.zE f Q y p=true->P (.Call f Q y p))(J:∀a T s z,k.IJ a T s=true->P (.FormattedValue a T s z))(O:∀w z,k.zF w=true->P (.JoinedStr w z))(g:∀a C B p,k.CU a C B p=true->P (.ListComp a C B p)):P e:=by cases e <;> first | exact ff h | exact n _ _ h | exact N _ _ _ h | exact A _ _ _ h | exact D _ _ _ h | exact E _ _ _ _ h | exact I _ _ _ h | exact M _ _ h | exact d _ _ _ h | exact m _ _ _ _ h | exact i _ _ _ _ h | exact U _ _ _ h | exact v _ _ _ h | exact V _ _ _ _ h | exact j _ _ _ _ h | exact J _ _ _ _ h | exact O _ _ h | exact g _ _ _ _ h
noncomputable def dG(e:Expr)(K:Str->Pos->Bool):Bool:=vw { zA:=K } e
theorem cM{K:Str->Pos->Bool}(h:dG e K=true)(k:∀x p,K x p=true->P (.Name x p)):P e:=jm h k ff3 ff3 ff3 ff4 ff3 ff2 ff3 ff4 ff4 ff3 ff3 ff4 ff4 ff4 ff2 ff4
noncomputable def uf(e:Expr)(K:Const->Bool):Bool:=vw { ue:=K } e
theorem sq{K:Const->Bool}(h:uf e K=true)(k:∀c z Q,K c=true->P (.Constant c z Q)):P e:=jm h ff2 k ff3 ff3 ff4 ff3 ff2 ff3 ff4 ff4 ff3 ff3 ff4 ff4 ff4 ff2 ff4
noncomputable def kP(e:Expr)(K:Expr->Str->Pos->Bool):Bool:=vw { zB:=K } e
theorem iD{K:Expr->Str->Pos->Bool}(h:kP e K=true)(k:∀o x p,K o x p=true->P (.Attribute o x p)):P e:=jm h ff2 ff3 k ff3 ff4 ff3 ff2 ff3 ff4 ff4 ff3 ff3 ff4 ff4 ff4 ff2 ff4
noncomputable def sr(e:Expr)(K:Expr->Expr->Bool):Bool:=vw { FN:=K } e
theorem lQ{K:Expr->Expr->Bool}(h:sr e K=true)(k:∀o x z,K o x=true->P (.Subscript o x z)):P e:=jm h ff2 ff3 ff3 k ff4 ff3 ff2 ff3 ff4 ff4 ff3 ff3 ff4 ff4 ff4 ff2 ff4
noncomputable def zG(e:Expr)(K:Option Expr->Option Expr->Option Expr->Bool):Bool:=vw { xB:=K } e
theorem AZ{K:Option Expr->Option Expr->Option Expr->Bool}(h:zG e K=true)(k:∀l u s z,K l u s=true->P (.Slice l u s z)):P e:=jm h ff2 ff3 ff3 ff3 k ff3 ff2 ff3 ff4 ff4 ff3 ff3 ff4 ff4 ff4 ff2 ff4
noncomputable abbrev Fh:=List Expr->Bool
noncomputable def qC(e:Expr)(K:Fh):Bool:=vw { FO:=K } e
theorem jU{K:Fh}(h:qC e K=true)(k:∀z Q w,K z=true->P (.Tuple z Q w)):P e:=jm h ff2 ff3 ff3 ff3 ff4 k ff2 ff3 ff4 ff4 ff3 ff3 ff4 ff4 ff4 ff2 ff4
noncomputable def KA(e:Expr)(K:Fh):Bool:=vw { kLi:=K } e
theorem IK{K:Fh}(h:KA e K=true)(k:∀z Q,K z=true->P (.List z Q)):P e:=jm h ff2 ff3 ff3 ff3 ff4 ff3 k ff3 ff4 ff4 ff3 ff3 ff4 ff4 ff4 ff2 ff4
noncomputable def xC(e:Expr)(K:List (Option Expr)->List Expr->Bool):Bool:=vw { zC:=K } e
theorem vA{K:List (Option Expr)->List Expr->Bool}(h:xC e K=true)(k:∀z Q w,K z Q=true->P (.Dict z Q w)):P e:=jm h ff2 ff3 ff3 ff3 ff4 ff3 ff2 k ff4 ff4 ff3 ff3 ff4 ff4 ff4 ff2 ff4
noncomputable def Hj(e:Expr)(K:Expr->Operator->Expr->Bool):Bool:=vw { FP:=K } e
theorem FU{K:Expr->Operator->Expr->Bool}(h:Hj e K=true)(k:∀a o b z,K a o b=true->P (.BinOp a o b z)):P e:=jm h ff2 ff3 ff3 ff3 ff4 ff3 ff2 ff3 k ff4 ff3 ff3 ff4 ff4 ff4 ff2 ff4
noncomputable def Hl(e:Expr)(K:Expr->List CmpOp->List Expr->Bool):Bool:=vw { FT:=K } e
theorem FW{K:Expr->List CmpOp->List Expr->Bool}(h:Hl e K=true)(k:∀a os z Q,K a os z=true->P (.Compare a os z Q)):P e:=jm h ff2 ff3 ff3 ff3 ff4 ff3 ff2 ff3 ff4 k ff3 ff3 ff4 ff4 ff4 ff2 ff4
noncomputable def IM(e:Expr)(K:UnaryOp->Expr->Bool):Bool:=vw { kUn:=K } e
theorem CW{K:UnaryOp->Expr->Bool}(h:IM e K=true)(k:∀o a z,K o a=true->P (.UnaryOp o a z)):P e:=jm h ff2 ff3 ff3 ff3 ff4 ff3 ff2 ff3 ff4 ff4 k ff3 ff4 ff4 ff4 ff2 ff4
noncomputable def mT(e:Expr)(K:BoolOp->List Expr->Bool):Bool:=vw { zD:=K } e
theorem lz{K:BoolOp->List Expr->Bool}(h:mT e K=true)(k:∀o z Q,K o z=true->P (.BoolOp o z Q)):P e:=jm h ff2 ff3 ff3 ff3 ff4 ff3 ff2 ff3 ff4 ff4 ff3 k ff4 ff4 ff4 ff2 ff4
noncomputable def KC(e:Expr)(K:Expr->Expr->Expr->Bool):Bool:=vw { kIf:=K } e
theorem IP{K:Expr->Expr->Expr->Bool}(h:KC e K=true)(k:∀t a b z,K t a b=true->P (.IfExp t a b z)):P e:=jm h ff2 ff3 ff3 ff3 ff4 ff3 ff2 ff3 ff4 ff4 ff3 ff3 k ff4 ff4 ff2 ff4
noncomputable def nv(e:Expr)(K:Expr->List Expr->List Keyword->Pos->Bool):Bool:=vw { zE:=K } e
theorem jz{K:Expr->List Expr->List Keyword->Pos->Bool}(h:nv e K=true)(k:∀f z Q p,K f z Q p=true->P (.Call f z Q p)):P e:=jm h ff2 ff3 ff3 ff3 ff4 ff3 ff2 ff3 ff4 ff4 ff3 ff3 ff4 k ff4 ff2 ff4
noncomputable def CX(e:Expr)(K:Expr->Int->Option Expr->Bool):Bool:=vw { IJ:=K } e
theorem zH{K:Expr->Int->Option Expr->Bool}(h:CX e K=true)(k:∀a z s Q,K a z s=true->P (.FormattedValue a z s Q)):P e:=jm h ff2 ff3 ff3 ff3 ff4 ff3 ff2 ff3 ff4 ff4 ff3 ff3 ff4 ff4 k ff2 ff4
noncomputable def CY(e:Expr)(K:Fh):Bool:=vw { zF:=K } e
theorem CZ{K:Fh}(h:CY e K=true)(k:∀z Q,K z=true->P (.JoinedStr z Q)):P e:=jm h ff2 ff3 ff3 ff3 ff4 ff3 ff2 ff3 ff4 ff4 ff3 ff3 ff4 ff4 ff4 k ff4
noncomputable def xD(e:Expr)(K:Expr->List Comprehension->Scope->Pos->Bool):Bool:=vw { CU:=K } e
theorem vC{K:Expr->List Comprehension->Scope->Pos->Bool}(h:xD e K=true)(k:∀a z Q p,K a z Q p=true->P (.ListComp a z Q p)):P e:=jm h ff2 ff3 ff3 ff3 ff4 ff3 ff2 ff3 ff4 ff4 ff3 ff3 ff4 ff4 ff4 ff2 k
end
noncomputable def on1{z:Type}(l:List z)(K:z->Bool):Bool:=match l with | [a]=>K a | _=>false
noncomputable def on2{z:Type}(l:List z)(K:z->z->Bool):Bool:=match l with | [a,b]=>K a b | _=>false
section
variable{z:Type}{P:List z->Prop}{l:List z}
theorem jA{K:z->Bool}(h:on1 l K=true)(k:∀a,K a=true->P [a]):P l:=match l,h with
 | [a],h=>k a h
 | [],h=>ff h
 | _::_::_,h=>ff h
theorem qD{K:z->z->Bool}(h:on2 l K=true)(k:∀a b,K a b=true->P [a,b]):P l:=match l,h with
 | [a,b],h=>k a b h
 | [],h=>ff h
 | [_],h=>ff h
 | _::_::_::_,h=>ff h
end
noncomputable abbrev CkT:=CE->Bool->NM->VM->Expr->Bool
section
variable(Q:CK)(w:Bool)(c:CkT)(nm:NM)(z:VM)
noncomputable def kG(x:Str):Bool:=decide (kd nm x=some .globalImplicit)
noncomputable def vD(x y:Str):Bool:=cV x y&&kG nm x&&Ku Q.nZ x
noncomputable def lR(y:Str)(e:Expr)(K:Fh):Bool:=nv e λf Y U v=>U.isEmpty&&dG f (λx v=>vD Q nm x y)&&K Y
noncomputable def arg1(a:CE)(y:FK):Bool:=on1 y λe=>noStar e&&c a false nm z e
noncomputable def arg2(a b:CE)(y:FK):Bool:=on2 y λe f=>noStar e&&noStar f&&c a false nm z e&&c b false nm z f
noncomputable def qE(y:Str)(o:CE)(e:Expr)(K:Fh):Bool:=nv e λf v V Y=>V.isEmpty&&kP f (λU x k=>cV x y&&b4 U&&(k.endLine==Y.line)&&c o false nm z U)&&K v
noncomputable def ntB(U:Bool)(y:VM):List Nat->List Expr->Bool
 | [],Y=>Y.isEmpty
 | i::v,Y=>match Y with
  | []=>false
  | e::Y=>dG e (λx V=>qA y x i&&(decide (kd nm x=some .local)||(U&&decide (kd nm x=some .cell)&&qA z x i)))&&ntB U y v Y
noncomputable def FY(Y:Bool)(y:VM)(t:LT)(e:Expr):Bool:=match t with
 | .n i=>ntB nm z Y y [i] [e]
 | .t U=>qC e λv=>ntB nm z Y y U v
noncomputable def isTup(e:Expr):Bool:=qC e λy=>true
noncomputable def xE(i:CI):Bool:=match i with
 | .enum _=>true
 | _=>false
noncomputable def C0(e:Expr):Bool:=dG e (λy y=>true)||kP e (λy y y=>true)||sr e (λy y=>true)||nv e λy y y y=>true
noncomputable def IQ(l:CE):Bool:=match l with
 | .c v=>match v with | .none=>true | _=>false
 | _=>false
noncomputable def ug(v:CV)(k:Const):Bool:=match v with
 | .int i=>decide (k=.int i)
 | .none=>decide (k=.none)
 | .bool b=>decide (k=.bool b)
 | .str s=>match k with | .str q=>cV s q | _=>false
 | _=>false
noncomputable def qF(as:FV)(y:FK):Bool:=match as with
 | []=>y.isEmpty
 | a::as=>match y with
  | []=>false
  | e::y=>noStar e&&c a false nm z e&&qF as y
noncomputable def fnB(l:AT)(f:Nat)(as:FV)(e:Expr):Bool:=nv e λg y Y U=>Y.isEmpty&&dG g (λx U=>kG nm x&&kM x&&qA l x f)&&qF c nm z as y
noncomputable def C1(l:CE)(o:Option Expr):Bool:=match o with
 | some q=>c l false nm z q
 | none=>IQ l
noncomputable def IT(i:CI)(e:Expr):Bool:=match i with
 | .val a=>c a false nm z e
 | .enum a=>lR Q nm CM e (arg1 c nm z a)
 | .rng as=>lR Q nm CN e (qF c nm z as)
 | .items _=>false
noncomputable def KD(as:FV)(y:FK):Bool:=match as with
 | []=>y.isEmpty
 | a::as=>as.isEmpty&&on1 y λe=>c a true nm z e
noncomputable def coB(U:CE)(t:LT)(i:CI)(v:FV)(Y:Expr)(g:Comprehension)(y:Scope):Bool:=
 decide (g.is_async=0)&&CF nm z y&&C0 g.iter&&IT Q c nm z i g.iter&&y9 (aB t g.target++qB nm z y.names)&&FY (CB nm y.names) (qB nm z y.names) false (aB t g.target++qB nm z y.names) t g.target
  && (isTup g.target||!(xE i))&&c U false (CB nm y.names) (aB t g.target++qB nm z y.names) Y&&KD c (CB nm y.names) (aB t g.target++qB nm z y.names) v g.ifs
noncomputable def KG(D:CE)(t:Bool)(nm:NM)(z:VM)(e:Expr):Bool:=match D with
 | .bad=>true
 | .c v=>uf e (ug v)||dG e λx T=>kG nm x&&kM x&&IB Q.glob x v
 | .v i=>dG e λx T=>decide (kd nm x=some .local∨kd nm x=some .cell∨kd nm x=some .free)&&kM x&&qA z x i
 | .at a n=>kP e λo x T=>atN Q.AN n x&&Nat.blt n Q.nA&&b4 o&&c a false nm z o
 | .ix a k=>sr e λo J=>tK J&&c a false nm z o&&c k false nm z J
 | .sl a lo E=>sr e λo J=>zG J λl u s=>s.isNone&&c a false nm z o&&C1 c nm z lo l&&C1 c nm z E u
 | .tu as=>qC e λU=>Nat.ble as.length 1000&&qF c nm z as U
 | .li as=>KA e λU=>Nat.ble as.length 1000&&qF c nm z as U
 | .d0=>xC e λO V=>O.isEmpty&&V.isEmpty
 | .d1 k v=>xC e λO V=>on1 O λJ=>on1 V λI=>J.any (c k false nm z)&&c v false nm z I
 | .op o a b=>Hj e λy j Y=>decide (j=tL o)&&c a false nm z y&&c b false nm z Y
 | .cm o a b=>Hl e λy os M=>on1 os λj=>on1 M λY=>decide (j=nQ o)&&!(behindInMarks j Y)&&c a false nm z y&&c b false nm z Y
 | .nt a=>IM e λo y=>decide (o=.Not)&&c a t nm z y
 | .ng a=>IM e λo y=>decide (o=.USub)&&c a false nm z y
 | .an a b=>mT e λo V=>decide (o=.And)&&on2 V λy Y=>c a t nm z y&&c b t nm z Y
 | .orr a b=>mT e λo V=>decide (o=.Or)&&on2 V λy Y=>c a t nm z y&&c b t nm z Y
 | .ife d a b=>!t&&KC e λh y Y=>c d true nm z h&&c a false nm z y&&c b false nm z Y
 | .fn f as=>w&&fnB c nm z Q.fns f as e
 | .nw k as=>w&&fnB c nm z Q.fns k as e
 | .me o m as=>w&&nv e λf U O C=>O.isEmpty&&kP f (λj x F=>atN Q.AN m x&&b4 j&&(F.endLine==C.line)&&c o false nm z j)&&Nat.blt U.length 30&&qF c nm z as U
 | .b1 k a=>match k with
  | .len=>w&&lR Q nm ID e (arg1 c nm z a)
  | .list=>lR Q nm CL e (arg1 c nm z a)
  | .tuple=>lR Q nm xA e (arg1 c nm z a)
  | .sorted=>lR Q nm ud e (arg1 c nm z a)
  | .all=>w&&lR Q nm IE e (arg1 c nm z a)
  | .mS=>false
 | .uK=>lR Q nm Kv e λU=>U.isEmpty
 | .ap o x=>qE c nm z ua o e (arg1 c nm z x)
 | .po o x=>qE c nm z IC o e (arg1 c nm z x)
 | .jo o x=>qE c nm z CJ o e (arg1 c nm z x)
 | .ind o x=>qE c nm z xy o e (arg1 c nm z x)
 | .ins o i x=>qE c nm z uc o e (arg2 c nm z i x)
 | .ge o k d=>qE c nm z FG o e λU=>arg2 c nm z k d U||(arg1 c nm z k U&&IQ d)
 | .js a b=>CY e λV=>match V with
  | [p,q,r]=>CX p (λy B s=>decide (B=115)&&s.isNone&&c a false nm z y)&&uf q (ug (.str CP))&&CX r (λY B s=>decide (B=115)&&s.isNone&&c b false nm z Y)
  | _=>false
 | .co N P i A=>w&&xD e λL R S T=>on1 R λg=>coB Q c nm z N P i A L g S
end
noncomputable def chk(Q:CK)(w:Bool):Nat->CkT
 | 0=>λz z z z z=>false
 | n+1=>KG Q w (chk Q w n)
noncomputable def fE(g:G)(z:Env)(Q:VM)(w:CE)(t:Bool)(e:Expr):Prop:=(t=false->ES g z Q w (eval e z))/\(t=true->TS g z Q w (isTrue e z (eval e z)))
theorem qG(h:C0 e=true):∀x,foldedSetIterable e Q x=pure x:=λx=>
 (eb.mp h).elim (λh=>(eb.mp h).elim (λh=>(eb.mp h).elim (λh=>cM (P:=λe=>foldedSetIterable e Q x=pure x) h λz z z=>rfl) λh=>iD (P:=λe=>foldedSetIterable e Q x=pure x) h λz z z z=>rfl) λh=>lQ (P:=λe=>foldedSetIterable e Q x=pure x) h λz z z z=>rfl) λh=>jz (P:=λe=>foldedSetIterable e Q x=pure x) h λz z z z z=>rfl
theorem zI(h:IQ l=true):l=.c .none:=by
 cases l with
 | c v=>cases v <;> first | rfl | exact ff h
 | _=>exact ff h
theorem FZ(h:isTup e=true):∃z k p,e=.Tuple z k p:=jU (P:=λe=>∃z k p,e=.Tuple z k p) h λz k p Q=>⟨z,k,p,rfl⟩
section
variable{Q:CK}{c:CkT}{nm:NM}{vm:VM}{g:G}{env:Env}{e:Expr}
theorem C2(v:bQ env nm):∀{w:Bz} {y:FK},ntB nm vm U z w y=true->NT U env z vm w y
 | [],[],_=>.nil
 | [],_::_,h=>ff h
 | _::_,[],h=>ff h
 | i::w,e::y,h=>cM (P:=λe=>NT U env z vm (i::w) (e::y)) (ah h) λx p V=>.cons (cL (ah V)) ((eb.mp (ai V)).imp (λq=>(v.kd x).trans (a7 q)) λq=>⟨(v.kd x).trans (a7 (ai (ah q))),cL (ai q),ah (ah q)⟩) (C2 v (ai h))
theorem xF(y:bQ env nm)(h:FY nm vm w z t e=true):pT w env z vm t e:=by
 cases t with
 | n i=>
  have U:=C2 y h
  cases U with
  | cons a b c=>exact⟨_,_,rfl,.cons a b c⟩
 | t v=>exact jU (P:=λe=>pT w env z vm (.t v) e) h λV k p h=>⟨V,k,p,rfl,C2 y h⟩
theorem oQ(C:CK.Ok Q g)(z:bQ env nm){P:Expr->Prop}(h:dG f (λx w=>vD Q nm x y)=true)(k:∀p,env.kindOf y=some .globalImplicit->nsIn g.K mainGlobals y=some none->P (.Name y p)):P f:=
 cM h λx p h=>aL.mp (ah (ah h))▸k p ((z.kd y).trans (a7 (aL.mp (ah (ah h))▸ai (ah h)))) (C.nZ _ (aL.mp (ah (ah h))▸CA (ai h)))
theorem gS(C:CK.Ok Q g)(U:bQ env nm){P:Expr->Prop}{K:Fh}(h:lR Q nm y e K=true)(k:∀z w p,K z=true->env.kindOf y=some .globalImplicit->nsIn g.K mainGlobals y=some none->P (.Call (.Name y w) z [] p)):P e:=
 jz h λf z v p h=>oQ C U (P:=λf=>P (.Call f z v p)) (ai (ah h)) λw V j=>eP.mp (ah (ah h))▸k z w p (ai h) V j
noncomputable def OkC(g:G)(c:CkT):Prop:=∀{z:CE} {t:Bool} {nm:NM} {vm:VM} {e:Expr},c z t nm vm e=true->∀{env:Env},bQ env nm->fE g env vm z t e
theorem OkC.es(w:OkC g c)(h:c z false nm vm e=true)(y:bQ env nm):ES g env vm z (eval e env):=(w h y).1 rfl
theorem OkC.ts(w:OkC g c)(h:c z true nm vm e=true)(y:bQ env nm):TS g env vm z (isTrue e env (eval e env)):=(w h y).2 rfl
theorem C3(O:g.Ok)(w:isTrue e env (eval e env)=(do let v ← eval e env;standAt e.pos;holding [v] (truthy v)))(h:ES g env vm z (eval e env)):fE g env vm z t e:=⟨λy=>h,λy=>ES.test O h w⟩
theorem gE(y:OkC g c)(U:bQ env nm){P:List Expr->Prop}(h:arg1 c nm vm a w=true)(k:∀e,[e].all noStar=true->(∀{z:Pos},ESs g env vm [a] (spliced (backTo z (starEach [e] env))))->P [e]):P w:=
 jA h λe h=>k e (by(erw[all_cons];erw[ah h]);rfl) (ESs.back (ah h) (y.es (ai h) U) ESs.nil)
theorem C4(w:OkC g c)(y:bQ env nm){P:List Expr->Prop}(h:arg2 c nm vm a b U=true)(k:∀e f,[e,f].all noStar=true->(∀{z:Pos},ESs g env vm [a,b] (spliced (backTo z (starEach [e,f] env))))->P [e,f]):P U:=
 qD h λe f h=>k e f (by(erw[all_cons];erw[all_cons];erw[ah (ah (ah h))];erw[ai (ah (ah h))]);rfl) (ESs.back (ah (ah (ah h))) (w.es (ai (ah h)) y) (ESs.back (ai (ah (ah h))) (w.es (ai h) y) ESs.nil))
theorem eZ(y:OkC g c)(U:bQ env nm):∀{as:FV} {z:FK},qF c nm vm as z=true->z.all noStar=true/\∀{w:Pos},ESs g env vm as (spliced (backTo w (starEach z env)))
 | [],[],_=>⟨rfl,ESs.nil⟩
 | [],_::_,h=>ff h
 | _::_,[],h=>ff h
 | a::as,e::z,h=>
  have v:=eZ y U (ai h)
  ⟨by(erw[all_cons];erw[ah (ah h)];erw[v.1]);rfl,ESs.back (ah (ah h)) (y.es (ai (ah h)) U) v.2⟩
theorem jV(V:OkC g c)(j:bQ env nm){P:Expr->Prop}{K:Fh}(h:qE c nm vm y o e K=true)(k:∀z w U p,K w=true->b4 z=true->(U.endLine==p.line)=true->ES g env vm o (eval z env)->P (.Call (.Attribute z y U) w [] p)):P e:=
 jz h λf w J p h=>iD (P:=λf=>P (.Call f w J p)) (ai (ah h)) λz x U v=>eP.mp (ah (ah h))▸aL.mp (ah (ah (ah v)))▸k z w U p (ai h) (ai (ah (ah v))) (ai (ah v)) (V.es (ai v) j)
theorem zJ(C:CK.Ok Q g)(U:OkC g c)(z:bQ env nm)(h:IT Q c nm vm i e=true):IS g env vm i e:=by
 cases i with
 | val a=>exact IS.val C.ok (U.es h z)
 | enum a=>exact gS C z (P:=λe=>IS g env vm (.enum a) e) h λv V p h=>gE U z (P:=λv=>_->_->IS g env vm (.enum a) (.Call (.Name CM V) v [] p)) h λe k j w y=>(by rw[II] at w y ⊢;exact IS.enum C.ok w y k j)
 | rng as=>exact gS C z (P:=λe=>IS g env vm (.rng as) e) h λv V p h w y=>(by rw[FL] at w y ⊢;exact IS.rng C.ok w y (eZ U z h).1 (eZ U z h).2)
 | items=>exact ff h
theorem F5(U:OkC g c)(v:∀(C:Addr) (y:GE),bQ (compEnvC z y C env) nm):∀{as:FV} {w:FK},KD c nm vm as w=true->jv g z env vm as w
 | [],[],_=>.nil
 | [],_::_,h=>ff h
 | a::as,w,h=>eP.mp (ah h)▸jA (P:=λw=>jv g z env vm [a] w) (ai h) λe h=>.one λC y=>U.ts h (v C y)
structure CoR(g:G)(env:Env)(vm:VM)(elt:CE)(t:LT)(i:CI)(ifs:FV)(elt':Expr)(gg:Comprehension)(sc:Scope)(vm0:VM):Prop where
 as:gg.is_async=0
 V:lK sc env vm vm0
 fold:∀x,foldedSetIterable gg.iter env x=pure x
 hi:IS g env vm i gg.iter
 F:gz (aB t gg.target++vm0)
 ht:∀C cl,pT false (compEnvC sc cl C env) (aB t gg.target++vm0) vm0 t gg.target
 hto:(∃es k p,gg.target=.Tuple es k p)∨∀ce,i≠.enum ce
 helt:∀C cl,ES g (compEnvC sc cl C env) (aB t gg.target++vm0) elt (eval elt' (compEnvC sc cl C env))
 hts:jv g sc env (aB t gg.target++vm0) ifs gg.ifs
theorem zK(h:(isTup t||!(xE i))=true):(∃w k p,t=.Tuple w k p)∨∀z,i≠.enum z:=
 (eb.mp h).imp FZ λh z e=>by subst e;exact ff h
theorem C5(C:CK.Ok Q g)(k:OkC g c)(j:bQ env nm)(h:coB Q c nm vm y t i U z o J=true):CoR g env vm y t i U z o J (qB nm vm J.names):=
 have O:=ah h;have p:=ah O;have f:=ah p;have l:=ah f;have L:=ah l;have T:=ah L;have x:=ah T
 have V:=CG j (ai x)
 have w:=λC v=>j.comp V.kind v C
 ⟨a7 (ah x),V,qG (ai T),zJ C k j (ai L),tY (ai l),λC v=>xF (w C v) (ai f),zK (ai p),λC v=>k.es (ai O) (w C v),F5 k w (ai h)⟩
theorem Ho(C:CK.Ok Q g)(V:OkC g c)(y:bQ env nm){as:FV}{P:Expr->Prop}(h:fnB c nm vm Q.fns f as e=true)
(k:∀x U z p,env.kindOf x=some .globalImplicit->(x==ofString "__debug__")=false->nsIn g.K mainGlobals x=some (some (.ref f))->keepIn g.K (.ref f)=true->z.all noStar=true->(∀{v:Pos},ESs g env vm as (spliced (backTo v (starEach z env))))->P (.Call (.Name x U) z [] p)):P e:=
 jz h λj z J p h=>cM (P:=λj=>P (.Call j z J p)) (ai (ah h)) λx U w=>eP.mp (ah (ah h))▸k x U z p ((y.kd x).trans (a7 (ah (ah w)))) (jy (ai (ah w))) (C.fns _ (cL (ai w))).1 (C.fns _ (cL (ai w))).2 (eZ V y (ai h)).1 (eZ V y (ai h)).2
theorem C6(h:ug v k=true):ES g env vm (.c v) (eval (.Constant k n p) env):=by
 cases v with
 | int i=>exact a7 h▸ES.J6
 | none=>exact a7 h▸ES.HW
 | bool b=>exact a7 h▸ES.HX
 | str s=>cases k <;> first | exact ff h | exact aL.mp h▸ES.J7
 | _=>exact ff h
theorem zL(z:OkC g c)(w:bQ env nm)(h:C1 c nm vm l o=true):ES g env vm l (evalPart o env):=by
 cases o with
 | some q=>exact z.es h w
 | none=>exact zI h▸ES.AG
theorem F6(C:CK.Ok Q g)(F:Y=true->g.hd=true/\FS g)(V:OkC g c):OkC g (KG Q Y c):=by
 intro Z t nm vm e h env U
 have B:∀{e},isTrue e env (eval e env)=(do let v ← eval e env;standAt e.pos;holding [v] (truthy v))->ES g env vm Z (eval e env)->fE g env vm Z t e:=C3 C.ok
 revert h
 cases Z with
 | bad=>exact λT=>⟨λT T T T T T T T T T T hw=>hw.elim,λT T T T T T T T T T T hw=>hw.elim⟩
 | c v=>exact λh=>(eb.mp h).elim (λh=>sq h λk n p h=>B rfl (C6 h)) λh=>cM h λx p h=>(C.glob _ (vz (ai h))).elim λv J=>B rfl (ES.glob C.ok ((U.kd x).trans (a7 (ah (ah h)))) (jy (ai (ah h))) J.1 J.2)
 | v i=>exact λh=>cM h λx p h=>B rfl (ES.v (cL (ai h)) ((U.kd x).symm▸a7 (ah (ah h))) (jy (ai (ah h))) (Cz (ai (ah h))))
 | «at» a n=>exact λh=>iD h λo x p h=>B rfl (ES.at C.ok (V.es (ai h) U) (C.an▸tZ (ah (ah (ah h)))) (C.na▸Nat.blt_eq.mp (ai (ah (ah h)))) (ai (ah h)))
 | ix a k=>exact λh=>lQ h λo P p h=>B rfl (ES.ix C.ok (V.es (ai (ah h)) U) (V.es (ai h) U) (ah (ah h)))
 | sl a lo hi=>exact λh=>lQ h λo P p h=>AZ (P:=λP=>fE g env vm (.sl a lo hi) t (.Subscript o P p)) h λl u s q h=>il.mp (ah (ah (ah h)))▸B rfl (ES.sl C.ok (V.es (ai (ah (ah h))) U) (zL V U (ai (ah h))) (zL V U (ai h)))
 | tu as=>exact λh=>jU h λO n p h=>B rfl (ES.tu (eZ V U (ai h)).2 (aw (ah h)))
 | li as=>exact λh=>IK h λO p h=>B rfl (ES.li (eZ V U (ai h)).2 (aw (ah h)))
 | d0=>exact λh=>vA h λS I p h=>eP.mp (ah h)▸eP.mp (ai h)▸B rfl ES.d0
 | d1 k v=>exact λh=>vA h λS I p h=>jA (P:=λS=>fE g env vm (.d1 k v) t (.Dict S I p)) h λP h=>jA (P:=λI=>fE g env vm (.d1 k v) t (.Dict [P] I p)) h λv' h=>match P,h with
  | some w,h=>B rfl (ES.d1 (V.es (ah h) U) (V.es (ai h) U))
  | none,h=>ff (ah h)
 | op o a b=>exact λh=>FU h λr E W p h=>a7 (ah (ah h))▸B rfl (ES.op (V.es (ai (ah h)) U) (V.es (ai h) U))
 | cm o a b=>exact λh=>FW h λr os bs p h=>jA (P:=λos=>fE g env vm (.cm o a b) t (.Compare r os bs p)) h λE h=>jA (P:=λbs=>fE g env vm (.cm o a b) t (.Compare r [E] bs p)) h λW h=>
   have hm:=gR (ai (ah (ah h)))
   have eo:=a7 (ah (ah (ah h)))
   eo▸⟨λT=>ES.cm C.ok (V.es (ai (ah h)) U) (V.es (ai h) U) (eo▸hm),λT=>TS.cm C.ok (V.es (ai (ah h)) U) (V.es (ai h) U) (eo▸hm)⟩
 | nt a=>exact λh=>CW h λo r p h=>a7 (ah h)▸⟨λe=>ES.nt C.ok ((V (ai h) U).1 e),λe=>TS.nt ((V (ai h) U).2 e)⟩
 | ng a=>exact λh=>CW h λo r p h=>a7 (ah h)▸B rfl (ES.ng (V.es (ai h) U))
 | an a b=>exact λh=>lz h λo I p h=>qD (P:=λI=>fE g env vm (.an a b) t (.BoolOp o I p)) (ai h) λr W j=>a7 (ah h)▸⟨λe=>ES.an C.ok ((V (ah j) U).1 e) ((V (ai j) U).1 e),λe=>TS.an ((V (ah j) U).2 e) ((V (ai j) U).2 e)⟩
 | orr a b=>exact λh=>lz h λo I p h=>qD (P:=λI=>fE g env vm (.orr a b) t (.BoolOp o I p)) (ai h) λr W j=>a7 (ah h)▸⟨λe=>ES.orr C.ok ((V (ah j) U).1 e) ((V (ai j) U).1 e),λe=>TS.orr ((V (ah j) U).2 e) ((V (ai j) U).2 e)⟩
 | ife d a b=>exact λh=>IP (ai h) λd' r W p j=>⟨λT=>ES.ife (V.ts (ah (ah j)) U) (V.es (ai (ah j)) U) (V.es (ai j) U),λe=>ff ((ab (!·) e).symm.trans (ah h:(!t)=true))⟩
 | fn f as=>exact λh=>Ho C V U (ai h) λx M O p J L D h4 h5 h6=>B rfl (ES.fn C.ok (F (ah h)).1 (F (ah h)).2 J L D h4 h5 h6)
 | nw k as=>exact λh=>Ho C V U (ai h) λx M O p J L D h4 h5 h6=>B rfl (ES.nw C.ok (F (ah h)).1 (F (ah h)).2 h4 J L D h5 h6)
 | me o m as=>exact λh=>jz (ai h) λf O S p j=>iD (P:=λf=>fE g env vm (.me o m as) t (.Call f O S p)) (ai (ah (ah j))) λE x ap J=>eP.mp (ah (ah (ah j)))▸B rfl (ES.me C.ok (F (ah h)).1 (F (ah h)).2 C.wQ (C.an▸tZ (ah (ah (ah J)))) (ai (ah (ah J))) (eZ V U (ai j)).1 (ai (ah J)) (Nat.blt_eq.mp (ai (ah j))) (V.es (ai J) U) (eZ V U (ai j)).2)
 | b1 k a=>cases k with
  | len=>exact λh=>gS C U (ai h) λO M p j=>gE V U (P:=λO=>_->_->fE g env vm (.b1 .len a) t (.Call (.Name ID M) O [] p)) j λe N A J L=>(by rw[Kx] at J L ⊢;exact B rfl (ES.len C.ok (F (ah h)).1 (F (ah h)).2 C.l83 C.f83 J L N A))
  | list=>exact λh=>gS C U h λO M p j=>gE V U (P:=λO=>_->_->fE g env vm (.b1 .list a) t (.Call (.Name CL M) O [] p)) j λe N A J L=>(by rw[IG] at J L ⊢;exact B rfl (ES.list C.ok J L N A))
  | tuple=>exact λh=>gS C U h λO M p j=>gE V U (P:=λO=>_->_->fE g env vm (.b1 .tuple a) t (.Call (.Name xA M) O [] p)) j λe N A J L=>(by rw[FJ] at J L ⊢;exact B rfl (ES.tuple C.ok J L N A))
  | sorted=>exact λh=>gS C U h λO M p j=>gE V U (P:=λO=>_->_->fE g env vm (.b1 .sorted a) t (.Call (.Name ud M) O [] p)) j λe N A J L=>(by rw[CT] at J L ⊢;exact B rfl (ES.sorted C.ok J L N A))
  | all=>exact λh=>gS C U (ai h) λO M p j=>gE V U (P:=λO=>_->_->fE g env vm (.b1 .all a) t (.Call (.Name IE M) O [] p)) j λe N A J L=>(by rw[Ky] at J L ⊢;exact B rfl (ES.all C.ok (F (ah h)).1 J L N A))
  | mS=>exact λh=>ff h
 | uK=>exact λh=>gS C U h λO M p j J L=>(by rw[Kz] at J L ⊢;exact eP.mp j▸B rfl (ES.uK C.ok J L))
 | ap o x=>exact λh=>jV V U h λE O ap p j J L D=>gE V U (P:=λO=>fE g env vm (.ap o x) t (.Call (.Attribute E ua ap) O [] p)) j λe N A=>CQ▸B rfl (ES.ap J N L D A)
 | po o x=>exact λh=>jV V U h λE O ap p j J L D=>gE V U (P:=λO=>fE g env vm (.po o x) t (.Call (.Attribute E IC ap) O [] p)) j λe N A=>Kw▸B rfl (ES.po J N L D A)
 | jo o x=>exact λh=>jV V U h λE O ap p j J L D=>gE V U (P:=λO=>fE g env vm (.jo o x) t (.Call (.Attribute E CJ ap) O [] p)) j λe N A=>IF▸B rfl (ES.jo J N L D A)
 | ind o x=>exact λh=>jV V U h λE O ap p j J L D=>gE V U (P:=λO=>fE g env vm (.ind o x) t (.Call (.Attribute E xy ap) O [] p)) j λe N A=>FI▸B rfl (ES.ind J N L D A)
 | ins o i x=>exact λh=>jV V U h λE O ap p j J L D=>C4 V U (P:=λO=>fE g env vm (.ins o i x) t (.Call (.Attribute E uc ap) O [] p)) j λe f N A=>CR▸B rfl (ES.ins J N L D A)
 | ge o k d=>exact λh=>jV V U h λE O ap p j J L D=>(eb.mp j).elim (λj=>C4 V U (P:=λO=>fE g env vm (.ge o k d) t (.Call (.Attribute E FG ap) O [] p)) j λe f N A=>Hi▸B rfl (ES.ge C.ok J N L D A)) λj=>gE V U (P:=λO=>fE g env vm (.ge o k d) t (.Call (.Attribute E FG ap) O [] p)) (ah j) λe N A=>Hi▸B rfl (zI (ai j)▸ES.ge1 C.ok J N L D A)
 | js a b=>exact λh=>CZ h λI p h=>match I,h with
  | [x,y,z],h=>zH (P:=λx=>fE g env vm (.js a b) t (.JoinedStr [x,y,z] p)) (ah (ah h)) λr cv s p1 J=>sq (P:=λy=>fE g env vm (.js a b) t (.JoinedStr [.FormattedValue r cv s p1,y,z] p)) (ai (ah h)) λk n p2 L=>zH (P:=λz=>fE g env vm (.js a b) t (.JoinedStr [.FormattedValue r cv s p1,.Constant k n p2,z] p)) (ai h) λW z4 s' p3 D=>
   (by
    obtain rfl:=a7 (ah (ah J))
    obtain rfl:=a7 (ah (ah D))
    obtain rfl:=il.mp (ai (ah J))
    obtain rfl:=il.mp (ai (ah D))
    cases k <;> first | exact ff L | exact(aL.mp L).symm.trans FH▸B rfl (ES.js C.ok (V.es (ai J) U) (V.es (ai D) U)))
  | [],h=>ff h
  | [_],h=>ff h
  | [_,_],h=>ff h
  | _::_::_::_::_,h=>ff h
 | co z0 tg i z1=>exact λh=>vC (ai h) λX gs sc p j=>jA (P:=λgs=>fE g env vm (.co z0 tg i z1) t (.ListComp X gs sc p)) j λgg j=>match gg,C5 C V U j with
  | ⟨z5,iter,z3,z2⟩,R=>(show z2=0 from R.as)▸B rfl (ES.co (F (ah h)).1 R.V R.fold R.hi R.F R.ht R.hto R.helt R.hts)
theorem C7(C:CK.Ok Q g)(z:Y=true->g.hd=true/\FS g):∀n,OkC g (chk Q Y n)
 | 0=>λh=>ff h
 | n+1=>F6 C z (C7 C z n)
end
structure VKS where
 IU:List Expr->Expr->Pos->Bool:=λζ ζ ζ=>false
 IV:Expr->Operator->Expr->Bool:=λζ ζ ζ=>false
 sEx:Expr->Bool:=λζ=>false
 IW:Expr->List Stmt->List Stmt->Bool:=λζ ζ ζ=>false
 IX:Expr->List Stmt->List Stmt->Bool:=λζ ζ ζ=>false
 sFr:Expr->Expr->List Stmt->List Stmt->Bool:=λζ ζ ζ ζ=>false
 IY:Option Expr->Bool:=λζ=>false
 IZ:Bool:=false
 C8:Bool:=false
 C9:Bool:=false
 I0:List Stmt->List ExceptHandler->List Stmt->List Stmt->Bool:=λζ ζ ζ ζ=>false
noncomputable def vwS(k:VKS)(s:Stmt):Bool:=match s with
 | .Assign z v p=>k.IU z v p
 | .AugAssign t o v _=>k.IV t o v
 | .Expr v _=>k.sEx v
 | .If t a b _=>k.IW t a b
 | .While t b o _=>k.IX t b o
 | .For t i b o _=>k.sFr t i b o
 | .Return v _=>k.IY v
 | .Break _=>k.IZ
 | .Continue _=>k.C8
 | .Pass _=>k.C9
 | .Try b Q o f _=>k.I0 b Q o f
 | _=>false
section
variable{P:Stmt->Prop}
theorem jB(h:vwS k s=true)(Y:∀w v p,k.IU w v p=true->P (.Assign w v p))(U:∀t o v z,k.IV t o v=true->P (.AugAssign t o v z))(V:∀v z,k.sEx v=true->P (.Expr v z))(j:∀t a b z,k.IW t a b=true->P (.If t a b z))(J:∀t b o z,k.IX t b o=true->P (.While t b o z))(O:∀t i b o z,k.sFr t i b o=true->P (.For t i b o z))(g:∀v z,k.IY v=true->P (.Return v z))(l:∀z,k.IZ=true->P (.Break z))(L:∀z,k.C8=true->P (.Continue z))(T:∀z,k.C9=true->P (.Pass z))(Q:∀b y o f z,k.I0 b y o f=true->P (.Try b y o f z)):P s:=by cases s <;> first | exact ff h | exact Y _ _ _ h | exact U _ _ _ _ h | exact V _ _ h | exact j _ _ _ _ h | exact J _ _ _ _ h | exact O _ _ _ _ _ h | exact g _ _ h | exact l _ h | exact L _ h | exact T _ h | exact Q _ _ _ _ _ h
noncomputable def Hp(s:Stmt)(K:List Expr->Expr->Pos->Bool):Bool:=vwS { IU:=K } s
theorem F7{K:List Expr->Expr->Pos->Bool}(h:Hp s K=true)(k:∀z v p,K z v p=true->P (.Assign z v p)):P s:=jB h k ff4 ff2 ff4 ff4 ff5 ff2 ff1 ff1 ff1 ff5
noncomputable def Dc(s:Stmt)(K:Expr->Operator->Expr->Bool):Bool:=vwS { IV:=K } s
theorem zM{K:Expr->Operator->Expr->Bool}(h:Dc s K=true)(k:∀t o v z,K t o v=true->P (.AugAssign t o v z)):P s:=jB h ff3 k ff2 ff4 ff4 ff5 ff2 ff1 ff1 ff1 ff5
noncomputable def KH(s:Stmt)(K:Expr->Bool):Bool:=vwS { sEx:=K } s
theorem I1{K:Expr->Bool}(h:KH s K=true)(k:∀v z,K v=true->P (.Expr v z)):P s:=jB h ff3 ff4 k ff4 ff4 ff5 ff2 ff1 ff1 ff1 ff5
noncomputable def isIte(s:Stmt)(K:Expr->List Stmt->List Stmt->Bool):Bool:=vwS { IW:=K } s
theorem F8{K:Expr->List Stmt->List Stmt->Bool}(h:isIte s K=true)(k:∀t a b z,K t a b=true->P (.If t a b z)):P s:=jB h ff3 ff4 ff2 k ff4 ff5 ff2 ff1 ff1 ff1 ff5
noncomputable def Hq(s:Stmt)(K:Expr->List Stmt->List Stmt->Bool):Bool:=vwS { IX:=K } s
theorem F9{K:Expr->List Stmt->List Stmt->Bool}(h:Hq s K=true)(k:∀t b o z,K t b o=true->P (.While t b o z)):P s:=jB h ff3 ff4 ff2 ff4 k ff5 ff2 ff1 ff1 ff1 ff5
noncomputable def KI(s:Stmt)(K:Expr->Expr->List Stmt->List Stmt->Bool):Bool:=vwS { sFr:=K } s
theorem I2{K:Expr->Expr->List Stmt->List Stmt->Bool}(h:KI s K=true)(k:∀t i b o z,K t i b o=true->P (.For t i b o z)):P s:=jB h ff3 ff4 ff2 ff4 ff4 k ff2 ff1 ff1 ff1 ff5
noncomputable def Hr(s:Stmt)(K:Option Expr->Bool):Bool:=vwS { IY:=K } s
theorem Ga{K:Option Expr->Bool}(h:Hr s K=true)(k:∀v z,K v=true->P (.Return v z)):P s:=jB h ff3 ff4 ff2 ff4 ff4 ff5 k ff1 ff1 ff1 ff5
noncomputable def Hs(s:Stmt)(K:Bool):Bool:=vwS { IZ:=K } s
theorem Gb{K:Bool}(h:Hs s K=true)(k:∀z,K=true->P (.Break z)):P s:=jB h ff3 ff4 ff2 ff4 ff4 ff5 ff2 k ff1 ff1 ff5
noncomputable def Dd(s:Stmt)(K:Bool):Bool:=vwS { C8:=K } s
theorem De{K:Bool}(h:Dd s K=true)(k:∀z,K=true->P (.Continue z)):P s:=jB h ff3 ff4 ff2 ff4 ff4 ff5 ff2 ff1 k ff1 ff5
noncomputable def Df(s:Stmt)(K:Bool):Bool:=vwS { C9:=K } s
theorem Dg{K:Bool}(h:Df s K=true)(k:∀z,K=true->P (.Pass z)):P s:=jB h ff3 ff4 ff2 ff4 ff4 ff5 ff2 ff1 ff1 k ff5
noncomputable def Ht(s:Stmt)(K:List Stmt->List ExceptHandler->List Stmt->List Stmt->Bool):Bool:=vwS { I0:=K } s
theorem Gd{K:List Stmt->List ExceptHandler->List Stmt->List Stmt->Bool}(h:Ht s K=true)(k:∀b z o f Q,K b z o f=true->P (.Try b z o f Q)):P s:=jB h ff3 ff4 ff2 ff4 ff4 ff5 ff2 ff1 ff1 ff1 k
end
noncomputable def gT(e:Expr):Bool:=vw { zA:=λz z=>true,ue:=λz=>true,zB:=λz z z=>true,FN:=λz z=>true,FO:=λz=>true,kLi:=λz=>true,zC:=λz z=>true,FP:=λz z z=>true,FT:=λz z z=>true,kUn:=λz z=>true,zD:=λz z=>true,kIf:=λz z z=>true,zE:=λz z z z=>true,zF:=λz=>true } e
theorem cQ(h:gT e=true)(t:Option Expr)(l:Nat)(Q:Env):swapsWith e t l Q=pure false:=
 jm (P:=λe=>swapsWith e t l Q=pure false) h (λz z z=>rfl) (λz z z z=>rfl) (λz z z z=>rfl) (λz z z z=>rfl) ff4 (λz z z z=>rfl) (λz z z=>rfl) (λz z z z=>rfl) (λz z z z z=>rfl) (λz z z z z=>rfl) (λz z z z=>rfl) (λz z z z=>rfl) (λz z z z z=>rfl) (λz z z z z=>rfl) ff4 (λz z z=>rfl) λz z z z=>ff
theorem lS(h:gT e=true)(t:Expr)(l:Nat)(z:Env):swapsWithSole [t] e l z=pure false:=cQ h _ _ _
theorem rN(h:isTup e=false)(Q:FK)(n:Nat)(p:Pos)(z:Env):swappedStores [.Tuple Q n p] e z=pure none:=by
 cases e <;> first | rfl | exact ff h.symm
section
variable(Q:CK)(hd:Bool)(c:CkT)(nm:NM)(z:VM)
noncomputable def kL(x:Str):Bool:=decide (kd nm x=some .local)
noncomputable def kLC(x:Str):Bool:=decide (kd nm x=some .local∨kd nm x=some .cell)
noncomputable def Hu(w:Bz)(Y e:Expr):Bool:=on2 w λi j=>qC Y λU=>on2 U λv V=>dG v λx k=>dG V λy J=>qC e λo=>on2 o λO p=>dG O λa f=>dG p λb f=>
 !(Nat.beq i j)&&qA z x i&&qA z y j&&kL nm x&&kL nm y&&(J.line==k.line)&&!(cV y x)&&kM a&&kM b
noncomputable def KJ(V:CE)(i:Nat)(x:Str)(k:Pos)(v:Expr):Bool:=match V with
 | .co y t j Y=>xD v λw J U o=>kL nm x&&(k.line==o.line)&&!(U.names.any λp=>cV p.1 x&&decide (p.2=.local∨p.2=.cell))&&on1 J λg=>coB Q c nm z y t j Y w g U
 | _=>false
noncomputable def KL(t:Tg)(w:CE)(y v:Expr):Bool:=match t with
 | .n i=>dG y λx j=>qA z x i&&(kLC nm x&&gT v&&c w false nm z v||hd&&KJ Q c nm z w i x j v)
 | .t V=>gT v&&hd&&c w false nm z v&&(isTup v&&Hu nm z V y v||!(isTup v)&&FY nm z true z (.t V) y)
 | .at o n=>kP y λY x J=>gT v&&c w false nm z v&&c o false nm z Y&&atN Q.AN n x&&Nat.blt n Q.nA
 | .ix o k=>sr y λY U=>gT v&&c w false nm z v&&c o false nm z Y&&c k false nm z U
 | .li o k=>sr y λY U=>gT v&&c w false nm z v&&c o false nm z Y&&c k false nm z U
noncomputable def Dh(q:Exc):Str:=match q with
 | .key=>⟨⟨[75,101,121,69,114,114,111,114]⟩⟩
 | .index=>⟨⟨[73,110,100,101,120,69,114,114,111,114]⟩⟩
noncomputable def Hv(w:List Exc)(e:Expr):Bool:=on1 w (λq=>dG e λx y=>vD Q nm x (Dh q))||decide (w=[.index,.key])&&qC e λY=>on2 Y λa b=>dG a (λx y=>vD Q nm x (Dh .index))&&dG b λx y=>vD Q nm x (Dh .key)
noncomputable abbrev CkS:=CS->Bool->Stmt->Bool
noncomputable def ie(s:CkS)(y:FB)(hd:Bool)(w:List Stmt):Bool:=match y with
 | []=>w.isEmpty
 | c::y=>match w with
  | []=>false
  | b::w=>s c hd b&&ie s y hd w
noncomputable def Hw(s:CkS)(g:CS)(hd:Bool)(st:Stmt):Bool:=match g with
 | .bad=>true
 | .asg t w=>Hp st λl v J=>on1 l λU=>KL Q hd (chk Q hd 30) nm z t w U v
 | .ir i o w=>Dc st λt V v=>dG t λx J=>decide (V=tL o)&&qA z x i&&kLC nm x&&chk Q hd 30 w false nm z v
 | .iN L n o w=>Dc st λt V v=>kP t λY x J=>decide (V=tL o)&&atN Q.AN n x&&Nat.blt n Q.nA&&chk Q hd 30 L false nm z Y&&match w with
  | .c T=>match T with
   | .int j=>chk Q hd 30 (.c (.int j)) false nm z v
   | _=>false
  | _=>false
 | .ex w=>KH st λv=>gT v&&chk Q hd 30 w false nm z v
 | .ite t a b=>isIte st λk C y=>chk Q hd 30 t true nm z k&&ie s a hd C&&ie s b hd y
 | .whl t b=>Hq st λk y Y=>Y.isEmpty&&chk Q hd 30 t true nm z k&&ie s b hd y
 | .fr t i b o=>hd&&KI st λU O y Y=>C0 O&&IT Q (chk Q hd 30) nm z i O&&FY nm z true z t U&&(isTup U||!(xE i))&&ie s b hd y&&ie s o hd Y
 | .ret w=>Hr st λv=>v.any λv=>chk Q hd 30 w false nm z v
 | .brk=>Hs st true
 | .cont=>Dd st true
 | .pass=>Df st true
 | .try b B h=>hd&&Ht st λy N o f=>o.isEmpty&&f.isEmpty&&ie s b hd y&&on1 N fun
  | .ExceptHandler t n p _=>n.isNone&&t.any (Hv Q nm B)&&!(p.isEmpty)&&ie s h false p
noncomputable def I3:Nat->CkS
 | 0=>λw w w=>false
 | n+1=>Hw Q nm z (I3 n)
noncomputable def Di(w:FB)(hd:Bool)(y:List Stmt):Bool:=ie (I3 Q nm z 30) w hd y
end
section
variable{z:CK}{hd:Bool}{c:CkT}{nm:NM}{vm:VM}{g:G}{env:Env}{e:Expr}
inductive kD(env:Env)(vm:VM)(is:Bz)(tg e:Expr):Prop
 | mk (i j:Nat) (x y:Str) (hi:is=[i,j]) (hx:(x,i)∈vm) (hy:(y,j)∈vm) (kx:env.kindOf x=some .local) (ky:env.kindOf y=some .local) (ne:i≠j) (h:swappedStores [tg] e env=pure (some [x,y]))
theorem bQ.bk(Q:bQ env nm):env.blockKind=.function:=by unfold Env.blockKind;erw[Q.kind];rfl
theorem vE(U:bQ env nm){Q w q q1 q2:Pos}(v:env.kindOf x=some .local)(V:env.kindOf y=some .local)(k:(w.line==Q.line)=true)(Y:(y==x)=false)(j:(a==ofString "__debug__")=false)(J:(b==ofString "__debug__")=false) :
  swappedStores [.Tuple [.Name x Q,.Name y w] m p] (.Tuple [.Name a q1,.Name b q2] n q) env=pure (some [x,y]):=by
 unfold swappedStores
 dsimp only
 rw[ca (by rw[U.bk];exact c6)]
 refine(ca c6).trans ?_
 rw[filterMap_cons_some (b:=x),filterMap_cons_some (b:=y),filterMap_nil]
 ·refine(ca ?_).trans ((ca c6).trans ((ca (show ¬ ((a==ofString "__debug__")&&((b==ofString "__debug__")&&true))=true by rw[j];exact c6)).trans rfl))
  rw[eraseDups_cons]
  show ¬ (false||(_::eraseDups (match !(y==x) with | true=>[y] | false=>[])).length != 2)=true
  rw[Y];exact c6
 ·show(if (env.kindOf y==some .local&&w.line==Q.line)=true then some y else none)=some y
  rw[V,k];rfl
 ·show(if (env.kindOf x==some .local&&Q.line==Q.line)=true then some x else none)=some x
  rw[v,show(Q.line==Q.line)=true from mi _];rfl
theorem Ge(v:bQ env nm)(h:Hu nm vm Y Q e=true):kD env vm Y Q e:=
 qD (P:=λY=>kD env vm Y Q e) h λi j h=>jU (P:=λQ=>kD env vm [i,j] Q e) h λJ n p h=>qD (P:=λJ=>kD env vm [i,j] (.Tuple J n p) e) h λo V h=>cM (P:=λo=>kD env vm [i,j] (.Tuple [o,V] n p) e) h λx w h=>cM (P:=λV=>kD env vm [i,j] (.Tuple [.Name x w,V] n p) e) h λy U h=>
  jU (P:=λe=>kD env vm [i,j] (.Tuple [.Name x w,.Name y U] n p) e) h λO m q h=>qD (P:=λO=>kD env vm [i,j] (.Tuple [.Name x w,.Name y U] n p) (.Tuple O m q)) h λf k h=>cM (P:=λf=>kD env vm [i,j] (.Tuple [.Name x w,.Name y U] n p) (.Tuple [f,k] m q)) h λa q1 h=>cM (P:=λk=>kD env vm [i,j] (.Tuple [.Name x w,.Name y U] n p) (.Tuple [.Name a q1,k] m q)) h λb q2 h=>
   have l:=ah h;have L:=ah l;have t:=ah L;have T:=ah t;have C:=ah T;have B:=ah C;have N:=ah B
   have A:=(v.kd x).trans (a7 (ai C))
   have D:=(v.kd y).trans (a7 (ai T))
   ⟨i,j,x,y,rfl,cL (ai N),cL (ai B),A,D,λe=>Bool.noConfusion ((Nat.beq_eq.mpr e).symm.trans (gR (ah N))),vE v A D (ai t) (lP (gR (ai L))) (jy (ai l)) (jy (ai h))⟩
theorem xG(v:bQ env nm){Q:Scope}{y Y:Pos}(j:env.kindOf x=some .local)(J:(Y.line==y.line)=true)(o:(Q.names.any λp=>cV p.1 x&&decide (p.2=.local∨p.2=.cell))=false) :
  swapsWith (.ListComp w V Q y) (some (.Name x Y)) l env=pure true:=by
 have O:(Q.names.any λ(n,k)=>n==x&&(k==.local||k==.cell))=false:=any_eq_false.mpr λp f U=>any_eq_false.mp o p f (bn.mpr ⟨aL.mpr (ey.mp (ah U)),cn ((eb.mp (ai U)).imp ey.mp ey.mp)⟩)
 show(pure (env.blockKind==.function&&env.kindOf x==some .local&&Y.line==y.line&&!(Q.names.any λ(n,k)=>n==x&&(k==.local||k==.cell))):Sem Bool)=pure true
 (erw[v.bk];erw[j];erw[J];erw[O]);rfl
theorem um(q:Exc):Dh q=ofString (aE q):=by cases q <;> decide +kernel
theorem Gf(C:CK.Ok z g)(Y:bQ env nm)(h:Hv z nm y e=true):kB g env y e:=
 (eb.mp h).elim (λh=>jA (P:=λy=>kB g env y e) h λq h=>oQ C Y (P:=λe=>kB g env [q] e) h λp Q w=>(by rw[um] at Q w ⊢;exact .one Q w))
  λh=>a7 (ah h)▸jU (P:=λe=>kB g env [.index,.key] e) (ai h) λU n p h=>qD (P:=λU=>kB g env [.index,.key] (.Tuple U n p)) h λa b h=>oQ C Y (P:=λa=>kB g env [.index,.key] (.Tuple [a,b] n p)) (ah h) λk Q w=>oQ C Y (P:=λb=>kB g env [.index,.key] (.Tuple [.Name (Dh .index) k,b] n p)) (ai h) λj v V=>(by
   rw[um] at Q w v V ⊢;erw[um _]
   exact .two λq=>match q with | .key=>⟨v,V⟩ | .index=>⟨Q,w⟩)
structure Gg(g:G)(env:Env):Prop where
 hd:g.hd=true
 fs:FS g
 frs:jw g
 top:∃outer,g.fs=env::outer
 fr:env.frame=some env.locals
theorem Gh(C:CK.Ok z g)(b:hd=true->Gg g env)(w:OkC g c)(Q:bQ env nm)(T:gz vm)(h:KL z hd c nm vm t J U v=true):SS g env vm (.asg t J) (exec (.Assign [U] v p) env):=by
 cases t with
 | n i=>exact cM (P:=λU=>SS g env vm (.asg (.n i) J) (exec (.Assign [U] v p) env)) h λx N h=>(eb.mp (ai h)).elim (λY=>SS.Na T (w.es (ai Y) Q) (cL (ah h)) ((Q.kd x).symm▸a7 (ah (ah Y))) (cQ (ai (ah Y)) _ _ _)) λY=>(by
   cases J with
   | co O t a f=>exact vC (P:=λv=>SS g env vm (.asg (.n i) (.co O t a f)) (exec (.Assign [.Name x N] v p) env)) (ai Y) λl A d m V=>jA (P:=λA=>SS g env vm (.asg (.n i) (.co O t a f)) (exec (.Assign [.Name x N] (.ListComp l A d m) p) env)) (ai V) λr L=>match r,C5 C w Q L with
    | ⟨F,iter,D,B⟩,R=>
     have E:=(Q.kd x).trans (a7 (ah (ah (ah V))))
     (show B=0 from R.as)▸SS.Nb (b (ah Y)).hd T (cL (ah h)) E (xG Q E (ai (ah (ah V))) (gR (ai (ah V)))) R.V R.fold R.hi R.F R.ht R.hto R.helt R.hts
   | _=>exact ff (ai Y))
 | t is=>
  have L:=ah h
  have V:=ah L
  exact(eb.mp (ai h)).elim (λY=>match Ge Q (ai Y) with | .mk i j x y P S W X Z e hs=>P▸SS.Nh (b (ai V)).hd T (w.es (ai L) Q) S W X Z e (lS (ah V) _ _ _) hs) λY=>(by
   have I:=xF Q (ai Y)
   obtain⟨es,n,q,rfl,_⟩:=id I
   exact SS.Nc (b (ai V)).hd T (w.es (ai L) Q) I (lS (ah V) _ _ _) (rN (gR (ah Y)) _ _ _ _) rfl)
 | «at» o n=>exact iD (P:=λU=>SS g env vm (.asg (.at o n) J) (exec (.Assign [U] v p) env)) h λM x s h=>SS.Nd C.ok (w.es (ai (ah (ah (ah h)))) Q) (w.es (ai (ah (ah h))) Q) (C.an▸tZ (ai (ah h))) (C.na▸Nat.blt_eq.mp (ai h)) (cQ (ah (ah (ah (ah h)))) _ _ _)
 | ix o k=>exact lQ (P:=λU=>SS g env vm (.asg (.ix o k) J) (exec (.Assign [U] v p) env)) h λM x s h=>SS.Nf C.ok (w.es (ai (ah (ah h))) Q) (w.es (ai (ah h)) Q) (w.es (ai h) Q) (cQ (ah (ah (ah h))) _ _ _)
 | li o k=>exact lQ (P:=λU=>SS g env vm (.asg (.li o k) J) (exec (.Assign [U] v p) env)) h λM x s h=>SS.Cb C.ok (w.es (ai (ah (ah h))) Q) (w.es (ai (ah h)) Q) (w.es (ai h) Q) (cQ (ah (ah (ah h))) _ _ _)
theorem CK.Ok.Iu(C:CK.Ok z g)(b:Bool):CK.Ok z (g.uh b):=⟨⟨C.ok.X,C.ok.gl,C.ok.bl,C.ok.nolimit,C.ok.builtins,C.ok.T⟩,C.glob,C.fns,C.nZ,C.an,C.na,C.wQ,C.l83,C.f83⟩
noncomputable def OkS(z:CK)(vm:VM)(env:Env)(s:CkS):Prop:=∀{Q:CS} {hd:Bool} {st:Stmt},s Q hd st=true->∀{g:G},CK.Ok z g->(hd=true->Gg g env)->SS g env vm Q (exec st env)
theorem dO(y:OkS z vm env s):∀{Q:FB} {hd:Bool} {w:List Stmt},ie s Q hd w=true->∀{g:G},CK.Ok z g->(hd=true->Gg g env)->SSs g env vm Q (execs w env)
 | [],_,[],_,_,_,_=>SSs.nil
 | [],_,_::_,h,_,_,_=>ff h
 | _::_,_,[],h,_,_,_=>ff h
 | c::Q,_,b::w,h,_,C,Y=>SSs.cons (y (ah h) C Y) (dO y (ai h) C Y)
theorem Dj(Q:bQ env nm)(l:gz vm)(k:OkS z vm env s):OkS z vm env (Hw z nm vm s):=by
 intro m hd st h g C Y
 have U:OkC g (chk z hd 30):=C7 C (λe=>⟨(Y e).hd,(Y e).fs⟩) 30
 revert h
 cases m with
 | bad=>exact λL=>SS.bad
 | asg t y=>exact λh=>F7 (P:=λst=>SS g env vm (.asg t y) (exec st env)) h λA v p h=>jA (P:=λA=>SS g env vm (.asg t y) (exec (.Assign A v p) env)) h λr h=>Gh C Y U Q l h
 | ir i o y=>exact λh=>zM (P:=λst=>SS g env vm (.ir i o y) (exec st env)) h λt T v p h=>cM (P:=λt=>SS g env vm (.ir i o y) (exec (.AugAssign t T v p) env)) h λx X h=>a7 (ah (ah (ah h)))▸SS.ir l (U.es (ai h) Q) (cL (ai (ah (ah h)))) ((Q.kd x).symm▸a7 (ai (ah h)))
 | iN D n o y=>exact λh=>zM (P:=λst=>SS g env vm (.iN D n o y) (exec st env)) h λt T v p h=>iD (P:=λt=>SS g env vm (.iN D n o y) (exec (.AugAssign t T v p) env)) h λE x Z h=>(by
   have P:=ah (ah (ah (ah h)))
   cases y with
   | c w=>cases w with
    | int j=>exact a7 P▸SS.iN C.ok (U.es (ai (ah h)) Q) (U.es (ai h) Q) (C.an▸tZ (ai (ah (ah (ah h))))) (C.na▸Nat.blt_eq.mp (ai (ah (ah h))))
    | _=>exact ff (ai h)
   | _=>exact ff (ai h))
 | ex y=>exact λh=>I1 (P:=λst=>SS g env vm (.ex y) (exec st env)) h λv p h=>SS.ex (U.es (ai h) Q) (by unfold interactive;erw[Q.kind];rfl) (cQ (ah h) _ _ _)
 | ite t a b=>exact λh=>F8 (P:=λst=>SS g env vm (.ite t a b) (exec st env)) h λR a' O p h=>SS.ite (U.ts (ah (ah h)) Q) (dO k (ai (ah h)) C Y) (dO k (ai h) C Y)
 | whl t b=>exact λh=>F9 (P:=λst=>SS g env vm (.whl t b) (exec st env)) h λR O E p h=>eP.mp (ah (ah h))▸SS.whl (U.ts (ai (ah h)) Q) (dO k (ai h) C Y)
 | fr t i b o=>
  exact λh=>I2 (P:=λst=>SS g env vm (.fr t i b o) (exec st env)) (ai h) λr it O E p V=>SS.fr (Y (ah h)).hd l (qG (ah (ah (ah (ah (ah V)))))) (zJ C U Q (ai (ah (ah (ah (ah V)))))) (xF Q (ai (ah (ah (ah V))))) (zK (ai (ah (ah V)))) (dO k (ai (ah V)) C Y) (dO k (ai V) C Y)
 | ret y=>exact λh=>Ga (P:=λst=>SS g env vm (.ret y) (exec st env)) h λv p h=>match v,h with
   | some v,h=>SS.ret (U.es h Q)
   | none,h=>ff h
 | brk=>exact λh=>Gb (P:=λst=>SS g env vm .brk (exec st env)) h λp L=>SS.brk
 | cont=>exact λh=>De (P:=λst=>SS g env vm .cont (exec st env)) h λp L=>SS.cont
 | pass=>exact λh=>Dg (P:=λst=>SS g env vm .pass (exec st env)) h λp L=>SS.pass
 | «try» b I V=>exact λh=>Gd (P:=λst=>SS g env vm (.try b I V) (exec st env)) (ai h) λO J o f p q=>jA (P:=λJ=>SS g env vm (.try b I V) (exec (.Try O J o f p) env)) (ai q) λS q2=>match S,q2 with
   | .ExceptHandler t n M hp,q2=>(by
    have q1:=ah q
    obtain rfl:=eP.mp (ah (ah q1))
    obtain rfl:=eP.mp (ai (ah q1))
    have d:=ah q2
    have B:=ah d
    obtain rfl:=il.mp (ah B)
    have F:=Y (ah h)
    cases t with
    | none=>exact ff (ai B)
    | some t=>cases M with
     | nil=>exact ff (ai d)
     | cons b0 M=>exact F.top.elim λN W=>SS.tr C.ok F.hd F.frs W F.fr (dO k (ai q1) C Y) (Gf C Q (ai B)) (dO k (ai q2) (C.Iu false) λe=>ff e))
theorem Dk(Y:bQ env nm)(U:gz vm){hd:Bool}(h:Di z nm vm w hd y=true)(C:CK.Ok z g)(v:hd=true->Gg g env):SSs g env vm w (execs y env):=
 have Q:∀n,OkS z vm env (I3 z nm vm n):=λn=>by
  induction n with
  | zero=>exact λh=>ff h
  | succ n V=>exact Dj Y U V
 dO (Q 30) h C v
end
noncomputable def eG:Fn:=⟨1,[],
 [.ret (.an (.cm .gt (.b1 .len (.v 0)) (.c (.int 0))) (.b1 .all (.co (.cm .isIn (.v 1) (.c (.str (u 0x31816a8261d679ddb8e10c0da968c04081bc61b92173b417f0cbc761d548053dc80445c1c5f59e4080e4bd98942ea214d204ef8501)))) (.n 1) (.val (.v 0)) [])))]⟩
noncomputable def jg:VM:=[(u 179,0)]
noncomputable def jn:List CS:=
 [.ite (.cm .d8 (.v 8) (.at (.v 0) 11))
  [.ex (.ap (.at (.v 0) 11) (.v 8))]
  []]
noncomputable def bR:Fn:=⟨8,[.tup [.str (u 15352600498),.int 0],.none,.str (u 1),.int 0],
 [.asg (.at (.v 0) 2) (.v 2),
 .asg (.at (.v 0) 3) (.b1 .tuple (.v 3)),
 .asg (.at (.v 0) 4) (.v 1),
 .asg (.at (.v 0) 5) (.v 5),
 .asg (.at (.v 0) 6) (.c (.none)),
 .asg (.at (.v 0) 7) (.v 6),
 .asg (.at (.v 0) 8) (.v 7),
 .asg (.at (.v 0) 9) (.v 4),
 .asg (.at (.v 0) 10) (.b1 .len (.at (.v 0) 3)),
 .asg (.at (.v 0) 11) (.li []),
 .fr (.n 8) (.val (.at (.v 0) 3)) jn [],
 .asg (.at (.v 0) 12) (.li []),
 .asg (.at (.v 0) 13) (.c (.none)),
 .ite (.at (.v 0) 3)
  [.asg (.at (.v 0) 14) (.js (.at (.v 0) 2) (.jo (.c (.str (u 96))) (.at (.v 0) 3)))]
  [.asg (.at (.v 0) 14) (.op .mod (.c (.str (u 0x405584c7f5eca7988f9f25))) (.at (.v 0) 2))]]⟩
noncomputable def gG:VM:=[(u 147573299,0),(u 1457283003438,1),(u 146697390,2),(u 145832720,3),(u 0x638940771b8e25310,4),(u 144939046,5),(u 146688934,6),(u 146707372,7),(u 179,8)]
noncomputable def cX:Fn:=⟨1,[],
 [.ret (.b1 .len (.at (.v 0) 3))]⟩
noncomputable def gU:VM:=[(u 147573299,0)]
noncomputable def e7:Fn:=⟨3,[],
 [.asg (.at (.v 0) 2) (.at (.v 1) 2),
 .asg (.at (.v 0) 3) (.b1 .list (.at (.v 1) 3)),
 .asg (.at (.v 0) 4) (.at (.v 1) 4),
 .asg (.at (.v 0) 15) (.v 2),
 .asg (.at (.v 0) 16) (.d0),
 .ex (.ins (.at (.v 0) 3) (.v 2) (.c (.str (u 110)))),
 .asg (.at (.v 0) 3) (.b1 .tuple (.at (.v 0) 3)),
 .asg (.at (.v 0) 10) (.b1 .len (.at (.v 0) 3)),
 .asg (.at (.v 0) 11) (.at (.v 1) 11)]⟩
noncomputable def jC:VM:=[(u 147573299,0),(u 176,1),(u 174,2)]
noncomputable def iE:List CS:=
 [.ite (.cm .isIn (.ix (.v 0) (.v 2)) (.v 1))
  [.ret (.ix (.v 0) (.v 2))]
  [],
 .ir 2 .sub (.c (.int 1))]
noncomputable def b5:Fn:=⟨2,[],
 [.asg (.n 2) (.op .sub (.b1 .len (.v 0)) (.c (.int 1))),
 .whl (.cm .ge (.v 2) (.c (.int 0))) iE,
 .ret (.c (.none))]⟩
noncomputable def fP:VM:=[(u 0x80009b75f5b3,0),(u 0x12000bfbc9ab2234,1),(u 169,2)]
noncomputable def kQ:List CS:=
 [.asg (.ix (.at (.v 0) 20) (.v 2)) (.li [])]
noncomputable def eH:Fn:=⟨2,[],
 [.asg (.at (.v 0) 17) (.li [.c (.none)]),
 .asg (.at (.v 0) 18) (.d0),
 .asg (.at (.v 0) 19) (.d0),
 .asg (.at (.v 0) 20) (.d0),
 .fr (.n 2) (.val (.v 1)) kQ [],
 .asg (.ix (.at (.v 0) 20) (.c (.str (u 15189026565)))) (.li []),
 .asg (.at (.v 0) 21) (.d0),
 .asg (.at (.v 0) 22) (.d0),
 .asg (.at (.v 0) 23) (.d0),
 .asg (.at (.v 0) 24) (.d0),
 .asg (.at (.v 0) 25) (.uK),
 .asg (.at (.v 0) 26) (.c (.none))]⟩
noncomputable def jh:VM:=[(u 147573299,0),(u 0x12000bfbc9ab2234,1),(u 153821748,2)]
noncomputable def gh:List CS:=
 [.ite (.cm .isIn (.ix (.v 7) (.c (.int 0))) (.c (.str (u 9415))))
  [.bad]
  [],
 .ite (.an (.nt (.fn 39 [.v 7])) (.cm .ne (.v 7) (.c (.str (u 13906159109)))))
  [.bad]
  []]
noncomputable def cY:List CS:=
 [.ite (.cm .isIn (.v 13) (.at (.v 0) 20))
  [.ex (.ap (.ix (.at (.v 0) 20) (.v 13)) (.v 12))]
  [.ite (.cm .d8 (.v 13) (.at (.v 0) 21))
   [.asg (.ix (.at (.v 0) 21) (.v 13)) (.li [])]
   [],
  .ex (.ap (.ix (.at (.v 0) 21) (.v 13)) (.v 12))]]
noncomputable def bA:Fn:=⟨6,[.none,.str (u 1),.int 0],
 [.ite (.cm .isIn (.v 1) (.at (.v 0) 20))
  [.bad]
  [],
 .ite (.cm .eq (.v 1) (.c (.str (u 15189026565))))
  [.bad]
  [],
 .ite (.nt (.fn 39 [.v 1]))
  [.bad]
  [],
 .fr (.t [6,7]) (.enum (.v 2)) gh [],
 .ite (.cm .isIn (.c (.str (u 13906159109))) (.v 2))
  [.ite (.cm .eq (.ix (.v 2) (.ng (.c (.int 1)))) (.c (.str (u 13906159109))))
   [.bad]
   [],
  .ite (.cm .ne (.ix (.v 2) (.ng (.c (.int 2)))) (.c (.str (u 13906159109))))
   [.bad]
   [],
  .asg (.n 8) (.ix (.v 2) (.ng (.c (.int 1)))),
  .asg (.n 9) (.ge (.at (.v 0) 24) (.v 8) (.c .none)),
  .ite (.nt (.v 9))
   [.bad]
   [.bad],
  .bad]
  [.asg (.n 8) (.fn 146 [.v 2,.at (.v 0) 20]),
  .asg (.n 9) (.ge (.at (.v 0) 24) (.v 8) (.tu [.c (.str (u 15352600498)),.c (.int 0)]))],
 .asg (.n 10) (.js (.v 1) (.v 2)),
 .ite (.cm .isIn (.v 10) (.at (.v 0) 19))
  [.asg (.n 11) (.ix (.at (.v 0) 19) (.v 10)),
  .bad]
  [],
 .asg (.n 12) (.b1 .len (.at (.v 0) 17)),
 .ite (.cm .d8 (.v 1) (.at (.v 0) 21))
  [.asg (.ix (.at (.v 0) 21) (.v 1)) (.li [])]
  [],
 .fr (.n 13) (.val (.v 2)) cY [],
 .asg (.n 14) (.nw 100 [.v 12,.v 1,.v 2,.v 9,.v 3,.v 4,.v 5]),
 .ex (.ap (.at (.v 0) 17) (.v 14)),
 .asg (.ix (.at (.v 0) 19) (.v 10)) (.v 14),
 .try
  [.ex (.ap (.ix (.at (.v 0) 18) (.v 1)) (.v 14))]
  [.key]
  [.asg (.ix (.at (.v 0) 18) (.v 1)) (.li [.v 14])]]⟩
noncomputable def ee:VM:=[(u 147573299,0),(u 0x2c440634813b10,1),(u 159086003,2),(u 144939046,3),(u 146688934,4),(u 146707372,5),(u 174,6),(u 179,7),(u 0x2c440634725310,8),(u 0x2bb5c484a13b10,9),(u 1628333,10),(u 173,11),(u 0x7f3cd03b9190,12),(u 180,13),(u 176,14)]
noncomputable def cC:Fn:=⟨2,[.none],
 [.ite (.nt (.v 1))
  [.asg (.n 1) (.at (.ix (.at (.v 0) 17) (.c (.int 1))) 2)]
  [],
 .ite (.cm .d8 (.v 1) (.at (.v 0) 21))
  [.bad]
  [],
 .asg (.li (.at (.v 0) 17) (.c (.int 0))) (.nw 100 [.c (.int 0),.c (.str (u 9939)),.li [.v 1]]),
 .ex (.ap (.ix (.at (.v 0) 21) (.v 1)) (.c (.int 0))),
 .asg (.at (.v 0) 26) (.v 1)]⟩
noncomputable def fZ:VM:=[(u 147573299,0),(u 15361393619,1)]
noncomputable def kR:List CS:=
 [.ite (.cm .eq (.v 5) (.c (.str (u 99360369208828))))
  [.asg (.n 4) (.c (.bool true))]
  [.ite (.cm .d8 (.v 5) (.v 2))
   [.ex (.ap (.v 2) (.v 5))]
   []]]
noncomputable def gH:List CS:=
 [.asg (.n 4) (.c (.bool false)),
 .fr (.n 5) (.val (.ix (.at (.v 0) 22) (.v 3))) kR [],
 .ite (.v 4)
  [.pass]
  [.brk]]
noncomputable def eK:Fn:=⟨2,[],
 [.asg (.n 2) (.li []),
 .fr (.n 3) (.val (.v 1)) gH [.ex (.ap (.v 2) (.c (.str (u 99360369208828))))],
 .ret (.v 2)]⟩
noncomputable def ji:VM:=[(u 147573299,0),(u 143223330,1),(u 1474201863730,2),(u 184,3),(u 0x4f7d5774d7f5689a50dec4e57f8,4),(u 166,5)]
noncomputable def gI:List CS:=
 [.asg (.ix (.at (.v 0) 22) (.v 1)) (.li [.v 1])]
noncomputable def gJ:List CS:=
 [.asg (.ix (.at (.v 0) 22) (.v 2)) (.li [])]
noncomputable def dH:List CS:=
 [.ite (.cm .d8 (.v 5) (.ix (.at (.v 0) 22) (.v 2)))
  [.ex (.ap (.ix (.at (.v 0) 22) (.v 2)) (.v 5)),
  .asg (.n 3) (.c (.bool true))]
  []]
noncomputable def dI:List CS:=
 [.fr (.n 5) (.val (.me (.v 0) 44 [.at (.v 4) 3])) dH []]
noncomputable def dJ:List CS:=
 [.fr (.n 4) (.val (.ix (.at (.v 0) 18) (.v 2))) dI []]
noncomputable def dK:List CS:=
 [.asg (.n 3) (.c (.bool false)),
 .fr (.n 2) (.val (.at (.v 0) 21)) dJ [],
 .ite (.nt (.v 3))
  [.brk]
  []]
noncomputable def bE:Fn:=⟨1,[],
 [.ite (.at (.v 0) 22)
  [.ret (.at (.v 0) 22)]
  [],
 .fr (.n 1) (.val (.at (.v 0) 20)) gI [],
 .asg (.ix (.at (.v 0) 22) (.c (.str (u 145822180)))) (.li [.c (.str (u 145822180))]),
 .fr (.n 2) (.val (.at (.v 0) 21)) gJ [],
 .whl (.c (.bool true)) dK,
 .ret (.at (.v 0) 22)]⟩
noncomputable def eT:VM:=[(u 147573299,0),(u 180,1),(u 174,2),(u 0x2555df33c1a749e71f3,3),(u 176,4),(u 166,5)]
noncomputable def gi:List CS:=
 [.asg (.ix (.at (.v 0) 23) (.v 2)) (.li [])]
noncomputable def cZ:List CS:=
 [.ite (.an (.cm .ne (.v 9) (.c (.str (u 99360369208828)))) (.cm .d8 (.v 9) (.ix (.at (.v 0) 23) (.v 6))))
  [.ex (.ap (.ix (.at (.v 0) 23) (.v 6)) (.v 9)),
  .asg (.n 3) (.c (.bool true))]
  [],
 .ite (.cm .eq (.v 9) (.c (.str (u 99360369208828))))
  [.asg (.n 8) (.c (.bool true))]
  []]
noncomputable def bN:List CS:=
 [.ite (.cm .d8 (.v 9) (.ix (.at (.v 0) 23) (.v 6)))
  [.ex (.ap (.ix (.at (.v 0) 23) (.v 6)) (.v 9)),
  .asg (.n 3) (.c (.bool true))]
  []]
noncomputable def dh:List CS:=
 [.ite (.cm .isIn (.v 6) (.at (.v 0) 21))
  [.asg (.n 7) (.me (.v 0) 44 [.sl (.at (.v 4) 3) (.op .add (.v 5) (.c (.int 1))) (.c .none)]),
  .asg (.n 8) (.c (.bool false)),
  .fr (.n 9) (.val (.v 7)) cZ [],
  .ite (.orr (.v 8) (.cm .eq (.v 5) (.op .sub (.b1 .len (.at (.v 4) 3)) (.c (.int 1)))))
   [.fr (.n 9) (.val (.ix (.at (.v 0) 23) (.at (.v 4) 2))) bN []]
   []]
  []]
noncomputable def di:List CS:=
 [.fr (.t [5,6]) (.enum (.at (.v 4) 3)) dh []]
noncomputable def dj:List CS:=
 [.asg (.n 3) (.c (.bool false)),
 .fr (.n 4) (.val (.sl (.at (.v 0) 17) (.c (.int 1)) (.c .none))) di [],
 .ite (.nt (.v 3))
  [.brk]
  []]
noncomputable def bB:Fn:=⟨2,[.none],
 [.ite (.at (.v 0) 23)
  [.ret (.at (.v 0) 23)]
  [],
 .ite (.nt (.at (.v 0) 22))
  [.ex (.me (.v 0) 45 [])]
  [],
 .fr (.n 2) (.val (.at (.v 0) 21)) gi [],
 .ite (.nt (.v 1))
  [.asg (.n 1) (.at (.ix (.at (.v 0) 17) (.c (.int 1))) 2)]
  [],
 .asg (.ix (.at (.v 0) 23) (.v 1)) (.li [.c (.str (u 145822180))]),
 .whl (.c (.bool true)) dj,
 .ret (.at (.v 0) 23)]⟩
noncomputable def ef:VM:=[(u 147573299,0),(u 15361393619,1),(u 171,2),(u 1343044922276,3),(u 176,4),(u 169,5),(u 130,6),(u 1666918,7),(u 0x319ffe697f44a8,8),(u 166,9)]
noncomputable def bS:List CS:=
 [.ite (.cm .gt (.v 3) (.b1 .len (.v 1)))
  [.asg (.n 5) (.c (.none))]
  [.asg (.n 5) (.nw 135 [.v 1,.v 3]),
  .try
   [.asg (.at (.v 5) 27) (.ix (.at (.v 0) 18) (.ix (.at (.v 5) 3) (.op .add (.v 3) (.c (.int 1)))))]
   [.index,.key]
   [.asg (.at (.v 5) 27) (.li [])],
  .try
   [.asg (.at (.v 5) 28) (.ix (.at (.v 5) 3) (.op .sub (.v 3) (.c (.int 1))))]
   [.index]
   [.asg (.at (.v 5) 28) (.c (.none))]],
 .asg (.at (.v 2) 13) (.v 5),
 .ite (.nt (.v 5))
  [.brk]
  [],
 .ex (.ap (.v 4) (.v 5)),
 .asg (.n 2) (.v 5),
 .ir 3 .add (.c (.int 1))]
noncomputable def dM:List CS:=
 [.asg (.n 2) (.v 1),
 .asg (.n 3) (.c (.int 0)),
 .asg (.n 4) (.li []),
 .whl (.c (.bool true)) bS,
 .asg (.at (.v 1) 12) (.v 4)]
noncomputable def bG:Fn:=⟨1,[],
 [.fr (.n 1) (.val (.at (.v 0) 17)) dM []]⟩
noncomputable def eU:VM:=[(u 147573299,0),(u 176,1),(u 0x78ed7139c4ac,2),(u 169,3),(u 0x3000ddeb227b0c,4),(u 1565452,5)]
noncomputable def lT:Fn:=⟨1,[],
 [.ite (.nt (.v 0))
  [.ret (.tu [])]
  [],
 .ret (.b1 .tuple (.co (.tu [.at (.v 1) 4,.at (.v 1) 15]) (.n 1) (.val (.v 0)) []))]⟩
noncomputable def zN:VM:=[(u 137,0)]
noncomputable def bC:Fn:=⟨4,[.str (u 129580172),.none],
 [.ite (.cm .d8 (.v 2) (.li [.c (.str (u 1349811)),.c (.str (u 129580172))]))
  [.bad]
  [],
 .asg (.at (.v 0) 29) (.v 1),
 .asg (.at (.v 0) 30) (.v 2),
 .asg (.at (.v 0) 31) (.d0),
 .asg (.at (.v 0) 32) (.d0),
 .asg (.at (.v 0) 33) (.at (.v 1) 17),
 .asg (.at (.v 0) 34) (.d0),
 .asg (.at (.v 0) 35) (.d0),
 .asg (.at (.v 0) 36) (.c (.int 0)),
 .asg (.at (.v 0) 37) (.c (.int 0)),
 .asg (.at (.v 0) 38) (.c (.int 0)),
 .asg (.at (.v 0) 39) (.li []),
 .asg (.at (.v 0) 40) (.li []),
 .asg (.at (.v 0) 41) (.li []),
 .ex (.me (.at (.v 0) 29) 47 []),
 .ex (.me (.at (.v 0) 29) 45 []),
 .ex (.me (.at (.v 0) 29) 46 []),
 .ex (.me (.v 0) 51 [])]⟩
noncomputable def eg:VM:=[(u 147573299,0),(u 0x7f356fe8c307,1),(u 1343985543725,2),(u 1546732,3)]
noncomputable def bW:List CS:=
 [.ite (.cm .eq (.at (.v 5) 1) (.at (.v 0) 36))
  [.cont]
  [],
 .ex (.ap (.v 2) (.at (.v 5) 13)),
 .asg (.at (.v 5) 1) (.at (.v 0) 36),
 .asg (.n 3) (.c (.bool true))]
noncomputable def bX:List CS:=
 [.fr (.n 5) (.val (.at (.v 4) 27)) bW []]
noncomputable def bY:List CS:=
 [.asg (.n 3) (.c (.bool false)),
 .fr (.n 4) (.val (.v 2)) bX []]
noncomputable def aU:Fn:=⟨2,[],
 [.iN (.v 0) 36 .add (.c (.int 1)),
 .asg (.n 2) (.sl (.v 1) (.c .none) (.c .none)),
 .asg (.n 3) (.c (.bool true)),
 .whl (.v 3) bY,
 .ret (.v 2)]⟩
noncomputable def cG:VM:=[(u 147573299,0),(u 137,1),(u 138,2),(u 1343044922276,3),(u 170,4),(u 184,5)]
noncomputable def aC:List CS:=
 [.asg (.n 7) (.at (.v 6) 13),
 .ite (.an (.v 7) (.cm .eq (.at (.v 7) 28) (.v 2)))
  [.asg (.n 8) (.ge (.v 4) (.tu [.at (.v 7) 4,.at (.v 7) 15]) (.c .none)),
  .ite (.nt (.v 8))
   [.asg (.n 8) (.d0),
   .asg (.ix (.v 4) (.tu [.at (.v 7) 4,.at (.v 7) 15])) (.v 8)]
   [],
  .ex (.ap (.v 5) (.v 7)),
  .asg (.n 4) (.v 8)]
  []]
noncomputable def bq:Fn:=⟨3,[],
 [.asg (.n 3) (.ge (.at (.v 0) 34) (.tu [.fn 318 [.v 1],.v 2]) (.c .none)),
 .ite (.v 3)
  [.ret (.v 3)]
  [],
 .asg (.n 4) (.ge (.at (.v 0) 34) (.v 2) (.c .none)),
 .ite (.nt (.v 4))
  [.asg (.n 4) (.d0),
  .asg (.ix (.at (.v 0) 34) (.v 2)) (.v 4)]
  [],
 .asg (.n 5) (.li []),
 .fr (.n 6) (.val (.v 1)) aC [],
 .asg (.n 3) (.ge (.v 4) (.c (.str (u 145822180))) (.c .none)),
 .ite (.nt (.v 3))
  [.ite (.v 5)
   [.asg (.n 3) (.me (.v 0) 48 [.v 5]),
   .asg (.ix (.v 4) (.c (.str (u 145822180)))) (.v 3)]
   [.asg (.ix (.v 4) (.c (.str (u 145822180)))) (.v 5)]]
  [],
 .asg (.ix (.at (.v 0) 34) (.tu [.fn 318 [.v 1],.v 2])) (.v 3),
 .ret (.v 3)]⟩
noncomputable def dm:VM:=[(u 147573299,0),(u 137,1),(u 184,2),(u 167,3),(u 179,4),(u 17255,5),(u 176,6),(u 174,7),(u 10931,8)]
noncomputable def fq:List CS:=
 [.asg (.ix (.at (.v 0) 35) (.fn 318 [.v 3])) (.v 2),
 .ir 2 .add (.c (.int 1))]
noncomputable def fy:List CS:=
 [.asg (.ix (.v 4) (.v 6)) (.c (.none))]
noncomputable def cu:List CS:=
 [.fr (.n 6) (.val (.at (.v 5) 11)) fy []]
noncomputable def cz:List CS:=
 [.asg (.n 8) (.me (.v 0) 49 [.v 3,.v 7]),
 .ite (.orr (.nt (.v 8)) (.cm .isIn (.fn 318 [.v 8]) (.at (.v 0) 35)))
  [.cont]
  [],
 .asg (.ix (.at (.v 0) 35) (.fn 318 [.v 8])) (.b1 .len (.v 1)),
 .ex (.ap (.v 1) (.v 8))]
noncomputable def cA:List CS:=
 [.asg (.n 3) (.ix (.v 1) (.v 2)),
 .ir 2 .add (.c (.int 1)),
 .asg (.n 4) (.d0),
 .fr (.n 5) (.val (.v 3)) cu [],
 .fr (.n 7) (.val (.v 4)) cz []]
noncomputable def bg:Fn:=⟨1,[],
 [.asg (.n 1) (.li [.me (.v 0) 48 [.li [.at (.ix (.at (.at (.v 0) 29) 17) (.c (.int 0))) 13]]]),
 .asg (.n 2) (.c (.int 0)),
 .fr (.n 3) (.val (.v 1)) fq [],
 .asg (.n 2) (.c (.int 0)),
 .whl (.cm .lt (.v 2) (.b1 .len (.v 1))) cA,
 .ret (.v 1)]⟩
noncomputable def cN:VM:=[(u 147573299,0),(u 131,1),(u 169,2),(u 137,3),(u 15272256353,4),(u 16297,5),(u 179,6),(u 184,7),(u 167,8)]
noncomputable def bJ:List CS:=
 [.asg (.n 15) (.ge (.v 9) (.v 14) (.c .none)),
 .ite (.cm .kh (.v 15) (.c (.none)))
  [.ite (.cm .gt (.v 15) (.c (.int 0)))
   [.asg (.t [16,17]) (.ge (.v 2) (.v 14) (.tu [.c (.str (u 15352600498)),.c (.int 0)])),
   .asg (.t [18,19]) (.at (.ix (.v 1) (.at (.v 12) 4)) 9),
   .ite (.orr (.cm .lt (.v 17) (.v 19)) (.an (.cm .eq (.v 17) (.v 19)) (.cm .eq (.v 18) (.c (.str (u 159904300))))))
    [.asg (.ix (.v 9) (.v 14)) (.ng (.at (.v 12) 4)),
    .asg (.ix (.v 10) (.v 14)) (.v 12),
    .ite (.an (.nt (.v 17)) (.nt (.v 19)))
     [.ex (.ap (.at (.v 0) 40) (.tu [.v 7,.v 14,.c (.str (u 1351131408946))]))]
     [],
    .iN (.ix (.v 1) (.at (.v 12) 4)) 0 .add (.c (.int 1))]
    [.ite (.an (.cm .eq (.v 17) (.v 19)) (.cm .eq (.v 18) (.c (.str (u 0x2bbce4f9a895ee)))))
     [.asg (.ix (.v 9) (.v 14)) (.c (.none))]
     [.ite (.nt (.v 19))
      [.ex (.ap (.at (.v 0) 40) (.tu [.v 7,.v 14,.c (.str (u 15350849363))]))]
      []]]]
   [.ite (.cm .lt (.v 15) (.c (.int 0)))
    [.asg (.n 20) (.ix (.v 1) (.ng (.v 15))),
    .asg (.n 21) (.ix (.v 1) (.at (.v 12) 4)),
    .ite (.cm .gt (.at (.v 20) 8) (.at (.v 21) 8))
     [.asg (.ix (.v 9) (.v 14)) (.ng (.at (.v 12) 4)),
     .asg (.ix (.v 10) (.v 14)) (.v 12),
     .asg (.t [22,23]) (.tu [.v 21,.v 20]),
     .iN (.ix (.v 1) (.at (.v 12) 4)) 0 .add (.c (.int 1)),
     .iN (.ix (.v 1) (.at (.v 20) 4)) 0 .sub (.c (.int 1))]
     [.asg (.t [22,23]) (.tu [.v 20,.v 21])],
    .ex (.ap (.at (.v 0) 41) (.tu [.v 7,.v 22,.v 23]))]
    [.bad]]]
  [.asg (.ix (.v 9) (.v 14)) (.ng (.at (.v 12) 4)),
  .asg (.ix (.v 10) (.v 14)) (.v 12),
  .iN (.ix (.v 1) (.at (.v 12) 4)) 0 .add (.c (.int 1))]]
noncomputable def aX:List CS:=
 [.ite (.cm .eq (.at (.v 12) 10) (.op .add (.at (.v 12) 15) (.c (.int 1))))
  [.ite (.cm .eq (.at (.v 12) 2) (.c (.str (u 9939))))
   [.asg (.ix (.v 9) (.c (.str (u 145822180)))) (.c (.int 0)),
   .asg (.ix (.v 10) (.c (.str (u 145822180)))) (.v 12)]
   [.ite (.cm .eq (.at (.v 0) 30) (.c (.str (u 129580172))))
    [.asg (.n 13) (.ix (.at (.v 12) 16) (.v 7))]
    [.asg (.n 13) (.ix (.at (.at (.v 0) 29) 23) (.at (.v 12) 2))],
   .fr (.n 14) (.val (.v 13)) bJ []]]
  [.asg (.n 24) (.at (.v 12) 15),
  .asg (.n 14) (.ix (.at (.v 12) 3) (.op .add (.v 24) (.c (.int 1)))),
  .ite (.cm .isIn (.v 14) (.at (.at (.v 0) 29) 20))
   [.asg (.n 25) (.me (.v 0) 49 [.v 8,.v 14]),
   .asg (.n 26) (.ge (.at (.v 0) 35) (.fn 318 [.v 25]) (.ng (.c (.int 1)))),
   .ite (.cm .ge (.v 26) (.c (.int 0)))
    [.asg (.n 15) (.ge (.v 9) (.v 14) (.c .none)),
    .ite (.cm .kh (.v 15) (.c (.none)))
     [.ite (.cm .gt (.v 15) (.c (.int 0)))
      [.ite (.cm .ne (.v 15) (.v 26))
       [.bad]
       []]
      [.ite (.cm .lt (.v 15) (.c (.int 0)))
       [.asg (.t [16,17]) (.ge (.v 2) (.v 14) (.tu [.c (.str (u 15352600498)),.c (.int 0)])),
       .asg (.t [18,19]) (.at (.ix (.v 1) (.at (.ix (.v 10) (.v 14)) 4)) 9),
       .ite (.orr (.cm .gt (.v 17) (.v 19)) (.an (.cm .eq (.v 17) (.v 19)) (.cm .eq (.v 18) (.c (.str (u 15352600498))))))
        [.iN (.ix (.v 1) (.at (.ix (.v 10) (.v 14)) 4)) 0 .sub (.c (.int 1)),
        .asg (.ix (.v 9) (.v 14)) (.v 26),
        .asg (.ix (.v 10) (.v 14)) (.v 12),
        .ite (.nt (.v 19))
         [.ex (.ap (.at (.v 0) 40) (.tu [.v 7,.v 14,.c (.str (u 15350849363))]))]
         []]
        [.ite (.an (.cm .eq (.v 17) (.v 19)) (.cm .eq (.v 18) (.c (.str (u 0x2bbce4f9a895ee)))))
         [.asg (.ix (.v 9) (.v 14)) (.c (.none))]
         [.ite (.an (.nt (.v 17)) (.nt (.v 19)))
          [.ex (.ap (.at (.v 0) 40) (.tu [.v 7,.v 14,.c (.str (u 1351131408946))]))]
          []]]]
       [.bad]]]
     [.asg (.ix (.v 9) (.v 14)) (.v 26),
     .asg (.ix (.v 10) (.v 14)) (.v 12)]]
    []]
   []]]
noncomputable def dY:List CS:=
 [.ite (.cm .isIn (.v 29) (.at (.at (.v 0) 29) 21))
  [.asg (.ix (.v 27) (.v 29)) (.c (.none))]
  []]
noncomputable def bK:List CS:=
 [.fr (.n 29) (.val (.at (.v 28) 11)) dY []]
noncomputable def bL:List CS:=
 [.asg (.n 25) (.me (.v 0) 49 [.v 8,.v 30]),
 .asg (.n 26) (.ge (.at (.v 0) 35) (.fn 318 [.v 25]) (.ng (.c (.int 1)))),
 .ite (.cm .ge (.v 26) (.c (.int 0)))
  [.asg (.ix (.v 11) (.v 30)) (.v 26)]
  []]
noncomputable def bM:List CS:=
 [.asg (.n 9) (.d0),
 .asg (.n 10) (.d0),
 .asg (.n 11) (.d0),
 .fr (.n 12) (.val (.v 8)) aX [],
 .asg (.n 27) (.d0),
 .fr (.n 28) (.val (.v 8)) bK [],
 .fr (.n 30) (.val (.v 27)) bL [],
 .asg (.ix (.v 4) (.v 7)) (.v 9),
 .asg (.ix (.v 5) (.v 7)) (.v 10),
 .asg (.ix (.v 3) (.v 7)) (.v 11),
 .ir 7 .add (.c (.int 1))]
noncomputable def aG:Fn:=⟨1,[],
 [.asg (.n 1) (.at (.at (.v 0) 29) 17),
 .asg (.n 2) (.at (.at (.v 0) 29) 24),
 .asg (.n 3) (.at (.v 0) 32),
 .asg (.n 4) (.at (.v 0) 31),
 .asg (.n 5) (.d0),
 .asg (.n 6) (.me (.v 0) 50 []),
 .ite (.cm .eq (.at (.v 0) 30) (.c (.str (u 129580172))))
  [.bad]
  [],
 .asg (.n 7) (.c (.int 0)),
 .fr (.n 8) (.val (.v 6)) bM []]⟩
noncomputable def bZ:VM:=[(u 147573299,0),(u 0x288164da865e3f13af0,1),(u 0x638940771b8e252f0,2),(u 155610599,3),(u 1425523698017,4),(u 0x7de1a7d56961,5),(u 131,6),(u 17363,7),(u 137,8),(u 0x1180b9c10ea67bd3,9),(u 0x6a36659c10ea67bd3,10),(u 0x7d36cbb77bd3,11),(u 176,12),(u 0x7ff124bdb8ac,13),(u 161,14),(u 178,15),(u 13906159187,16),(u 1408378261715,17),(u 13906159186,18),(u 1408378261714,19),(u 156347599,20),(u 16976,21),(u 0x7de175bbb743,22),(u 0x7deccede0232,23),(u 169,24),(u 167,25),(u 170,26),(u 15282688110,27),(u 16297,28),(u 179,29),(u 174,30)]
noncomputable def gV:Fn:=⟨0,[],
 [.ret (.li [.c (.str (u 147)),.c (.str (u 129)),.c (.str (u 130))])]⟩
noncomputable def n5:VM:=[]
noncomputable def iX:Fn:=⟨1,[],
 [.ret (.ife (.v 0) (.po (.v 0) (.c (.int 0))) (.c (.int 0)))]⟩
noncomputable def qH:VM:=[(u 146725044,0)]
noncomputable def lU:List CS:=
 [.asg (.n 5) (.ife (.v 4) (.c (.ref 440)) (.c (.ref 439))),
 .ex (.ap (.v 3) (.ix (.v 5) (.op .mod (.fn 447 [.v 0]) (.b1 .len (.v 5)))))]
noncomputable def jW:Fn:=⟨3,[],
 [.asg (.n 3) (.li []),
 .fr (.n 4) (.rng [.op .mod (.fn 447 [.v 0]) (.op .add (.v 2) (.c (.int 1)))]) lU [],
 .ret (.tu [.v 1,.b1 .tuple (.v 3)])]⟩
noncomputable def su:VM:=[(u 146725044,0),(u 146697390,1),(u 160025069,2),(u 0x80009b75f5b3,3),(u 14074101968,4),(u 1351120893763,5)]
noncomputable def gX:Fn:=⟨1,[],
 [.asg (.n 1) (.li [.fn 454 [.v 0,.c (.str (u 147)),.c (.int 2)],.fn 454 [.v 0,.c (.str (u 129)),.c (.int 2)],.fn 454 [.v 0,.c (.str (u 130)),.c (.int 1)]]),
 .ite (.v 0)
  [.asg (.n 2) (.ix (.fn 438 []) (.op .mod (.fn 447 [.v 0]) (.c (.int 3)))),
  .asg (.n 3) (.fn 454 [.v 0,.v 2,.c (.int 2)]),
  .ite (.cm .d8 (.v 3) (.v 1))
   [.ex (.ap (.v 1) (.v 3))]
   []]
  [],
 .ret (.v 1)]⟩
noncomputable def n6:VM:=[(u 146725044,0),(u 15265058866,1),(u 146697390,2),(u 1694194,3)]
noncomputable def jk:List CS:=
 [.ite (.an (.cm .eq (.v 8) (.ix (.ix (.v 0) (.v 3)) (.c (.int 0)))) (.cm .d8 (.tu [.v 5,.v 7]) (.v 2)))
  [.ex (.ap (.v 2) (.tu [.v 5,.v 7]))]
  []]
noncomputable def oB:List CS:=
 [.fr (.t [7,8]) (.enum (.ix (.v 6) (.c (.int 1)))) jk []]
noncomputable def oE:List CS:=
 [.ite (.cm .eq (.v 4) (.c (.int 0)))
  [.fr (.t [5,6]) (.enum (.v 0)) oB []]
  []]
noncomputable def gj:Fn:=⟨2,[],
 [.asg (.n 2) (.b1 .list (.v 1)),
 .fr (.t [3,4]) (.val (.v 2)) oE [],
 .ret (.b1 .tuple (.b1 .sorted (.v 2)))]⟩
noncomputable def lV:VM:=[(u 15265058866,0),(u 1465437503696,1),(u 13999084006,2),(u 1457283003438,3),(u 1666532,4),(u 15180087247,5),(u 146690098,6),(u 14074101968,7),(u 184,8)]
noncomputable def gK:List CS:=
 [.asg (.n 8) (.co (.tu [.v 2,.op .sub (.v 9) (.c (.int 1))]) (.t [2,9]) (.val (.v 6)) [.an (.cm .gt (.v 9) (.c (.int 0))) (.cm .eq (.ix (.ix (.ix (.v 0) (.v 2)) (.c (.int 1))) (.op .sub (.v 9) (.c (.int 1)))) (.v 7))]),
 .ite (.v 8)
  [.asg (.n 10) (.fn 468 [.v 0,.v 8]),
  .ite (.cm .d8 (.v 10) (.v 1))
   [.ex (.ap (.v 1) (.v 10))]
   [],
  .asg (.ix (.v 4) (.tu [.v 5,.v 7])) (.ind (.v 1) (.v 10))]
  []]
noncomputable def kT:List CS:=
 [.fr (.n 7) (.val (.c (.ref 440))) gK []]
noncomputable def eN:Fn:=⟨1,[],
 [.asg (.n 1) (.co (.fn 468 [.v 0,.li [.tu [.v 2,.b1 .len (.ix (.v 3) (.c (.int 1)))]]]) (.t [2,3]) (.enum (.v 0)) []),
 .asg (.n 4) (.d0),
 .fr (.t [5,6]) (.enum (.v 1)) kT [],
 .ret (.tu [.v 1,.v 4])]⟩
noncomputable def jl:VM:=[(u 15265058866,0),(u 13999084006,1),(u 159194295,4),(u 14074101968,5),(u 15272072137,6),(u 184,7),(u 151913634,8),(u 15180087247,10)]
noncomputable def kE:List CS:=
 [.asg (.n 5) (.ix (.v 1) (.tu [.v 5,.ix (.ix (.v 4) (.c (.int 1))) (.v 6)])),
 .ex (.ap (.v 2) (.tu [.v 3,.v 6,.v 5]))]
noncomputable def rO:List CS:=
 [.asg (.n 5) (.v 3),
 .ex (.ap (.v 2) (.tu [.v 3,.b1 .len (.ix (.v 4) (.c (.int 1))),.v 5])),
 .fr (.n 6) (.rng [.op .sub (.b1 .len (.ix (.v 4) (.c (.int 1)))) (.c (.int 1)),.ng (.c (.int 1)),.ng (.c (.int 1))]) kE []]
noncomputable def iY:Fn:=⟨2,[],
 [.asg (.n 2) (.li []),
 .fr (.t [3,4]) (.enum (.v 0)) rO [],
 .ret (.b1 .sorted (.v 2))]⟩
noncomputable def qI:VM:=[(u 15265058866,0),(u 159194295,1),(u 145804788,2),(u 1457283003438,3),(u 146690098,4),(u 14074101968,5),(u 1666532,6)]
noncomputable def gY:Fn:=⟨3,[],
 [.ite (.cm .isIn (.v 2) (.fn 438 []))
  [.ret (.ge (.ix (.at (.v 0) 32) (.v 1)) (.v 2) (.c .none))]
  [],
 .asg (.n 3) (.ge (.ix (.at (.v 0) 31) (.v 1)) (.v 2) (.c .none)),
 .ret (.ife (.an (.cm .kh (.v 3) (.c (.none))) (.cm .gt (.v 3) (.c (.int 0)))) (.v 3) (.c (.none)))]⟩
noncomputable def n7:VM:=[(u 14082072756,0),(u 14089143251,1),(u 184,2),(u 1665377,3)]
noncomputable def Dl:List CS:=
 [.ex (.me (.v 4) 42 [.v 5,.b1 .list (.v 6)])]
noncomputable def vF:List CS:=
 [.asg (.n 23) (.co (.v 13) (.n 13) (.rng [.b1 .len (.v 9)]) [.cm .isIn (.ge (.v 10) (.tu [.v 13,.v 22]) (.c .none)) (.v 17)]),
 .asg (.n 24) (.fn 487 [.v 7,.v 16,.v 22]),
 .ite (.cm .ne (.cm .is (.v 24) (.c (.none))) (.cm .eq (.v 23) (.li [])))
  [.ret (.c (.bool false))]
  [],
 .ite (.cm .kh (.v 24) (.c (.none)))
  [.ite (.cm .d8 (.v 24) (.v 12))
   [.asg (.ix (.v 12) (.v 24)) (.v 23),
   .ex (.ap (.v 15) (.v 24))]
   [],
  .ite (.cm .ne (.ix (.v 12) (.v 24)) (.v 23))
   [.ret (.c (.bool false))]
   []]
  []]
noncomputable def vG:List CS:=
 [.asg (.n 17) (.ix (.v 12) (.v 16)),
 .asg (.n 18) (.co (.tu [.v 19,.v 20]) (.t [19,20,13]) (.val (.v 11)) [.cm .isIn (.v 13) (.v 17)]),
 .ite (.cm .ne (.b1 .sorted (.co (.tu [.at (.v 21) 4,.at (.v 21) 15]) (.n 21) (.val (.ix (.v 8) (.v 16))) [])) (.v 18))
  [.ret (.c (.bool false))]
  [],
 .fr (.n 22) (.val (.c (.ref 440))) vF []]
noncomputable def kF:Fn:=⟨1,[],
 [.asg (.n 1) (.co (.op .mod (.v 2) (.c (.int 720720))) (.n 2) (.val (.sl (.v 0) (.c .none) (.c (.int 12)))) []),
 .asg (.n 3) (.op .add (.li [.tu [.c (.str (u 9939)),.tu [.c (.str (u 147))]]]) (.fn 461 [.v 1])),
 .asg (.n 4) (.nw 283 [.li [.c (.str (u 161)),.c (.str (u 162))]]),
 .fr (.t [5,6]) (.val (.sl (.v 3) (.c (.int 1)) (.c .none))) Dl [],
 .ex (.me (.v 4) 43 [.c (.str (u 147))]),
 .asg (.n 7) (.nw 427 [.v 4,.c (.str (u 1349811))]),
 .asg (.at (.v 7) 35) (.d0),
 .asg (.n 8) (.me (.v 7) 50 []),
 .ite (.orr (.cm .ne (.b1 .len (.at (.v 7) 32)) (.b1 .len (.v 8))) (.cm .ne (.b1 .len (.at (.v 7) 31)) (.b1 .len (.v 8))))
  [.ret (.c (.bool false))]
  [],
 .asg (.t [9,10]) (.fn 473 [.v 3]),
 .asg (.n 11) (.fn 480 [.v 3,.v 10]),
 .asg (.n 12) (.d1 (.c (.int 0)) (.co (.v 13) (.t [13,14]) (.enum (.v 9)) [.cm .isIn (.tu [.c (.int 0),.c (.int 0)]) (.v 14)])),
 .asg (.n 15) (.li [.c (.int 0)]),
 .fr (.n 16) (.val (.v 15)) vG [],
 .ret (.cm .eq (.b1 .len (.v 15)) (.b1 .len (.v 8)))]⟩
noncomputable def Hx:VM:=[(u 1474530976115,0),(u 146725044,1),(u 15265058866,3),(u 0x7f356fe8c307,4),(u 146697390,5),(u 0x80009b75f5b3,6),(u 14082072756,7),(u 1465452544979,8),(u 13999084006,9),(u 159194295,10),(u 145804788,11),(u 1466721385222,12),(u 1343138777271,15),(u 14089143251,16),(u 146743848,17),(u 1528868,18),(u 184,22),(u 13987434305,23),(u 15264071212,24)]
noncomputable def anL:List Str:=[u 0x754555b52a32,u 0x107dc0a36464df0c,u 146697390,u 145832720,u 1457283003438,u 144939046,u 0x2c4351991cc8a3,u 146688934,u 146707372,u 144855824,u 1610284,u 15272256373,u 0x3000ddeb227b0c,u 0x80cd7175fb0c,u 1648595,u 0x3150e1e6c27b0c,u 0x6bf3770013d0fb9ec,u 0x288164da865e3f13af0,u 0x11fe360634813af0,u 0x7dc8ef713af0,u 0x12000bfbc9ab2214,u 0xf300a1c722864dc915ce,u 15362433926,u 1498909822406,u 0x638940771b8e252f0,u 0x1f7e6d65afb7f9c3e29fd355,u 15361393587,u 0x2fb6f01dd67b0c,u 0x109ae1f404d3fb0c,u 0x7f356fe8c307,u 0x10806f0ad9687b0c,u 0x1180b9c10ea67b0c,u 0x7d36cbb77b0c,u 0x222d2d18615f85389d60fb0c,u 0x5402688c668d86cbb77b0c,u 0x2609fe86ab4ec84df0c,u 0x6c9d977f6348fa89f,u 0x28b46a0858b27817b13,u 0x28b46a0858b27817b12,u 0x1202301eda7c15e3,u 0xf31d89a0858b27817b13,u 0xf31d89a0858b27817b12,u 0x213a60a483d1f53b045c29c1,u 0x121b47175f8e6a33,u 1474793660031,u 0x5babaebdb269686a92f1e3,u 0x22f0496c1904a9686a92f1e3,u 0x5b21a54c6883c3f64c6422,u 0x255c86396575e84df0c,u 0x2ef48c64c4df0c,u 0x120053382ce4df0c,u 0x1f82ecd78c54c66bb950fb0c]
noncomputable def I4:Nat:=42
noncomputable def ckF:CK:=⟨[(u 0x5939009a9a78fc0bf,.ref 439),(u 0xc74cebd92e6e558fc0bf,.ref 440),(u 0x20f9946eba3e2d89f9f,.str (u 0x31816a8261d679ddb8e10c0da968c04081bc61b92173b417f0cbc761d548053dc80445c1c5f59e4080e4bd98942ea214d204ef8501))],
 [(u 0x21f7ed93a86d3871ccee479f,39),(u 0xa6271d799f8ad3974ad5599b1617b2,146),(u 1351113788991,318),(u 0x5888b804ed78fc0bf,438),(u 0x121ce3f4978fc0bf,447),(u 0x3113c2af8fc0bf,454),(u 0x6bf540c402f8fc0bf,461),(u 0x251b01793433d8fc0bf,468),(u 0x22281f93025cdccccf8fc0bf,473),(u 0x107fa6fe7b8fc0bf,480),(u 0x6bf377008cb8fc0bf,487),(u 1692844,492),(u 0x69045a865e3f13af0,100),(u 1416529958636,135),(u 0x7f356fe8c2e7,283),(u 0x46e694e248e4130493d0c890eec,427)],
 [u 1610284,u 160024492,u 14082203700,u 1343146796531,u 1592513,u 1665587,u 1610669,u 0x109b60c34d6b9185,u 14077759666,u 0x2fbe0b0d201e0b,u 0x6b6b98dd87f2d2d69],anL,I4⟩
noncomputable def I5:List (Nat×Nat×Nat):=[(283,42,201),(283,43,209),(283,44,258),(283,45,265),(283,46,273),(283,47,280),(427,48,340),(427,49,347),(427,50,354),(427,51,424)]
noncomputable def mF:MT:=λc m=>(I5.find? λp=>p.1==c&&p.2.1==m).map (·.2.2)
noncomputable def Gi:List (Nat×Fn):=[(39,eG),(62,bR),(83,cX),(118,e7),(146,b5),(172,eH),(201,bA),(209,cC),(258,eK),(265,bE),(273,bB),(280,bG),(318,lT),(333,bC),(340,aU),(347,bq),(354,bg),(424,aG),(438,gV),(447,iX),(454,jW),(461,gX),(468,gj),(473,eN),(480,iY),(487,gY),(492,kF)]
noncomputable def fF:Nat->Option Fn:=λf=>(Gi.find? λp=>p.1==f).map (·.2)
section
noncomputable def Hy(st:Stmt)(k:Arguments->List Stmt->Scope->Bool):Bool:=match st with
 | .FunctionDef _ z b _ _ _ Q _ _ _=>k z b Q
 | _=>false
theorem Gj{P:Stmt->Prop}{st:Stmt}(h:Hy st k=true)(y:∀nm Q b dl Y tp w U v z,k Q b w=true->P (.FunctionDef nm Q b dl Y tp w U v z)):P st:=by
 cases st with
 | FunctionDef=>exact y _ _ _ _ _ _ _ _ _ _ h
 | _=>exact ff h
noncomputable def I6(z:VM):Nat->List Str->Bool
 | _,[]=>true
 | i,x::r=>qA z x i&&!(r.any λy=>cV x y)&&I6 z (i+1) r
noncomputable def KN(k:Option NameKind):Bool:=decide (k=some .local∨k=some .cell)
noncomputable def e9(st:Stmt)(w:Fn)(y:VM):Bool:=Hy st λz b Q=>!Q.isCoroutine&&(!Q.isGenerator&&(decide (Q.kind=.function)&&(y9 y&&(y.all (λp=>KN (kd Q.names p.1))
   && (z.posonlyargs.isEmpty&&(z.vararg.isNone&&(z.kwonlyargs.isEmpty&&(z.kwarg.isNone&&(I6 y 0 (z.args.map (·.arg))&&(Nat.beq (z.args.map (·.arg)).length w.arity&&(Nat.ble w.dflt.length w.arity
   && Di ckF Q.names y w.body true b)))))))))))
open Hb
theorem Nl:e9 (d 4) eG jg=true:=by kernel_rfl
theorem Nm:e9 (m 7 2) bR gG=true:=by kernel_rfl
theorem Nn:e9 (m 7 5) cX gU=true:=by kernel_rfl
theorem KO:e9 (m 8 0) e7 jC=true:=by kernel_rfl
theorem KQ:e9 (d 9) b5 fP=true:=by kernel_rfl
theorem KR:e9 (m 11 0) eH jh=true:=by kernel_rfl
theorem KU:e9 (m 11 4) bA ee=true:=by kernel_rfl
theorem KV:e9 (m 11 5) cC fZ=true:=by kernel_rfl
theorem KW:e9 (m 11 12) eK ji=true:=by kernel_rfl
theorem KX:e9 (m 11 13) bE eT=true:=by kernel_rfl
theorem KY:e9 (m 11 14) bB ef=true:=by kernel_rfl
theorem KZ:e9 (m 11 15) bG eU=true:=by kernel_rfl
theorem K0:e9 (d 15) lT zN=true:=by kernel_rfl
theorem K3:e9 (m 16 0) bC eg=true:=by kernel_rfl
theorem K5:e9 (m 16 1) aU cG=true:=by kernel_rfl
theorem K6:e9 (m 16 2) bq dm=true:=by kernel_rfl
theorem K7:e9 (m 16 3) bg cN=true:=by kernel_rfl
theorem K8:e9 (m 16 13) aG bZ=true:=by kernel_rfl
theorem K9:e9 (d 18) gV n5=true:=by kernel_rfl
theorem La:e9 (d 21) iX qH=true:=by kernel_rfl
theorem Lb:e9 (d 22) jW su=true:=by kernel_rfl
theorem Lc:e9 (d 23) gX n6=true:=by kernel_rfl
theorem Ld:e9 (d 24) gj lV=true:=by kernel_rfl
theorem Le:e9 (d 25) eN jl=true:=by kernel_rfl
theorem Lf:e9 (d 26) iY qI=true:=by kernel_rfl
theorem Lg:e9 (d 27) gY n7=true:=by kernel_rfl
theorem Lh:e9 (d 28) kF Hx=true:=by kernel_rfl
end
section
open Hb
structure VV where
 zO:Bool:=false
 vStr:Str->Bool:=λζ=>false
 vInt:Int->Bool:=λζ=>false
 vBool:Bool->Bool:=λζ=>false
 Dm:Nat->Bool:=λζ=>false
 vTy:String->Bool:=λζ=>false
noncomputable def vwV(k:VV)(v:Value):Bool:=match v with
 | .none=>k.zO
 | .str x _=>k.vStr x
 | .int i _=>k.vInt i
 | .bool b=>k.vBool b
 | .ref a=>k.Dm a
 | .type t=>k.vTy t
 | _=>false
theorem lW{P:Value->Prop}(h:vwV k v=true)(z:k.zO=true->P .none)(Q:∀x t,k.vStr x=true->P (.str x t))(w:∀i t,k.vInt i=true->P (.int i t))(y:∀b,k.vBool b=true->P (.bool b))(Y:∀a,k.Dm a=true->P (.ref a))(U:∀t,k.vTy t=true->P (.type t)):P v:=by
 cases v with
 | none=>exact z h
 | str=>exact Q _ _ h
 | int=>exact w _ _ h
 | bool=>exact y _ h
 | ref=>exact Y _ h
 | type=>exact U _ h
 | _=>exact ff h
noncomputable def xH(y:Str)(v:Value):Bool:=vwV { vStr:=λx=>cV x y } v
noncomputable def xJ(b:Nat)(v:Value):Bool:=vwV { Dm:=λa=>Nat.beq a b } v
noncomputable def sy(t:String)(v:Value):Bool:=vwV { vTy:=λx=>x==t } v
theorem Dp{P:Value->Prop}(h:xH y v=true)(k:∀t,P (.str y t)):P v:=lW h ff (λx t h=>aL.mp h▸k t) ff2 ff1 ff1 λz=>ff
theorem sC(h:xJ b v=true):v=.ref b:=lW (P:=λv=>v=.ref b) h ff ff2 ff2 ff1 (λa h=>Nat.eq_of_beq_eq_true h▸rfl) λz=>ff
theorem vH(h:sy t v=true):v=.type t:=lW (P:=λv=>v=.type t) h ff ff2 ff2 ff1 ff1 λa h=>ey.mp h▸rfl
noncomputable def vI(c:CV)(v:Value):Bool:=match c with
 | .none=>vwV { zO:=true } v
 | .str y=>xH y v
 | .int b=>vwV { vInt:=λa=>decide (a=b) } v
 | .bool b=>vwV { vBool:=λa=>a==b } v
 | .ref b=>xJ b v
 | _=>false
noncomputable def onSeq(d:Data)(k:List Value->Bool):Bool:=match d with
 | .seq z _=>k z.toList
 | _=>false
noncomputable def vJ(d:Data)(k:List Value->Bool):Bool:=match d with
 | .fields z=>k z.toList
 | _=>false
noncomputable def allB{z Q:Type}(p:Q->z->Bool):List z->List Q->Bool
 | [],l=>l.isEmpty
 | v::w,l=>match l with
  | []=>false
  | c::y=>p c v&&allB p w y
noncomputable def Gk(K:Frag)(t:String)(a:Nat)(p:List Value->Bool):Bool:=(K.lookup a).any λo=>sy t o.cls&&onSeq o.data p
noncomputable def codeB(o:Option Obj)(q:Str):Bool:=o.any λo=>vJ o.data λl=>l[1]?.any (xH q)
noncomputable def Li(K:Frag)(c:CV)(v:Value):Bool:=match c with
 | .tup l=>Nat.ble l.length 100&&vwV { Dm:=λa=>Gk K "tuple" a λz=>allB vI z l } v
 | c=>vI c v
noncomputable def dfB(K:Frag)(Q:Value)(z:B2):Bool:=vwV { zO:=z.isEmpty,Dm:=λT=>Gk K "tuple" T λw=>allB (Li K) w z } Q
structure bT(K:Frag)(f:Nat)(fn:Fn):Prop where
 mk'::(h:∃st vm qn dV pm c,K.lookup f=some (oFn st qn dV pm (.ref c))/\e9 st fn vm=true/\codeB (K.lookup c) qn=true/\dfB K dV fn.dflt=true)
theorem bT.of{K:Frag}{f:Nat}(st:Stmt)(y:VM)(Q:Str)(w Y:Value)(c:Nat)(U:K.lookup f=some (oFn st Q w Y (.ref c)))(v:e9 st z y=true)(V:codeB (K.lookup c) Q=true)(k:dfB K w z.dflt=true):bT K f z:=⟨⟨st,y,Q,w,Y,c,U,v,V,k⟩⟩
theorem lX{z:Type}{P:Prop}{o:Option z}{p:z->Bool}(h:o.any p=true)(k:∀a,o=some a->p a=true->P):P:=match o,h,k with
 | some a,h,k=>k a rfl h
theorem Gl{P:Prop}{d:Data}(h:onSeq d p=true)(k:∀z n,d=.seq z n->p z.toList=true->P):P:=by
 cases d with
 | seq=>exact k _ _ rfl h
 | _=>exact ff h
theorem xK{P:Prop}{d:Data}(h:vJ d p=true)(k:∀z,d=.fields z->p z.toList=true->P):P:=by
 cases d with
 | fields=>exact k _ rfl h
 | _=>exact ff h
theorem oU(e:vI c v=true):RV h v c:=by
 cases c with
 | none=>exact lW (P:=λv=>RV h v .none) e (λz=>.none) ff2 ff2 ff1 ff1 λz=>ff
 | str y=>exact Dp (P:=λv=>RV h v (.str y)) e λt=>.str _ _
 | int b=>exact lW (P:=λv=>RV h v (.int b)) e ff ff2 (λi t q=>a7 q▸.int _ _) ff1 ff1 λz=>ff
 | bool b=>exact lW (P:=λv=>RV h v (.bool b)) e ff ff2 ff2 (λa q=>ey.mp q▸.bool _) ff1 λz=>ff
 | ref b=>exact sC e▸.ref _
 | _=>exact ff e
theorem uo{p:CV->Value->Bool}(w:∀c v,p c v=true->RV h v c):∀{z:Cl} {Q:B2},allB p z Q=true->RVs h z Q
 | [],[],_=>.nil
 | [],_::_,e=>ff e
 | _::_,[],e=>ff e
 | v::z,c::Q,e=>.cons (w _ _ (ah e)) (uo w (ai e))
theorem xM{K:Frag}(X:K.In h){P:Prop}(e:Gk K t a p=true)(k:∀o z n,h.get? a=some o->o.cls=.type t->o.data=.seq z n->p z.toList=true->P):P:=
 lX e λo Q q=>Gl (ai q) λz n w y=>k o z n (X _ _ Q) (vH (ah q)) w y
theorem I7{K:Frag}(X:K.In h)(c:CV)(v:Value)(e:Li K c v=true):RV h v c:=by
 cases c with
 | tup l=>exact lW (P:=λv=>RV h v (.tup l)) (ai e) ff ff2 ff2 ff1 (λa q=>xM X q λo U n Q w y Y=>.tup ⟨o,Q,w,n,y⟩ (ae (aw (ah e)) (by decide)) (uo (λz z=>oU) Y)) λz=>ff
 | _=>exact oU e
theorem Dq:∀{i:Nat} {Q:Bi},I6 w i Q=true->(∀j x,Q[j]?=some x->(x,i+j)∈w)/\Q.Nodup
 | i,[],_=>⟨(λj x h=>nomatch h),dt⟩
 | i,p::Q,h=>
  have r:=Dq (ai h)
  ⟨λj x z=>match j,z with
   | 0,z=>al z▸cL (ah (ah h))
   | j+1,z=>(iv i j)▸r.1 j x z,ei.mpr ⟨λy=>any_eq_false.mp (gR (ai (ah h))) p y (aL.mpr rfl),r.2⟩⟩
theorem Gm(h:KN (kd l x)=true):l.lookup x=some .local∨l.lookup x=some .cell:=yZ l x▸a7 h
inductive Lj(K:Frag)(h₀:Heap)(f:Nat)(fn:Fn):Prop
 | mk (fd:FuncData) (body:List Stmt) (vm:VM) (d:yY K h₀ f fn fd body vm) (h:Di ckF fd.scope.names vm fn.body true body=true)
theorem Gn{K:Frag}(X:K.In z)(D:bT K f y):Lj K z f y:=by
 obtain⟨st,h,O,Y,g,c,Q,F,P,k⟩:=D.h
 refine Gj (P:=λst=>K.lookup f=some (oFn st O Y g (.ref c))->Lj K z f y) F (λnm R b dl rt tp S ts bd W l Q=>?_) Q
 have L:=ai l;have C:=ai L;have B:=ai C;have N:=ai B;have A:=ai N;have E:=ai A;have I:=ai E;have M:=ai I;have U:=ai M;have v:=ai U;have V:=ai v
 have p:=Dq (ah U)
 exact .mk { name:=nm,qualname:=O,params:=R,body:=.stmts b,scope:=S,globals:=3,closure:=[],defaults:=Y,kwdefaults:=.none,pyModule:=g,code:=.ref c,builtins:=0 } b h
  {obj:=⟨_,X _ _ Q,rfl⟩,body:=rfl,clo:=rfl,glob:=rfl,bi:=rfl,co:=gR (ah l),gen:=gR (ah L),kind:=a7 (ah C),code:=lX P λo Q q=>xK q λw Z q=>lX q λa j q=>⟨c,o,w,match a,j,q with
     | .str x t,j,q=>⟨t,rfl,X _ _ Q,Z,(hU ..).symm.trans (j.trans (aL.mp q▸rfl))⟩⟩
   Iz:=tY (ah B),vk:=λx i J=>Gm (eQ.mp (ah N) _ J),po:=eP.mp (ah A),va:=il.mp (ah E),ko:=eP.mp (ah I),kw:=il.mp (ah M)
   par:=λi x J=>lL i▸p.1 i x J,nd:=p.2,ar:=Nat.eq_of_beq_eq_true (ah v),df:=aw (ah V)
   dfl:=lW (P:=λY=>(Y=.none/\y.dflt=[])∨∃T o w n,Y=.ref T/\z.get? T=some o/\o.data=.seq w n/\RVs z w.toList y.dflt) k (λq=>.inl ⟨rfl,eP.mp q⟩) ff2 ff2 ff1 (λT q=>xM X q λo w n Q ζ k hp=>.inr ⟨T,o,w,n,rfl,Q,k,uo (I7 X) hp⟩) λζ=>ff } (ai V)
theorem Np(P:Params):bT (K P) 39 eG:=.of (d 4) jg (u 0x21f7ed93a86d3871ccee479f) .none sM 38 (by kernel_rfl) Nl (by kernel_rfl) (by kernel_rfl)
theorem Nq(P:Params):bT (K P) 62 bR:=.of (m 7 2) gG (u 0x399c044e731fe135bd19a865e3f13af0) (r 55) sM 61 (by kernel_rfl) Nm (by kernel_rfl) (by kernel_rfl)
theorem Nr(P:Params):bT (K P) 83 cX:=.of (m 7 5) gU (u 0x999fe22507bfe7bd19a865e3f13af0) .none sM 82 (by kernel_rfl) Nn (by kernel_rfl) (by kernel_rfl)
theorem Lk(P:Params):bT (K P) 118 e7:=.of (m 8 0) jC (u 0xb613042106b6edb330fc3d6ec) .none sM 117 (by kernel_rfl) KO (by kernel_rfl) (by kernel_rfl)
theorem Ll(P:Params):bT (K P) 146 b5:=.of (d 9) fP (u 0xa6271d799f8ad3974ad5599b1617b2) .none sM 145 (by kernel_rfl) KQ (by kernel_rfl) (by kernel_rfl)
theorem Lm(P:Params):bT (K P) 172 eH:=.of (m 11 0) jh (u 0x4447218c628499236ad6fe8c2e7) .none sM 171 (by kernel_rfl) KR (by kernel_rfl) (by kernel_rfl)
theorem Ln(P:Params):bT (K P) 201 bA:=.of (m 11 4) ee (u 0x3539926d85667fdfd8abe0a1f58ad6fe8c2e7) (r 194) sM 200 (by kernel_rfl) KU (by kernel_rfl) (by kernel_rfl)
theorem Lo(P:Params):bT (K P) 209 cC:=.of (m 11 5) fZ (u 0x1d00d18fe0800efc90aad6fe8c2e7) (r 202) sM 208 (by kernel_rfl) KV (by kernel_rfl) (by kernel_rfl)
theorem Lp(P:Params):bT (K P) 258 eK:=.of (m 11 12) ji (u 0x2260618722d8d6ad6fe8c2e7) .none sM 257 (by kernel_rfl) KW (by kernel_rfl) (by kernel_rfl)
theorem Lq(P:Params):bT (K P) 265 bE:=.of (m 11 13) eT (u 0x92d6b096bb97f7d1360094ebaad6fe8c2e7) .none sM 264 (by kernel_rfl) KX (by kernel_rfl) (by kernel_rfl)
theorem Ls(P:Params):bT (K P) 273 bB:=.of (m 11 14) ef (u 0x37f7049bb6d3079bd1360094ebaad6fe8c2e7) (r 266) sM 272 (by kernel_rfl) KY (by kernel_rfl) (by kernel_rfl)
theorem Lu(P:Params):bT (K P) 280 bG:=.of (m 11 15) eU (u 0x91f994d6b4299014b5bd24f59ad6fe8c2e7) .none sM 279 (by kernel_rfl) KZ (by kernel_rfl) (by kernel_rfl)
theorem Lv(P:Params):bT (K P) 318 lT:=.of (d 15) zN (u 1351113788991) .none sM 317 (by kernel_rfl) K0 (by kernel_rfl) (by kernel_rfl)
theorem Lw(P:Params):bT (K P) 333 bC:=.of (m 16 0) eg (u 0x29035210d975721444133b248e4130493d0c890eec) (r 326) sM 332 (by kernel_rfl) K3 (by kernel_rfl) (by kernel_rfl)
theorem Ly(P:Params):bT (K P) 340 aU:=.of (m 16 1) cG (u 0x23f2b0cd9c9a988648e53ad9c1b248e4130493d0c890eec) .none sM 339 (by kernel_rfl) K5 (by kernel_rfl) (by kernel_rfl)
theorem Lz(P:Params):bT (K P) 347 bq:=.of (m 16 2) dm (u 0x2d2dcd261548eeabad9c1b248e4130493d0c890eec) .none sM 346 (by kernel_rfl) K6 (by kernel_rfl) (by kernel_rfl)
theorem LA(P:Params):bT (K P) 354 bg:=.of (m 16 3) cN (u 0x1151fd08f8a18b30b7ad9c1b248e4130493d0c890eec) .none sM 353 (by kernel_rfl) K7 (by kernel_rfl) (by kernel_rfl)
theorem LB(P:Params):bT (K P) 424 aG:=.of (m 16 13) bZ (u 0x1e51bf330f890edb14259023d4581c1b248e4130493d0c890eec) .none sM 423 (by kernel_rfl) K8 (by kernel_rfl) (by kernel_rfl)
theorem LC(P:Params):bT (K P) 438 gV:=.of (d 18) n5 (u 0x5888b804ed78fc0bf) .none (s 0x395bd9a4f9217d827ed4ac 910) 437 (by kernel_rfl) K9 (by kernel_rfl) (by kernel_rfl)
theorem LD(P:Params):bT (K P) 447 iX:=.of (d 21) qH (u 0x121ce3f4978fc0bf) .none (s 0x395bd9a4f9217d827ed4ac 910) 446 (by kernel_rfl) La (by kernel_rfl) (by kernel_rfl)
theorem LF(P:Params):bT (K P) 454 jW:=.of (d 22) su (u 0x3113c2af8fc0bf) .none (s 0x395bd9a4f9217d827ed4ac 910) 453 (by kernel_rfl) Lb (by kernel_rfl) (by kernel_rfl)
theorem LG(P:Params):bT (K P) 461 gX:=.of (d 23) n6 (u 0x6bf540c402f8fc0bf) .none (s 0x395bd9a4f9217d827ed4ac 910) 460 (by kernel_rfl) Lc (by kernel_rfl) (by kernel_rfl)
theorem LH(P:Params):bT (K P) 468 gj:=.of (d 24) lV (u 0x251b01793433d8fc0bf) .none (s 0x395bd9a4f9217d827ed4ac 910) 467 (by kernel_rfl) Ld (by kernel_rfl) (by kernel_rfl)
theorem LI(P:Params):bT (K P) 473 eN:=.of (d 25) jl (u 0x22281f93025cdccccf8fc0bf) .none (s 0x395bd9a4f9217d827ed4ac 910) 472 (by kernel_rfl) Le (by kernel_rfl) (by kernel_rfl)
theorem LJ(P:Params):bT (K P) 480 iY:=.of (d 26) qI (u 0x107fa6fe7b8fc0bf) .none (s 0x395bd9a4f9217d827ed4ac 910) 479 (by kernel_rfl) Lf (by kernel_rfl) (by kernel_rfl)
theorem LL(P:Params):bT (K P) 487 gY:=.of (d 27) n7 (u 0x6bf377008cb8fc0bf) .none (s 0x395bd9a4f9217d827ed4ac 910) 486 (by kernel_rfl) Lg (by kernel_rfl) (by kernel_rfl)
theorem LM(P:Params):bT (K P) 492 kF:=.of (d 28) Hx (u 1692844) .none (s 0x395bd9a4f9217d827ed4ac 910) 491 (by kernel_rfl) Lh (by kernel_rfl) (by kernel_rfl)
theorem Dr(P:Params):∀p∈Gi,bT (K P) p.1 p.2:=by
 unfold Gi
 exact da.mpr ⟨Np P,da.mpr ⟨Nq P,da.mpr ⟨Nr P,da.mpr ⟨Lk P,da.mpr ⟨Ll P,da.mpr ⟨Lm P,da.mpr ⟨Ln P,da.mpr ⟨Lo P,da.mpr ⟨Lp P,da.mpr ⟨Lq P,da.mpr ⟨Ls P,da.mpr ⟨Lu P,da.mpr ⟨Lv P,da.mpr ⟨Lw P,da.mpr ⟨Ly P,da.mpr ⟨Lz P,da.mpr ⟨LA P,da.mpr ⟨LB P,da.mpr ⟨LC P,da.mpr ⟨LD P,da.mpr ⟨LF P,da.mpr ⟨LG P,da.mpr ⟨LH P,da.mpr ⟨LI P,da.mpr ⟨LJ P,da.mpr ⟨LL P,da.mpr ⟨LM P,λz h=>nomatch h⟩⟩⟩⟩⟩⟩⟩⟩⟩⟩⟩⟩⟩⟩⟩⟩⟩⟩⟩⟩⟩⟩⟩⟩⟩⟩⟩
end
structure GOk(g:G):Prop where
 K:g.K=Mine.Internal.K g.w.params
 AN:g.AN=anL
 nA:g.nA=I4
 M:g.M=mF
 X:g.K.In g.h₀
 gl:g.h₀.Ns mainGlobals g.mg
 bl:g.h₀.Ns builtinsNs g.mb
 nolimit:g.h₀.NoLimit
 builtins:∀x:Str,x≠"__name__"->g.mb x=bootBuiltins x
noncomputable abbrev OOV:=Option (Option Value)
noncomputable def noB(x:OOV):Bool:=x.any Option.isNone
theorem nB(h:noB x=true):x=some none:=lX h λa e q=>e.trans (ab some (il.mp q))
noncomputable def vB(p:Value->Bool)(x:OOV):Bool:=x.any λy=>y.any p
theorem Gp{P:OOV->Prop}(h:vB p x=true)(k:∀v,p v=true->P (some (some v))):P x:=
 lX h λa e q=>lX q λv z q=>e▸z▸k v q
noncomputable def A0(b:Nat):OOV->Bool:=vB (xJ b)
theorem lY(h:A0 b x=true):x=some (some (.ref b)):=Gp (P:=λx=>x=some (some (.ref b))) h λv q=>sC q▸rfl
noncomputable def cD(c:CV)(k:Int->Bool):Bool:=match c with
 | .int i=>k i
 | _=>false
noncomputable def Hz(K:Frag)(y:OOV)(c:Option CV):Bool:=match c with
 | some c=>cD c λi=>vB (vwV { vInt:=λa=>decide (a=i) }) y
 | none=>y.any (noGet K)
theorem Gq{K:Frag}(h:Hz K (findIn K (.ref C) x) c=true):tD K C x c:=by
 cases c with
 | none=>exact lX h λa e q=>.no e q
 | some c=>
  revert h
  generalize e:findIn K (.ref C) x=y
  cases c with
  | int i=>exact λq=>Gp (P:=λy=>findIn K (.ref C) x=y->tD K C x (some (.int i))) q (λv q=>lW (P:=λv=>findIn K (.ref C) x=some (some v)->tD K C x (some (.int i))) q ff ff2 (λj t q e=>.int (a7 q▸e)) ff1 ff1 ff1) e
  | _=>exact ff
noncomputable def Ds(K:Frag)(C:Nat)(n k:Nat)(l:Bi):Bool:=match k with
 | 0=>true
 | k+1=>match l with
  | []=>true
  | x::r=>noB (takerIn K C x)&&(!(copiedNames.contains x)&&(Hz K (findIn K (.ref C) x) (gq C n)&&Ds K C (n+1) k r))
theorem zP{K:Frag}:∀{n k:Nat} {l:Bi},Ds K C n k l=true->∀i x,l[i]?=some x->i<k->takerIn K C x=some none/\copiedNames.contains x=false/\tD K C x (gq C (n+i))
 | n,0,l,_,i,x,_,Q=>absurd Q (ij _)
 | n,k+1,[],_,i,x,z,_=>nomatch z
 | n,k+1,y::r,h,0,x,z,_=>al z▸⟨nB (ah h),gR (ah (ai h)),Gq (ah (ai (ai h)))⟩
 | n,k+1,y::r,h,i+1,x,z,Q=>(iv n i)▸zP (ai (ai (ai h))) i x z (Nat.lt_of_succ_lt_succ Q)
noncomputable def qJ(K:Frag)(C:Nat):Bool:=plainOver K C&&(hasDictIn K C&&(makesIn K C&&(keepIn K (.ref C)&&Ds K C 0 42 anL)))
noncomputable def blt(n:String)(v:Value):Bool:=match v with
 | .builtin m=>m==n
 | _=>false
theorem blt_eq(h:blt n v=true):v=.builtin n:=by
 cases v with
 | builtin=>exact ab _ (ey.mp h)
 | _=>exact ff h
noncomputable def findB(K:Frag)(C:Nat):Bool:=vB (blt "object.__setattr__") (findIn K (.ref C) "__setattr__")&&(vB (blt "object.__getattribute__") (findIn K (.ref C) "__getattribute__")&&(noB (findIn K (.ref C) "__getattr__")&&(noB (findIn K (.ref C) "__bool__")&&(A0 (iO C) (findIn K (.ref C) "__init__")&&(typeIn K (.ref (iO C))).any (sy "function")))))
theorem Dt{x:Option Value}(h:x.any (sy t)=true):x=some (.type t):=lX h λa e q=>e.trans (ab some (vH q))
theorem HA(h:vB (blt n) x=true):x=some (some (.builtin n)):=Gp (P:=λx=>x=some (some (.builtin n))) h λv q=>blt_eq q▸rfl
theorem uq{K:Frag}{C:Nat}(h:qJ K C=true)(f:findB K C=true):HV K anL 42 C where
 sa:=HA (ah f)
 ga:=HA (ah (ai f))
 gt:=nB (ah (ai (ai f)))
 po:=ah h
 hd:=ah (ai h)
 bool:=nB (ah (ai (ai (ai f))))
 make:=ah (ai (ai h))
 init:=lY (ah (ai (ai (ai (ai f)))))
 G4:=Dt (ai (ai (ai (ai (ai f)))))
 keep:=ah (ai (ai (ai h)))
 att:=λn x z Q=>lL n▸zP (ai (ai (ai (ai h)))) n x z Q
theorem LN(P:Params):qJ (K P) 100=true:=by kernel_rfl
theorem LO(P:Params):qJ (K P) 135=true:=by kernel_rfl
theorem LP(P:Params):qJ (K P) 283=true:=by kernel_rfl
theorem LQ(P:Params):qJ (K P) 427=true:=by kernel_rfl
theorem LR(P:Params):findB (K P) 100=true:=by kernel_rfl
theorem LS(P:Params):findB (K P) 135=true:=by kernel_rfl
theorem LU(P:Params):findB (K P) 283=true:=by kernel_rfl
theorem LV(P:Params):findB (K P) 427=true:=by kernel_rfl
noncomputable def LW(K:Frag)(p:Nat×Nat×Nat):Bool:=anL[p.2.1]?.any (λx=>A0 p.2.2 (findIn K (.ref p.1) x))&&((typeIn K (.ref p.2.2)).any (sy "function")&&keepIn K (.ref p.2.2))
theorem meths(P:Params):I5.all (LW (K P))=true:=by kernel_rfl
theorem Du{m:Nat}(h:mF c m=some f):(c,m,f)∈I5:=
 (e0.mp h).elim λp h=>
  have z:(p.1==c&&p.2.1==m)=true:=find?_some (p:=λp:Nat×Nat×Nat=>p.1==c&&p.2.1==m) h.1
  have e:p=(c,m,f):=my (ey.mp (ah z)) (my (ey.mp (ai z)) h.2)
  e▸mem_of_find?_eq_some h.1
noncomputable def LX(K:Frag)(p:Str×CV):Bool:=vB (vI p.2) (nsIn K mainGlobals p.1)
noncomputable def Nt(K:Frag)(p:Str×Nat):Bool:=A0 p.2 (nsIn K mainGlobals p.1)&&keepIn K (.ref p.2)
theorem LY(P:Params):ckF.glob.all (LX (K P))=true:=by kernel_rfl
theorem Nu(P:Params):ckF.fns.all (Nt (K P))=true:=by kernel_rfl
theorem I8(P:Params):(ckF.nZ.all λx=>noB (nsIn (K P) mainGlobals x))=true:=by kernel_rfl
theorem I9(P:Params):noB (findIn (K P) (.ref 135) "__len__")=true:=by kernel_rfl
theorem Ja(P:Params):noB (findIn (K P) (.ref 427) "__len__")=true:=by kernel_rfl
theorem Jb(P:Params):A0 83 (findIn (K P) (.ref 100) "__len__")=true:=by kernel_rfl
theorem Nv(P:Params):(typeIn (K P) (.ref 83)).any (sy "function")=true:=by kernel_rfl
theorem Nx(P:Params):((K P).lookup sysModules).isSome=true:=by kernel_rfl
noncomputable def Dv:List Str->Bool
 | []=>true
 | x::r=>!(r.any λy=>cV x y)&&Dv r
theorem sD:∀{l:Bi},Dv l=true->l.Nodup
 | [],_=>dt
 | x::r,h=>ei.mpr ⟨λz=>any_eq_false.mp (gR (ah h)) x z (aL.mpr rfl),sD (ai h)⟩
theorem A1:anL.Nodup:=sD (by kernel_rfl)
theorem Gr{P:Nat->Prop}{C:Nat}(h:bu C=true)(z:P 100)(Q:P 135)(w:P 283)(y:P 427):P C:=by
 unfold bu at h
 exact(eb.mp h).elim (λh=>(eb.mp h).elim (λh=>(eb.mp h).elim (λh=>ey.mp h▸z) λh=>ey.mp h▸Q) λh=>ey.mp h▸w) λh=>ey.mp h▸y
theorem tab_of(X:(K P).In z):Tab (K P) anL 42 mF z where
 nd:=A1
 few:=by decide
 cls:=λC Q=>Gr (P:=λC=>HV (K P) anL 42 C) Q (uq (LN P) (LR P)) (uq (LO P) (LS P)) (uq (LP P) (LU P)) (uq (LQ P) (LV P))
 len:=λC Q=>(eb.mp Q).elim (λh=>ey.mp h▸nB (I9 P)) λh=>ey.mp h▸nB (Ja P)
 wQ:=λC m f w=>
  have h:=eQ.mp (meths P) _ (Du w)
  lX (ah h) λx y q=>⟨x,y,lY q,Dt (ah (ai h))⟩
 J4:=(Option.isSome_iff_exists.mp (Nx P)).elim λo Y=>⟨o,X _ _ Y⟩
theorem GOk.ck(h:GOk g):CK.Ok ckF g:=
 {ok:=⟨h.X,h.gl,h.bl,h.nolimit,h.builtins,by(erw[h.AN];erw[h.nA];erw[h.M];erw[h.K]);exact tab_of (h.K▸h.X)⟩
  glob:=λp z=>by
   erw[h.K]
   exact Gp (P:=λy=>∃v,y=some (some v)/\∀h,RV h v p.2) (eQ.mp (LY _) p z) λv q=>⟨v,rfl,λY=>oU q⟩
  fns:=λp z=>by
   erw[h.K]
   have q:=eQ.mp (Nu g.w.params) p z
   exact⟨lY (ah q),ai q⟩
  nZ:=λx w=>by erw[h.K];exact nB (eQ.mp (I8 _) x w)
  an:=h.AN
  na:=h.nA
  wQ:=λc m f Q=>by
   rw[h.M] at Q
   erw[h.K]
   exact ai (ai (eQ.mp (meths _) _ (Du Q)))
  l83:=by erw[h.K];exact lY (Jb _)
  f83:=by erw[h.K];exact Dt (Nv _) }
theorem Jc{f:Nat}(h:fF f=some z):(f,z)∈Gi:=
 (e0.mp h).elim λp h=>
  have Q:(p.1==f)=true:=find?_some (p:=λp:Nat×Fn=>p.1==f) h.1
  have e:p=(f,z):=my (ey.mp Q) h.2
  e▸mem_of_find?_eq_some h.1
theorem GOk.prog(h:GOk g):Prog g fF:=
 have C:=h.ck
 ⟨C.ok,λf V Y=>
  have U:=h.K▸Dr g.w.params _ (Jc Y)
  match Gn h.X U with
  | .mk fd body vm D z=>⟨fd,body,vm,D,λn y L Q w=>
   have v:CK.Ok ckF (g.dn n (calls fF g.M n) (f7 fd f L::y)):=⟨⟨C.ok.X,C.ok.gl,C.ok.bl,C.ok.nolimit,C.ok.builtins,C.ok.T⟩,C.glob,C.fns,C.nZ,C.an,C.na,C.wQ,C.l83,C.f83⟩
   Dk ⟨rfl,D.kind⟩ D.Iz z v λk=>⟨rfl,w,Q,⟨y,rfl⟩,rfl⟩⟩⟩
noncomputable def sS:Str:=u 147
noncomputable def sA:Str:=u 129
noncomputable def sB:Str:=u 130
noncomputable def sa:Str:=u 161
noncomputable def sb:Str:=u 162
noncomputable def xN:Str:=u 15189026565
noncomputable def sP:Str:=u 9939
noncomputable def eS:Str:=u 145822180
noncomputable def jq:Str:=u 99360369208828
noncomputable def rP:Str:=u 110
noncomputable def kU:Str:=u 15352600498
noncomputable def kW:List Str:=[sa,sb,sA,sB,xN]
noncomputable def aH:List Str:=[sa,sb,sA,sB,xN,sS]
noncomputable def bz:List Str:=[sS,sA,sB]
noncomputable def dS:List Str:=[sa,sb,xN]
noncomputable def laS:List Str:=[sa,sb,xN,eS,jq]
noncomputable def qK:List CV:=kW.map .str
noncomputable def jD:List CV:=aH.map .str
noncomputable def nE(L:Nat)(Q:List Int):CH:=⟨λa=>if a=439 then some qK else if a=440 then some jD else if a=L then some (Q.map .int) else none,λz=>none,λz=>none,λz=>none,λz z=>none⟩
noncomputable abbrev aI:=Str×List Str
noncomputable def dP(r:aI):CV:=.tup [.str r.1,.tup (r.2.map .str)]
noncomputable abbrev Pl:=Nat×Nat
noncomputable def plC(p:Pl):CV:=.tup [.int p.1,.int p.2]
noncomputable abbrev BM:=List Pl
noncomputable def ay(q:BM):CV:=.tup (q.map plC)
noncomputable def nub(acc l:Bi):List Str:=l.foldl (λacc x=>if x∈acc then acc else acc++[x]) acc
section
variable(R:List aI)
noncomputable def lhs(r:Nat):Str:=(R[r]?.map (·.1)).getD (u 1)
noncomputable def rhs(r:Nat):List Str:=(R[r]?.map (·.2)).getD []
noncomputable def after(p:Pl):List Nat:=match (rhs R p.1)[p.2]? with
 | some x=>(range R.length).filter λr=>decide (1<=r/\lhs R r=x)
 | none=>[]
noncomputable def kX:Nat->List Nat->List Pl->List Pl
 | 0,_,_=>[]
 | _+1,_,[]=>[]
 | f+1,ad,j::t=>j::kX f (ad++(after R j).filter (λr=>decide (r∉ad))) (t++((after R j).filter (λr=>decide (r∉ad))).map λr=>(r,0))
noncomputable def clo(I:BM):List Pl:=kX R (I.length+R.length+1) [] I
noncomputable def moves(q:BM)(x:Str):List Pl:=q.filterMap λp=>if (rhs R p.1)[p.2]?=some x then some (p.1,p.2+1) else none
end
noncomputable def fh(z:Nat)(l:Bi):Prop:=l.length<=z/\(∀x∈l,x∈aH)/\∀x,l[0]?=some x->x∈kW
structure Rows(rows:List aI):Prop where
 len:3<=rows.length/\rows.length<=4
 r0:∃x,rows[0]?=some (sS,x)
 r1:∃x,rows[1]?=some (sA,x)
 r2:∃x,rows[2]?=some (sB,x)/\x.length<=1
 good:∀r∈rows,r.1∈bz/\fh 2 r.2
 nd:rows.Nodup
noncomputable def cH(s:Str):Prop:=s.cps.toList.all (Nat.blt · 128)=true
theorem aO{x:Str}(h:x∈aH):cH x:=by
 revert h x
 unfold cH
 decide
theorem eu{x:Str}(h:x∈laS):cH x:=by
 revert h x
 unfold cH
 decide
theorem b6{x:Str}(h:x∈bz):x∈aH:=by
 revert h x
 decide
theorem ak{z:Type}{x:Option z}{v:z}(h:x=some v):x≠none:=h▸cw _
theorem cT{z:Type}{f:Nat->Option z}{v:z}:upd f a v a=some v:=ch rfl
theorem aZ{z:Type}{f:Nat->Option z}{a b:Nat}{v:z}(h:b≠a):upd f a v b=f b:=ca h
theorem xO{z:Type}{f:Nat->Option z}{a b n:Nat}{v:z}(h:b<n)(Q:n<=a):upd f a v b=f b:=aZ (dr (cf h Q))
structure Wf(H:CH):Prop where
 ro:∀a,H.ro a≠none->H.lst a=none/\H.dct a=none/\H.cls a=none
 lst:∀a,H.lst a≠none->H.ro a=none/\H.dct a=none/\H.cls a=none
 dct:∀a,H.dct a≠none->H.ro a=none/\H.lst a=none/\H.cls a=none
 cls:∀a,H.cls a≠none->H.ro a=none/\H.lst a=none/\H.dct a=none
 att:∀a,H.cls a=none->∀n,H.att n a=none
section
variable{H:CH}{a b:Nat}
theorem vK:(H.aA a l).lst b=if b=a then some l else H.lst b:=rfl
theorem qL:(H.bx a l).dct b=if b=a then some l else H.dct b:=rfl
theorem qM:(H.setC a k).cls b=if b=a then some k else H.cls b:=rfl
theorem lZ:(H.bH n a v).att m b=if m=n/\b=a then some v else H.att m b:=by
 unfold CH.bH upd
 by_cases h:m=n
 ·subst h
  by_cases e:b=a <;> simp[e]
 ·simp[h]
theorem iZ{z:Type}{x y:z}{P:z->Prop}(h:b=a->P x)(k:b≠a->P y):P (if b=a then x else y):=by
 split
 ·exact h ‹_›
 ·exact k ‹_›
theorem Wf.aA(w:Wf H)(h:H.lst a≠none∨H.free a):Wf (H.aA a l):=
 have z:H.ro a=none/\H.dct a=none/\H.cls a=none:=h.elim (w.lst a) λf=>⟨f.ro,f.dct,f.cls⟩
 ⟨λb e=>⟨iZ (P:=(·=none)) (λq=>absurd z.1 (q▸e)) λQ=>(w.ro b e).1,(w.ro b e).2⟩,
 λb e=>if q:b=a then by subst q;exact z else w.lst b (by rwa [vK,ca q] at e),
 λb e=>⟨(w.dct b e).1,iZ (P:=(·=none)) (λq=>absurd z.2.1 (q▸e)) λQ=>(w.dct b e).2.1,(w.dct b e).2.2⟩,
 λb e=>⟨(w.cls b e).1,iZ (P:=(·=none)) (λq=>absurd z.2.2 (q▸e)) λQ=>(w.cls b e).2.1,(w.cls b e).2.2⟩,w.att⟩
theorem Wf.bx(w:Wf H)(h:H.dct a≠none∨H.free a):Wf (H.bx a l):=
 have z:H.ro a=none/\H.lst a=none/\H.cls a=none:=h.elim (w.dct a) λf=>⟨f.ro,f.lst,f.cls⟩
 ⟨λb e=>⟨(w.ro b e).1,iZ (P:=(·=none)) (λq=>absurd z.1 (q▸e)) λQ=>(w.ro b e).2.1,(w.ro b e).2.2⟩,
 λb e=>⟨(w.lst b e).1,iZ (P:=(·=none)) (λq=>absurd z.2.1 (q▸e)) λQ=>(w.lst b e).2.1,(w.lst b e).2.2⟩,
 λb e=>if q:b=a then by subst q;exact z else w.dct b (by rwa [qL,ca q] at e),
 λb e=>⟨(w.cls b e).1,(w.cls b e).2.1,iZ (P:=(·=none)) (λq=>absurd z.2.2 (q▸e)) λQ=>(w.cls b e).2.2⟩,w.att⟩
theorem Wf.setC(w:Wf H)(f:H.free a):Wf (H.setC a k):=
 ⟨λb e=>⟨(w.ro b e).1,(w.ro b e).2.1,iZ (P:=(·=none)) (λq=>absurd f.ro (q▸e)) λz=>(w.ro b e).2.2⟩,
 λb e=>⟨(w.lst b e).1,(w.lst b e).2.1,iZ (P:=(·=none)) (λq=>absurd f.lst (q▸e)) λz=>(w.lst b e).2.2⟩,
 λb e=>⟨(w.dct b e).1,(w.dct b e).2.1,iZ (P:=(·=none)) (λq=>absurd f.dct (q▸e)) λz=>(w.dct b e).2.2⟩,
 λb e=>if q:b=a then by subst q;exact⟨f.ro,f.lst,f.dct⟩ else w.cls b (by rwa [qM,ca q] at e),
 λb e=>if q:b=a then by subst q;exact f.att else w.att b (by rwa [qM,ca q] at e)⟩
theorem Wf.bH(w:Wf H)(h:H.cls a≠none):Wf (H.bH n a v):=
 ⟨w.ro,w.lst,w.dct,w.cls,λb e m=>by
  rw[lZ,ca (λq:m=n/\b=a=>h (q.2▸e))];exact w.att b e m⟩
theorem CH.free.aA(h:(H.aA a l).free c):H.free c:=
 ⟨h.ro,by have:=h.lst;rw[vK] at this;split at this <;> first | cases this | exact this,h.dct,h.cls,h.att⟩
theorem CH.free.bx(h:(H.bx a l).free c):H.free c:=
 ⟨h.ro,h.lst,by have:=h.dct;rw[qL] at this;split at this <;> first | cases this | exact this,h.cls,h.att⟩
theorem CH.free.setC(h:(H.setC a k).free c):H.free c:=
 ⟨h.ro,h.lst,h.dct,by have:=h.cls;rw[qM] at this;split at this <;> first | cases this | exact this,h.att⟩
theorem CH.free.bH(h:(H.bH n a v).free c):H.free c:=
 ⟨h.ro,h.lst,h.dct,h.cls,λm=>by have:=h.att m;rw[lZ] at this;split at this <;> first | cases this | exact this⟩
theorem aD(h:H.lst a=some l):H.getL a=some l:=by unfold CH.getL;rw[h]
theorem zQ(w:Wf H)(h:H.ro a=some l):H.getL a=some l:=by unfold CH.getL;rw[(w.ro a (ak h)).1];exact h
theorem zR(z:H.lst a=none)(Q:H.ro a=none):H.getL a=none:=by unfold CH.getL;rw[z];exact Q
end
inductive Role
 | aq (l:B2)
 | aJ (es:At)
 | cK (c:Nat) (f:E1)
 | b7 | prods | names | jE (x:Str) | pmap | terms | iF | kY | prec | prod (r:Nat) | us (r:Nat)
 | qN | fst (x:Str) | qO | fol (x:Str)
 | item (r d:Nat) | vL
 | table | kH | A2 | sE | srL | nG | trie (x:Str) (p:BM) | stL (q:BM)
noncomputable def Role.own(ρ:Role):Bool:=ρ.casesOn (motive:=λz=>Bool) (λz=>true) (λz=>true) (λz z=>true) false false false (λz=>false) false false false false false (λz=>false) (λz=>false) false (λz=>false) false (λz=>false) (λz z=>false) false false false false false false false (λz z=>false) (λz=>false)
noncomputable def Role.gr(ρ:Role):Bool:=ρ.casesOn (motive:=λz=>Bool) (λz=>true) (λz=>true) (λz z=>true) true true true (λz=>true) true true true true true (λz=>true) (λz=>true) true (λz=>true) true (λz=>true) (λz z=>true) true false false false false false false (λz z=>false) (λz=>false)
noncomputable def Role.fx(Q:Role):Nat:=Q.casesOn (motive:=λz=>Nat) (λz=>0) (λz=>1) (λz z=>2) 5 5 5 (λz=>5) 5 5 5 5 5 (λz=>3) (λz=>4) 5 (λz=>5) 5 (λz=>5) (λz z=>5) 5 5 5 5 5 5 5 (λz z=>5) (λz=>5)
theorem zS:∀{z:List WData},WShape.hasItems R z .int=true->∃Q:List Int,z=Q.map .int
 | [],_=>⟨[],rfl⟩
 | x::z,h=>by
  simp only[WShape.hasItems,Bool.and_eq_true] at h
  obtain⟨Q,rfl⟩:=zS h.2
  obtain⟨i,rfl⟩:=hasW_int h.1
  exact⟨i::Q,rfl⟩
theorem Gs(w:rw0.toRowW.claim.pre z=true):∃Q:List Int,z=[.list (Q.map .int)]/\Q.length<=63:=by
 obtain⟨V,k⟩:=pre_splitW w
 obtain⟨d,r,rfl,j,y⟩:=hasAllW_cons (e:=.list .int) (es:=[]) V
 have y:=hasAllW_nil y
 subst y
 obtain⟨o,rfl,J⟩:=hasW_list j
 obtain⟨Q,rfl⟩:=zS J
 refine⟨Q,rfl,?_⟩
 have Y:=(holds_andW (a:=.not (.lt (.lit (.int 63)) (.len (.arg 0)))) (b:=.lit (.bool true)) k).1
 unfold WTm.holds at Y
 simp only[WTm.value,getElem?_cons_zero,ba] at Y
 by_cases h:Q.length<=63
 ·exact h
 ·have U:(63:Int)<(Q.length:Int):=by lia
  have v:(match (match some (WData.bool (decide ((63:Int)<(Q.length:Int)))) with | some (WData.bool b)=>some (WData.bool !b) | _=>none) with | some (WData.bool true)=>true | _=>false)=true:=Y
  rw[cn U] at v
  cases v
theorem sF:∀{z:List Int} {Q:Cl} {as:Fa},ReadsAllW R w h Q (z.map .int) as->RVs h Q (z.map .int)
 | [],_,_,.nil=>.nil
 | n::z,_,_,y=>by
  cases y with
  | cons a b=>
   cases a
   exact .cons (.int _ _) (sF b)
noncomputable def zT(K:Frag)(a:Nat)(z:B2):Bool:=Gk K "list" a λQ=>allB vI Q z
theorem ur{K:Frag}(X:K.In h){P:Prop}(e:zT K a Q=true)(k:∀o z n,h.get? a=some o->o.cls=.type "list"->o.data=.seq z n->RVs h z.toList Q->P):P:=
 xM X e λo z n w y Y q=>k o z n w y Y (uo (λU U=>oU) q)
theorem zU(P:Params):zT (K P) 439 qK=true:=by kernel_rfl
theorem zV(P:Params):zT (K P) 440 jD=true:=by kernel_rfl
theorem Jd(P:Params):A0 492 (nsIn (K P) mainGlobals "law")=true:=by kernel_rfl
theorem Gu:wM.name=ofString "law":=by kernel_rfl
theorem apart{K:Frag}(X:K.In h){L:Nat}(e:zT K a Q=true)(k:∃x,Q[0]?=some (.str x)){oL:Obj}(j:h.get? L=some oL)(J:oL.data=.seq w n){z:List Int}(y:RVs h w.toList (z.map .int)):L≠a:=λq=>by
 subst q
 exact ur X e λo O l Y t U p=>by
  rw[j] at Y;cases Y
  rw[J] at U;cases U
  obtain⟨x,f⟩:=k
  obtain⟨v,q1,q2⟩:=p.get 0 f
  cases z with
  | nil=>rw[length_eq_zero_iff.mp y.length] at q1;cases q1
  | cons m z=>
   obtain⟨T,V,g⟩:=y.get 0 (c:=.int m) rfl
   rw[q1] at V;cases V
   cases g;cases q2
theorem holds_of(hL:∀(L:Nat) (U:List Int),L≠439->L≠440->U.length<=63->calls fF mF 30 492 [.ref L] (nE L U) (λv B=>v=.bool true)):PySem.Challenge.rw_rp0002_01.Holds:=by
 refine head prom λw S z mg mb GT Y a o pm cd z3 dV kV ho W N z4 A V Z z0 as t z1 k D z2=>?_
 have X:(K w.params).In z.heap:=kIn_of Y
 have E:a=492:=by
  have y:=mg_of X GT.T.g (lY (Jd w.params))
  rw[← Gu,A] at y
  injection y with y
  injection y with y
 subst E
 obtain⟨U,rfl,T⟩:=Gs t
 cases k with
 | @cons v vs d ds as bs hr j=>
 cases j
 cases hr with
 | @list L oL vs n xs as J I O h=>
 have Q:=sF h
 have x:L≠439:=apart X (zU _) ⟨_,rfl⟩ J O Q
 have C:L≠440:=apart X (zV _) ⟨_,rfl⟩ J O Q
 let g:G:={ prog:=tp,w:=w,K:=K w.params,AN:=anL,nA:=I4,os:=z.os,h₀:=z.heap,mg:=mg,mb:=mb,n:=30,hd:=true,Φ:=calls fF mF 30,M:=mF,fs:=[] }
 have hg:GOk g:=⟨rfl,rfl,rfl,rfl,X,GT.T.g,GT.T.b,GT.T.nolimit,GT.T.builtins⟩
 have s:FS g:=hg.prog.fs 30 [] ⟨λe he=>nomatch he⟩
 have hA:OKF g.fs g.n callerA:=⟨rfl,by show callerA.units+200 * 30+100<cLine;decide,by show callerA.depth+10 * 30+5<recursionLimit;decide,rfl,rfl⟩
 have hR:av g.w g.AN g.os g.h₀ (λb o=>z.heap.get? b=some o) z (nE L U):=by
  refine⟨rfl,V,λb o e=>⟨o,e,.refl o⟩,λb o e=>e,λb o e=>e,λa l e=>?_,λa l e=>(nomatch e),λa l e=>(nomatch e),λa l e=>(nomatch e),λa b c d dx e=>(nomatch e),λn a e=>absurd rfl e⟩
  revert e
  show(if a=439 then some qK else if a=440 then some jD else if a=L then some (U.map .int) else none)=some l->_
  by_cases q1:a=439
  ·erw[ch q1];intro e;cases e;subst q1
   exact ur X (zU w.params) λm p i y r F P=>⟨m,p,i,y,r,F,P,by decide⟩
  ·erw[ca q1]
   by_cases q2:a=440
   ·erw[ch q2];intro e;cases e;subst q2
    exact ur X (zV w.params) λm p i y r F P=>⟨m,p,i,y,r,F,P,by decide⟩
   ·erw[ca q2]
    by_cases R:a=L
    ·erw[ch R];intro e;cases e;subst R
     exact⟨oL,vs,n,J,I,O,Q,by erw[ba _];exact ae T (by decide)⟩
    ·erw[ca R];exact λe=>nomatch e
 show wpAny (model tp w) callerA (PySem.call (.ref 492) [.ref L]) _ _ z
 refine wpAny_call (s 492 [.ref L] [.ref L] callerA _ z (nE L U) (λv B=>v=.bool true) _ hA (λb hb=>nomatch hb) hR (.cons (.ref L) .nil) (hL L U x C T) λv c s' H' hv f hq=>?_)
 subst hq
 cases hv
 exact GoodW.toG ⟨.inl ⟨_,.bool true,[],rfl,λB=>rfl,.bool true,by kernel_rfl,λB=>⟨dt,λa E=>nomatch E⟩⟩,f.old,f.os,f.gens⟩
inductive dN{α β:Type}(P:α->β->Prop):List α->List β->Prop
 | nil:dN P [] []
 | cons {a b l m}:P a b->dN P l m->dN P (a::l) (b::m)
section
variable{α z:Type}{P Q:α->z->Prop}{l l':List α}{m m':List z}
theorem dN.mono(h:∀a b,P a b->Q a b)(x:dN P l m):dN Q l m:=by
 induction x with
 | nil=>exact .nil
 | cons p _ w=>exact .cons (h _ _ p) w
theorem dN.len(x:dN P l m):l.length=m.length:=by
 induction x with
 | nil=>rfl
 | cons p _ w=>exact ab Nat.succ w
theorem dN.app(x:dN P l m)(y:dN P l' m'):dN P (l++l') (m++m'):=by
 induction x with
 | nil=>exact y
 | cons p _ w=>exact .cons p w
theorem dN.get(x:dN P l m):∀{i:Nat} {a:α},l[i]?=some a->∃b,m[i]?=some b/\P a b:=by
 induction x with
 | nil=>exact λh=>nomatch h
 | cons p _ w=>exact λ{i a} h=>match i,h with
  | 0,rfl=>⟨_,rfl,p⟩
  | i+1,h=>w h
theorem dN.get'(x:dN P l m):∀{i:Nat} {b:z},m[i]?=some b->∃a,l[i]?=some a/\P a b:=by
 induction x with
 | nil=>exact λh=>nomatch h
 | cons p _ w=>exact λ{i a} h=>match i,h with
  | 0,rfl=>⟨_,rfl,p⟩
  | i+1,h=>w h
end
structure PK where
 R:List aI
 k:Nat:=1
 kq:Nat:=1
 kn:Nat:=1
 kt:Nat:=1
 km:Nat:=1
 z:Bool:=false
 aNm:Str->Nat:=λζ=>0
 c:Nat:=0
 pr:Nat->Nat:=λζ=>0
structure PI where
 li:Nat:=0
 lx:Nat:=0
 ly:Nat:=0
 it:Nat->Nat->Nat:=λζ ζ=>0
structure PM where
 ad:Nat->Int:=λζ=>0
 m:Int:=0
structure PF where
 fe:Bool:=true
 ff:Bool:=false
 af:Str->Option Nat:=λζ=>none
 fc:Str->List Str:=λζ=>[]
structure PO where
 ge:Bool:=true
 fz:Bool:=false
 ao:Str->Option Nat:=λζ=>none
 fo:Str->List Str:=λζ=>[]
structure PA where
 gr:Nat:=0
 aP:Nat:=0
 aPn:Nat:=0
 aPm:Nat:=0
 aT:Nat:=0
 aN:Nat:=0
 aF:Nat:=0
 aFo:Nat:=0
 aPr:Nat:=0
 nk:Option (List Str):=none
structure PQ where
 tb:Nat:=0
 vM:Nat:=0
 n8:Nat:=0
 Je:Nat:=0
 aSr:Nat:=0
 aRr:Nat:=0
 qs:List (List Pl):=[]
structure PE where
 hash:Nat:=0
 he:List (CV×CV):=[]
 acE:List (CV×CV):=[]
 goE:List (CV×CV):=[]
 sc:Nat:=0
structure Par extends PK,PI,PM,PF,PO,PA,PQ,PE
structure Ob where
 lst:Option (List CV)
 dct:Option (List (CV×CV))
 cls:Option Nat
 att:Nat->Option CV
noncomputable def view(H:CH)(a:Nat):Ob:=⟨H.lst a,H.dct a,H.cls a,λn=>H.att n a⟩
noncomputable abbrev TY:=Nat->Option Role
noncomputable def AR(v:Ob)(z:TY)(n b:Nat)(Q:Role):Prop:=v.att n=some (.ref b)/\z b=some Q
section
variable(K:PK)(I:PI)(M:PM)(A:PA)(T:PQ)(ty:TY)(v:Ob)
structure HB:Prop where
 cls:v.cls=some 283
 a17:AR v ty 17 A.aP .prods
 a18:AR v ty 18 A.aPn .names
 a19:AR v ty 19 A.aPm .pmap
 a20:AR v ty 20 A.aT .terms
 a21:AR v ty 21 A.aN .iF
 a22:AR v ty 22 A.aF .qN
 a23:AR v ty 23 A.aFo .qO
 a24:AR v ty 24 A.aPr .prec
 no:∀n,42<=n->v.att n=none
structure Dw(a r:Nat):Prop where
 pr:a=K.pr r
 rk:r<K.k/\(1<=r∨K.z=true)
 cls:v.cls=some 100
 a2:v.att 2=some (.str (lhs K.R r))
 a3:v.att 3=some (.tup ((rhs K.R r).map .str))
 a4:v.att 4=some (.int r)
 a8:v.att 8=some (.int 0)
 a9:v.att 9=some (.tup [.str kU,.int 0])
 a11:∃b,AR v ty 11 b (.us r)
 a0:v.att 0=none∨∃i,v.att 0=some (.int i)
 a1:(v.att 1=none/\M.ad r=0)∨v.att 1=some (.int (M.ad r))
 am:M.ad r<=M.m
 a13:(r<I.li∨r=I.li/\0<I.lx)->∃b,AR v ty 13 b (.item r 0)
noncomputable def Aft(R:List aI)(ty:TY)(r d b:Nat):Prop:=∃z,ty b=some z/\match (rhs R r)[d]? with
 | some x=>if x∈bz then z=.jE x else z=.vL
 | none=>z=.vL
structure HC(a r d:Nat):Prop where
 pin:a=I.it r d
 ex:r<I.li∨r=I.li/\d<I.ly
 rk:r<K.k
 dk:d<=(rhs K.R r).length
 cls:v.cls=some 135
 a2:v.att 2=some (.str (lhs K.R r))
 a3:v.att 3=some (.tup (((rhs K.R r).take d++rP::(rhs K.R r).drop d).map .str))
 a4:v.att 4=some (.int r)
 a10:v.att 10=some (.int ((rhs K.R r).length+1:Nat))
 a11:∃b,AR v ty 11 b (.us r)
 a15:v.att 15=some (.int d)
 a27:∃b,v.att 27=some (.ref b)/\Aft K.R ty r d b
 a28:∃w,v.att 28=some w/\∀e x,d=e+1->(rhs K.R r)[e]?=some x->w=.str x
 a13:(r<I.li∨r=I.li/\d+1<I.lx)->(d<(rhs K.R r).length/\∃b,AR v ty 13 b (.item r (d+1)))∨d=(rhs K.R r).length/\v.att 13=some .none
structure Dy(hash:Nat):Prop where
 cls:v.cls=some 427
 a29:AR v ty 29 A.gr .b7
 a30:v.att 30=some (.str (u 1349811))
 a31:AR v ty 31 T.vM .A2
 a32:AR v ty 32 T.n8 .sE
 a34:AR v ty 34 T.Je .nG
 a35:AR v ty 35 hash .kH
 a36:v.att 36=some (.int M.m)
 a40:AR v ty 40 T.aSr .srL
 a41:AR v ty 41 T.aRr .srL
 no:∀n,42<=n->v.att n=none
end
noncomputable def jF(z:TY)(q:BM)(v:CV):Prop:=(v=.none/\q=[])∨∃b,v=.ref b/\z b=some (.stL q)
noncomputable def vN(q:BM)(x:Str):CV:=.tup [ay q,.str x]
structure SD(ty:TY)(D:Bi)(f:Str->Role)(g:Str->Nat->Prop)(es:At):Prop where
 ks:∀p∈es,∃x∈D,p.1=.str x/\∃b,p.2=.ref b/\ty b=some (f x)/\g x b
 nd:(es.map (·.1)).Nodup
noncomputable def Sat(P:Par)(Q:TY)(v:Ob)(a:Nat):Role->Prop
 | .aq l=>v.lst=some l
 | .aJ z=>v.dct=some z
 | .cK c f=>v.cls=some c/\v.att=f
 | .b7=>a=P.gr/\HB P.toPA Q v
 | .prods=>a=P.aP/\v.lst=some ((if P.z then .ref (P.pr 0) else .none)::(range' 1 (P.kq - 1)).map λi=>.ref (P.pr i))/\∀i,i<P.kq->(P.z=true∨1<=i)->Q (P.pr i)=some (.prod i)
 | .names=>a=P.aPn/\∃z,v.dct=some z/\SD Q bz .jE (λw w=>True) z/\∀i,1<=i->i<P.kn->au z (.str (lhs P.R i))≠none
 | .jE x=>a=P.aNm x/\v.lst=some (((range P.kn).filter λr=>decide (1<=r/\lhs P.R r=x)).map λi=>.ref (P.pr i))/\(∀i,i<P.kn->1<=i->Q (P.pr i)=some (.prod i))/\∃i,1<=i/\i<P.kn/\lhs P.R i=x
 | .pmap=>a=P.aPm/\∃z,v.dct=some z/\z.length<P.km/\∀p∈z,∃i,1<=i/\i<P.km/\p.1=.str (fT (lhs P.R i) (rhs P.R i))
 | .terms=>∃z,v.dct=some z/\z.map (·.1)=dS.map .str/\∀p∈z,∃b,p.2=.ref b/\Q b=some .kY
 | .iF=>a=P.aN/\∃z,v.dct=some z/\SD Q bz (λw=>.kY) (λw w=>True) z/\(∀i,1<=i->i<P.kt->au z (.str (lhs P.R i))≠none)/\∀ks,P.nk=some ks->z.map (·.1)=ks.map .str
 | .kY=>∃l,v.lst=some l/\l.length<=P.c
 | .prec=>v.dct=some []
 | .prod r=>Dw P.toPK P.toPI P.toPM Q v a r
 | .us r=>v.lst=some ((nub [] (rhs P.R r)).map .str)
 | .qN=>a=P.aF/\∃z,v.dct=some z/\SD Q (eS::aH) .fst (λx b=>P.af x=some b) z/\(P.fe=true->z=[])/\(P.ff=true->∀x∈aH,au z (.str x)≠none)
 | .fst x=>v.lst≠none/\(P.af x=some a->v.lst=some ((P.fc x).map .str)/\(P.fc x).Nodup/\∀y∈P.fc x,y∈laS)
 | .qO=>a=P.aFo/\∃z,v.dct=some z/\SD Q bz .fol (λx b=>P.ao x=some b) z/\(P.ge=true->z=[])/\(P.fz=true->∀x∈bz,au z (.str x)≠none)
 | .fol x=>v.lst≠none/\(P.ao x=some a->v.lst=some ((P.fo x).map .str)/\(P.fo x).Nodup/\∀y∈P.fo x,y∈laS/\y≠jq)
 | .item r d=>HC P.toPK P.toPI Q v a r d
 | .vL=>v.lst=some []
 | .table=>a=P.tb/\Dy P.toPM P.toPA P.toPQ Q v P.hash
 | .kH=>v.dct≠none/\(P.hash=a->v.dct=some P.he)
 | .A2=>a=P.vM/\v.dct=some P.acE
 | .sE=>a=P.n8/\v.dct=some P.goE
 | .srL=>∃l,v.lst=some l/\l.length<=P.sc
 | .nG=>∃z,v.dct=some z/\(∀p∈z,∃x∈aH,(p.1=.str x/\∃b,p.2=.ref b/\Q b=some (.trie x []))∨∃q∈P.qs,p.1=vN q x/\jF Q (clo P.R (moves P.R q x)) p.2)/\(z.map (·.1)).Nodup
 | .trie x p=>∃z,v.dct=some z/\(∀e∈z,(e.1=.str eS/\∃b,e.2=.ref b/\Q b=some (.stL (clo P.R p)))∨∃r d,r<P.k/\d<=(rhs P.R r).length/\e.1=plC (r,d)/\∃b,e.2=.ref b/\Q b=some (.trie x (p++[(r,d)])))/\(z.map (·.1)).Nodup
 | .stL q=>∃l:List Nat,v.lst=some (l.map .ref)/\dN (λa p=>Q a=some (.item p.1 p.2)) l q/\q.length<1000
theorem Sat.live{v:Ob}:∀{ρ:Role},Sat P z v a ρ->v.lst≠none∨v.dct≠none∨v.cls≠none
 | .aq _,h | .us _,h | .vL,h=>.inl (ak h)
 | .aJ _,h | .prec,h=>.inr (.inl (ak h))
 | .cK _ _,h=>.inr (.inr (ak h.1))
 | .b7,h | .table,h=>.inr (.inr (ak h.2.cls))
 | .prod _,h | .item _ _,h=>.inr (.inr (ak h.cls))
 | .prods,h | .jE _,h=>.inl (ak h.2.1)
 | .A2,h | .sE,h=>.inr (.inl (ak h.2))
 | .fst _,h | .fol _,h=>.inl h.1
 | .kH,h=>.inr (.inl h.1)
 | .names,h | .pmap,h | .iF,h | .qN,h | .qO,h=>.inr (.inl (ak h.2.choose_spec.1))
 | .terms,h | .nG,h | .trie _ _,h=>.inr (.inl (ak h.choose_spec.1))
 | .kY,h | .srL,h | .stL _,h=>.inl (ak h.choose_spec.1)
section
variable{P:Par}{w Q:TY}
theorem SD.mono{f:Str->Role}(z:∀b x,w b=some (f x)->Q b=some (f x))(h:SD w D f g es):SD Q D f g es:=
 ⟨λp y=>let ⟨x,Y,e,b,U,t,q⟩:=h.ks p y;⟨x,Y,e,b,U,z _ _ t,q⟩,h.nd⟩
theorem AR.mono(h:AR v w n b ρ)(z:w b=some ρ->Q b=some ρ):AR v Q n b ρ:=⟨h.1,z h.2⟩
theorem Sat.mono{ρ:Role}(y:∀b Y,Y.own=false->(ρ.gr=true->Y.gr=true)->w b=some Y->Q b=some Y)(h:Sat P w v a ρ):Sat P Q v a ρ:=by
 cases ρ with
 | b7=>
  have m:∀{n b ρ},ρ.own=false->ρ.gr=true->AR v w n b ρ->AR v Q n b ρ:=λo g q=>q.mono (y _ _ o λU=>g)
  exact⟨h.1,h.2.cls,m rfl rfl h.2.a17,m rfl rfl h.2.a18,m rfl rfl h.2.a19,m rfl rfl h.2.a20,m rfl rfl h.2.a21,m rfl rfl h.2.a22,m rfl rfl h.2.a23,m rfl rfl h.2.a24,h.2.no⟩
 | prods=>exact⟨h.1,h.2.1,λi a b=>y _ _ rfl id (h.2.2 i a b)⟩
 | names=>exact⟨h.1,h.2.imp λes q=>⟨q.1,q.2.1.mono λU U=>y _ _ rfl id,q.2.2⟩⟩
 | jE=>exact⟨h.1,h.2.1,λi a b=>y _ _ rfl id (h.2.2.1 i a b),h.2.2.2⟩
 | terms=>exact h.imp λes q=>⟨q.1,q.2.1,λp V=>(q.2.2 p V).imp λb q=>⟨q.1,y _ _ rfl id q.2⟩⟩
 | iF=>exact⟨h.1,h.2.imp λes q=>⟨q.1,q.2.1.mono λU U=>y _ _ rfl id,q.2.2⟩⟩
 | prod=>exact{ h with a11:=h.a11.imp λb t=>t.mono (y _ _ rfl id),a13:=λq=>(h.a13 q).imp λb t=>t.mono (y _ _ rfl id) }
 | qN=>exact⟨h.1,h.2.imp λes q=>⟨q.1,q.2.1.mono λU U=>y _ _ rfl id,q.2.2⟩⟩
 | qO=>exact⟨h.1,h.2.imp λes q=>⟨q.1,q.2.1.mono λU U=>y _ _ rfl id,q.2.2⟩⟩
 | item r d=>
  exact{ h with
   a11:=h.a11.imp λb t=>t.mono (y _ _ rfl id)
   a13:=λq=>(h.a13 q).imp (λx=>⟨x.1,x.2.imp λb t=>t.mono (y _ _ rfl id)⟩) id
   a27:=h.a27.imp λb x=>⟨x.1,x.2.imp λρ x=>⟨by
    have z:ρ.own=false/\ρ.gr=true:=by
     have k:=x.2
     split at k
     ·split at k <;> exact k▸⟨rfl,rfl⟩
     ·exact k▸⟨rfl,rfl⟩
    exact y _ _ z.1 (λU=>z.2) x.1,x.2⟩⟩ }
 | table=>
  have m:∀{n b ρ},ρ.own=false->AR v w n b ρ->AR v Q n b ρ:=λo q=>q.mono (y _ _ o λk=>nomatch k)
  exact⟨h.1,{ h.2 with a29:=m rfl h.2.a29,a31:=m rfl h.2.a31,a32:=m rfl h.2.a32,a34:=m rfl h.2.a34,a35:=m rfl h.2.a35,a40:=m rfl h.2.a40,a41:=m rfl h.2.a41 }⟩
 | nG=>exact h.imp λes q=>⟨q.1,λp V=>(q.2.1 p V).imp λx z=>⟨z.1,z.2.imp (λz=>⟨z.1,z.2.imp λb t=>⟨t.1,y _ _ rfl ff t.2⟩⟩) λz=>z.imp λq z=>⟨z.1,z.2.1,z.2.2.imp id λt=>t.imp λb t=>⟨t.1,y _ _ rfl ff t.2⟩⟩⟩,q.2.2⟩
 | trie=>exact h.imp λes q=>⟨q.1,λp V=>(q.2.1 p V).imp (λz=>⟨z.1,z.2.imp λb t=>⟨t.1,y _ _ rfl ff t.2⟩⟩) λz=>z.imp λr z=>z.imp λd z=>⟨z.1,z.2.1,z.2.2.1,z.2.2.2.imp λb t=>⟨t.1,y _ _ rfl ff t.2⟩⟩,q.2.2⟩
 | stL=>exact h.imp λl q=>⟨q.1,q.2.1.mono λa p=>y _ _ rfl ff,q.2.2⟩
 | _=>exact h
end
structure Typed(P:Par)(ty:TY)(H:CH):Prop where
 wf:Wf H
 f:H.ro 439=some qK
 s:H.ro 440=some jD
 sat:∀a ρ,ty a=some ρ->Sat P ty (view H a) a ρ
structure Now(H0:CH)(t0:TY)(P:Par)(ty:TY)(H:CH):Prop where
 T:Typed P ty H
 live:∀a,H.free a->H0.free a
 agree:∀a,¬ H0.free a->ty a=t0 a
noncomputable def Kp(c:Nat)(w z:TY):Prop:=∀a Q,a≠c->w a=some Q->z a=some Q
noncomputable def Ka(w z:TY):Prop:=∀a Q,w a=some Q->z a=some Q
noncomputable def K1(c:Nat)(w z:TY):Prop:=∀a Q,w a=some Q->z a=some Q/\a≠c
noncomputable def Kn(w z:TY):Prop:=∀{a Q},w a=some Q->(o:Q.own=false:=by rfl)->z a=some Q
section
variable{P:Par}{z Q w:TY}{H U:CH}{a b c n:Nat}{ρ:Role}
theorem br(h:z a=some ρ)(o:ρ.own=false)(j:z c=some V)(O:V.own=true):a≠c:=λe=>by
 subst e;rw[h] at j;cases j;rw[o] at O;cases O
theorem oV(h:z a=some ρ)(j:z b=some V)(n:Nat.beq ρ.fx V.fx=false):a≠b:=λe=>Nat.ne_of_beq_eq_false n (ab Role.fx (al (h.symm.trans (e▸j))))
theorem Kp.nn(k:Kp c z Q)(j:z c=some V)(O:V.own=true:=by rfl):Kn z Q:=λ{p p} h o=>k _ _ (br h o j O) h
theorem K1.aa(k:K1 c z Q):Ka z Q:=λa ρ h=>(k a ρ h).1
theorem Kp.r:Kp c z z:=λj j j h=>h
theorem Ka.t(k:Ka Y w)(j:Ka w J):Ka Y J:=λa ρ h=>j a ρ (k a ρ h)
theorem Kp.t(k:Kp c Y w)(j:Kp c w J):Kp c Y J:=λa ρ e h=>j a ρ e (k a ρ e h)
theorem Ka.p(k:Ka z Q):Kp c z Q:=λa ρ j h=>k a ρ h
theorem K1.p(k:K1 b z Q):Kp c z Q:=λa ρ j h=>(k a ρ h).1
theorem Typed.live(T:Typed P z H)(h:z a=some ρ):¬ H.free a:=λf=>(T.sat a ρ h).live.elim (λq=>q f.lst) λq=>q.elim (λq=>q f.dct) λq=>q f.cls
theorem Typed.fresh(T:Typed P z H)(h:H.free a):z a=none:=match e:z a with
 | none=>rfl
 | some ρ=>absurd h (T.live e)
theorem Typed.ne(T:Typed P z H)(h:z a=some ρ)(j:H.free c):a≠c:=λe=>T.live h (e▸j)
theorem Typed.L(T:Typed P z H)(h:z a=some (.aq l)):H.lst a=some l:=T.sat a _ h
theorem Typed.gL(T:Typed P z H)(h:z a=some (.aq l)):H.getL a=some l:=aD (T.L h)
theorem Typed.D(T:Typed P z H)(h:z a=some (.aJ l)):H.dct a=some l:=T.sat a _ h
theorem Typed.C{f:E1}(T:Typed P z H)(h:z a=some (.cK k f)):H.cls a=some k:=(T.sat a _ h).1
theorem Typed.A{f:E1}(T:Typed P z H)(h:z a=some (.cK k f))(n:Nat):H.att n a=f n:=congrFun (T.sat a _ h).2 n
theorem Typed.lc(T:Typed P z H)(h:H.lst a=some l):H.cls a=none:=(T.wf.lst a (ak h)).2.2
theorem Typed.dc(T:Typed P z H)(h:H.dct a=some l):H.cls a=none:=(T.wf.dct a (ak h)).2.2
theorem Typed.dg(T:Typed P z H)(h:H.dct a=some l):H.getL a=none:=zR (T.wf.dct a (ak h)).2.1 (T.wf.dct a (ak h)).1
theorem Typed.cg(T:Typed P z H)(h:H.cls a=some k):H.getL a=none:=zR (T.wf.cls a (ak h)).2.1 (T.wf.cls a (ak h)).1
theorem Typed.gf(T:Typed P z H):H.getL 439=some qK:=zQ T.wf T.f
theorem Typed.gs(T:Typed P z H):H.getL 440=some jD:=zQ T.wf T.s
theorem fG(h:b≠a):view (H.aA a l) b=view H b:=by unfold view CH.aA upd;simp only[ca h]
theorem iG(h:b≠a):view (H.bx a l) b=view H b:=by unfold view CH.bx upd;simp only[ca h]
theorem sG(h:b≠a):view (H.setC a k) b=view H b:=by unfold view CH.setC upd;simp only[ca h]
theorem sH(h:b≠a):view (H.bH n a v) b=view H b:=by
 unfold view
 simp only[lZ,h,and_false,if_false]
 rfl
theorem gM:view (H.aA a l) a={ view H a with lst:=some l }:=by unfold view CH.aA;simp only[cT]
theorem i6:view (H.bx a l) a={ view H a with dct:=some l }:=by unfold view CH.bx;simp only[cT]
theorem xP:view (H.setC a k) a={ view H a with cls:=some k }:=by unfold view CH.setC;simp only[cT]
theorem qP:view (H.bH n a v) a={ view H a with att:=λm=>if m=n then some v else H.att m a }:=by
 unfold view
 simp only[lZ,and_true]
 rfl
theorem Typed.now(T:Typed P z H):Now H z P z H:=⟨T,λj h=>h,λj j=>rfl⟩
theorem Now.gen(N:Now y Y P z H)(w:Wf U)(j:U.ro=H.ro)(O:∀b,U.free b->H.free b)(p:∀b,b≠a->view U b=view H b)
(o:∀b ρ,b≠a->Q b=some ρ->z b=some ρ/\(Sat P z (view H b) b ρ->Sat P' Q (view H b) b ρ))(f:∀b,¬ y.free b->Q b=z b)
(g:∀ρ,Q a=some ρ->Sat P' Q (view U a) a ρ):Now y Y P' Q U:=
 ⟨⟨w,j▸N.T.f,j▸N.T.s,λb ρ h=>if e:b=a then by subst e;exact g ρ h else p b e▸(o b ρ e h).2 (N.T.sat b ρ (o b ρ e h).1)⟩,λb h=>N.live b (O b h),λb h=>(f b h).trans (N.agree b h)⟩
theorem Now.kZ(N:Now y Y P z H)(w:Wf U)(o:U.ro=H.ro)(g:∀b,U.free b->H.free b)(l:∀b,b≠a->view U b=view H b)(L:y.free a)(j:∀ρ,z a=some ρ->ρ.own=true)
(t:Sat P (upd z a ρ) (view U a) a ρ):Now y Y P (upd z a ρ) U:=
 N.gen w o g l (λb V O h=>⟨by rwa [aZ O] at h,λs=>s.mono λC x p B f=>(aZ λe=>by subst e;rw[j _ f] at p;cases p).trans f⟩) (λb O=>aZ λe=>O (e▸L)) λV h=>by
  rw[cT] at h;cases h;exact t
theorem k9(T:Typed P z H)(j:H.free c):K1 c z (upd z c ρ):=λa ρ h=>⟨(aZ (T.ne h j)).trans h,T.ne h j⟩
theorem uu:Kp c z (upd z c ρ):=λa ρ e h=>(aZ e).trans h
theorem Now.nL{G:CH->Prop}(N:Now y Y P z H)(j:H.free c)(r:∀Q U,Now y Y P Q U->Q c=some (.aq l)->y.free c->K1 c z Q->G U):G (H.aA c l):=
 r _ _ (N.kZ (N.T.wf.aA (.inr j)) rfl (λo h=>h.aA) (λb h=>fG h) (N.live c j) (λρ h=>by rw[N.T.fresh j] at h;cases h) (by erw[gM];rfl)) cT (N.live c j) (k9 N.T j)
theorem Now.nD{G:CH->Prop}(N:Now y Y P z H)(j:H.free c)(r:∀Q U,Now y Y P Q U->Q c=some (.aJ l)->y.free c->K1 c z Q->G U):G (H.bx c l):=
 r _ _ (N.kZ (N.T.wf.bx (.inr j)) rfl (λo h=>h.bx) (λb h=>iG h) (N.live c j) (λρ h=>by rw[N.T.fresh j] at h;cases h) (by erw[i6];rfl)) cT (N.live c j) (k9 N.T j)
theorem Now.nC{G:CH->Prop}(N:Now y Y P z H)(j:H.free c)(r:∀Q U,Now y Y P Q U->Q c=some (.cK k λo=>none)->y.free c->K1 c z Q->G U):G (H.setC c k):=
 r _ _ (N.kZ (N.T.wf.setC j) rfl (λo h=>h.setC) (λb h=>sG h) (N.live c j) (λρ h=>by rw[N.T.fresh j] at h;cases h) (by erw[xP];exact⟨rfl,funext λn=>j.att n⟩)) cT (N.live c j) (k9 N.T j)
theorem uv(h:z a=some j)(o:j.own=true):∀ρ,z a=some ρ->ρ.own=true:=λρ e=>al (h.symm.trans e)▸o
theorem Now.oL{G:CH->Prop}(N:Now y Y P z H)(f:y.free c)(g:z c=some (.aq l))(r:∀Q U,Now y Y P Q U->Q c=some (.aq m)->Kp c z Q->G U):G (H.aA c m):=
 r _ _ (N.kZ (N.T.wf.aA (.inl (ak (N.T.L g)))) rfl (λj h=>h.aA) (λb h=>fG h) f (uv g rfl) (by erw[gM];rfl)) cT uu
theorem Now.oD{G:CH->Prop}(N:Now y Y P z H)(f:y.free c)(g:z c=some (.aJ l))(r:∀Q U,Now y Y P Q U->Q c=some (.aJ m)->Kp c z Q->G U):G (H.bx c m):=
 r _ _ (N.kZ (N.T.wf.bx (.inl (ak (N.T.D g)))) rfl (λj h=>h.bx) (λb h=>iG h) f (uv g rfl) (by erw[i6];rfl)) cT uu
theorem Now.oA{G:CH->Prop}(N:Now y Y P z H)(f:y.free c)(g:z c=some (.cK k j))(r:∀Q U,Now y Y P Q U->Q c=some (.cK k λm=>if m=n then some v else j m)->Kp c z Q->G U):G (H.bH n c v):=
 r _ _ (N.kZ (N.T.wf.bH (ak (N.T.C g))) rfl (λo h=>h.bH) (λb h=>sH h) f (uv g rfl) (by
  erw[qP];exact⟨N.T.C g,funext λm=>by simp only[N.T.A g]⟩)) cT uu
theorem Now.pro(ρ:Role)(N:Now y Y P z H)(f:y.free c)(g:z c=some j)(L:Sat P z (view H c) c ρ)(o:j.own=true:=by rfl):Now y Y P (upd z c ρ) H/\upd z c ρ c=some ρ/\Kp c z (upd z c ρ):=
 ⟨N.kZ N.T.wf rfl (λO h=>h) (λO O=>rfl) f (uv g o) (L.mono λb V l O p=>(aZ λe=>by subst e;rw[g] at p;cases p;rw[o] at l;cases l).trans p),cT,uu⟩
theorem Now.aA(N:Now y Y P z H)(h:z a=some ρ)(o:H.lst a≠none)
(O:∀b ρ,b≠a->z b=some ρ->Sat P z (view H b) b ρ->Sat P' z (view H b) b ρ)(p:Sat P' z { view H a with lst:=some l } a ρ):Now y Y P' z (H.aA a l):=
 N.gen (N.T.wf.aA (.inl o)) rfl (λj h=>h.aA) (λb h=>fG h) (λb ρ f e=>⟨e,O b ρ f e⟩) (λj j=>rfl) λV e=>by rw[h] at e;cases e;erw[gM];exact p
theorem Now.bx(N:Now y Y P z H)(h:z a=some ρ)(o:H.dct a≠none)
(O:∀b ρ,b≠a->z b=some ρ->Sat P z (view H b) b ρ->Sat P' z (view H b) b ρ)(p:Sat P' z { view H a with dct:=some l } a ρ):Now y Y P' z (H.bx a l):=
 N.gen (N.T.wf.bx (.inl o)) rfl (λj h=>h.bx) (λb h=>iG h) (λb ρ f e=>⟨e,O b ρ f e⟩) (λj j=>rfl) λV e=>by rw[h] at e;cases e;erw[i6];exact p
theorem Now.bH(N:Now y Y P z H)(h:z a=some ρ)(o:H.cls a≠none)
(O:∀b ρ,b≠a->z b=some ρ->Sat P z (view H b) b ρ->Sat P' z (view H b) b ρ)(p:Sat P' z { view H a with att:=λm=>if m=n then some v else H.att m a } a ρ):Now y Y P' z (H.bH n a v):=
 N.gen (N.T.wf.bH o) rfl (λj h=>h.bH) (λb h=>sH h) (λb ρ f e=>⟨e,O b ρ f e⟩) (λj j=>rfl) λV e=>by rw[h] at e;cases e;erw[qP];exact p
theorem Now.par(N:Now y Y P z H)(h:∀a ρ,z a=some ρ->Sat P z (view H a) a ρ->Sat P' z (view H a) a ρ):Now y Y P' z H:=
 ⟨⟨N.T.wf,N.T.f,N.T.s,λa ρ e=>h a ρ e (N.T.sat a ρ e)⟩,N.live,N.agree⟩
theorem Now.anyC(N:Now y Y P z H)(j:H.free a):Now y Y P z (H.setC a k):=
 N.gen (a:=a) (N.T.wf.setC j) rfl (λo h=>h.setC) (λb h=>sG h) (λb ρ O e=>⟨e,id⟩) (λo o=>rfl) λρ e=>by rw[N.T.fresh j] at e;cases e
theorem Now.get(N:Now y Y P z H)(T:Typed P' Y y)(h:Y a=some ρ):z a=some ρ:=(N.agree a (T.live h)).trans h
theorem Now.call{w:TY}(N:Now y Y P z H)(M:Now H z P' w j):Now y Y P' w j:=⟨M.T,λa h=>N.live a (M.live a h),λa h=>(M.agree a λf=>h (N.live a f)).trans (N.agree a h)⟩
noncomputable def mh(z:TY):TY:=λa=>(z a).filter Role.gr
theorem jG(h:z a=some ρ)(j:ρ.gr=true):mh z a=some ρ:=by unfold mh;erw[h];exact ch j
theorem iH(h:mh z a=some ρ):z a=some ρ/\ρ.gr=true:=k0.mp h
theorem Now.only(N:Now y Y P z H)(h:∀a ρ,Y a=some ρ->ρ.gr=true):Now y Y P (mh z) H:=
 ⟨⟨N.T.wf,N.T.f,N.T.s,λa ρ e=>(N.T.sat a ρ (iH e).1).mono λb V p j o=>jG o (j (iH e).2)⟩,N.live,λa O=>by
  have:=N.agree a O
  cases e:Y a with
  | none=>unfold mh;(erw[this];erw[e]);rfl
  | some ρ=>exact jG (this.trans e) (h a ρ e)⟩
end
section
variable{P:Par}{z:TY}
theorem Sat.upM:∀{Q:Role},(∀r,Q≠.prod r)->Q≠.table->Sat P z v a Q->Sat { P with toPM:=M } z v a Q:=λ{Q} w y h=>by
 cases Q <;> first | exact h | exact absurd rfl (w _) | exact absurd rfl y
theorem Sat.upT:∀{ρ:Role},ρ.gr=true->Sat P z v a ρ->Sat { P with toPQ:=T,toPE:=E } z v a ρ:=λ{ρ} Q h=>by
 cases ρ <;> first | exact h | cases Q
theorem Sat.upF:∀{Q:Role},Q≠.qN->(∀x,Q≠.fst x)->Sat P z v a Q->Sat { P with toPF:=F } z v a Q:=λ{Q} w y h=>by
 cases Q <;> first | exact h | exact absurd rfl (y _) | exact absurd rfl w
theorem Sat.upO:∀{Q:Role},Q≠.qO->(∀x,Q≠.fol x)->Sat P z v a Q->Sat { P with toPO:=F } z v a Q:=λ{Q} w y h=>by
 cases Q <;> first | exact h | exact absurd rfl (y _) | exact absurd rfl w
end
noncomputable abbrev EN:=Nat->Option CV
noncomputable def Ev(L:EN)(H:CH)(e:CE)(v:CV):Prop:=∀(z:PT) (M:MT) (Q:Da) (X:D1),Q v ⟨H,L⟩->wpE z M e ⟨H,L⟩ Q X
noncomputable def Evs(L:EN)(H:CH)(z:FV)(w:B2):Prop:=∀(y:PT) (M:MT) (Q:Fk) (X:D1),Q w ⟨H,L⟩->mU y M z ⟨H,L⟩ Q X
namespace Ev
variable{L:EN}{H:CH}{e e1 e2 w:CE}{x y z:CV}{Q:FV}{vs:B2}{k:Nat}
theorem c{v:CV}:Ev L H (.c v) v:=λY Y Y Y h=>h
theorem v{i:Nat}(g:L i=some x):Ev L H (.v i) x:=λY Y Y Y h=>⟨x,g,h⟩
theorem att{n:Nat}(he:Ev L H e x)(g:j5 H x n=some y):Ev L H (.at e n) y:=λY Y Y Y h=>he _ _ _ _ ⟨y,g,h⟩
theorem ix(U:Ev L H e1 x)(V:Ev L H e2 y)(g:fS H x y=some (.ok z)):Ev L H (.ix e1 e2) z:=λY Y Y Y h=>U _ _ _ _ (V _ _ _ _ ⟨.ok z,g,h⟩)
theorem _root_.Mine.Internal.Evs.nil:Evs L H [] []:=λY Y Y Y h=>h
theorem _root_.Mine.Internal.Evs.cons(U:Ev L H e x)(V:Evs L H Q vs):Evs L H (e::Q) (x::vs):=λY Y Y Y h=>U _ _ _ _ (V _ _ _ _ h)
theorem _root_.Mine.Internal.Evs.one(Y:Ev L H e x):Evs L H [e] [x]:=.cons Y .nil
theorem _root_.Mine.Internal.Evs.two(Y:Ev L H e1 x)(U:Ev L H e2 y):Evs L H [e1,e2] [x,y]:=.cons Y (.cons U .nil)
theorem tu(U:Evs L H Q vs):Ev L H (.tu Q) (.tup vs):=λY Y Y Y h=>U _ _ _ _ h
theorem add(U:Ev L H e1 (.int i))(V:Ev L H e2 (.int j)):Ev L H (.op .add e1 e2) (.int (i+j)):=λY Y Y Y h=>U _ _ _ _ (V _ _ _ _ h)
theorem sub(U:Ev L H e1 (.int i))(V:Ev L H e2 (.int j)):Ev L H (.op .sub e1 e2) (.int (i - j)):=λY Y Y Y h=>U _ _ _ _ (V _ _ _ _ h)
theorem mod(U:Ev L H e1 (.int i))(V:Ev L H e2 (.int j))(g:0<j):Ev L H (.op .mod e1 e2) (.int (i % j)):=λY Y Y Y h=>U _ _ _ _ (V _ _ _ _ ⟨g,h⟩)
theorem cm(U:Ev L H e1 x)(V:Ev L H e2 y)(g:bO H o x y=some b):Ev L H (.cm o e1 e2) (.bool b):=λY Y Y Y h=>U _ _ _ _ (V _ _ _ _ ⟨b,g,h⟩)
theorem nt(U:Ev L H e x)(g:truth H x=some b):Ev L H (.nt e) (.bool (!b)):=λY Y Y Y h=>U _ _ _ _ ⟨b,g,h⟩
theorem ng(U:Ev L H e (.int i)):Ev L H (.ng e) (.int (-i)):=λY Y Y Y h=>U _ _ _ _ ⟨i,rfl,h⟩
theorem anT(U:Ev L H e1 x)(g:truth H x=some true)(V:Ev L H e2 y):Ev L H (.an e1 e2) y:=λY Y Y Y h=>U _ _ _ _ ⟨true,g,V _ _ _ _ h⟩
theorem anF(U:Ev L H e1 x)(g:truth H x=some false):Ev L H (.an e1 e2) x:=λY Y Y Y h=>U _ _ _ _ ⟨false,g,h⟩
theorem orT(U:Ev L H e1 x)(g:truth H x=some true):Ev L H (.orr e1 e2) x:=λY Y Y Y h=>U _ _ _ _ ⟨true,g,h⟩
theorem orF(U:Ev L H e1 x)(g:truth H x=some false)(V:Ev L H e2 y):Ev L H (.orr e1 e2) y:=λY Y Y Y h=>U _ _ _ _ ⟨false,g,V _ _ _ _ h⟩
theorem an{q:Bool}(Y:Ev L H e1 (.bool p))(U:p=true->Ev L H e2 (.bool q)):Ev L H (.an e1 e2) (.bool (p&&q)):=match p,Y,U with
 | true,Y,U=>anT Y rfl (U rfl)
 | false,Y,_=>anF Y rfl
theorem ifT(U:Ev L H e1 x)(g:truth H x=some true)(V:Ev L H e2 y):Ev L H (.ife e1 e2 w) y:=λY Y Y Y h=>U _ _ _ _ ⟨true,g,V _ _ _ _ h⟩
theorem ifF(U:Ev L H e1 x)(g:truth H x=some false)(V:Ev L H w y):Ev L H (.ife e1 e2 w) y:=λY Y Y Y h=>U _ _ _ _ ⟨false,g,V _ _ _ _ h⟩
theorem geN{Q:At}(U:Ev L H e1 (.ref a))(g:H.dct a=some Q)(V:Ev L H e2 y)(k:y.keyOk=true)(j:Ev L H w z)(q:au Q y=none):Ev L H (.ge e1 e2 w) z:=λY Y Y Y h=>U _ _ _ _ ⟨a,Q,rfl,g,V _ _ _ _ (j _ _ _ _ ⟨Q,g,k,by erw[q];exact h⟩)⟩
theorem geS{Q:At}(U:Ev L H e1 (.ref a))(g:H.dct a=some Q)(V:Ev L H e2 y)(k:y.keyOk=true)(j:Ev L H w z)(q:au Q y=some x):Ev L H (.ge e1 e2 w) x:=λY Y Y Y h=>U _ _ _ _ ⟨a,Q,rfl,g,V _ _ _ _ (j _ _ _ _ ⟨Q,g,k,by erw[q];exact h⟩)⟩
theorem Dz(U:Ev L H e (.tup l))(V:l.length<=szl):Ev L H (.b1 .len e) (.int l.length):=λY Y Y Y h=>U _ _ _ _ ⟨_,rfl,V,h⟩
theorem Ny(U:Ev L H e (.str s))(V:s.cps.size<=szl):Ev L H (.b1 .len e) (.int s.cps.size):=λY Y Y Y h=>U _ _ _ _ ⟨_,rfl,V,h⟩
theorem uw(U:Ev L H e (.ref a))(V:H.cls a=none)(g:EM H (.ref a)=some k)(j:k<=szl):Ev L H (.b1 .len e) (.int k):=λY Y Y Y h=>U _ _ _ _ (cast (ca (λe:H.cls a=some 100=>nomatch V.symm.trans e)).symm ⟨_,g,j,h⟩)
theorem tuple(U:Ev L H e x)(g:pq H x=some l)(V:l.length<=szl):Ev L H (.b1 .tuple e) (.tup l):=λY Y Y Y h=>U _ _ _ _ ⟨l,g,V,h⟩
theorem slT(i:Nat)(U:Ev L H e1 (.tup l))(V:Ev L H e2 (.int i))(j:Ev L H w .none)(J:1<=i)(o:i<=l.length):Ev L H (.sl e1 e2 w) (.tup (l.drop i)):=λY Y Y Y h=>U _ _ _ _ (V _ _ _ _ (j _ _ _ _ ⟨i,rfl,rfl,J,o,h⟩))
theorem go{Q:Da}(h:Ev L H e x)(r:Q x ⟨H,L⟩):wpE Y M e ⟨H,L⟩ Q X:=h _ _ _ _ r
theorem gtT{i j:Int}(h:j<i):bO H .gt (.int i) (.int j)=some true:=ab some (cn h)
theorem gtF{i j:Int}(h:¬ j<i):bO H .gt (.int i) (.int j)=some false:=ab some (dT h)
theorem geT{i j:Int}(h:j<=i):bO H .ge (.int i) (.int j)=some true:=ab some (cn h)
theorem geF{i j:Int}(h:¬ j<=i):bO H .ge (.int i) (.int j)=some false:=ab some (dT h)
theorem ltT{i j:Int}(h:i<j):bO H .lt (.int i) (.int j)=some true:=ab some (cn h)
theorem ltF{i j:Int}(h:¬ i<j):bO H .lt (.int i) (.int j)=some false:=ab some (dT h)
theorem nn0:bO H .kh .none .none=some false:=ab (λb=>some (!b)) (cn rfl)
theorem nnI:bO H .kh (.int i) .none=some true:=ab (λb=>some (!b)) (dT (by intro h;injection h))
end Ev
theorem Nz{st:St}{Q:Da}(h:wpE z M a st (λx st=>∃l,pq st.H x=some l/\(∀y∈l,∃b,y=.bool b)/\Q (.bool (l.all λy=>decide (y=.bool true))) st) X):wpE z M (.b1 .all a) st Q X:=h
theorem DA{st:St}{Q:Da}(h:wpE z M a st (λx st=>∃l,pq st.H x=some l/\l.length<=szl/\Q (.tup l) st) X):wpE z M (.b1 .tuple a) st Q X:=h
theorem zW{a:CE}{st:St}{Q:Da}(h:wpE z M a st (λx st=>∃a l w,x=.ref a/\st.H.getL a=some l/\l.length<64/\pA w=true/\(∀y∈l,y.is (.tup w)=true)/\∀c,st.H.free c->Q (.ref c) { st with H:=st.H.aA c (fN l) }) X):wpE z M (.b1 .sorted a) st Q X:=h
noncomputable def bf(z:PT)(M:MT)(l:FB)(Q:Ap)(X:D1):Fl->St->Prop:=λf st=>match f with | .next=>aj z M l st Q X | f=>Q f st
noncomputable abbrev FX:Exc->St->Prop:=λz z=>False
structure LK(Φ:PT)(M:MT)(l:FB)(Q:Ap)(X:D1)(nx:CH->EN->Prop)(K:Ap):Prop where
 nxt:∀{H' L'},nx H' L'->K .next ⟨H',L'⟩
 con:∀{H' L'},nx H' L'->K .cont ⟨H',L'⟩
 brk:∀{H' L'},aj Φ M l ⟨H',L'⟩ Q X->K .brk ⟨H',L'⟩
 ret:∀{v H' L'},Q (.ret v) ⟨H',L'⟩->K (.ret v) ⟨H',L'⟩
namespace W
variable{w:PT}{M:MT}{a b:FB}{L:EN}{H:CH}{Q:Ap}{U:CE}{x y v:CV}{i j n c d:Nat}
theorem asg(h:Ev L H e v)(r:aj w M l ⟨H,upd L i v⟩ Q X):aj w M (.asg (.n i) e::l) ⟨H,L⟩ Q X:=h _ _ _ _ r
theorem DB(h:Ev L H e (.tup [x,y]))(r:aj w M l ⟨H,upd (upd L i x) j y⟩ Q X):aj w M (.asg (.t [i,j]) e::l) ⟨H,L⟩ Q X:=h _ _ _ _ ⟨_,_,rfl,rfl,r⟩
theorem bx{es:At}(z:Ev L H e v)(V:Ev L H o (.ref c))(J:Ev L H k x)(g:H.dct c=some es)(O:x.keyOk=true)(p:es.length<szl)(r:aj w M l ⟨H.bx c (aW es x v),L⟩ Q X):aj w M (.asg (.ix o k) e::l) ⟨H,L⟩ Q X:=
 z _ _ _ _ (V _ _ _ _ (J _ _ _ _ ⟨c,es,rfl,g,O,p,r⟩))
theorem bH(z:Ev L H e v)(V:Ev L H o (.ref c))(g:H.cls c=some d)(J:bu d=true)(r:aj w M l ⟨H.bH n c v,L⟩ Q X):aj w M (.asg (.at o n) e::l) ⟨H,L⟩ Q X:=
 z _ _ _ _ (V _ _ _ _ ⟨c,d,rfl,g,J,r⟩)
theorem ap(z:Ev L H o (.ref c))(g:H.lst c=some m)(V:Ev L H e v)(J:m.length<szl)(r:aj w M l ⟨H.aA c (m++[v]),L⟩ Q X):aj w M (.ex (.ap o e)::l) ⟨H,L⟩ Q X:=
 z _ _ _ _ ⟨c,m,rfl,g,V _ _ _ _ ⟨m,g,J,r⟩⟩
theorem iN{q:Int}(V:Ev L H e (.ref c))(J:H.cls c=some d)(O:j5 H (.ref c) n=some (.int p))(f:Ev L H k (.int q))(g:z=.add∨z=.sub)(r:aj w M l ⟨H.bH n c (.int (if z=.add then p+q else p - q)),L⟩ Q X):aj w M (.iN e n z k::l) ⟨H,L⟩ Q X:=
 V _ _ _ _ ⟨_,_,c,rfl,J,O,f _ _ _ _ ⟨p,q,rfl,rfl,g,r⟩⟩
theorem ir{q:Int}(V:L i=some (.int p))(J:Ev L H k (.int q))(O:z=.add∨z=.sub)(r:aj w M l ⟨H,upd L i (.int (if z=.add then p+q else p - q))⟩ Q X):aj w M (.ir i z k::l) ⟨H,L⟩ Q X:=
 ⟨_,V,J _ _ _ _ ⟨p,q,rfl,rfl,O,r⟩⟩
theorem gP(h:Ev L H e v)(g:truth H v=some true)(r:aj w M a ⟨H,L⟩ (bf w M l Q X) X):aj w M (.ite e a b::l) ⟨H,L⟩ Q X:=h _ _ _ _ ⟨true,g,r⟩
theorem fV(h:Ev L H e v)(g:truth H v=some false)(r:aj w M b ⟨H,L⟩ (bf w M l Q X) X):aj w M (.ite e a b::l) ⟨H,L⟩ Q X:=h _ _ _ _ ⟨false,g,r⟩
theorem ite(h:Ev L H e v)(g:truth H v=some p)(z:p=true->aj w M a ⟨H,L⟩ (bf w M l Q X) X)(V:p=false->aj w M b ⟨H,L⟩ (bf w M l Q X) X):aj w M (.ite e a b::l) ⟨H,L⟩ Q X:=
 match p,g,z,V with
 | true,g,z,_=>gP h g (z rfl)
 | false,g,_,V=>fV h g (V rfl)
theorem j9{p:Prop}[Decidable p](h:Ev L H e (.bool (decide p)))(z:p->aj w M a ⟨H,L⟩ (bf w M l Q X) X)(V:¬ p->aj w M b ⟨H,L⟩ (bf w M l Q X) X):aj w M (.ite e a b::l) ⟨H,L⟩ Q X:=
 ite h rfl (λq=>z (a7 q)) λq=>V (of_decide_eq_false q)
theorem ux{p:Prop}[Decidable p](h:Ev L H e (.bool (!decide p)))(V:¬ p->aj w M a ⟨H,L⟩ (bf w M l Q X) X)(J:p->aj w M b ⟨H,L⟩ (bf w M l Q X) X):aj w M (.ite e a b::l) ⟨H,L⟩ Q X:=
 ite h rfl (λq=>V (of_decide_eq_false (by cases z:decide p with | true=>rw[z] at q;cases q | false=>rfl))) λq=>J (a7 (by cases z:decide p with | true=>rfl | false=>rw[z] at q;cases q))
theorem nil(r:aj w M l ⟨H,L⟩ Q X):aj w M [] ⟨H,L⟩ (bf w M l Q X) X:=r
theorem ret(h:Ev L H e v)(r:Q (.ret v) ⟨H,L⟩):aj w M (.ret e::l) ⟨H,L⟩ Q X:=h _ _ _ _ r
theorem LZ(h:Ev L H Y x)(g:truth H x=some true)(r:wpE w M U ⟨H,L⟩ (λv st=>Q (.ret v) st) X):aj w M (.ret (.an Y U)::l) ⟨H,L⟩ Q X:=h _ _ _ _ ⟨true,g,r⟩
theorem cont(r:Q .cont ⟨H,L⟩):aj w M (.cont::l) ⟨H,L⟩ Q X:=r
theorem brk(r:Q .brk ⟨H,L⟩):aj w M (.brk::l) ⟨H,L⟩ Q X:=r
theorem pass(r:aj w M l ⟨H,L⟩ Q X):aj w M (.pass::l) ⟨H,L⟩ Q X:=r
theorem fn(h:Evs L H es vs)(r:w f vs H λr z=>aj w M l ⟨z,upd L i r⟩ Q X):aj w M (.asg (.n i) (.fn f es)::l) ⟨H,L⟩ Q X:=h _ _ _ _ r
theorem fn2(h:Evs L H es vs)(r:w f vs H λr O=>∃V J,r=.tup V/\jQ L z V=some J/\aj w M l ⟨O,J⟩ Q X):aj w M (.asg (.t z) (.fn f es)::l) ⟨H,L⟩ Q X:=h _ _ _ _ r
theorem me{m:Nat}(z:Ev L H o (.ref c))(V:H.cls c=some d)(J:bu d=true)(O:M d m=some f)(p:H.att m c=none)(h:Evs L H es vs)(r:w f (.ref c::vs) H λr g=>aj w M l ⟨g,upd L i r⟩ Q X):aj w M (.asg (.n i) (.me o m es)::l) ⟨H,L⟩ Q X:=
 z _ _ _ _ ⟨c,d,f,rfl,V,J,O,p,h _ _ _ _ r⟩
theorem DC{m:Nat}(z:Ev L H o (.ref c))(V:H.cls c=some d)(J:bu d=true)(O:M d m=some f)(p:H.att m c=none)(h:Evs L H es vs)(r:w f (.ref c::vs) H λt g=>aj w M l ⟨g,L⟩ Q X):aj w M (.ex (.me o m es)::l) ⟨H,L⟩ Q X:=
 z _ _ _ _ ⟨c,d,f,rfl,V,J,O,p,h _ _ _ _ r⟩
theorem nw(h:Evs L H es vs)(g:bu n=true)(r:∀c,H.free c->w (iO n) (.ref c::vs) (H.setC c n) λr z=>r=.none/\aj w M l ⟨z,upd L i (.ref c)⟩ Q X):aj w M (.asg (.n i) (.nw n es)::l) ⟨H,L⟩ Q X:=h _ _ _ _ ⟨g,r⟩
theorem Ma(O:Ev L H o (.ref c))(g:H.dct c=some V)(h:Evs L H es vs)(r:w f vs H λy p=>wpE w M J ⟨p,L⟩ (λz st=>∃V,st.H.dct c=some V/\y.keyOk=true/\aj w M l ⟨st.H,upd st.L i ((au V y).getD z)⟩ Q X) X):aj w M (.asg (.n i) (.ge o (.fn f es) J)::l) ⟨H,L⟩ Q X:=
 O _ _ _ _ ⟨c,V,rfl,g,h _ _ _ _ r⟩
section
variable{P:Par}{z:At}{m:B2}
theorem newL(N:Now V O P J H)(h:Evs L H f vs)(r:∀c p g,Now V O P p g->p c=some (.aq vs)->V.free c->K1 c J p->aj w M l ⟨g,upd L i (.ref c)⟩ Q X):aj w M (.asg (.n i) (.li f)::l) ⟨H,L⟩ Q X:=
 h _ _ _ _ λc t=>N.nL (G:=λH=>aj w M l ⟨H,_⟩ Q X) t (r c)
theorem newD(N:Now V O P J H)(r:∀c p f,Now V O P p f->p c=some (.aJ [])->V.free c->K1 c J p->aj w M l ⟨f,upd L i (.ref c)⟩ Q X):aj w M (.asg (.n i) .d0::l) ⟨H,L⟩ Q X:=
 λc g=>N.nD (G:=λH=>aj w M l ⟨H,_⟩ Q X) g (r c)
theorem listOf(N:Now V O P J H)(h:Ev L H e x)(g:pq H x=some m)(t:m.length<=szl)(r:∀c p f,Now V O P p f->p c=some (.aq m)->V.free c->K1 c J p->aj w M l ⟨f,upd L i (.ref c)⟩ Q X):aj w M (.asg (.n i) (.b1 .list e)::l) ⟨H,L⟩ Q X:=
 h _ _ _ _ ⟨m,g,t,λc T=>N.nL (G:=λH=>aj w M l ⟨H,_⟩ Q X) T (r c)⟩
theorem slL(N:Now V O P J H){z:CV}(C:Ev L H Y (.ref c))(B:Ev L H U y)(A:Ev L H t z)(g:H.getL c=some m)(D:cut m y z=some f)(r:∀c p T,Now V O P p T->p c=some (.aq f)->V.free c->K1 c J p->aj w M l ⟨T,upd L i (.ref c)⟩ Q X):aj w M (.asg (.n i) (.sl Y U t)::l) ⟨H,L⟩ Q X:=
 C _ _ _ _ (B _ _ _ _ (A _ _ _ _ ⟨m,f,g,D,λc E=>N.nL (G:=λH=>aj w M l ⟨H,_⟩ Q X) E (r c)⟩))
theorem oG(N:Now V O P J H)(f:V.free c)(g:J c=some (.aJ z))(T:Ev L H e v)(C:Ev L H o (.ref c))(B:Ev L H k x)(A:x.keyOk=true)(D:z.length<szl)
(r:∀p t,Now V O P p t->p c=some (.aJ (aW z x v))->Kp c J p->aj w M l ⟨t,L⟩ Q X):aj w M (.asg (.ix o k) e::l) ⟨H,L⟩ Q X:=
 bx T C B (N.T.D g) A D (N.oD (G:=λH=>aj w M l ⟨H,L⟩ Q X) f g r)
theorem iI(N:Now V O P J H)(f:V.free c)(g:J c=some (.aq m))(T:Ev L H o (.ref c))(C:Ev L H e v)(B:m.length<szl)
(r:∀p t,Now V O P p t->p c=some (.aq (m++[v]))->Kp c J p->aj w M l ⟨t,L⟩ Q X):aj w M (.ex (.ap o e)::l) ⟨H,L⟩ Q X:=
 ap T (N.T.L g) C B (N.oL (G:=λH=>aj w M l ⟨H,L⟩ Q X) f g r)
theorem vO(N:Now V O P J H)(f:V.free c)(g:J c=some (.cK d t))(C:bu d=true)(B:Ev L H o (.ref c))(A:Ev L H e v)
(r:∀p T,Now V O P p T->p c=some (.cK d λm=>if m=n then some v else t m)->Kp c J p->aj w M l ⟨T,L⟩ Q X):aj w M (.asg (.at o n) e::l) ⟨H,L⟩ Q X:=
 bH A B (N.T.C g) C (N.oA (G:=λH=>aj w M l ⟨H,L⟩ Q X) f g r)
theorem HD(N:Now V O P J H)(f:V.free c)(g:J c=some (.cK d B))(I:bu d=true)(s:L j=some (.ref c))(F:Evs L H T vs)
(r:∀b p A,Now V O P p A->p c=some (.cK d λm=>if m=n then some (.ref b) else B m)->p b=some (.aq vs)->V.free b->b≠c->(∀a C,a≠c->J a=some C->p a=some C/\a≠b)->aj w M l ⟨A,L⟩ Q X):aj w M (.asg (.at (.v j) n) (.li T)::l) ⟨H,L⟩ Q X:=
 F _ _ _ _ λb R=>N.nL (G:=λH=>tn w M (.at (.v j) n) (.ref b) ⟨H,L⟩ _ X) R λz y D S W t=>⟨_,s,c,d,rfl,D.T.C (t _ _ g).1,I,
  D.oA (G:=λH=>aj w M l ⟨H,L⟩ Q X) f (t _ _ g).1 λZ K G u E=>r b Z K G u (E _ _ (en (t _ _ g).2) S) W (en (t _ _ g).2) λa C q h=>⟨E _ _ q (t _ _ h).1,(t _ _ h).2⟩⟩
end
end W
theorem cB{f:Nat}{z:B2}{H:CH}{Q:DD}(Y:B2)(U:fF f=some d)(V:Nat.ble z.length d.arity=true)(k:Nat.ble d.arity (z.length+d.dflt.length)=true)(e:z++d.dflt.drop (d.dflt.length - (d.arity - z.length))=Y)
(h:∀y:Fl->St->Prop,(∀{v w L'},Q v w->y (.ret v) ⟨w,L'⟩)->(∀{w L'},Q .none w->y .next ⟨w,L'⟩)->aj (calls fF mF n) mF d.body ⟨H,locs 0 Y⟩ y FX):calls fF mF (n+1) f z H Q:=
 ⟨d,U,aw V,aw k,e▸h _ id id⟩
theorem Mb{n f:Nat}{z:B2}{H:CH}(Y:fF f=some d)(U:Nat.ble z.length d.arity=true)(v:Nat.ble d.arity (z.length+d.dflt.length)=true)(e:z++d.dflt.drop (d.dflt.length - (d.arity - z.length))=y)(V:y.length=d.arity)(h:calls fF mF (n+1) f y H Q):calls fF mF (n+1) f z H Q:=by
 obtain⟨k,w,_,_,h⟩:=h
 rw[Y] at w;cases w
 refine⟨d,Y,aw U,aw v,?_⟩
 rw[V,Nat.sub_self,Nat.sub_zero,drop_length,eR] at h
 erw[e];exact h
theorem xQ{H:CH}{l:B2}:(It.items (l.drop i)).next H=some (l[i]?.map λv=>(v,.items (l.drop (i+1)))):=by
 cases h:l[i]? with
 | none=>rw[drop_eq_nil_of_le (eC.mp h)];rfl
 | some v=>
  obtain⟨z,e⟩:=a6.mp h
  (erw[drop_eq_getElem_cons z];erw[e]);rfl
theorem sI{H:CH}{a:Nat}(h:H.getL a=some l):(It.list a i).next H=some (l[i]?.map λv=>(v,.list a (i+1))):=ab (Option.map λ(l:B2)=>l[i]?.map λv=>(v,It.list a (i+1))) h
theorem bU{α:Type}{H:CH}{ys:List α}{f:α->CV}{a:Nat}(h:H.getL a=some (ys.map f)):(It.list a i).next H=some (ys[i]?.map λv=>(f v,.list a (i+1))):=
 (sI h).trans (ab some ((ab (Option.map _) eM).trans (Option.map_map _ _ _)))
theorem eV{z:Type}{H:CH}{ys:List z}{f:z->CV}:(It.items ((ys.map f).drop i)).next H=some (ys[i]?.map λv=>(f v,.items ((ys.map f).drop (i+1)))):=
 xQ.trans (ab some ((ab (Option.map _) eM).trans (Option.map_map _ _ _)))
theorem A3{H:CH}{Q:Bi}{a n:Nat}(h:H.dct a=some z)(w:z.map (·.1)=Q.map .str)(y:Q.length=n):(It.keys a n i).next H=some (Q[i]?.map λv=>(.str v,.keys a n (i+1))):=by
 have Y:z.length=n:=(ba _).symm.trans ((ab List.length w).trans ((ba _).trans y))
 have U:z.all (λp=>isS p.1)=true:=eQ.mpr λp V=>(bo.mp (w▸dp (f:=(·.1)) V:p.1∈Q.map CV.str)).elim λx e=>e.2▸rfl
 refine(ab (Option.bind · _) h).trans ((ch ⟨Y,U⟩).trans (ab some ?_))
 have k:z[i]?.map (λp:CV×CV=>p.1)=Q[i]?.map CV.str:=eM.symm.trans ((ab (·[i]?) w).trans eM)
 exact(Option.map_map (λv=>(v,It.keys a n (i+1))) (λp:CV×CV=>p.1) z[i]?).symm.trans ((ab (Option.map λv=>(v,It.keys a n (i+1))) k).trans (Option.map_map _ _ _))
theorem iJ{α:Type}{H:CH}{k:Nat}{t:It}{w:α->CV}{o:Option α}(h:t.next H=some (o.map λv=>(w v,z))):(It.enum k t).next H=some (o.map λv=>(.tup [.int k,w v],.enum (k+1) z)):=
 (ab (Option.map λ(o:Option (CV×It))=>o.map λ(p:CV×It)=>(CV.tup [.int k,p.1],It.enum (k+1) p.2)) h).trans (ab some (Option.map_map _ _ _))
section
variable{Q:CV->St->(Option CV->St->Prop)->Prop}{w:CV->St->(Bool->St->Prop)->Prop}{Y U:St->Prop}{y:Fk}{n:Nat}{k:It}{z:B2}{st:St}
theorem sJ(h:k.next st.H=some none)(r:y z st):gv Q y (n+1) k z st:=(ab (λo:Option (Option (CV×It))=>Option.elim o False λo=>Option.elim o (y z st) λp=>Q p.1 st λr j=>z.length<szl/\gv Q y n p.2 (r.elim z λx=>z++[x]) j) h).mpr r
theorem vP(h:k.next st.H=some (some (v,V)))(r:Q v st λr j=>z.length<szl/\gv Q y n V (r.elim z λx=>z++[x]) j):gv Q y (n+1) k z st:=(ab (λo:Option (Option (CV×It))=>Option.elim o False λo=>Option.elim o (y z st) λp=>Q p.1 st λr j=>z.length<szl/\gv Q y n p.2 (r.elim z λx=>z++[x]) j) h).mpr r
theorem A4(h:k.next st.H=some none)(r:Y st):iu w Y U (n+1) k st:=(ab (λo:Option (Option (CV×It))=>Option.elim o False λo=>Option.elim o (Y st) λp=>w p.1 st λb j=>if b=true then iu w Y U n p.2 j else U j) h).mpr r
theorem DE(h:k.next st.H=some (some (v,V)))(r:w v st λb j=>if b=true then iu w Y U n V j else U j):iu w Y U (n+1) k st:=(ab (λo:Option (Option (CV×It))=>Option.elim o False λo=>Option.elim o (Y st) λp=>w p.1 st λb j=>if b=true then iu w Y U n p.2 j else U j) h).mpr r
end
section
variable{Φ:PT}{M:MT}{l b o:FB}{L:EN}{H:CH}{Q:Ap}{X:D1}{z:CI}{α:Type}
noncomputable abbrev Fu:=Nat->CH->EN->Prop
inductive FgS(Φ:PT)(M:MT)(l b o:FB)(Q:Ap)(X:D1)(it:Nat->It)(w:Nat->α->CV)(bd:Nat->α->EN->EN)(B:Nat)(I:Fu)(i:Nat)(H:CH)(L:EN):Prop
 | mk (hB:i<=B) (y?:Option α) (hn:(it i).next H=some (y?.map λy=>(w i y,it (i+1)))) (h1:y?=none->aj Φ M o ⟨H,L⟩ (bf Φ M l Q X) FX) (h2:∀y,y?=some y->∀K,LK Φ M l Q X (I (i+1)) K->aj Φ M b ⟨H,bd i y L⟩ K FX)
theorem frG(U:Nat->It)(w:Nat->α->CV)(g:Nat->α->EN->EN)(V:∀i y L,gu L t (w i y)=some (g i y L))(n:∀T:It->St->Prop,T (U 0) ⟨H,L⟩->wpI Φ M z ⟨H,L⟩ T X)(B:Nat)(I:Fu)(N:I 0 H L)
(step:∀i H L,I i H L->FgS Φ M l b o Q X U w g B I i H L):aj Φ M (.fr t z b o::l) ⟨H,L⟩ Q X:=by
 have j:∀(k i:Nat) (H:CH) (L:EN),B<i+k->I i H L->iu (λv s K=>∃L,gu s.L t v=some L/\aj Φ M b { s with L:=L } (λf s=>match f with | .next | .cont=>K true s | .brk=>K false s | .ret v=>bf Φ M l Q X (.ret v) s) (λY Y=>False))
   (λs=>aj Φ M o s (bf Φ M l Q X) (λY Y=>False)) (bf Φ M l Q X .next) k (U i) ⟨H,L⟩:=by
  intro k
  induction k with
  | zero=>exact λi H L J h=>(step i H L h).casesOn λx Y Y Y Y=>absurd J (Nat.not_lt_of_le x)
  | succ k a=>
   intro i H L J h
   obtain⟨x,A,c,D,E⟩:=step i H L h
   cases A with
   | none=>exact A4 c (D rfl)
   | some y=>
    have C:∀{O p},I (i+1) O p->_:=λ{O p} h=>a (i+1) O p (hN J (iv i k).symm) h
    exact DE c ⟨_,V i y L,E y rfl _ ⟨C,C,λh=>h,λh=>h⟩⟩
 exact n _ ⟨B+1,j (B+1) 0 H L (hN (dq B) (lL _).symm) N⟩
theorem frS{Y:List α}(U:Nat->It)(w:Nat->α->CV)(V:Nat->α->EN->EN)(k:∀i y L,gu L t (w i y)=some (V i y L))(J:∀j:It->St->Prop,j (U 0) ⟨H,L⟩->wpI Φ M z ⟨H,L⟩ j X)(I:Fu)(O:I 0 H L)
(p:∀i H L,I i H L->(U i).next H=some (Y[i]?.map λy=>(w i y,U (i+1))))
(f:∀i y H L K,Y[i]?=some y->I i H L->LK Φ M l Q X (I (i+1)) K->aj Φ M b ⟨H,V i y L⟩ K FX)(g:∀H L,I Y.length H L->aj Φ M o ⟨H,L⟩ (bf Φ M l Q X) FX):aj Φ M (.fr t z b o::l) ⟨H,L⟩ Q X:=by
 refine frG U w V k J Y.length (λi H L=>i<=Y.length/\I i H L) ⟨dd _,O⟩ λi H L h=>⟨h.1,Y[i]?,p i H L h.2,λe=>g H L (eD h.1 (eC.mp e)▸h.2),λy e K v=>f i y H L K e h.2 ⟨λq=>v.nxt ⟨(a6.mp e).1,q⟩,λq=>v.con ⟨(a6.mp e).1,q⟩,v.brk,v.ret⟩⟩
section
variable{w a n:Nat}{ys:List α}{f:α->CV}{I:Fu}
theorem gZ(h:Ev L H e (.ref a))(g:H.getL a=some U)(y:It->St->Prop)(r:y (.list a 0) ⟨H,L⟩):wpI Φ M (.val e) ⟨H,L⟩ y X:=h _ _ _ _ (by dsimp only;erw[g];exact r)
theorem oW(h:Ev L H e (.ref a))(g:H.getL a=some U)(y:It->St->Prop)(r:y (.enum 0 (.list a 0)) ⟨H,L⟩):wpI Φ M (.enum e) ⟨H,L⟩ y X:=h _ _ _ _ (by dsimp only;erw[g];exact r)
theorem Gv(h:Ev L H e (.ref a))(g:H.dct a=some y)(v:H.getL a=none)(V:y.all (λp=>isS p.1)=true)(U:It->St->Prop)(r:U (.keys a y.length 0) ⟨H,L⟩):wpI Φ M (.val e) ⟨H,L⟩ U X:=h _ _ _ _ (by dsimp only;(erw[v];erw[g]);exact⟨V,r⟩)
theorem frL(h:Ev L H e (.ref a))(v:I 0 H L)(V:∀i H L,I i H L->H.getL a=some (ys.map f))
(j:∀i y H L K,ys[i]?=some y->I i H L->LK Φ M l Q X (I (i+1)) K->aj Φ M b ⟨H,upd L k (f y)⟩ K FX)(J:∀H L,I ys.length H L->aj Φ M o ⟨H,L⟩ (bf Φ M l Q X) FX):aj Φ M (.fr (.n k) (.val e) b o::l) ⟨H,L⟩ Q X:=
 frS (λi=>.list a i) (λU y=>f y) (λU y L=>upd L k (f y)) (λU U U=>rfl) (gZ h (V 0 H L v)) I v (λi H L O=>bU (V i H L O)) j J
theorem frE(h:Ev L H e (.ref a))(U:I 0 H L)(v:∀i H L,I i H L->H.getL a=some (ys.map f))
(j:∀i y H L K,ys[i]?=some y->I i H L->LK Φ M l Q X (I (i+1)) K->aj Φ M b ⟨H,upd (upd L w (.int i)) Y (f y)⟩ K FX)(J:∀H L,I ys.length H L->aj Φ M o ⟨H,L⟩ (bf Φ M l Q X) FX):aj Φ M (.fr (.t [w,Y]) (.enum e) b o::l) ⟨H,L⟩ Q X:=
 frS (λi=>.enum i (.list a i)) (λi y=>.tup [.int i,f y]) (λi y L=>upd (upd L w (.int i)) Y (f y)) (λV V V=>rfl) (oW h (v 0 H L U)) I U (λi H L O=>iJ (w:=f) (bU (v i H L O))) j J
theorem frP{f1 f2:α->CV}(h:Ev L H e (.ref a))(v:I 0 H L)(V:∀i H L,I i H L->H.getL a=some (ys.map λy=>.tup [f1 y,f2 y]))
(j:∀i y H L K,ys[i]?=some y->I i H L->LK Φ M l Q X (I (i+1)) K->aj Φ M b ⟨H,upd (upd L w (f1 y)) Y (f2 y)⟩ K FX)(J:∀H L,I ys.length H L->aj Φ M o ⟨H,L⟩ (bf Φ M l Q X) FX):aj Φ M (.fr (.t [w,Y]) (.val e) b o::l) ⟨H,L⟩ Q X:=
 frS (λi=>.list a i) (λU y=>.tup [f1 y,f2 y]) (λU y L=>upd (upd L w (f1 y)) Y (f2 y)) (λU U U=>rfl) (gZ h (V 0 H L v)) I v (λi H L O=>bU (V i H L O)) j J
theorem frT(h:Ev L H e (.tup (ys.map f)))(v:I 0 H L)
(V:∀i y H L K,ys[i]?=some y->I i H L->LK Φ M l Q X (I (i+1)) K->aj Φ M b ⟨H,upd L k (f y)⟩ K FX)(j:∀H L,I ys.length H L->aj Φ M o ⟨H,L⟩ (bf Φ M l Q X) FX):aj Φ M (.fr (.n k) (.val e) b o::l) ⟨H,L⟩ Q X:=
 frS (λi=>.items ((ys.map f).drop i)) (λU y=>f y) (λU y L=>upd L k (f y)) (λU U U=>rfl) (λU r=>h _ _ _ _ r) I v (λU U U U=>eV) V j
theorem Mc(h:Ev L H e (.tup (ys.map f)))(v:I 0 H L)
(V:∀i y H L K,ys[i]?=some y->I i H L->LK Φ M l Q X (I (i+1)) K->aj Φ M b ⟨H,upd (upd L w (.int i)) Y (f y)⟩ K FX)(j:∀H L,I ys.length H L->aj Φ M o ⟨H,L⟩ (bf Φ M l Q X) FX):aj Φ M (.fr (.t [w,Y]) (.enum e) b o::l) ⟨H,L⟩ Q X:=
 frS (λi=>.enum i (.items ((ys.map f).drop i))) (λi y=>.tup [.int i,f y]) (λi y L=>upd (upd L w (.int i)) Y (f y)) (λU U U=>rfl) (λU r=>h _ _ _ _ r) I v (λU U U U=>iJ (w:=f) eV) V j
theorem frR(h:Evs L H v V)(g:kI V=some (ys.map f))(j:I 0 H L)
(J:∀i y H L K,ys[i]?=some y->I i H L->LK Φ M l Q X (I (i+1)) K->aj Φ M b ⟨H,upd L k (f y)⟩ K FX)(O:∀H L,I ys.length H L->aj Φ M o ⟨H,L⟩ (bf Φ M l Q X) FX):aj Φ M (.fr (.n k) (.rng v) b o::l) ⟨H,L⟩ Q X:=
 frS (λi=>.items ((ys.map f).drop i)) (λU y=>f y) (λU y L=>upd L k (f y)) (λU U U=>rfl) (λU r=>h _ _ _ _ ⟨_,g,r⟩) I j (λU U U U=>eV) J O
theorem frK{ks:Bi}(h:Ev L H e (.ref a))(V:H.getL a=none)(j:I 0 H L)(J:∀i H L,I i H L->∃U,H.dct a=some U/\U.map (·.1)=ks.map .str)
(g:∀i y H L K,ks[i]?=some y->I i H L->LK Φ M l Q X (I (i+1)) K->aj Φ M b ⟨H,upd L k (.str y)⟩ K FX)(t:∀H L,I ks.length H L->aj Φ M o ⟨H,L⟩ (bf Φ M l Q X) FX):aj Φ M (.fr (.n k) (.val e) b o::l) ⟨H,L⟩ Q X:=by
 obtain⟨U,T,O⟩:=J 0 H L j
 have c:ks.length=U.length:=by have:=ab List.length O;rw[ba,ba] at this;exact this.symm
 refine frS (λi=>.keys a U.length i) (λv y=>.str y) (λv y L=>upd L k (.str y)) (λv v v=>rfl) (Gv h T V (eQ.mpr λp C=>?_)) I j (λi H L B=>let ⟨N,A,V⟩:=J i H L B;A3 A V c) g t
 obtain⟨x,_,e⟩:=bo.mp (O▸dp (f:=(·.1)) C:p.1∈ks.map CV.str)
 exact e▸rfl
inductive FwS(Φ:PT)(M:MT)(l b o:FB)(Q:Ap)(X:D1)(f:α->CV)(bd:α->EN->EN)(a B:Nat)(I:Fu)(i:Nat)(H:CH)(L:EN):Prop
 | mk (hB:i<=B) (ys:List α) (g:H.getL a=some (ys.map f)) (h1:i=ys.length->aj Φ M o ⟨H,L⟩ (bf Φ M l Q X) FX) (le:i<=ys.length) (h2:∀y,ys[i]?=some y->∀K,LK Φ M l Q X (I (i+1)) K->aj Φ M b ⟨H,bd y L⟩ K FX)
theorem frW(B:Nat)(h:Ev L H e (.ref a))(v:I 0 H L)(step:∀i H L,I i H L->FwS Φ M l b o Q X f (λy L=>upd L k (f y)) a B I i H L):aj Φ M (.fr (.n k) (.val e) b o::l) ⟨H,L⟩ Q X:=
 (step 0 H L v).casesOn λU U V U U U=>frG (λi=>.list a i) (λU y=>f y) (λU y L=>upd L k (f y)) (λU U U=>rfl) (gZ h V) B I v λi H L j=>(step i H L j).casesOn λJ ys O p g t=>
  ⟨J,ys[i]?,bU O,λe=>p (eD g (eC.mp e)),t⟩
theorem NB{f1 f2:α->CV}(B:Nat)(h:Ev L H e (.ref a))(v:I 0 H L)(step:∀i H L,I i H L->FwS Φ M l b o Q X (λy=>.tup [f1 y,f2 y]) (λy L=>upd (upd L w (f1 y)) Y (f2 y)) a B I i H L):aj Φ M (.fr (.t [w,Y]) (.val e) b o::l) ⟨H,L⟩ Q X:=
 (step 0 H L v).casesOn λU U V U U U=>frG (λi=>.list a i) (λU y=>.tup [f1 y,f2 y]) (λU y L=>upd (upd L w (f1 y)) Y (f2 y)) (λU U U=>rfl) (gZ h V) B I v λi H L j=>(step i H L j).casesOn λJ ys O p g t=>
  ⟨J,ys[i]?,bU O,λe=>p (eD g (eC.mp e)),t⟩
theorem NC(B:Nat)(h:Ev L H e (.ref a))(v:I 0 H L)(step:∀i H L,I i H L->FwS Φ M l b o Q X f (λy L=>upd (upd L w (.int i)) Y (f y)) a B I i H L):aj Φ M (.fr (.t [w,Y]) (.enum e) b o::l) ⟨H,L⟩ Q X:=
 (step 0 H L v).casesOn λU U V U U U=>frG (λi=>.enum i (.list a i)) (λi y=>.tup [.int i,f y]) (λi y L=>upd (upd L w (.int i)) Y (f y)) (λU U U=>rfl) (oW h V) B I v λi H L j=>(step i H L j).casesOn λJ ys O p g t=>
  ⟨J,ys[i]?,iJ (w:=f) (bU O),λe=>p (eD g (eC.mp e)),t⟩
end
inductive WhS(Φ:PT)(M:MT)(t:CE)(l b:FB)(Q:Ap)(X:D1)(J:Fu)(k:Nat)(H:CH)(L:EN):Prop
 | mk (v:CV) (p:Bool) (h:Ev L H t v) (g:truth H v=some p) (hf:p=false->aj Φ M l ⟨H,L⟩ Q X) (ht:p=true->∀K,LK Φ M l Q X (λH' L'=>∃j,j<k/\J j H' L') K->aj Φ M b ⟨H,L⟩ K FX)
theorem whl{J:Fu}(k:Nat)(O:J k H L)(step:∀k H L,J k H L->WhS Φ M t l b Q X J k H L):aj Φ M (.whl t b::l) ⟨H,L⟩ Q X:=by
 have y:∀(n k:Nat) (H:CH) (L:EN),k<n->J k H L->uN (λs K=>wpE Φ M t s (λv s=>∃q,truth s.H v=some q/\K q s) (λw w=>False)) (λs K=>aj Φ M b s (λf s=>match f with | .next | .cont=>K true s | .brk=>K false s | .ret v=>bf Φ M l Q X (.ret v) s) (λw w=>False)) (bf Φ M l Q X .next) (bf Φ M l Q X .next) n ⟨H,L⟩:=by
  intro n
  induction n with
  | zero=>exact λw w w h=>absurd h (ij _)
  | succ n g=>
   intro k H L T h
   obtain⟨v,p,x,c,C,B⟩:=step k H L h
   refine x _ _ _ _ ⟨p,c,?_⟩
   cases p with
   | false=>exact C rfl
   | true=>
    have V:∀{Y U},(∃j,j<k/\J j Y U)->_:=λ{Y U} h=>h.elim λj h=>g j Y U (cf h.1 (db T)) h.2
    exact B rfl _ ⟨V,V,λh=>h,λh=>h⟩
 exact⟨k+1,y _ k H L (dq k) O⟩
inductive CoS(t:LT)(elt:CE)(ifs:FV)(H:CH)(V:EN->Prop)(L:EN)(p:Bool)(g:CV):Prop
 | mk (v:V L) (h1:∀(Φ:PT) (M:MT) (Q:Bool->St->Prop) X,Q p ⟨H,L⟩->rS Φ M ifs ⟨H,L⟩ Q X) (h2:p=true->Ev L H elt g)
theorem coP{Q:Da}{ys:List α}(x:Nat->It)(w:Nat->α->CV)(a:Nat->α->EN->EN)(C:∀i y L,gu L t (w i y)=some (a i y L))(F:∀A:It->St->Prop,A (x 0) ⟨H,L⟩->wpI Φ M z ⟨H,L⟩ A X)
(D:∀i,(x i).next H=some (ys[i]?.map λy=>(w i y,x (i+1))))(P:ys.length<szl)(p:Nat->α->Bool)(g:Nat->α->CV)(V:EN->Prop)(R:V L)
(S:∀i y L,ys[i]?=some y->V L->CoS t U k H V (a i y L) (p i y) (g i y))
(r:∀c,H.free c->Q (.ref c) ⟨H.aA c (((ys.zipIdx).filter λq=>p q.2 q.1).map λq=>g q.2 q.1),L⟩):wpE Φ M (.co U t z k) ⟨H,L⟩ Q X:=by
 refine F _ ⟨ys.length+1,?_⟩
 generalize E:((ys.zipIdx).filter λq=>p q.2 q.1).map (λq=>g q.2 q.1)=T at r
 have I:T.length<szl:=ax (E▸(ba _).symm▸ae (length_filter_le _ _) (bv length_zipIdx)) P
 have B:∀(j:List α) (i:Nat) (J:EN) (Y:B2),ys.drop i=j->V J->Y++(((j.zipIdx i).filter λq=>p q.2 q.1).map λq=>g q.2 q.1)=T->gv (λv s K=>∃L,gu s.L t v=some L/\rS Φ M k { s with L:=L } (λb s=>if b then wpE Φ M U s (λr s=>K (some r) s) (λn n=>False) else K none s) (λn n=>False))
   (λY s=>Y.length<=szl/\∀c,s.H.free c->Q (.ref c) ⟨s.H.aA c Y,L⟩) (j.length+1) (x i) Y ⟨H,J⟩:=by
  intro j
  induction j with
  | nil=>
   intro i J Y e h O
   obtain rfl:=(eR Y).symm.trans O
   exact sJ ((D i).trans (ab (λo=>some (Option.map _ o)) (rZ e))) ⟨cy I,r⟩
  | cons y j d=>
   intro i J Y e h O
   obtain⟨m,W,Z⟩:=S i y J (nh e) h
   have f:Y.length<szl:=ax (O▸bp▸dE _ _) I
   refine vP ((D i).trans (ab (λo=>some (Option.map _ o)) (nh e))) ⟨_,C i y J,W _ _ _ _ ?_⟩
   cases N:p i y with
   | false=>exact⟨f,d (i+1) _ Y (ni e) m ((ab (λl=>Y++List.map _ l) (lm (p:=λq:α×Nat=>p q.2 q.1) (a:=(y,i)) (Bool.eq_false_iff.mp N)).symm).trans O)⟩
   | true=>exact Z N _ _ _ _ ⟨f,d (i+1) _ (Y++[g i y]) (ni e) m ((io _ _ _).trans ((ab (λl=>Y++List.map _ l) (ll (p:=λq:α×Nat=>p q.2 q.1) (a:=(y,i)) N).symm).trans O))⟩
 exact B ys 0 L [] rfl R E
end
theorem Gw{H:CH}(h:Ev L H e (.bool b))(z:PT)(M:MT)(Q:Bool->St->Prop)(X:D1)(r:Q b ⟨H,L⟩):rS z M [e] ⟨H,L⟩ Q X:=h _ _ _ _ ⟨b,rfl,by cases b <;> exact r⟩
theorem mj{z w:Type}{p:z->Bool}{g:z->w}{ys:List z}:∀{n:Nat},(((ys.zipIdx n).filter λq=>p q.1).map λq=>g q.1)=(ys.filter p).map g:=by
 induction ys with
 | nil=>exact λ{Y}=>rfl
 | cons y ys Q=>
  intro n
  cases h:p y with
  | true=>exact(ab (List.map _) (ll (p:=λq:z×Nat=>p q.1) (a:=(y,n)) h)).trans ((ab (g y::·) Q).trans (ab (List.map g) (ll h)).symm)
  | false=>exact(ab (List.map _) (lm (p:=λq:z×Nat=>p q.1) (a:=(y,n)) (Bool.eq_false_iff.mp h))).trans (Q.trans (ab (List.map g) (lm (Bool.eq_false_iff.mp h))).symm)
theorem coM{U:Type}{H:CH}{Q:Da}{ys:List U}(v:Nat->It)(w:Nat->U->CV)(V:Nat->U->EN->EN)(k:∀i y L,gu L t (w i y)=some (V i y L))(O:∀o:It->St->Prop,o (v 0) ⟨H,L⟩->wpI j M J ⟨H,L⟩ o X)
(p:∀i,(v i).next H=some (ys[i]?.map λy=>(w i y,v (i+1))))(f:ys.length<szl)(g:U->CV)(l:∀i y L,ys[i]?=some y->Ev (V i y L) H Y (g y))
(r:∀c,H.free c->Q (.ref c) ⟨H.aA c (ys.map g),L⟩):wpE j M (.co Y t J []) ⟨H,L⟩ Q X:=
 coP v w V k O p f (λz z=>true) (λz=>g) (λz=>True) trivial (λi y L T z=>⟨trivial,λz z z z q=>q,λz=>l i y L T⟩) λc x=>by
  (erw[mj (p:=λz=>true) (g:=g)];erw[filter_eq_self.mpr λz z=>rfl]);exact r c x
theorem mq:au ((k,v)::z) k=some v:=ch rfl
theorem oX(h:a≠k):au ((a,v)::z) k=au z k:=ca h
theorem qQ:aW ((k,v)::z) k w=(k,w)::z:=ch rfl
theorem uy(h:a≠k):aW ((a,v)::z) k w=(a,v)::aW z k w:=ca h
theorem fj:au z k=some v->(k,v)∈z:=by
 induction z with
 | nil=>exact nos
 | cons p z Q=>
  by_cases e:p.1=k
  ·subst e
   exact λh=>al (mq.symm.trans h)▸aM
  ·exact λh=>bb _ (Q ((oX e).symm.trans h))
theorem mw{z:At}:au z k≠none↔k∈z.map (·.1):=by
 induction z with
 | nil=>exact⟨λh=>absurd rfl h,λh=>absurd h cp⟩
 | cons p z Q=>
  (erw[jp];rewrite[bt])
  by_cases e:p.1=k
  ·subst e
   exact iff_of_true (λh=>nos (h.symm.trans mq)) (.inl rfl)
  ·(erw[show au (p::z) k=au z k from oX e];rewrite[Q])
   exact(or_iff_right (en e)).symm
theorem b9{es:At}:au es k=none↔k∉es.map (·.1):=Classical.not_not.symm.trans (not_congr mw)
theorem bh(h:au z k≠none):∃v,au z k=some v/\(k,v)∈z:=(Option.ne_none_iff_exists'.mp h).imp λQ e=>⟨e,fj e⟩
theorem bV{p:CV×CV}:p∈aW z k v->p∈z∨p=(k,v):=by
 induction z with
 | nil=>exact λh=>.inr (bc.mp h)
 | cons q z Q=>
  by_cases e:q.1=k
  ·subst e
   exact λh=>(bt.mp ((qQ (v:=q.2)).symm▸h)).elim .inr λh=>.inl (bb _ h)
  ·exact λh=>(bt.mp ((uy (v:=q.2) e)▸h)).elim (λh=>.inl (bt.mpr (.inl h))) λh=>(Q h).imp (bb _) id
theorem jX{es:At}:(aW es k v).map (·.1)=if k∈es.map (·.1) then es.map (·.1) else es.map (·.1)++[k]:=by
 induction es with
 | nil=>exact(ca cp).symm
 | cons q es z=>
  erw[jp]
  by_cases e:q.1=k
  ·subst e
   erw[ch aM]
   exact ab (List.map (·.1)) (qQ (v:=q.2))
  ·(erw[(show aW (q::es) k v=q::aW es k v from uy e)];erw[jp];erw[z])
   by_cases m:k∈es.map (·.1)
   ·(erw[ch m];exact Eq.substr (ch (bb _ m)) rfl)
   ·(erw[ca m];erw[ca λh=>(bt.mp h).elim (en e) m]);rfl
theorem eO{z:Type}{l:List z}{y:z}(h:l.Nodup)(Q:y∉l):(l++[y]).Nodup:=
 kO.mpr ⟨h,fb _ _,λa w b Y q=>Q (bc.mp Y▸q▸w)⟩
theorem dQ{z:At}(h:(z.map (·.1)).Nodup):((aW z k v).map (·.1)).Nodup:=by
 erw[jX]
 by_cases e:k∈z.map (·.1)
 ·erw[ch e];exact h
 ·erw[ca e];exact eO h e
theorem mz{es:At}:(aW es k v).length<=es.length+1:=by
 have q:=ab List.length (jX (es:=es) (k:=k) (v:=v))
 rw[ba] at q
 erw[q]
 by_cases e:k∈es.map (·.1)
 ·(erw[ch e];erw[ba _]);exact gN _
 ·(erw[ca e];erw[bp];erw[ba _]);exact cr _
theorem aQ:au (aW z k v) x=if k=x then some v else au z x:=by
 induction z with
 | nil=>rfl
 | cons q z Q=>
  by_cases e:q.1=k
  ·subst e
   erw[(show aW (q::z) q.1 v=(q.1,v)::z from qQ)]
   by_cases h:q.1=x
   ·erw[ch h];exact ch h
   ·erw[ca h];exact(ca h).trans (ca h).symm
  ·erw[(show aW (q::z) k v=q::aW z k v from uy e)]
   by_cases h:q.1=x
   ·subst h
    erw[ca (en e)]
    exact mq.trans mq.symm
   ·(erw[show au (q::aW z k v) x=_ from oX h];erw[Q];exact Eq.substr (show au (q::z) x=_ from oX h) rfl)
theorem cj{α:Type}{l m:List α}(h:l.Nodup)(z:∀x∈l,x∈m):l.length<=m.length:=by
 classical
 induction l generalizing m with
 | nil=>exact dd _
 | cons a l y=>
  have h:=ei.mp h
  have Q:a∈m:=z a aM
  have k:=y (m:=m.erase a) h.2 λx w=>(mem_erase_of_ne (λ(e:x=a)=>h.1 (e▸w))).mpr (z x (bb _ w))
  rw[length_erase_of_mem Q] at k
  exact ae (et k) (bv (Nat.succ_pred_eq_of_pos (length_pos_of_mem Q)))
theorem cO{z:Type}{l:List z}{y:z}{p:z->Prop}(h:∀x∈l,p x)(Q:p y):∀x∈l++[y],p x:=λx w=>(dC.mp w).elim (h x) λe=>bc.mp e▸Q
theorem sN{l:Bi}(h:∀x∈l,cH x):CV.bD (l.map .str)=true:=by
 induction l with
 | nil=>rfl
 | cons x l z=>exact bn.mpr ⟨h x aM,z λy Q=>h y (bb _ Q)⟩
theorem qR(l:Bi):CV.dB (l.map .str)=0:=by
 induction l with
 | nil=>rfl
 | cons x l z=>exact(ab (max 0) z).trans rfl
noncomputable def qS(r:aI):Prop:=cH r.1/\∀x∈r.2,cH x
theorem sO(h:qS r):(dP r).pure=true:=bn.mpr ⟨h.1,bn.mpr ⟨sN h.2,rfl⟩⟩
theorem qT(r:aI):(dP r).depth=2:=(ab (λn=>max 0 (max (n+1) 0)+1) (qR r.2)).trans rfl
theorem A5{l:List aI}(h:∀r∈l,qS r):CV.bD (l.map dP)=true:=by
 induction l with
 | nil=>rfl
 | cons x l z=>exact bn.mpr ⟨sO (h x aM),z λy Q=>h y (bb _ Q)⟩
theorem xR(l:List aI):CV.dB (l.map dP)<=2:=by
 induction l with
 | nil=>exact dd _
 | cons x l z=>exact Nat.max_le.mpr ⟨bv (qT x),z⟩
theorem vQ{l m:Bi}(h:l.map CV.str=m.map CV.str):l=m:=(List.map_inj_right λz z h=>CV.str.inj h).mp h
theorem DF(h:dP r=dP s):r=s:=
 have a:=eF (CV.tup.inj h)
 my (CV.str.inj a.1) (vQ (CV.tup.inj (eF a.2).1))
theorem HE{r:aI}(z:r.1∈bz)(Q:fh m r.2):qS r:=⟨aO (b6 z),λx w=>aO (Q.2.1 x w)⟩
theorem fh.mono{k:Nat}(h:fh m l)(z:m<=k):fh k l:=⟨ae h.1 z,h.2⟩
theorem aV:∀x∈aH,(CV.str x).keyOk=true:=by decide
theorem DG:∀x∈laS,(CV.str x).keyOk=true:=by decide
theorem xS:∀x∈eS::aH,(CV.str x).keyOk=true:=by decide
theorem zX{x:Str}(h:x∈dS):x∈laS:=by revert h x;decide
theorem DH{x:Str}(h:x∈dS):x∈aH:=by revert h x;decide
theorem qU{x:Str}(h:x∈dS):x≠eS:=by revert h x;decide
theorem DI{x:Str}(h:x∈bz):x∉dS:=by revert h x;decide
theorem xT{x:Str}(h:x∈aH):x∈dS∨x∈bz:=by revert h x;decide
theorem asc{x:Str}(h:x∈[sa,sb,xN,eS,jq,sA,sB,sS,sP,rP,kU,u 1349811,u 129580172,u 159904300,u 0x2bbce4f9a895ee,u 13906159109]):cH x:=by
 revert h x
 unfold cH
 decide
theorem gk{a b:Prop}[Decidable a][Decidable b](h:a↔b):decide a=decide b:=decide_eq_decide.mpr h
section
variable{H:CH}
theorem fQ{a:Nat}{l:Bi}(h:H.getL a=some (l.map .str))(w:∀y∈l,cH y)(Y:cH x):bO H .isIn (.str x) (.ref a)=some (decide (x∈l)):=
 (ab (Option.elim · _ (pn (.str x))) h).trans ((ch ⟨Y,sN w,dd _,ae (bv (qR _)) (dd _)⟩).trans (ab some (gk ⟨λh=>(bo.mp h).elim λy q=>CV.str.inj q.2▸q.1,dp⟩)))
theorem oH(h:bO H .isIn x y=some b):bO H .d8 x y=some (!b):=ab (Option.map (!·)) h
theorem neV(h:bO H .eq x y=some b):bO H .ne x y=some (!b):=ab (Option.map (!·)) h
theorem eqP{x y:CV}(w:x.pure=true)(Y:y.pure=true)(U:x.depth<=20)(v:y.depth<=20):bO H .eq x y=some (decide (x=y)):=ch ⟨w,Y,U,v⟩
theorem eqS(w:cH x)(Y:cH y):bO H .eq (.str x) (.str y)=some (decide (x=y)):=
 (eqP (x:=.str x) (y:=.str y) w Y (dd _) (dd _)).trans (ab some (gk ⟨CV.str.inj,ab _⟩))
theorem eqI:bO H .eq (.int i) (.int j)=some (decide (i=j)):=
 (eqP (x:=.int i) (y:=.int j) rfl rfl (dd _) (dd _)).trans (ab some (gk ⟨CV.int.inj,ab _⟩))
theorem fL{a:Nat}(h:H.cls a=some c)(w:bu c=true)(y:H.att n a=some v):j5 H (.ref a) n=some v:=
 (ab (Option.bind · λc=>if bu c then(H.att n a).elim (gq c n) some else none) h).trans ((ch w).trans (ab (Option.elim · (gq c n) some) y))
theorem zY{a:Nat}(h:H.cls a=some c)(w:bu c=true)(y:H.att n a=none):j5 H (.ref a) n=gq c n:=
 (ab (Option.bind · λc=>if bu c then(H.att n a).elim (gq c n) some else none) h).trans ((ch w).trans (ab (Option.elim · (gq c n) some) y))
theorem nH{a:Nat}(h:H.getL a=some l):truth H (.ref a)=some (!l.isEmpty):=ab (Option.elim · _ λ(l:B2)=>some (!l.isEmpty)) h
variable{P:Par}{z:TY}{n:Nat}{Q:DD}
theorem qV{a:Nat}(T:Typed P z H)(h:H.dct a=some w):truth H (.ref a)=some (!w.isEmpty):=
 (ab (Option.elim · _ _) (T.dg h)).trans (ab (Option.elim · _ λ(w:At)=>some (!w.isEmpty)) h)
theorem DJ{a:Nat}(T:Typed P z H)(h:H.cls a=some c)(w:b8 c=true):truth H (.ref a)=some true:=
 (ab (Option.elim · _ _) (T.cg h)).trans ((ab (Option.elim · _ _) (T.wf.cls a (ak h)).2.2).trans ((ab (Option.bind · λc=>if b8 c then some true else none) h).trans (ch w)))
theorem inD{a:Nat}{x:CV}(T:Typed P z H)(h:H.dct a=some w)(y:x.keyOk=true):bO H .isIn x (.ref a)=some (au w x).isSome:=
 (ab (Option.elim · _ (pn x)) (T.dg h)).trans ((ab (Option.bind · λw=>if x.keyOk then some (au w x).isSome else none) h).trans (ch y))
noncomputable abbrev Gc:=CV->Except Exc CV
theorem DK{a:Nat}{k:CV}(T:Typed P z H)(h:H.dct a=some w)(y:k.keyOk=true):fS H (.ref a) k=some ((au w k).elim (.error .key) .ok):=
 (ab (Option.elim · _ λl=>k.cD none λi=>(atI l i).map (Except.ok:Gc)) (T.dg h)).trans ((ab (Option.bind · λw=>if k.keyOk then some ((au w k).elim (Except.error Exc.key:Except Exc CV) (Except.ok:Gc)) else none) h).trans (ch y))
theorem getD{a:Nat}{k:CV}(T:Typed P z H)(h:H.dct a=some w)(y:k.keyOk=true)(Y:au w k=some v):fS H (.ref a) k=some (.ok v):=
 (DK T h y).trans (ab (λo=>some (Option.elim o (Except.error Exc.key:Except Exc CV) (Except.ok:Gc))) Y)
theorem HF{a:Nat}{k:CV}(T:Typed P z H)(h:H.dct a=some w)(y:k.keyOk=true)(Y:au w k=none):fS H (.ref a) k=some (.error .key):=
 (DK T h y).trans (ab (λo=>some (Option.elim o (Except.error Exc.key:Except Exc CV) (Except.ok:Gc))) Y)
theorem xU{a:Nat}{i:Int}(h:H.getL a=some l)(e:atI l i=some v):fS H (.ref a) (.int i)=some (.ok v):=
 (ab (Option.elim · _ λl=>CV.cD none (.int i) λi=>(atI l i).map (Except.ok:Gc)) h).trans (ab (Option.map (Except.ok:Gc)) e)
theorem oY{l:B2}{i:Nat}:atI l (i:Int)=l[i]?:=(ch (hO i)).trans (ab (l[·]?) (lp i))
theorem i7{w:Type}{a i:Nat}{ys:List w}{f:w->CV}{y:w}(h:H.getL a=some (ys.map f))(Y:ys[i]?=some y):fS H (.ref a) (.int i)=some (.ok (f y)):=
 xU h (oY.trans (eM.trans (ab (Option.map f) Y)))
theorem DL{i:Int}(e:atI l i=some v):fS H (.tup l) (.int i)=some (.ok v):=by
 show Option.elim (atI l i) _ _=_
 erw[e];rfl
theorem Jf{i:Int}(e:atI l i=none)(h:-1000<i/\i<1000):fS H (.tup l) (.int i)=some (.error .index):=by
 show Option.elim (atI l i) _ _=_
 (erw[e];erw[Option.elim_none _ _];exact Eq.substr (ch h) rfl)
theorem oZ{i:Nat}{l:B2}(w:l[i]?=some y):fS H (.tup l) (.int i)=some (.ok y):=DL (oY.trans w)
theorem ND{l:B2}:cut l (.int 1) .none=some (l.drop 1):=by first | rfl | kernel_rfl
theorem vR{a:Nat}(h:H.getL a=some l):EM H (.ref a)=some l.length:=ab (Option.elim · _ λl=>some (List.length l)) h
theorem NF{a:Nat}(T:Typed P z H)(h:H.dct a=some w):EM H (.ref a)=some w.length:=(ab (Option.elim · _ λl=>some (List.length l)) (T.dg h)).trans (ab (Option.map (List.length (α:=CV×CV))) h)
end
theorem Gx:∀x∈aH,(x.cps.toList.length<=10/\0<x.cps.toList.length)/\(∀c∈x.cps.toList,c<128)/\∀c∈x.cps.toList,c∈(u 0x31816a8261d679ddb8e10c0da968c04081bc61b92173b417f0cbc761d548053dc80445c1c5f59e4080e4bd98942ea214d204ef8501).cps.toList:=by
 decide
theorem xV:∀x∈aH,(x.cps.size<=10/\0<x.cps.size)/\x.cps.all (λx=>decide (x<128))=true/\∀c∈x.cps.toList,(u 0x31816a8261d679ddb8e10c0da968c04081bc61b92173b417f0cbc761d548053dc80445c1c5f59e4080e4bd98942ea214d204ef8501).cps.toList.contains c=true:=by
 intro x Q
 obtain⟨w,y,Y⟩:=Gx x Q
 refine⟨by simpa using w,?_,λc z=>contains_iff_mem.mpr (Y c z)⟩
 (erw[ip Array.all_toList];rewrite[eQ])
 exact λc z=>cn (y c z)
theorem DM{x:Str}(h:x∈aH):x.cps.size<=1000000:=ae (xV x h).1.1 (aw rfl)
theorem vS{l:Bi}{x:Str}:nub z (l++[x])=if x∈nub z l then nub z l else nub z l++[x]:=by
 unfold nub;erw[foldl_append];rfl
theorem i8:∀{acc:Bi} {x:Str},x∈nub acc l↔x∈acc∨x∈l:=by
 induction l with
 | nil=>exact λ{acc x}=>(or_iff_left cp).symm
 | cons y l z=>
  intro acc x
  refine(z (acc:=if y∈acc then acc else acc++[y])).trans ?_
  by_cases h:y∈acc
  ·rw[ch h]
   exact⟨Or.imp_right (bb _),λq=>q.elim .inl λq=>(bt.mp q).elim (λe=>.inl (e▸h)) .inr⟩
  ·rw[ca h,dC,bc,or_assoc]
   exact or_congr_right bt.symm
theorem uz:∀(m z:Bi),(nub z m).length<=z.length+m.length
 | [],_=>cr _
 | y::m,z=>by
  show(nub (if y∈z then z else z++[y]) m).length<=_
  split
  ·exact ae (uz m z) (ew (gN _) _)
  ·refine ae (uz m _) ?_
   (erw[bp];erw[ik])
   exact bv (Nat.add_right_comm ..)
section
variable{P:Par}{z w:TY}{H:CH}{n:Nat}{Q:DD}
theorem Typed.it{a:Nat}(T:Typed P z H)(h:z a=some (.item r d)):HC P.toPK P.toPI z (view H a) a r d:=T.sat _ _ h
theorem Typed.pd{a:Nat}(T:Typed P z H)(h:z a=some (.prod r)):Dw P.toPK P.toPI P.toPM z (view H a) a r:=T.sat _ _ h
theorem Typed.st{a:Nat}{q:BM}(T:Typed P z H)(h:z a=some (.stL q)):∃l:List Nat,H.lst a=some (l.map .ref)/\dN (λa p=>z a=some (.item p.1 p.2)) l q/\q.length<1000:=T.sat _ _ h
theorem Typed.tb{a:Nat}(T:Typed P z H)(h:z a=some .table):Dy P.toPM P.toPA P.toPQ z (view H a) P.hash:=(T.sat _ _ h).2
theorem Typed.gr{a:Nat}(T:Typed P z H)(h:z a=some .b7):HB P.toPA z (view H a):=(T.sat _ _ h).2
theorem Typed.gat{a k:Nat}(T:Typed P z H)(h:z a=some .b7)(g:(view H a).att k=some v):j5 H (.ref a) k=some v:=fL (T.gr h).cls rfl g
theorem Typed.pat{a k:Nat}(T:Typed P z H)(h:z a=some (.prod r))(g:(view H a).att k=some v):j5 H (.ref a) k=some v:=fL (T.pd h).cls rfl g
theorem Typed.iat{a k:Nat}(T:Typed P z H)(h:z a=some (.item r d))(g:(view H a).att k=some v):j5 H (.ref a) k=some v:=fL (T.it h).cls rfl g
theorem Typed.tat{a k:Nat}(T:Typed P z H)(h:z a=some .table)(g:(view H a).att k=some v):j5 H (.ref a) k=some v:=fL (T.tb h).cls rfl g
theorem Typed.oat{c m:Nat}{f:EN}(T:Typed P z H)(h:z c=some (.cK k f))(y:bu k=true)(U:f m=some v):j5 H (.ref c) m=some v:=fL (T.C h) y ((T.A h m).trans U)
theorem jH{x:Str}(N:Now Y w P z H)(p:x∈aH)(f:∀v J,Now Y w P v J->Ka z v->Q (.bool true) J):calls fF mF (n+1) 39 [.str x] H Q:=by
 obtain⟨⟨o,g⟩,t,T⟩:=xV x p
 refine cB [.str x] (d:=eG) rfl rfl rfl rfl λC V U=>?_
 refine W.LZ (.cm (.Ny (.v rfl) (ae o (aw rfl))) .c (Ev.gtT (lv.mpr g))) rfl ?_
 refine Nz (coM (ys:=x.cps.toList) (λi=>.items ((x.cps.toList.map λc=>CV.str ⟨#[c]⟩).drop i)) (λU c=>.str ⟨#[c]⟩) (λU c L=>upd L 1 (.str ⟨#[c]⟩)) (λU U U=>rfl) (λU r=>⟨_,rfl,t,r⟩) (λi=>eV) (by erw[Array.length_toList];exact ax o (by decide)) (λU=>.bool true)
  (λi c L k=>.cm (.v rfl) .c (ab some (T c (be k)))) λc k=>?_)
 refine N.nL (G:=λH=>∃l,pq H (.ref c)=some l/\(∀y∈l,∃b,y=.bool b)/\C (.ret (.bool (l.all λy=>decide (y=.bool true)))) ⟨H,_⟩) k λB a O A U D=>⟨_,O.T.gL A,λy j=>(bo.mp j).elim λU e=>⟨true,e.2.symm⟩,?_⟩
 erw[eQ.mpr λy j=>(bo.mp j).elim λU e=>cn e.2.symm]
 exact V (f B a O D.aa)
theorem A6{a:Nat}(U:H.cls a=some 100)(v:H.att 3 a=some (.tup l))(V:l.length<=szl)(k:Q (.int l.length) H):calls fF mF (n+1) 83 [.ref a] H Q:=
 cB [.ref a] (d:=cX) rfl rfl rfl rfl λj y J=>W.ret (.Dz (.att (.v rfl) (fL U rfl v)) V) (y k)
theorem xW{c t:Nat}{l:Bi}(T:Typed P z H)(o:z c=some (.aq (l.map .str)))(O:H.dct t=some N)(a:l.length<100)(A:∀x∈l,x∈aH)(g:∀v,(v=.none∨∃x∈aH,v=.str x)->Q v H):calls fF mF (n+1) 146 [.ref c,.ref t] H Q:=by
 refine cB [.ref c,.ref t] (d:=b5) rfl rfl rfl rfl λM y J=>?_
 refine W.asg (.sub (.uw (.v rfl) (T.lc (T.L o)) (vR (T.gL o)) (by erw[ba _];exact ae (cy a) (aw rfl))) .c) ?_
 refine whl (J:=λk D L=>D=H/\L 0=some (.ref c)/\L 1=some (.ref t)/\L 2=some (.int ((k:Int) - 1))/\k<=l.length) l.length ⟨rfl,rfl,rfl,ab (λn:Nat=>some (CV.int ((n:Int) - 1))) (ba _),cr _⟩ ?_
 rintro k E I ⟨rfl,p,C,U,f⟩
 cases k with
 | zero=>exact⟨_,false,.cm (.v U) .c (Ev.geF (by decide)),rfl,λJ=>W.ret .c (y (g _ (.inl rfl))),ff⟩
 | succ j=>
  replace U:I 2=some (.int (j:Int)):=U.trans (ab (λi=>some (CV.int i)) (Int.add_sub_cancel (j:Int) 1))
  refine⟨_,true,.cm (.v U) .c (Ev.geT (hO j)),rfl,ntf,λJ K b=>?_⟩
  have B:fS E (.ref c) (.int j)=some (.ok (.str l[j])):=i7 (T.gL o) (bm f)
  have V:=A _ (fg f)
  refine W.ite (.cm (.ix (.v p) (.v U) B) (.v C) (inD T O (aV _ V))) rfl (λJ=>W.ret (.ix (.v p) (.v U) B) (b.ret (y (g _ (.inr ⟨_,V,rfl⟩))))) λJ=>W.nil ?_
  exact W.ir U .c (.inr rfl) (b.nxt ⟨j,dq j,rfl,p,C,rfl,cy f⟩)
end
noncomputable def Al{α:Type}(p:α->Prop):List α->Prop
 | []=>True
 | a::l=>p a/\Al p l
theorem Al.mem{Q:Type}{p:Q->Prop}:∀{l:List Q},Al p l->∀x∈l,p x
 | a::l,h,x,z=>(bt.mp z).elim (λe=>e▸h.1) λz=>Al.mem h.2 x z
theorem Al.app{α:Type}{p:α->Prop}{l m:List α}(h:Al p l)(k:∀x∈m,p x):∀x∈l++m,p x:=λx z=>(dC.mp z).elim (h.mem x) (k x)
structure MnE(H0:CH)(ty:TY)(c:Nat)(x:Nat×Role):Prop where
 t:ty x.1=some x.2
 ne:x.1≠c
 fr:H0.free x.1
noncomputable abbrev FM:=List (Nat×Role)
structure Mn(H0:CH)(ty:TY)(c:Nat)(L:FM):Prop where
 r:∀x∈L,MnE H0 ty c x
 nd:(L.map (·.1)).Nodup
section
variable{Q w:TY}{z:CH}{b c:Nat}{L:FM}{y:Role}
theorem Mn.at(h:Mn z Q c L)(i:Nat)(e:L[i]?=some x):MnE z Q c x:=h.r x (be e)
theorem Mn.put(h:Mn z Q c L)(V:w b=some y)(j:z.free b)(v:b≠c)(k:∀a y,a≠c->Q a=some y->w a=some y/\a≠b):Mn z w c ((b,y)::L):=
 ⟨λx U=>(bt.mp U).elim (λe=>e▸⟨V,v,j⟩) λU=>⟨(k _ _ (h.r x U).ne (h.r x U).t).1,(h.r x U).ne,(h.r x U).fr⟩,ei.mpr ⟨λJ=>(bo.mp J).elim λx q=>(k _ _ (h.r x q.1).ne (h.r x q.1).t).2 q.2,h.nd⟩⟩
theorem Mn.keep(h:Mn z Q c L)(k:Kp c Q w):Mn z w c L:=⟨λx U=>⟨k _ _ (h.r x U).ne (h.r x U).t,(h.r x U).ne,(h.r x U).fr⟩,h.nd⟩
theorem Mn.perm(h:Mn z Q c L)(p:L.Perm Y):Mn z Q c Y:=⟨λx U=>h.r x (p.mem_iff.mpr U),(p.map _).nodup_iff.mp h.nd⟩
theorem Mn.nil:Mn z Q c []:=⟨λU h=>absurd h cp,dt⟩
theorem Mn.one(v:Q b=some y)(U:b≠c)(V:z.free b):Mn z Q c [(b,y)]:=⟨λx k=>bc.mp k▸⟨v,U,V⟩,fb _ _⟩
end
noncomputable def EvS(L:EN)(H:CH)(e:CE):Prop:=∀(z:PT) (M:MT) (Q:Da) (X:D1),(∀r,Q (.str r) ⟨H,L⟩)->wpE z M e ⟨H,L⟩ Q X
section
variable{L:EN}{H:CH}{w U:CE}{s:Str}{c i d j:Nat}
theorem EvS.jj{l:Bi}(v:Ev L H w (.str f))(V:f.cps.size<=1000000)(J:Ev L H Y (.str s))(O:s.cps.size=1)(p:Ev L H U (.tup (l.map .str)))(x:l.length<64)(g:∀z∈l,z.cps.size<64):EvS L H (.js w (.jo Y U)):=λQ Q Q Q k=>
 v _ _ _ _ ⟨f,rfl,V,J _ _ _ _ ⟨s,rfl,p _ _ _ _ ⟨_,O,rfl,by rwa [ba],λz t=>let ⟨y,T,e⟩:=bo.mp t;⟨y,e.symm,g y T⟩,λr C=>.inl ⟨r,rfl,by lia,k⟩⟩⟩⟩
theorem EvS.md(Q:Ev L H w (.str (u 0x405584c7f5eca7988f9f25)))(y:Ev L H Y (.str s))(v:s.cps.size<=1000000):EvS L H (.op .mod w Y):=λz z z z k=>Q _ _ _ _ (y _ _ _ _ ⟨rfl,v,k⟩)
namespace W
variable{z:PT}{Q:Ap}{P:Par}{v:EN}{n:Nat}
theorem DN{st:St}(r:wpE z M e st (λv st=>Q (.ret v) st) X):aj z M (.ret e::l) st Q X:=r
theorem HG(N:Now y k P V H)(f:y.free c)(g:V c=some (.cK d v))(p:bu d=true)(t:Ev L H o (.ref c))(T:EvS L H e)
(r:∀s J O,Now y k P J O->J c=some (.cK d λm=>if m=n then some (.str s) else v m)->Kp c V J->aj z M l ⟨O,L⟩ Q X):aj z M (.asg (.at o n) e::l) ⟨H,L⟩ Q X:=
 T _ _ _ _ λs=>t _ _ _ _ ⟨c,d,rfl,N.T.C g,p,N.oA (G:=λH=>aj z M l ⟨H,L⟩ Q X) f g (r s)⟩
theorem Jg(N:Now y k P V H)(f:y.free c)(g:V c=some (.cK d v))(C:bu d=true)(B:L j=some (.ref c))(A:Ev L H e (.tup m))(D:m.length<=szl)
(r:∀b J t,Now y k P J t->J c=some (.cK d λm=>if m=n then some (.ref b) else v m)->J b=some (.aq m)->y.free b->b≠c->(∀a p,a≠c->V a=some p->J a=some p/\a≠b)->aj z M l ⟨t,L⟩ Q X):aj z M (.asg (.at (.v j) n) (.b1 .list e)::l) ⟨H,L⟩ Q X:=
 A _ _ _ _ ⟨m,rfl,D,λb E=>N.nL (G:=λH=>tn z M (.at (.v j) n) (.ref b) ⟨H,L⟩ _ X) E λG u T I F O=>⟨_,B,c,d,rfl,T.T.C (O _ _ g).1,C,
  T.oA (G:=λH=>aj z M l ⟨H,L⟩ Q X) f (O _ _ g).1 λR S W Z x=>r b R S W Z (x _ _ (en (O _ _ g).2) I) F (en (O _ _ g).2) λa p K h=>⟨x _ _ K (O _ _ h).1,(O _ _ h).2⟩⟩⟩
theorem Me(N:Now y k P V H)(f:y.free c)(g:V c=some (.cK d v))(C:bu d=true)(B:L j=some (.ref c))
(r:∀b J t,Now y k P J t->J c=some (.cK d λm=>if m=n then some (.ref b) else v m)->J b=some (.aJ [])->y.free b->b≠c->(∀a p,a≠c->V a=some p->J a=some p/\a≠b)->aj z M l ⟨t,L⟩ Q X):aj z M (.asg (.at (.v j) n) .d0::l) ⟨H,L⟩ Q X:=
 λb A=>N.nD (G:=λH=>tn z M (.at (.v j) n) (.ref b) ⟨H,L⟩ _ X) A λZ K T D E O=>⟨_,B,c,d,rfl,T.T.C (O _ _ g).1,C,
  T.oA (G:=λH=>aj z M l ⟨H,L⟩ Q X) f (O _ _ g).1 λI F R S x=>r b I F R S (x _ _ (en (O _ _ g).2) D) E (en (O _ _ g).2) λa p W h=>⟨x _ _ W (O _ _ h).1,(O _ _ h).2⟩⟩
theorem Jh{p:Nat}{v:CV}(N:Now y k P V H)(f:y.free c)(g:V c=some (.aq m))(t:Ev L H w (.ref c))(T:Ev L H Y (.int p))(x:Ev L H U v)(C:p<=m.length)(b:m.length<64)
(r:∀J O,Now y k P J O->J c=some (.aq (m.take p++v::m.drop p))->Kp c V J->aj z M l ⟨O,L⟩ Q X):aj z M (.ex (.ins w Y U)::l) ⟨H,L⟩ Q X:=
 t _ _ _ _ ⟨c,m,rfl,N.T.L g,T _ _ _ _ (x _ _ _ _ ⟨m,p,rfl,C,N.T.L g,b,N.oL (G:=λH=>aj z M l ⟨H,L⟩ Q X) f g r⟩)⟩
end W
end
inductive IA
 | v (e:CE) (x:CV)
 | l (es:FV) (vs:B2)
 | d
noncomputable def IA.cs(n:Nat):IA->CS
 | .v e _=>.asg (.at (.v 0) n) e
 | .l z _=>.asg (.at (.v 0) n) (.li z)
 | .d=>.asg (.at (.v 0) n) .d0
noncomputable def at1(f:EN)(n:Nat)(v:CV):EN:=λm=>if m=n then some v else f m
theorem hi1{f:EN}{n:Nat}(h:∀k,42<=k->f k=none)(Q:Nat.ble 42 n=false):∀k,42<=k->at1 f n v k=none:=λk z=>(ca λe:k=n=>Bool.noConfusion (Q.symm.trans (Nat.ble_eq.mpr (e▸z)))).trans (h k z)
noncomputable def qW(k:EN->List (Nat×Role)->Prop):List (Nat×IA)->EN->List (Nat×Role)->Prop
 | [],f,R=>k f R
 | (n,.v _ x)::r,f,R=>qW k r (at1 f n x) R
 | (n,.l _ z)::r,f,R=>∀b,qW k r (at1 f n (.ref b)) ((b,.aq z)::R)
 | (n,.d)::r,f,R=>∀b,qW k r (at1 f n (.ref b)) ((b,.aJ [])::R)
section
variable{P:Par}{z:TY}{H w:CH}{c d:Nat}{L:EN}
variable(w P c d L) in
noncomputable def Gy(Q:TY):List (Nat×IA)->EN->Prop
 | [],_=>True
 | (n,.v e x)::r,f=>(∀z H,Now w Q P z H->z c=some (.cK d f)->Ev L H e x)/\Gy Q r (at1 f n x)
 | (n,.l y Y)::r,f=>(∀H,Evs L H y Y)/\∀b,Gy Q r (at1 f n (.ref b))
 | (n,.d)::r,f=>∀b,Gy Q r (at1 f n (.ref b))
theorem W.qW(as:List (Nat×IA))(j:bu d=true)(J:L 0=some (.ref c))(o:w.free c):∀{z H f R},Now w V P z H->z c=some (.cK d f)->Mn w z c R->Gy P w c d L V as f->
  qW (λf R=>∀z H,Now w V P z H->z c=some (.cK d f)->Mn w z c R->aj C M l ⟨H,L⟩ Q X) as f R->aj C M (as.map (λa=>a.2.cs a.1)++l) ⟨H,L⟩ Q X:=by
 induction as with
 | nil=>exact λN g y U h=>h _ _ N g y
 | cons a r O=>
  obtain⟨n,a⟩:=a
  cases a with
  | v e x=>exact λN g y Y h=>W.vO N o g j (.v J) (Y.1 _ _ N g) λU U N g k=>O N g (y.keep k) Y.2 h
  | l B A=>exact λN g y Y h=>W.HD N o g j J (Y.1 _) λb U U N g p t T k=>O N g (y.put p t T k) (Y.2 b) (h b)
  | d=>exact λN g y Y h=>W.Me N o g j J λb U U N g p t T k=>O N g (y.put p t T k) (Y b) (h b)
end
section
variable{P:Par}{w t0:TY}{H H0:CH}{n:Nat}{Q:DD}
structure Gz(f:EN)(nm:Str)(l:Bi)(r:Nat)(pc:CV)(b:Nat):Prop where
 f0:f 0=none
 f1:f 1=none
 f2:f 2=some (.str nm)
 f3:f 3=some (.tup (l.map .str))
 f4:f 4=some (.int r)
 f8:f 8=some (.int 0)
 f9:f 9=some pc
 f11:f 11=some (.ref b)
theorem jI{l:Bi}(h:l.length<=20):(l.map CV.str).length<=szl:=by erw[ba _];exact ae h (aw rfl)
inductive PrI(H0:CH)(t0:TY)(P:Par)(c b:Nat)(f:EN)(l:Bi)(H':CH)(L:EN):Prop
 | mk (l0:L 0=some (.ref c)) (ty':TY) (N:Now H0 t0 P ty' H') (g:ty' c=some (.cK 100 f)) (gb:ty' b=some (.aq (l.map .str)))
theorem qX{s:Nat}{l:Bi}{r:Nat}{nm:Str}(T:Typed P w H)(hc:H.free c)(hs:w s=some (.aq (l.map .str)))(S:∀x∈l,x∈aH)(X:l.length<=5)(p:nm.cps.size<=1000000)
(hQ:∀U J f b,Now H w P U J->U c=some (.cK 100 f)->U b=some (.aq ((nub [] l).map .str))->H.free b->b≠c->Gz f nm l r O b->Q .none J):calls fF mF (n+1) 62 [.ref c,.int r,.str nm,.ref s,O,.none,.str R,.int 0] (H.setC c 100) Q:=by
 refine T.now.nC (G:=λH=>calls fF mF (n+1) 62 _ H Q) hc λt1 H1 N g h Y=>?_
 refine cB [.ref c,.int r,.str nm,.ref s,O,.none,.str R,.int 0] (d:=bR) rfl rfl rfl rfl λFQ Y o=>?_
 have d:=jI (ae X (by decide:5<=20))
 refine W.qW [(2,.v (.v 2) (.str nm)),(3,.v (.b1 .tuple (.v 3)) (.tup (l.map .str))),(4,.v (.v 1) (.int r)),(5,.v (.v 5) .none),(6,.v (.c .none) .none),(7,.v (.v 6) (.str R)),(8,.v (.v 7) (.int 0)),(9,.v (.v 4) O),(10,.v (.b1 .len (.at (.v 0) 3)) (.int (l.map CV.str).length)),(11,.l [] [])] rfl rfl h N g .nil
  ⟨λY Y Y Y=>.v rfl,λY Y N Y=>.tuple (.v rfl) (N.T.gL (N.get T hs)) d,λY Y Y Y=>.v rfl,λY Y Y Y=>.v rfl,λY Y Y Y=>.c,λY Y Y Y=>.v rfl,λY Y Y Y=>.v rfl,λY Y Y Y=>.v rfl,λY Y N g=>.Dz (.att (.v rfl) (N.T.oat g rfl rfl)) d,λY=>.nil,λY=>trivial⟩ λb t z2 N g Z=>?_
 obtain⟨j,V,G⟩:=Z.at 0 rfl
 obtain⟨f,g,F⟩:∃f,t c=some (.cK 100 f)/\Gz f nm l r O b:=⟨_,g,rfl,rfl,rfl,rfl,rfl,rfl,rfl,rfl⟩
 refine frT (ys:=l) (f:=.str) (I:=λi=>PrI H w P c b f (nub [] (l.take i))) (.att (.v rfl) (N.T.oat g rfl F.f3)) ⟨rfl,t,N,g,j⟩ ?_ ?_
 ·rintro i x C L K B ⟨v,a,N,g,j⟩ hK
  have u:=S x (be B)
  have A:∀y∈nub [] (l.take i),cH y:=λy hy=>aO (S y (mem_of_mem_take ((i8.mp hy).resolve_left cp)))
  have D:nub [] (l.take (i+1))=if x∈nub [] (l.take i) then nub [] (l.take i) else nub [] (l.take i)++[x]:=by(erw[eI];erw[B]);exact vS
  have E:j5 C (.ref c) 11=some (.ref b):=N.T.oat g rfl F.f11
  refine W.ux (.cm (.v rfl) (.att (.v v) E) (oH (fQ (N.T.gL j) A (aO u)))) (λhn=>?_) λq=>W.nil (hK.nxt ⟨v,a,N,g,by(erw[D];erw[ch q]);exact j⟩)
  refine W.iI N G j (.att (.v v) E) (.v rfl) (ax (m:=20) ?_ (aw rfl)) λz0 z3 N z1 k=>W.nil (hK.nxt ⟨v,z0,N,k _ _ (en V) g,by(erw[D];erw[ca hn];erw[ej]);exact z1⟩)
  erw[ba _]
  exact ae (uz (l.take i) []) (ae (bv (lL _)) (ae (length_take_le' i l) (ae X (by decide))))
 rintro C L ⟨v,a,N,g,j⟩
 rw[fI] at j
 refine W.qW [(12,.l [] []),(13,.v (.c .none) .none)] rfl v h N g (.one j V G) ⟨λY=>.nil,λY=>⟨λY Y Y Y=>.c,trivial⟩⟩ λb2 I z4 N g Z=>?_
 obtain⟨e,g,F⟩:∃e,I c=some (.cK 100 e)/\Gz e nm l r O b:=⟨_,g,F.f0,F.f1,F.f2,F.f3,F.f4,F.f8,F.f9,F.f11⟩
 have M:∀s U J,Now H w P U J->U c=some (.cK 100 λm=>if m=14 then some (.str s) else e m)->Kp c I U->aj (calls fF mF n) mF [] ⟨J,L⟩ (bf (calls fF mF n) mF [] FQ FX) FX:=λs U J N g k=>W.nil (o (hQ U J _ b N g (k _ _ V (Z.at 1 rfl).t) G V ⟨F.f0,F.f1,F.f2,F.f3,F.f4,F.f8,F.f9,F.f11⟩))
 refine W.ite (.att (.v v) (N.T.oat g rfl F.f3)) rfl (λz5=>?_) λz6=>?_
 ·exact W.HG N h g rfl (.v v) (.jj (.att (.v v) (N.T.oat g rfl F.f2)) p .c rfl (.att (.v v) (N.T.oat g rfl F.f3)) (ax X (by decide)) λz d=>ax (xV z (S z d)).1.1 (by decide)) M
 ·exact W.HG N h g rfl (.v v) (.md .c (.att (.v v) (N.T.oat g rfl F.f2)) p) M
structure NG(f:EN)(R:List aI)(r d b:Nat):Prop where
 f2:f 2=some (.str (lhs R r))
 f3:f 3=some (.tup (((rhs R r).take d++rP::(rhs R r).drop d).map .str))
 f4:f 4=some (.int r)
 f10:f 10=some (.int ((rhs R r).length+1:Nat))
 f11:f 11=some (.ref b)
 f15:f 15=some (.int d)
 no:∀k,42<=k->f k=none
theorem xX{p:Nat}{d:Nat}(T:Typed P w H)(I:H.free c)(y:w p=some (.prod r))(O:(rhs P.R r).length<=5)(M:d<=(rhs P.R r).length)
(h:∀U A f b,Now H w P U A->U c=some (.cK 135 f)->U b=some (.us r)->NG f P.R r d b->Q .none A):calls fF mF (n+1) 118 [.ref c,.ref p,.int d] (H.setC c 135) Q:=by
 refine T.now.nC (G:=λH=>calls fF mF (n+1) 118 _ H Q) I λR S N g j X=>?_
 refine cB [.ref c,.ref p,.int d] (d:=e7) rfl rfl rfl rfl λZ z v=>?_
 have o:∀{l L},Now H w P l L->Dw P.toPK P.toPI P.toPM l (view L p) p r:=λN=>N.T.pd (N.get T y)
 refine W.vO N j g rfl (.v rfl) (.att (.v rfl) (N.T.pat (N.get T y) (o N).a2)) λl L N g z=>?_
 have s:(rhs P.R r).length+1<=szl:=ae (et O) (aw rfl)
 refine W.Jg N j g rfl rfl (.att (.v rfl) (N.T.pat (N.get T y) (o N).a3)) (jI (ae O (by decide))) λb K G N g t D V z=>?_
 refine W.qW [(4,.v (.at (.v 1) 4) (.int r)),(15,.v (.v 2) (.int d)),(16,.d)] rfl rfl j N g (.one t V D) ⟨λz z N z=>.att (.v rfl) (N.T.pat (N.get T y) (o N).a4),λz z z z=>.v rfl,λz=>trivial⟩ λe q H6 N g m=>?_
 have Y:(((rhs P.R r).map CV.str).take d++CV.str (u 110)::((rhs P.R r).map CV.str).drop d).length=(rhs P.R r).length+1:=by
  (erw[ip map_take];erw[ip map_drop];erw[bp];erw[ik];erw[ba _];erw[ba _];rewrite[← Nat.add_assoc];erw[ip bp];exact Eq.substr (take_append_drop _ _) rfl)
 have J:=ae (bv Y) s
 refine W.Jh N D (m.at 1 rfl).t (.att (.v rfl) (N.T.oat g rfl rfl)) (.v rfl) .c (by erw[ba _];exact M) (by erw[ba _];exact ax O (by decide)) λt7 H7 N t E=>?_
 refine W.vO N j (E _ _ (en V) g) rfl (.v rfl) (.tuple (.att (.v rfl) (N.T.oat (E _ _ (en V) g) rfl rfl)) (N.T.gL t) J) λt8 H8 N g z=>?_
 refine W.vO N j g rfl (.v rfl) (.Dz (.att (.v rfl) (N.T.oat g rfl rfl)) J) λt9 H9 N g z=>?_
 obtain⟨i,x,C⟩:=(o N).a11
 refine W.vO N j g rfl (.v rfl) (.att (.v rfl) (N.T.pat (N.get T y) x)) λB a N F k=>?_
 refine v (h B a _ i N F ((k.nn g) C) ⟨rfl,?_,rfl,?_,rfl,rfl,hi1 (hi1 (hi1 (hi1 (hi1 (hi1 (hi1 (hi1 (λz z=>rfl) rfl) rfl) rfl) rfl) rfl) rfl) rfl) rfl⟩)
 ·show some (CV.tup _)=_
  (erw[ej];erw[jp];erw[map_take];erw[map_drop])
  rfl
 ·exact ab (λk:Nat=>some (CV.int k)) Y
theorem o5{I:Nat}{q:BM}(N:Now H0 t0 P w H)(h:w I=some (.stL q))(J:∀v o,Now H0 t0 P v o->Ka w v->Q (ay q) o):calls fF mF (n+1) 318 [.ref I] H Q:=by
 obtain⟨l,j,V,O⟩:=N.T.st h
 refine cB [.ref I] (d:=lT) rfl rfl rfl rfl λg U z=>?_
 refine W.ite (.nt (.v rfl) (nH (aD j))) rfl (λhe=>?_) λz=>W.nil ?_
 ·cases V with
  | nil=>exact W.ret (.tu .nil) (U (J w H N λz z h=>h))
  | cons=>cases he
 refine W.DN (DA (coM (ys:=l.zip q) (λi=>.list I i) (λz y=>.ref y.1) (λz y L=>upd L 1 (.ref y.1)) (λz z z=>rfl) (gZ (.v rfl) (aD j)) (λi=>?_) (by(erw[length_zip];erw[V.len];erw[Nat.min_self _]);exact gd O (aw rfl)) (λy=>plC y.2) (λi y L t=>?_) λc T=>?_))
 ·have x:H.getL I=some (((l.zip q).map Prod.fst).map .ref):=by erw[map_fst_zip (bv V.len)];exact aD j
  rw[sI x,eM,eM,Option.map_map,Option.map_map]
  rfl
 ·obtain⟨a,p⟩:=y
  obtain⟨C,b⟩:=getElem?_zip_eq_some.mp t
  obtain⟨M,k,Y⟩:=V.get C
  rw[b] at k;cases k
  exact .tu (.two (.att (.v rfl) (N.T.iat Y (N.T.it Y).a4)) (.att (.v rfl) (N.T.iat Y (N.T.it Y).a15)))
 ·(erw[show(λy:Nat×Pl=>plC y.2)=plC∘Prod.snd from rfl];erw[ip map_map];erw[map_snd_zip (bv V.len.symm)])
  exact N.nL (G:=λH=>∃l,pq H (.ref c)=some l/\l.length<=szl/\g (.ret (.tup l)) ⟨H,_⟩) T λB A f D z E=>⟨_,f.T.gL D,by erw[ba _];exact cy (gd O (aw rfl)),U (J B A f E.aa)⟩
end
noncomputable def rol(d:TY):List (Nat×Role)->TY
 | [],a=>d a
 | x::L,a=>if a=x.1 then some x.2 else rol d L a
theorem uA{d:TY}{a:Nat}:∀{L:FM},(∀x∈L,x.1≠a)->rol d L a=d a
 | [],_=>rfl
 | x::L,h=>(ca (en (h x aM))).trans (uA λy z=>h y (bb _ z))
theorem zZ{L:FM}(z:(L.map (·.1)).Nodup):∀x∈L,rol d L x.1=some x.2:=by
 induction L with
 | nil=>exact λY h=>absurd h cp
 | cons y L w=>
  have z:=ei.mp z
  refine λx Q=>(bt.mp Q).elim (λe=>e▸ch rfl) λQ=>(ca λe:x.1=y.1=>z.1 (bo.mpr ⟨x,Q,e⟩)).trans (w z.2 x Q)
set_option tactic.hygienic true in
theorem uB{d:TY}{a:Nat}:∀{L:FM},rol d L a=some ρ->(a,ρ)∈L∨d a=some ρ
 | [],h=>.inr h
 | x::L,h=>by
  unfold rol at h
  split at h
  ·rename_i e;cases h;subst e;exact .inl aM
  ·exact(uB h).imp (bb _) id
section
variable{P:Par}{ty t0 z:TY}{H H0:CH}{n b c:Nat}{Q:DD}{L:FM}{ρ w:Role}
theorem Sat.Mf:∀{ρ:Role},ρ.own=true->Sat P ty v a ρ->Sat P' z v a ρ:=λ{ρ} o h=>by
 cases ρ <;> first | exact h | cases o
theorem Mn.fr(v:Mn H0 ty c L){U:FM}(e:U.map (·.1)=L.map (·.1))(V:H0.free c){x:Nat×Role}(Y:x∈(c,ρ)::U):H0.free x.1:=
 (bt.mp Y).elim (λq=>q▸V) λY=>by
  obtain⟨y,k,q⟩:=bo.mp (e▸dp (f:=λz:Nat×Role=>z.1) Y)
  exact q▸(v.r y k).fr
theorem Mn.nd'(Y:Mn H0 ty c L){U:FM}(e:U.map (·.1)=L.map (·.1)):(((c,ρ)::U).map (·.1)).Nodup:=
 ei.mpr (e▸⟨λv=>(bo.mp v).elim λy h=>(Y.r y h.1).ne h.2,Y.nd⟩)
theorem Now.NH(Y:FM)(N:Now H0 t0 P ty H)(y:∀a ρ,t0 a=some ρ->ρ.own=true)(j:H0.free c)(v:Mn H0 ty c L)(e:Y.map (·.1)=L.map (·.1))
(J:∀z,(∀x∈(c,ρ)::Y,z x.1=some x.2)->∀x∈(c,ρ)::Y,Sat P' z (view H x.1) x.1 x.2):∃z,Now H0 t0 P' z H/\z c=some ρ:=by
 classical
 have V:=zZ (d:=λa=>if H0.free a then none else t0 a) (v.nd' (ρ:=ρ) e)
 refine⟨_,⟨⟨N.T.wf,N.T.f,N.T.s,λa w h=>?_⟩,N.live,λa k=>?_⟩,V _ aM⟩
 ·exact(uB h).elim (J _ V _) λh=>by
   by_cases U:H0.free a
   ·rw[ch U] at h;cases h
   ·rw[ca U] at h
    exact(N.T.sat a w ((N.agree a U).trans h)).Mf (y a w h)
 ·exact(uA λx o (q:x.1=a)=>k (q▸v.fr e j o)).trans (ca k)
theorem Mn.dl(h:Mn H0 ty c ((e,ρ)::L))(o:z e=some w)(O:z b=some (.aq []))(p:H0.free b)(Y:b≠c)(U:e≠b)(k:∀a ρ,a≠e->ty a=some ρ->z a=some ρ/\a≠b):Mn H0 z c ((e,w)::(b,.aq [])::L):=by
 have n:=ei.mp h.nd
 have v:=λx y=>h.r x (bb _ y)
 have j:∀x∈L,z x.1=some x.2/\x.1≠b:=λx y=>k _ _ (λq=>n.1 (q▸dp (f:=(·.1)) y)) (v x y).t
 have J:=h.r _ aM
 exact⟨λx y=>(bt.mp y).elim (λq=>q▸⟨o,J.ne,J.fr⟩) λy=>(bt.mp y).elim (λq=>q▸⟨O,Y,p⟩) λy=>⟨(j x y).1,(v x y).ne,(v x y).fr⟩,
  ei.mpr ⟨λV=>(bt.mp V).elim U n.1,ei.mpr ⟨λV=>(bo.mp V).elim λx q=>(j x q.1).2 q.2,n.2⟩⟩⟩
namespace W
variable{Q:Ap}{U L:EN}{k:CE}{j d m:Nat}
theorem Mg(N:Now H0 t0 P ty H)(p:ty c=some (.cK d U))(t:bu d=true)(T:L j=some (.ref c))(O:U m=some (.ref e))(V:ty e=some (.aJ Y))(C:H0.free e)(B:∀H,Ev L H k x)(A:x.keyOk=true)(D:Y.length<szl)
(r:∀b z f,Now H0 t0 P z f->z b=some (.aq [])->z e=some (.aJ (aW Y x (.ref b)))->H0.free b->e≠b->(∀a ρ,a≠e->ty a=some ρ->z a=some ρ/\a≠b)->aj y M l ⟨f,L⟩ Q X):aj y M (.asg (.ix (.at (.v j) m) k) (.li [])::l) ⟨H,L⟩ Q X:=
 λb E=>N.nL (G:=λH=>wpE y M (.at (.v j) m) ⟨H,L⟩ (λo st=>wpE y M k st (λk st=>∃a Y,o=.ref a/\st.H.dct a=some Y/\k.keyOk=true/\Y.length<szl/\aj y M l { st with H:=st.H.bx a (aW Y k (.ref b)) } Q X) X) X) E λZ I J s i v=>
  (Ev.att (.v T) (fL (J.T.C (v _ _ p).1) t ((J.T.A (v _ _ p).1 m).trans O))) _ _ _ _ (B I _ _ _ _ ⟨e,Y,rfl,J.T.D (v _ _ V).1,A,D,
   J.oD (G:=λH=>aj y M l ⟨H,L⟩ Q X) C (v _ _ V).1 λF R S W g=>r b F R S (g _ _ (en (v _ _ V).2) s) W i (v _ _ V).2 λa ρ O h=>⟨g _ _ O (v _ _ h).1,(v _ _ h).2⟩⟩)
theorem Mh(N:Now H0 t0 P ty H)(f:H0.free c)(g:ty c=some (.cK d U))(o:bu d=true)(O:L j=some (.ref c))
(r:∀v z V,Now H0 t0 P z V->z c=some (.cK d λk=>if k=m then some v else U k)->Kp c ty z->aj y M l ⟨V,L⟩ Q X):aj y M (.asg (.at (.v j) m) .uK::l) ⟨H,L⟩ Q X:=
 λb J=>⟨_,O,c,d,rfl,(N.anyC J).T.C g,o,(N.anyC J).oA (G:=λH=>aj y M l ⟨H,L⟩ Q X) f g (r (.ref b))⟩
end W
structure TI(H0:CH)(t0:TY)(P:Par)(c t aT:Nat)(f0:EN)(Lr:FM)(ks:Bi)(ty:TY)(H:CH)(es:At)(is:Bz):Prop where
 N:Now H0 t0 P ty H
 g:ty c=some (.cK 283 f0)
 ht:ty t=some (.aq [.str sa,.str sb])
 ho:Mn H0 ty c ((aT,.aJ es)::(Lr++is.map λb=>(b,.aq [])))
 kk:es.map (·.1)=ks.map .str
 vs:∀p∈es,∃b∈is,p.2=.ref b
theorem vU{Q:Ap}{L:EN}(I:TI H0 t0 P c t Y J C U ty H B a)(A:J 20=some (.ref Y))(D:t≠Y)(E:L 0=some (.ref c))(s:∀H,Ev L H k (.str x))(d:x∈aH)(m:x∉U)(i:U.length<10)
(r:∀z v o O,TI H0 t0 P c t Y J C (U++[x]) z v o O->aj T M l ⟨v,L⟩ Q X):aj T M (.asg (.ix (.at (.v 0) 20) k) (.li [])::l) ⟨H,L⟩ Q X:=by
 have V:=I.ho.r _ aM
 have F:CV.str x∉B.map (·.1):=by erw[I.kk];exact λh=>(bo.mp h).elim λy h=>m (CV.str.inj h.2▸h.1)
 refine W.Mg I.N I.g rfl E A V.t V.fr s (aV x d) ?_ λb z v N R S Z f j=>r z v _ (b::a) ⟨N,(j _ _ (en V.ne) I.g).1,(j _ _ D I.ht).1,(I.ho.dl S R Z (en (j _ _ (en V.ne) I.g).2) f j).perm (.cons _ perm_middle.symm),?_,λp g=>?_⟩
 ·have:=ab List.length I.kk
  rw[ba,ba] at this
  erw[this];exact cf i (aw rfl)
 ·(erw[jX];erw[ca F];erw[I.kk];erw[ej]);rfl
 ·rcases bV g with g | rfl
  ·obtain⟨K,G,e⟩:=I.vs p g;exact⟨K,bb _ G,e⟩
  ·exact⟨b,aM,rfl⟩
inductive TIi(H0:CH)(t0:TY)(P:Par)(c t aT:Nat)(f0:EN)(Lr:FM)(ks:Bi)(H:CH)(L:EN):Prop
 | mk (l0:L 0=some (.ref c)) (ty:TY) (es:At) (is:Bz) (I:TI H0 t0 P c t aT f0 Lr ks ty H es is)
theorem xY{c t:Nat}(T:Typed P ty H)(B:∀a ρ,ty a=some ρ->ρ.own=true)(hc:H.free c)(O:ty t=some (.aq [.str sa,.str sb]))
(hQ:∀z f (A:PA),Now H ty { R:=R,toPA:=A } z f->A.gr=c->A.nk=none->z c=some .b7->Q .none f):calls fF mF (n+1) 172 [.ref c,.ref t] (H.setC c 283) Q:=by
 refine T.now.nC (G:=λH=>calls fF mF (n+1) 172 _ H Q) hc λt1 H1 N g E k1=>?_
 refine cB [.ref c,.ref t] (d:=eH) rfl rfl rfl rfl λFQ Y j=>?_
 refine W.qW [(17,.l [.c .none] [.none]),(18,.d),(19,.d),(20,.d)] rfl rfl E N g .nil ⟨λY=>.cons .c .nil,λY Y Y Y=>trivial⟩ λaP aPn aPm aT t5 H5 N g y=>?_
 have r:=O
 replace O:=N.get T O
 have M:t≠aT:=T.ne r (y.at 0 rfl).fr
 clear k1
 obtain⟨U,g,F,S,X,J,Z⟩:∃U,t5 c=some (.cK 283 U)/\U 17=some (.ref aP)/\U 18=some (.ref aPn)/\U 19=some (.ref aPm)/\U 20=some (.ref aT)/\∀k,42<=k->U k=none:=⟨_,g,rfl,rfl,rfl,rfl,hi1 (hi1 (hi1 (hi1 (λY Y=>rfl) rfl) rfl) rfl) rfl⟩
 have I:TI H ty P c t aT U [(aPm,.aJ []),(aPn,.aJ []),(aP,.aq [.none])] [] t5 H5 [] []:=⟨N,g,O,y,rfl,aR⟩
 clear N g O y
 refine frL (ys:=[sa,sb]) (f:=.str) (I:=λi=>TIi H ty P c t aT U [(aPm,.aJ []),(aPn,.aJ []),(aP,.aq [.none])] ([sa,sb].take i)) (.v rfl) ⟨rfl,_,_,_,I⟩ (λi f L h=>h.casesOn λY Y Y Y I=>I.N.T.gL I.ht) ?_ ?_
 ·rintro i x f L K l ⟨o,z,C,is,I⟩ hK
  have ex:[sa,sb].take (i+1)=[sa,sb].take i++[x]:=by(erw[eI];erw[l]);rfl
  have hf:x∈aH/\x∉[sa,sb].take i:=by
   cases i with
   | zero=>obtain rfl:=al l;decide
   | succ i=>cases i with
    | zero=>obtain rfl:=al l;decide
    | succ i=>exact nos l
  exact vU I J M o (λY=>.v rfl) hf.1 hf.2 (ax (length_take_le' i [sa,sb]) (by decide)) λz f G u I=>hK.nxt ⟨o,z,G,u,ex▸I⟩
 rintro f L ⟨o,z,C,is,I⟩
 refine vU I J M o (λY=>.c) (x:=xN) (by decide) (by decide) (by decide) λt6 H6 C is I=>?_
 obtain⟨N,g,O,y,w,z0⟩:=I
 refine W.qW [(21,.d),(22,.d),(23,.d),(24,.d)] rfl o E N g y (λY Y Y Y=>trivial) λaN aF aFo aPr z2 z3 N g y=>?_
 refine W.Mh N E g rfl o λv z4 z5 N g k=>?_
 replace y:=y.keep k
 clear k
 refine W.vO N E g rfl (.v o) .c λz1 s N g k=>?_
 replace y:=y.keep k
 clear k
 have D:=λ{C b} (h:MnE H z1 c (b,.aJ C))=>N.T.D h.t
 have A:=N.T.A g
 obtain⟨z,N',q1⟩:=N.NH (ρ:=.b7) (P':={ R:=R,gr:=c,aP:=aP,aPn:=aPn,aPm:=aPm,aT:=aT,aN:=aN,aF:=aF,aFo:=aFo,aPr:=aPr })
  ([(aPr,.prec),(aFo,.qO),(aF,.qN),(aN,.iF),(aT,.terms),(aPm,.pmap),(aPn,.names),(aP,.prods)]++is.map λb=>(b,.kY)) B E y (by
   show _::_::_::_::_::_::_::_::(is.map λb=>(b,Role.kY)).map _=_::_::_::_::_::_::_::_::(is.map λb=>(b,Role.aq [])).map _
   (erw[map_map];erw[map_map]);rfl)
  λz q=>by
   have V:=λi (x:Nat×Role) (e:((c,Role.b7)::([(aPr,.prec),(aFo,.qO),(aF,.qN),(aN,.iF),(aT,.terms),(aPm,.pmap),(aPn,.names),(aP,.prods)]++is.map λb=>(b,.kY)))[i]?=some x)=>q x (be e)
   have qi:∀b∈is,z b=some .kY:=λb hb=>q (b,.kY) (bb _ (cq _ (dp hb)))
   refine Al.app (α:=Nat×Role) (p:=λx=>Sat _ z (view s x.1) x.1 x.2) (l:=[(c,.b7),(aPr,.prec),(aFo,.qO),(aF,.qN),(aN,.iF),(aT,.terms),(aPm,.pmap),(aPn,.names),(aP,.prods)])
    ⟨⟨rfl,N.T.C g,⟨(A 17).trans F,V 8 _ rfl⟩,⟨(A 18).trans S,V 7 _ rfl⟩,⟨(A 19).trans X,V 6 _ rfl⟩,⟨(A 20).trans J,V 5 _ rfl⟩,⟨A 21,V 4 _ rfl⟩,⟨A 22,V 3 _ rfl⟩,⟨A 23,V 2 _ rfl⟩,⟨A 24,V 1 _ rfl⟩,λk hk=>(A k).trans (hi1 (hi1 (hi1 (hi1 (hi1 (hi1 Z rfl) rfl) rfl) rfl) rfl) rfl k hk)⟩,
     D (y.at 0 rfl),⟨rfl,[],D (y.at 1 rfl),⟨aR,dt⟩,λY=>rfl,ff⟩,⟨rfl,[],D (y.at 2 rfl),⟨aR,dt⟩,λY=>rfl,ff⟩,⟨rfl,[],D (y.at 3 rfl),⟨aR,dt⟩,λi d m=>absurd d (Nat.not_le_of_lt m),(by intro i h;injection h)⟩,
     ⟨C,D (y.at 4 rfl),w,λp hp=>(z0 p hp).imp λb h=>⟨h.2,qi b h.1⟩⟩,⟨rfl,[],D (y.at 5 rfl),Nat.zero_lt_one,aR⟩,⟨rfl,[],D (y.at 6 rfl),⟨aR,dt⟩,λi d m=>absurd d (Nat.not_le_of_lt m)⟩,
     ⟨rfl,N.T.L (y.at 7 rfl).t,λi d m=>absurd d (m.elim (λh=>Bool.noConfusion h) Nat.not_lt_of_le)⟩,trivial⟩
    λx l=>?_
   obtain⟨b,hb,rfl⟩:=bo.mp l
   exact⟨[],N.T.L (y.r (b,.aq []) (cq [(aPr,Role.aJ []),(aFo,.aJ []),(aF,.aJ []),(aN,.aJ []),(aT,.aJ C),(aPm,.aJ []),(aPn,.aJ []),(aP,.aq [.none])] (dp hb))).t,dd _⟩
 exact j (hQ z s _ N' rfl rfl q1)
end
structure GoodR(R:List aI):Prop where
 len:4<=R.length/\R.length<=5
 r0:R[0]?=some (sP,[sS])
 nm:∀r,1<=r->r<R.length->lhs R r∈bz
 sym:∀r x,x∈rhs R r->x∈aH
 fst:∀r x,1<=r->(rhs R r)[0]?=some x->x∈kW
 ln:∀r,(rhs R r).length<=2
 ln3:(rhs R 3).length<=1
 has:∀x∈bz,∃r,1<=r/\r<R.length/\lhs R r=x
 nd:∀i j,1<=i->1<=j->i<R.length->j<R.length->lhs R i=lhs R j->rhs R i=rhs R j->i=j
theorem GoodR.pos(G:GoodR R):0<R.length:=cf (ft 3) G.len.1
theorem GoodR.one{R:List aI}(G:GoodR R):1<R.length:=cf (Nat.succ_lt_succ (ft 2)) G.len.1
theorem fH{R:List aI}{r:Nat}(h:R[r]?=some x):lhs R r=x.1:=ab (λo=>(Option.map (λx:aI=>x.1) o).getD (u 1)) h
theorem ig{R:List aI}{r:Nat}(h:R[r]?=some x):rhs R r=x.2:=ab (λo=>(Option.map (λx:aI=>x.2) o).getD []) h
theorem DO{R:List aI}{r:Nat}(h:R.length<=r):rhs R r=[]:=ab (λo=>(Option.map (λx:aI=>x.2) o).getD []) (fi h)
theorem nI(h:Rows z)(r:Nat):fh 2 (rhs z r):=
 (mc r z.length).elim (λq=>ig (bm q)▸(h.good _ (fg q)).2) λq=>DO q▸⟨dd _,aR,λQ=>nos⟩
theorem GA(h:Rows z):GoodR ((sP,[sS])::z) where
 len:=⟨et h.len.1,et h.len.2⟩
 r0:=rfl
 nm:=λr=>r.casesOn (λh=>absurd h (lj 0)) λr Q q=>by
  have q:=Nat.lt_of_succ_lt_succ q
  exact(show lhs ((sP,[sS])::z) (r+1)=_ from fH (R:=z) (bm q))▸(h.good _ (fg q)).1
 sym:=λr=>r.casesOn (λx w=>bc.mp (show x∈[sS] from w)▸by decide) λr=>(nI h r).2.1
 fst:=λr=>r.casesOn (λx h=>absurd h (lj 0)) λr x Q=>(nI h r).2.2 x
 ln:=λr=>r.casesOn (gN 1) λr=>(nI h r).1
 ln3:=h.r2.elim λx h=>(ig (R:=z) h.1)▸h.2
 has:=λx w=>by
  have Y:=λ{i} (q:i<3)=>Nat.succ_lt_succ (cf q h.len.1)
  rcases bt.mp w with rfl | w
  ·exact h.r0.elim λQ e=>⟨1,cr 1,Y (by decide),fH (R:=z) e⟩
  rcases bt.mp w with rfl | w
  ·exact h.r1.elim λQ e=>⟨2,gN 1,Y (by decide),fH (R:=z) e⟩
  exact bc.mp w▸h.r2.elim λQ e=>⟨3,Nat.le_add_left 1 2,Y (by decide),fH (R:=z) e.1⟩
 nd:=λi j=>i.casesOn (λh=>absurd h (lj 0)) λi=>j.casesOn (λQ h=>absurd h (lj 0)) λj Q Q y U v V=>by
  have y:=Nat.lt_of_succ_lt_succ y
  have a:=bm y
  have b:=bm (Nat.lt_of_succ_lt_succ U)
  exact ab Nat.succ ((getElem?_inj y h.nd).mp (a.trans ((ab some (my ((fH a).symm.trans (Eq.trans v (fH b))) ((ig a).symm.trans (Eq.trans V (ig b))))).trans b.symm)))
section
variable{R:List aI}
theorem qY{p:Pl}(h:(rhs R p.1)[p.2]?=some x):after R p=(range R.length).filter λr=>decide (1<=r/\lhs R r=x):=by unfold after;exact Eq.substr h rfl
theorem qZ{p:Pl}(h:(rhs R p.1)[p.2]?=none):after R p=[]:=by unfold after;exact Eq.substr h rfl
theorem dR{p:Pl}{r:Nat}:r∈after R p↔r<R.length/\1<=r/\(rhs R p.1)[p.2]?=some (lhs R r):=by
 cases h:(rhs R p.1)[p.2]? with
 | none=>erw[qZ h];exact iff_of_false cp λq=>nos q.2.2
 | some x=>
  (erw[qY h];rewrite[eJ,du])
  exact and_congr_right λz=>(lf).trans (and_congr_right λz=>⟨λe=>ab some e.symm,λe=>(al e).symm⟩)
theorem rg(p:Pl):(after R p).Nodup:=by
 cases h:(rhs R p.1)[p.2]? with
 | none=>erw[qZ h];exact dt
 | some x=>erw[qY h];exact mo.filter _
noncomputable def left(R:List aI)(ad:Bz):Nat:=((range R.length).filter λr=>decide (r∉ad)).length
theorem mC{ad:Bz}{r:Nat}:r∈(range R.length).filter (λr=>decide (r∉ad))↔r<R.length/\r∉ad:=eJ.trans (and_congr du lf)
theorem DP{ad new:Bz}(Q:new.Nodup)(h:∀r∈new,r<R.length/\r∉ad):left R (ad++new)+new.length<=left R ad:=
 ae (bv bp.symm) (cj (kO.mpr ⟨mo.filter _,Q,λa w b y e=>(mC.mp w).2 (cq _ (e▸y))⟩)
  λr z=>mC.mpr ((dC.mp z).elim (λz=>⟨(mC.mp z).1,λq=>(mC.mp z).2 (de _ q)⟩) (h r)))
theorem DQ:left R []=R.length:=(ab List.length (filter_eq_self.mpr λz z=>rfl)).trans eh
noncomputable def news(R:List aI)(ad:Bz)(j:Pl):List Nat:=(after R j).filter λr=>decide (r∉ad)
theorem Aa{ad:Bz}:(news R ad j).Nodup:=(rg j).filter _
theorem fk{ad:Bz}{r:Nat}:r∈news R ad j↔r∈after R j/\r∉ad:=eJ.trans (and_congr_right λz=>lf)
theorem sQ{ad:Bz}:left R (ad++news R ad j)+(news R ad j).length<=left R ad:=
 DP Aa λr z=>⟨(dR.mp (fk.mp z).1).1,(fk.mp z).2⟩
noncomputable def Fwd(R:List aI)(S:Pl->Prop):Prop:=∀p,S p->∀r∈after R p,S (r,0)
noncomputable abbrev at0(l:Bz):List Pl:=l.map λr=>(r,0)
theorem sR{f:Nat}{ad:Bz}:kX R (f+1) ad (j::t)=j::kX R f (ad++news R ad j) (t++at0 (news R ad j)):=rfl
theorem jY{f:Nat}{ad:Bz}(h:(j::t).length+left R ad<=f+1):(t++at0 (news R ad j)).length+left R (ad++news R ad j)<=f:=by
 (erw[bp];erw[ba _];rewrite[Nat.add_assoc];erw[kb (news R ad j).length _])
 exact ae (ew sQ _) (kz (ae (bv (Nat.succ_add _ _).symm) h))
structure Mi(R:List aI)(ad:Bz)(p:Pl):Prop where
 z:p.2=0
 n:p.1∉ad
 o:1<=p.1
 l:p.1<R.length
theorem A7{ad:Bz}{p:Pl}(h:p∈at0 (news R ad j)):Mi R ad p:=by
 obtain⟨r,z,rfl⟩:=bo.mp h
 have Q:=dR.mp (fk.mp z).1
 exact⟨rfl,(fk.mp z).2,Q.2.1,Q.1⟩
theorem Ab(f:Nat):∀(ad:Bz) (t:BM),t.length+left R ad<=f->∃ex:List Pl,kX R f ad t=t++ex/\(∀p∈ex,Mi R ad p)/\ex.Nodup:=by
 induction f with
 | zero=>exact λad t h=>(fw (Nat.le_zero.mp (ae (dE _ _) h)))▸⟨[],rfl,aR,dt⟩
 | succ f y=>
  intro ad t h
  cases t with
  | nil=>exact⟨[],rfl,aR,dt⟩
  | cons j t=>
   obtain⟨ex,Y,Q,U⟩:=y _ _ (jY h)
   refine⟨at0 (news R ad j)++ex,(ab (j::·) Y).trans (ab (j::·) (io _ _ _)),λp z=>(dC.mp z).elim A7 λz=>⟨(Q p z).z,λq=>(Q p z).n (de _ q),(Q p z).o,(Q p z).l⟩,kO.mpr ⟨Pairwise.map _ (λa b w q=>w (ab Prod.fst q)) Aa,U,λa v b V q=>?_⟩⟩
   obtain⟨r,k,e⟩:=bo.mp v
   exact(Q b V).n (cq _ (q▸e▸k))
theorem vV{f:Nat}{ad:Bz}{t:BM}(h:t.length+left R ad<=f){p:Pl}(z:p∈t):p∈kX R f ad t:=(Ab f ad t h).elim λQ e=>e.1▸de _ z
theorem DR(f:Nat):∀(ad:Bz) (t:BM),t.length+left R ad<=f->∀j∈kX R f ad t,∀r∈after R j,r∈ad∨(r,0)∈kX R f ad t:=by
 induction f with
 | zero=>exact λad t h j w=>absurd w cp
 | succ f Y=>
  intro ad t h
  cases t with
  | nil=>exact λU w=>absurd w cp
  | cons j t=>
   erw[sR]
   have Q:∀r,r∈ad++news R ad j->r∈ad∨(r,0)∈j::kX R f (ad++news R ad j) (t++at0 (news R ad j)):=λr z=>(dC.mp z).imp_right λz=>bb _ (vV (jY h) (cq _ (dp z)))
   exact λi y r z=>(bt.mp y).elim (λe=>Q r (Classical.byCases (p:=r∈ad) (de _) λq=>cq _ (fk.mpr ⟨e▸z,q⟩))) λy=>(Y _ _ (jY h) i y r z).elim (Q r) λh=>.inr (bb _ h)
theorem DS(y:Fwd R S)(f:Nat):∀(ad:Bz) (t:BM),(∀p∈t,S p)->∀p∈kX R f ad t,S p:=by
 induction f with
 | zero=>exact λQ Q Q Q z=>absurd z cp
 | succ f Y=>
  intro ad t w
  cases t with
  | nil=>exact λQ z=>absurd z cp
  | cons j t=>exact λp z=>(bt.mp z).elim (λe=>e▸w j aM) (Y _ _ (λp z=>(dC.mp z).elim (λz=>w p (bb _ z)) λz=>(bo.mp z).elim λr q=>q.2▸y j (w j aM) r (fk.mp q.1).1) p)
theorem ri(I:BM):I.length+left R []<=I.length+R.length+1:=DQ (R:=R)▸gN _
theorem uC(I:BM):Fwd R (·∈clo R I):=λp z r Q=>(DR _ _ _ (ri I) p z r Q).resolve_left cp
theorem uD{I:BM}(z:Fwd R S)(h:∀p∈I,S p):∀p∈clo R I,S p:=DS z _ _ _ h
theorem mD{I:BM}{p:Pl}(h:p∈I):p∈clo R I:=vV (ri I) h
theorem mE:clo R []=[]:=by
 unfold clo;cases R.length <;> rfl
theorem jZ(I:BM):∃ex:List Pl,clo R I=I++ex/\(∀p∈ex,p.2=0/\1<=p.1/\p.1<R.length)/\ex.Nodup:=
 (Ab _ _ _ (ri (R:=R) I)).imp λex h=>⟨h.1,λp z=>⟨(h.2.1 p z).z,(h.2.1 p z).o,(h.2.1 p z).l⟩,h.2.2⟩
theorem uE:clo R I=[]↔I=[]:=⟨λh=>(jZ (R:=R) I).elim λz e=>(append_eq_nil_iff.mp (e.1.symm.trans h)).1,λh=>by erw[h];exact mE⟩
theorem cR{q:BM}{p:Pl}:p∈moves R q x↔∃d,p.2=d+1/\(p.1,d)∈q/\(rhs R p.1)[d]?=some x:=by
 refine mem_filterMap.trans ⟨λh=>h.elim λa h=>?_,λh=>h.elim λd h=>⟨(p.1,d),h.2.1,(ch h.2.2).trans (ab some (my rfl h.1.symm))⟩⟩
 by_cases e:(rhs R a.1)[a.2]?=some x
 ·obtain rfl:=al ((ch e).symm.trans h.2)
  exact⟨a.2,rfl,h.1,e⟩
 ·exact nos ((ca e).symm.trans h.2)
theorem vW{q:BM}(h:q.Nodup):(moves R q x).Nodup:=by
 refine Pairwise.filterMap _ (λa b w c Q d y e=>w ?_) h
 have z:∀{a c:Pl},(if (rhs R a.1)[a.2]?=some x then some (a.1,a.2+1) else none)=some c->(a.1,a.2+1)=c:=λ{a c} Q=>by
  by_cases e:(rhs R a.1)[a.2]?=some x
  ·exact al ((ch e).symm.trans Q)
  ·exact nos ((ca e).symm.trans Q)
 have e:=Prod.mk.inj ((z Q).trans (e.trans (z y).symm))
 exact my e.1 (Nat.succ.inj e.2)
theorem xZ{I:BM}(h:I.Nodup)(w:∀p∈I,p.2=0->p.1=0):(clo R I).Nodup:=by
 obtain⟨U,e,z,y⟩:=jZ (R:=R) I
 erw[e]
 exact kO.mpr ⟨h,y,λa Y b Q q=>absurd (w a Y (q▸(z b Q).1)) (ma (q▸(z b Q).2.1))⟩
end
noncomputable def Par.wk(P:Par)(K:PK):Par:={ P with toPK:=K }
noncomputable def PK.ktU(K:PK):PK:={ K with kt:=K.k+1 }
noncomputable def PK.cU(K:PK)(n:Nat):PK:={ K with c:=K.c+n }
noncomputable def PK.prU(K:PK)(p:Nat):PK:={ K with k:=K.k+1,pr:=λi=>if i=K.k then p else K.pr i }
noncomputable def PK.kqU(K:PK):PK:={ K with kq:=K.k }
noncomputable def PK.kmU(K:PK):PK:={ K with km:=K.k }
noncomputable def PK.knU(K:PK)(f:Str->Nat):PK:={ K with kn:=K.k,aNm:=f }
structure KS(K K':PK):Prop where
 R:K'.R=K.R
 z:K.z=true->K'.z=true
 k:K.k<=K'.k
 c:K.c<=K'.c
 pr:∀i,i<K.k->(1<=i∨K.z=true)->K'.pr i=K.pr i
section
variable{P P':Par}{Y v w:TY}{H z U:CH}{n b c e:Nat}{Q:DD}{ρ y:Role}
theorem GB{f g:Go}{y:Str}{n k:Nat}(h:∀i,i<k->1<=i->f i=g i)(j:n<=k):(((range n).filter λr=>decide (1<=r/\lhs R r=y)).map λi=>CV.ref (f i))=((range n).filter λr=>decide (1<=r/\lhs R r=y)).map λi=>CV.ref (g i):=
 map_congr_left λi V=>ab CV.ref (h i (cf (du.mp (eJ.mp V).1) j) (a7 (eJ.mp V).2).1)
set_option tactic.hygienic true in
theorem Sat.upK{v:Ob}{K:PK}:∀{ρ:Role},KS P.toPK K->P.kq<=P.k/\0<P.k->P.kn<=P.k->(ρ=.prods->K.kq=P.kq/\K.z=P.z)->(ρ=.names->K.kn=P.kn)->(∀x,ρ=.jE x->K.kn=P.kn/\K.aNm=P.aNm)->(ρ=.pmap->K.km=P.km)->(ρ=.iF->K.kt=P.kt)->Sat P Y v a ρ->Sat (P.wk K) Y v a ρ:=λ{ρ} s j L t T C B N h=>by
 obtain⟨R,k,m,F,S,W,z,A,c,pr⟩:=K
 obtain⟨rfl,o,O,D,V⟩:=s
 replace V:∀i,i<P.k->(1<=i∨P.z=true)->pr i=P.pr i:=V
 replace o:P.z=true->z=true:=o
 cases ρ
 case prods=>
  obtain⟨f,g⟩:=t rfl
  cases f;cases g
  refine⟨h.1,h.2.1.trans (ab some ?_),λi a b=>(show Y (pr i)=_ from(V i (cf a j.1) b.symm).symm▸h.2.2 i a b)⟩
  show _=(if P.z=true then CV.ref (pr 0) else .none)::(range' 1 (P.kq - 1)).map λi=>.ref (pr i)
  refine congr (ab List.cons ?_) (map_congr_left λi J=>ab CV.ref (V i ?_ (.inl (mem_range'_1.mp J).1)).symm)
  ·split
   ·exact Eq.substr (V 0 j.2 (.inr (by assumption))) rfl
   ·rfl
  ·exact cf (mem_range'_1.mp J).2 (ae (bv (kb 1 _)) (Nat.succ_le_of_lt (ax (Nat.sub_le_sub_right j.1 1) (Nat.sub_lt j.2 Nat.one_pos))))
 case names=>cases T rfl;exact h
 case jE x=>
  obtain⟨f,g⟩:=C x rfl
  cases f;cases g
  exact⟨h.1,h.2.1.trans (ab some (GB (λi J E=>(V i J (.inl E)).symm) L)),λi a b=>(show Y (pr i)=_ from(V i (cf a L) (.inl b)).symm▸h.2.2.1 i a b),h.2.2.2⟩
 case pmap=>cases B rfl;exact h
 case iF=>cases N rfl;exact h
 case kY=>exact h.imp λl h=>⟨h.1,ae h.2 D⟩
 case prod r=>exact{ h with pr:=h.pr.trans (V r h.rk.1 h.rk.2).symm,rk:=⟨cf h.rk.1 O,h.rk.2.imp id o⟩ }
 case item r d=>exact{ h with rk:=cf h.rk O }
 case trie x p=>exact h.imp λX h=>⟨h.1,λe I=>(h.2.1 e I).imp id λ⟨r,d,M,q⟩=>⟨r,d,cf M O,q⟩,h.2.2⟩
 all_goals exact h
theorem Now.two(N:Now U v P Y H)(w:Wf z)(k:z.ro=H.ro)(p:∀c,z.free c->H.free c)(o:H.free b)(f:Y e=some y)(g:∀c,c≠e->c≠b->view z c=view H c)
(l:∀c V,c≠e->Y c=some V->Sat P (upd Y b ρ) (view H c) c V->Sat P' (upd Y b ρ) (view H c) c V)(j:Sat P' (upd Y b ρ) (view z b) b ρ)(J:Sat P' (upd Y b ρ) (view z e) e y):Now U v P' (upd Y b ρ) z:=by
 refine⟨⟨w,k▸N.T.f,k▸N.T.s,λc V h=>?_⟩,λc h=>N.live c (p c h),λc h=>(aZ λ(q:c=b)=>h (q▸N.live b o)).trans (N.agree c h)⟩
 by_cases q:c=b
 ·subst q;rw[cT] at h;cases h;exact j
 rw[aZ q] at h
 by_cases q2:c=e
 ·subst q2;rw[f] at h;cases h;exact J
 erw[g c q2 q]
 exact l c V q2 h ((N.T.sat c V h).mono λx L t t O=>(aZ (N.T.ne O o)).trans O)
theorem Now.GC{G:CH->Prop}(ρ:Role)(N:Now U v P Y H)(k:H.free b)(p:Y e=some y)(f:H.dct e≠none)
(g:∀c V,c≠e->Y c=some V->Sat P (upd Y b ρ) (view H c) c V->Sat P' (upd Y b ρ) (view H c) c V)(o:upd Y b ρ b=some ρ->Sat P' (upd Y b ρ) { view H b with lst:=some l } b ρ)(O:upd Y b ρ b=some ρ->K1 b Y (upd Y b ρ)->Sat P' (upd Y b ρ) { view H e with dct:=some J } e y)
(r:∀w z,Now U v P' w z->w b=some ρ->K1 b Y w->z.dct e=some J->G z):G ((H.aA b l).bx e J):=by
 have j:=N.T.ne p k
 refine r _ _ (N.two (b:=b) (e:=e) ((N.T.wf.aA (.inr k)).bx (.inl f)) rfl (λc h=>h.bx.aA) k p (λc L t=>(iG L).trans (fG t)) g ?_ ?_) cT (k9 N.T k) (qL.trans (ch rfl))
 ·(erw[iG (en j)];erw[gM]);exact o cT
 ·(erw[i6];erw[fG j])
  exact O cT (k9 N.T k)
theorem Now.NI(ρ:Role)(N:Now U v P Y H)(t:U.free p)(f:Y p=some k)(o:k.own=true)(g:Y e=some y)(x:y.own=false)(C:H.lst e≠none)
(B:∀c V,c≠e->Y c=some V->Sat P (upd Y p ρ) (view H c) c V->Sat P' (upd Y p ρ) (view H c) c V)(j:Sat P' (upd Y p ρ) (view H p) p ρ)(J:Sat P' (upd Y p ρ) { view H e with lst:=some l } e y):Now U v P' (upd Y p ρ) (H.aA e l):=by
 have O:p≠e:=en (br g x f o)
 refine⟨⟨N.T.wf.aA (.inl C),N.T.f,N.T.s,λc V h=>?_⟩,λc h=>N.live c h.aA,λc h=>(aZ λ(q:c=p)=>h (q▸t)).trans (N.agree c h)⟩
 by_cases q:c=p
 ·subst q;rw[cT] at h;cases h;erw[fG O];exact j
 rw[aZ q] at h
 by_cases q2:c=e
 ·subst q2;rw[g] at h;cases h;erw[gM];exact J
 erw[fG q2]
 exact B c V q2 h ((N.T.sat c V h).mono λD a A E L=>(aZ (br L A f o)).trans L)
namespace W
variable{V:PT}{Q:Ap}{L:EN}{i j d:Nat}
theorem Mj{b:FB}(h:Evs L H J O)(r:V f O H λv z=>∃p,truth z v=some p/\∃q,truth z (.bool (!p))=some q/\if q then aj V M a ⟨z,L⟩ (bf V M l Q X) X else aj V M b ⟨z,L⟩ (bf V M l Q X) X):aj V M (.ite (.nt (.fn f J)) a b::l) ⟨H,L⟩ Q X:=h _ _ _ _ r
theorem Ji{b:FB}(h:Evs L H J O)(r:V f O H λv z=>∃p,truth z v=some p/\∃t,truth z (.bool (!p))=some t/\if t then wpE V M g ⟨z,L⟩ (λv st=>∃q,truth st.H v=some q/\if q then aj V M a st (bf V M l Q X) X else aj V M b st (bf V M l Q X) X) X else ∃q,truth z (.bool (!p))=some q/\if q then aj V M a ⟨z,L⟩ (bf V M l Q X) X else aj V M b ⟨z,L⟩ (bf V M l Q X) X):aj V M (.ite (.an (.nt (.fn f J)) g) a b::l) ⟨H,L⟩ Q X:=h _ _ _ _ r
theorem dL(p:Evs L H J O)(f:L j=some (.ref c))(g:H.cls c=some d)(t:bu d=true)(T:H.att m c=some (.ref e))(C:H.dct e=some o)(B:∀H,Ev L H k x)(N:x.keyOk=true)(A:o.length<szl)
(r:∀b,H.free b->aj V M l ⟨(H.aA b O).bx e (aW o x (.ref b)),L⟩ Q X):aj V M (.asg (.ix (.at (.v j) m) k) (.li J)::l) ⟨H,L⟩ Q X:=
 p _ _ _ _ λb D=>⟨_,f,_,fL (H:=H.aA b O) g t T,B _ _ _ _ _ ⟨e,o,rfl,C,N,A,r b D⟩⟩
theorem Mk{x:Str}(N:Now U v P Y H)(E:Y c=some .b7)(I:L 0=some (.ref c))(F:L i=some (.str x))(R:x∈bz)(D:P.nk=none)
(r:∀w z o,Now U v P w z->Ka Y w->z.dct P.aN=some o->au o (.str x)≠none->aj V M l ⟨z,L⟩ Q X):aj V M (.ite (.cm .d8 (.v i) (.at (.v 0) 21)) [.asg (.ix (.at (.v 0) 21) (.v i)) (.li [])] []::l) ⟨H,L⟩ Q X:=by
 have t:=N.T.gr E
 obtain⟨m,o,g,B,Z,h4⟩:=N.T.sat _ _ t.a21.2
 have g:H.dct P.aN=some o:=g
 have A:=aV _ (b6 R)
 refine W.ite (.cm (.v F) (.att (.v I) (N.T.gat E t.a21.1)) (oH (inD N.T g A))) rfl (λq=>?_) λq=>W.nil (r Y H o N (λf f h=>h) g λe=>by rw[e] at q;cases q)
 have K:o.length<=3:=by
  have:=cj B.nd (m:=bz.map CV.str) λk A=>by
   obtain⟨p,T,e⟩:=bo.mp A
   obtain⟨y,G,u,_⟩:=B.ks p T
   (erw[ip e];erw[u]);exact dp G
  rw[ba] at this
  exact this
 refine W.dL .nil I t.cls rfl t.a21.1 g (λf=>.v F) A (ax K (aw rfl)) λb j=>?_
 refine N.GC (G:=λH=>aj V M [] ⟨H,L⟩ (bf V M l Q X) X) .kY j t.a21.2 (ak g) (λf f f f s=>s) (λf=>⟨[],rfl,dd _⟩) (λS k=>⟨rfl,_,rfl,⟨λp T=>(bV T).elim (λT=>(B.mono λJ f h=>(k J _ h).1).ks p T) λe=>⟨x,R,by exact Eq.substr e rfl,b,by exact Eq.substr e rfl,S,trivial⟩,dQ B.nd⟩,λi O n=>?_,λks C=>?_⟩) λw z a S k d=>W.nil (r w z _ a k.aa d ?_)
 ·erw[aQ]
  split
  ·exact cw _
  ·exact Z i O n
 ·rw[show P.nk=none from D] at C;cases C
 ·(erw[aQ];erw[ch rfl]);exact cw _
end W
end
noncomputable def nJ:List (List Str):=[]::(aH.map λx=>[x])++aH.flatMap λx=>aH.map λy=>[x,y]
set_option maxRecDepth 100000 in
theorem Jj:∀a∈bz,∀l∈nJ,(fT a l).cps.toList.all (Nat.blt · 128)=true/\(PyData.list (l.map .str)).shown.length<=100:=by decide +kernel
set_option maxRecDepth 100000 in
theorem Jk:((bz.flatMap λa=>nJ.map λl=>(a,l)).map λp=>(fT p.1 p.2).cps.toList).Nodup:=by decide +kernel
theorem rj{l:Bi}(h:l.length<=2)(z:∀x∈l,x∈aH):l∈nJ:=by
 unfold nJ
 cases l with
 | nil=>exact de _ aM
 | cons x l=>
  have Q:=z x aM
  cases l with
  | nil=>exact de _ (bb _ (bo.mpr ⟨x,Q,rfl⟩))
  | cons y l=>
   have w:=z y (bb _ aM)
   cases l with
   | nil=>exact cq _ (ii.mpr ⟨x,Q,bo.mpr ⟨y,w,rfl⟩⟩)
   | cons=>exact absurd h (Nat.not_le_of_gt (aw rfl))
theorem nK{Y v:Type}{f:Y->v}{l:List Y}(w:(l.map f).Nodup){x y:Y}(U:x∈l)(V:y∈l)(e:f x=f y):x=y:=by
 induction l with
 | nil=>exact absurd U cp
 | cons a l k=>
  rw[jp,ei] at w
  rcases bt.mp U with z | z <;> rcases bt.mp V with Q | Q
  ·exact z.trans Q.symm
  ·exact absurd (bo.mpr ⟨y,Q,by(erw[ip e];exact Eq.substr z rfl)⟩) w.1
  ·exact absurd (bo.mpr ⟨x,z,by(erw[e];exact Eq.substr Q rfl)⟩) w.1
  ·exact k w.2 z Q
theorem x6{a b:Str}{l m:Bi}(z:a∈bz)(Q:b∈bz)(w:l∈nJ)(y:m∈nJ)(e:fT a l=fT b m):a=b/\l=m:=
 Prod.mk.inj (nK Jk (x:=(a,l)) (y:=(b,m)) (ii.mpr ⟨a,z,bo.mpr ⟨l,w,rfl⟩⟩) (ii.mpr ⟨b,Q,bo.mpr ⟨m,y,rfl⟩⟩) (ab (λs=>s.cps.toList) e))
theorem Jl:∀x∈aH,x.cps.size≠0/\[39,34].contains (x.cps[0]?.getD 39)=false:=by decide
theorem GD{x:Str}(h:x∈bz):x≠xN:=by revert h x;decide
section
variable{P y:Par}{ty t0 ty':TY}{H H' H0:CH}{n c g:Nat}{Q:DD}{z w:Role}
theorem Now.DT{a:Nat}{v:CV}(N:Now H0 t0 P ty H)(V:P.kq<=P.k/\0<P.k)(k:P.kn<=P.k)(h:ty a=some .kY)(U:H.lst a=some l):Now H0 t0 (P.wk (P.toPK.cU 1)) ty (H.aA a (l++[v])):=by
 refine N.aA h (ak U) (λb z Y Y s=>s.upK ⟨rfl,id,cr _,gN _,λY Y Y=>rfl⟩ V k (λY=>⟨rfl,rfl⟩) (λY=>rfl) (λY Y=>⟨rfl,rfl⟩) (λY=>rfl) λY=>rfl) ?_
 obtain⟨m,j,J⟩:=N.T.sat _ _ h
 cases(show H.lst a=some m from j).symm.trans U
 exact⟨_,rfl,by erw[bp];exact lk J 1⟩
theorem Now.NJ(N:Now H0 t0 P ty H)(j:P.kq<=P.k/\0<P.k)(J:P.kn<=P.k)(v:P.kt=P.k)(o:H.dct P.aN=some U)(O:au U (.str (lhs P.R P.k))≠none):Now H0 t0 (P.wk P.toPK.ktU) ty H:=
 N.par λa z Y h=>by
  by_cases e:z=.iF
  ·subst e
   obtain⟨k,V,q1,q2,p,f⟩:=h
   cases(show H.dct a=some V from q1).symm.trans (k.symm▸o)
   exact⟨k,U,q1,q2,λi a b=>(mc i P.kt).elim (p i a) λc=>(show i=P.k from eD (db b) (v▸c))▸O,f⟩
  ·exact h.upK ⟨rfl,id,cr _,cr _,λY Y Y=>rfl⟩ j J (λY=>⟨rfl,rfl⟩) (λY=>rfl) (λY Y=>⟨rfl,rfl⟩) (λY=>rfl) λq=>absurd q e
theorem Now.NK{p b:Nat}(N:Now H0 t0 P ty H)(j:P.kq<=P.k/\0<P.k)(l:P.kn<=P.k)(U:ty p=some (.cK 100 f))(L:H0.free p)(k:ty b=some (.aq ((nub [] (rhs P.R P.k)).map .str)))(t:H0.free b)(J:b≠p)(F:Gz f (lhs P.R P.k) (rhs P.R P.k) P.k (.tup [.str kU,.int 0]) b)
(v:P.ad P.k=0)(x:0<=P.m)(V:P.li=0)(C:P.lx=0):∃ty',Now H0 t0 (P.wk (P.toPK.prU p)) ty' H/\ty' p=some (.prod P.k)/\∀a z,a≠p->a≠b->ty a=some z->ty' a=some z:=by
 obtain⟨N,k,O⟩:=N.pro (.us P.k) t k (N.T.L k)
 replace U:=O _ _ (en J) U
 replace N:Now H0 t0 (P.wk (P.toPK.prU p)) _ H:=N.par λa z Y s=>s.upK ⟨rfl,id,gN _,cr _,λi B Y=>ca (dr B)⟩ j l (λY=>⟨rfl,rfl⟩) (λY=>rfl) (λY Y=>⟨rfl,rfl⟩) (λY=>rfl) λY=>rfl
 have A:=N.T.A U
 obtain⟨D,o,E⟩:=N.pro (.prod P.k) L U ⟨(ch rfl).symm,⟨dq _,.inl j.2⟩,N.T.C U,(A 2).trans F.f2,(A 3).trans F.f3,(A 4).trans F.f4,(A 8).trans F.f8,(A 9).trans F.f9,⟨b,(A 11).trans F.f11,k⟩,.inl ((A 0).trans F.f0),.inl ⟨(A 1).trans F.f1,v⟩,by
  show P.ad P.k<=P.m
  erw[v];exact x,λq=>(show P.k<P.li∨P.k=P.li/\0<P.lx from q).elim (λq=>absurd (V▸q) (ij _)) λq=>absurd (q.1.trans V) (ma j.2)⟩
 exact⟨_,D,o,λa z o I h=>E _ _ o (O _ _ I h)⟩
theorem Now.NL{v p:Nat}(N:Now H0 t0 P ty H)(U:P.kq+1=P.k/\0<P.kq)(j:P.kn<=P.k)(h:ty v=some .prods)(e:P.pr P.kq=p)(J:ty p=some (.prod P.kq)):∃l,H.lst v=some l/\l.length=P.kq/\Now H0 t0 (P.wk P.toPK.kqU) ty (H.aA v (l++[.ref p])):=by
 subst e
 obtain⟨k,V,o⟩:=N.T.sat _ _ h
 have V:H.lst v=some _:=V
 refine⟨_,V,(ab (·+1) ((ba _).trans length_range')).trans (hY U.2),N.aA h (ak V) (λb z O Y s=>s.upK ⟨rfl,id,cr _,cr _,λY Y Y=>rfl⟩ ⟨U.1▸gN _,U.1▸ft _⟩ j (λq=>?_) (λY=>rfl) (λY Y=>⟨rfl,rfl⟩) (λY=>rfl) λY=>rfl) ⟨k,ab some ?_,λi a b=>?_⟩⟩
 ·subst q
  exact absurd (s.1.trans k.symm) O
 ·show _=(if P.z=true then CV.ref (P.pr 0) else .none)::(range' 1 (P.k - 1)).map λi=>.ref (P.pr i)
  rw[show P.k - 1=(P.kq - 1)+1 from(show P.k - 1=P.kq from(ab (· - 1) U.1).symm).trans (hY U.2).symm,range'_concat,ej,cons_append]
  refine ab (λx=>_::(_++x)) ?_
  show [CV.ref (P.pr P.kq)]=[CV.ref (P.pr (1+1 * (P.kq - 1)))]
  rw[show 1+1 * (P.kq - 1)=P.kq from(ab (1+·) (Nat.one_mul _)).trans ((kb 1 _).trans (hY U.2))]
 ·rcases mc i P.kq with q | q
  ·exact o i q b
  ·obtain rfl:i=P.kq:=eD (db (hN (show i<P.k from a) U.1.symm)) q
   exact J
theorem Now.NN{k i:Nat}(N:Now H0 t0 P ty H)(L:P.kq<=P.k/\0<P.k)(t:P.kn<=P.k)(o:P.km+1=P.k)(O:1<=i/\i<P.k)(h:ty k=some .pmap)(e:fT (lhs P.R i) (rhs P.R i)=x):∃U,H.dct k=some U/\U.length<P.km/\Now H0 t0 (P.wk P.toPK.kmU) ty (H.bx k (aW U (.str x) v)):=by
 subst e
 obtain⟨f,U,l,V,C⟩:=N.T.sat _ _ h
 have V:U.length<P.km:=V
 refine⟨U,l,V,N.bx h (ak l) (λb z B Y s=>s.upK ⟨rfl,id,cr _,cr _,λY Y Y=>rfl⟩ L t (λY=>⟨rfl,rfl⟩) (λY=>rfl) (λY Y=>⟨rfl,rfl⟩) (λq=>?_) λY=>rfl) ⟨f,_,rfl,ax mz (hN (Nat.succ_lt_succ V) o),λp J=>(bV J).elim (λJ=>(C p J).imp λj q=>⟨q.1,gd q.2.1 (hN (dq _) o),q.2.2⟩) λe=>⟨i,O.1,O.2,by erw[e];rfl⟩⟩⟩
 subst q
 exact absurd (s.1.trans f.symm) B
theorem nM{f:Go}{k:Nat}{y:Str}(Y:1<=k):(((range (k+1)).filter λr=>decide (1<=r/\lhs R r=y)).map λi=>CV.ref (f i))=(((range k).filter λr=>decide (1<=r/\lhs R r=y)).map λi=>CV.ref (f i))++if lhs R k=y then [.ref (f k)] else []:=by
 (erw[range_succ];erw[filter_append _ _];erw[ej])
 refine ab _ ?_
 by_cases h:lhs R k=y
 ·(erw[ch h];erw[filter_cons];erw[ch (cn (p:=1<=k/\lhs R k=y) ⟨Y,h⟩)]);rfl
 ·(erw[ca h];erw[filter_cons];erw[ca λq=>h (a7 (p:=1<=k/\lhs R k=y) q).2]);rfl
theorem Sat.Ml{f:Str->Nat}{z:Role}(k:P.kq<=P.k/\0<P.k)(U:P.kn+1=P.k/\1<=P.kn)(j:ty (P.pr P.kn)=some (.prod P.kn))(J:z≠.names)(o:∀y,z=.jE y->lhs P.R P.kn≠y/\f y=P.aNm y)(h:Sat P ty v a z):Sat (P.wk (P.toPK.knU f)) ty v a z:=by
 have V:P.kn<=P.k:=U.1▸gN P.kn
 by_cases e:∃y,z=.jE y
 ·obtain⟨y,rfl⟩:=e
  obtain⟨O,p⟩:=o y rfl
  refine⟨h.1.trans p.symm,h.2.1.trans (ab some ?_),λi a b=>?_,h.2.2.2.imp λi q=>⟨q.1,cf q.2.1 V,q.2.2⟩⟩
  ·show _=(((range P.k).filter λr=>decide (1<=r/\lhs P.R r=y)).map λi=>CV.ref (P.pr i))
   (erw[ip U.1];erw[nM U.2];erw[ca O];exact Eq.substr (eR _) rfl)
  ·rcases mc i P.kn with q | q
   ·exact h.2.2.1 i q b
   ·obtain rfl:i=P.kn:=eD (db (hN (show i<P.k from a) U.1.symm)) q
    exact j
 ·exact h.upK ⟨rfl,id,cr _,cr _,λY Y Y=>rfl⟩ k V (λY=>⟨rfl,rfl⟩) (λq=>absurd q J) (λy q=>absurd ⟨y,q⟩ e) (λY=>rfl) λY=>rfl
theorem SD.len(h:SD ty D f Y es):es.length<=D.length:=
 ae (bv (ba _).symm) (ae (cj h.nd (m:=D.map CV.str) λk U=>(bo.mp U).elim λp q=>(h.ks p q.1).elim λy r=>q.2▸r.2.1▸dp r.1) (bv (ba _)))
theorem x7{a:Nat}{x:CV}(T:Typed P ty H)(h:H.dct a=some Y)(U:x.keyOk=true)(v:au Y x=none):bO H .isIn x (.ref a)=some false:=(inD T h U).trans (ab (λy:Option CV=>some y.isSome) v)
theorem A8{a:Nat}{x:CV}(T:Typed P ty H)(h:H.dct a=some Y)(U:x.keyOk=true)(V:au Y x=some v):bO H .isIn x (.ref a)=some true:=(inD T h U).trans (ab (λy:Option CV=>some y.isSome) V)
theorem Mm{x:Str}(h:x.cps.size≠0):fS H (.str x) (.int 0)=some (.ok (.str ⟨#[x.cps[0]?.getD 39]⟩)):=by
 show Option.map _ x.cps[0]?=_
 rw[Array.getElem?_eq_getElem (mr h)];rfl
theorem Ev.jsL{Y:Bi}(J:Ev L H V (.str f))(o:f.cps.size<=1000000)(O:Ev L H j (.ref a))(p:H.getL a=some (Y.map .str))(l:∀x∈Y,cH x)(t:(PyData.list (Y.map .str)).shown.length<=1000000):Ev L H (.js V j) (.str (fT f Y)):=λU U U U k=>
 J _ _ _ _ ⟨f,rfl,o,O _ _ _ _ (.inr ⟨a,Y,rfl,p,l,t,k⟩)⟩
namespace W
variable{Q:Ap}{X:D1}{L:EN}
theorem gen{p:EN->Prop}(U:p L)(r:∀L,p L->aj Y M l ⟨H,L⟩ Q X):aj Y M l ⟨H,L⟩ Q X:=r L U
theorem Jm{b:FB}{U:List Exc}(r:aj Y M b ⟨H,L⟩ (bf Y M l Q X) λq st=>q∈U/\aj Y M h st (bf Y M l Q X) FX):aj Y M (.try b U h::l) ⟨H,L⟩ Q X:=r
theorem Jo{y:CV}{q:Exc}(k:Ev L H U x)(j:Ev L H v y)(g:fS H x y=some (.error q))(r:X q ⟨H,L⟩):aj Y M (.ex (.ap (.ix U v) V)::l) ⟨H,L⟩ Q X:=k _ _ _ _ (j _ _ _ _ ⟨.error q,g,r⟩)
end W
structure Bld(P:Par):Prop where
 G:GoodR P.R
 k:1<=P.k/\P.k<P.R.length
 q:P.kq=P.k
 n:P.kn=P.k
 t:P.kt=P.k
 mm:P.km=P.k
 li:P.li=0
 lx:P.lx=0
 m:0<=P.m
 ad:∀r,P.ad r=0
 nk:P.nk=none
noncomputable def PK.nx(K:PK)(p:Nat)(f:Str->Nat)(i:Nat):PK:=(((((K.ktU.cU i).prU p).kqU).kmU).knU f)
structure APL(g:Nat)(name:Str)(s:Nat)(L:EN):Prop where
 l0:L 0=some (.ref g)
 l1:L 1=some (.str name)
 l2:L 2=some (.ref s)
 l3:L 3=some .none
 l4:L 4=some (.str (u 1))
 l5:L 5=some (.int 0)
theorem APL.u{g j:Nat}(m:APL g name s L)(Y:Nat.ble 6 j=true):APL g name s (upd L j v):=by
 have h:∀i,i<6->upd L j v i=L i:=λi U=>aZ (dr (cf U (aw Y)))
 exact⟨(h 0 (by decide)).trans m.l0,(h 1 (by decide)).trans m.l1,(h 2 (by decide)).trans m.l2,(h 3 (by decide)).trans m.l3,(h 4 (by decide)).trans m.l4,(h 5 (by decide)).trans m.l5⟩
structure APM(g:Nat)(name:Str)(s:Nat)(rs:Bi)(k:Nat)(L:EN):Prop extends APL g name s L where
 l9:L 9=some (.tup [.str kU,.int 0])
 l10:L 10=some (.str (fT name rs))
 l12:L 12=some (.int k)
theorem rm{a:Nat}{x:Str}(T:Typed P ty H)(h:ty a=some .terms)(U:x∉dS):∃Y,H.dct a=some Y/\au Y (.str x)=none:=by
 obtain⟨Y,v,V,_⟩:=T.sat _ _ h
 exact⟨Y,v,b9.mpr λq=>by rw[V] at q;exact(bo.mp q).elim λy q=>U (CV.str.inj q.2▸q.1)⟩
theorem vX{a:Nat}{x:Str}(T:Typed P ty H)(h:ty a=some .terms)(U:x∈dS):∃Y b,H.dct a=some Y/\au Y (.str x)=some (.ref b)/\ty b=some .kY:=by
 obtain⟨Y,v,V,k⟩:=T.sat _ _ h
 obtain⟨w,j,J⟩:=bh (mw.mpr (show CV.str x∈Y.map (·.1) by erw[V];exact dp U))
 obtain⟨b,e,o⟩:=k _ J
 exact⟨Y,b,v,j.trans (ab some e),o⟩
theorem Mp{L:EN}{K:Ap}{x:Str}{k:Nat}(N:Now H0 t0 P ty H)(j:ty g=some .b7)(D:P.kq<=P.k/\0<P.k)(E:P.kn<=P.k)(t:P.nk=none)(I:P.c<=200)(a:x∈aH)(J:L 0=some (.ref g))(T:L 12=some (.int k))(Y:L 13=some (.str x))
(r:∀ty' H',Now H0 t0 (P.wk (P.toPK.cU 1)) ty' H'->Ka ty ty'->K .next ⟨H',L⟩):aj (calls fF mF n) mF cY ⟨H,L⟩ K FX:=by
 have v:=N.T.gr j
 have p:=aV _ a
 have O:∀{ty' H' b o},Now H0 t0 P ty' H'->Ka ty ty'->ty' b=some .kY->Ev L H' o (.ref b)->aj (calls fF mF n) mF [.ex (.ap o (.v 12))] ⟨H',L⟩ (bf (calls fF mF n) mF [] K FX) FX:=λ{ty' H' b o} N k f M=>by
  obtain⟨l,U,V⟩:=N.T.sat _ _ f
  exact W.ap M U (.v T) (ax (ae V I) (aw rfl)) (W.nil (r ty' _ (N.DT D E f U) k))
 by_cases C:x∈dS
 ·obtain⟨A,b,U,V,s⟩:=vX N.T v.a20.2 C
  exact W.gP (.cm (.v Y) (.att (.v J) (N.T.gat j v.a20.1)) (A8 N.T U p V)) rfl (O N (λd d h=>h) s (.ix (.att (.v J) (N.T.gat j v.a20.1)) (.v Y) (getD N.T U p V)))
 ·obtain⟨A,U,V⟩:=rm N.T v.a20.2 C
  refine W.fV (.cm (.v Y) (.att (.v J) (N.T.gat j v.a20.1)) (x7 N.T U p V)) rfl ?_
  refine W.Mk N j J Y ((xT a).resolve_left C) t λty' H' A N k U V=>?_
  have v:=N.T.gr (k _ _ j)
  obtain⟨_,B,q1,q2,_⟩:=N.T.sat _ _ v.a21.2
  cases(show H'.dct P.aN=some B from q1).symm.trans U
  obtain⟨w,m,i⟩:=bh V
  obtain⟨_,_,_,b,e,f,_⟩:=q2.ks _ i
  exact O N k f (.ix (.att (.v J) (N.T.gat (k _ _ j) v.a21.1)) (.v Y) (getD N.T U p (m.trans (ab some e))))
theorem DU{L:EN}{F:Ap}{p:Nat}{nm:Str}(N:Now H0 t0 P ty H)(G:ty g=some .b7)(B:P.kq=P.k)(v:P.kn+1=P.k/\1<=P.kn)(R:P.kn<=100)(Y:lhs P.R P.kn=nm)(A:nm∈bz)(S:P.pr P.kn=p)(u:L 0=some (.ref g))(X:L 1=some (.str nm))(D:L 14=some (.ref p))
(r:∀ty' H' f,Now H0 t0 (P.wk (P.toPK.knU f)) ty' H'->Ka ty ty'->F .next ⟨H',L⟩):aj (calls fF mF n) mF [.try [.ex (.ap (.ix (.at (.v 0) 18) (.v 1)) (.v 14))] [.key] [.asg (.ix (.at (.v 0) 18) (.v 1)) (.li [.v 14])]] ⟨H,L⟩ F FX:=by
 subst S
 have l:=N.T.gr G
 obtain⟨Q,I,o,M,t⟩:=N.T.sat _ _ l.a18.2
 have o:H.dct P.aPn=some I:=o
 have Z:=aV _ (b6 A)
 have V:P.kn<P.k:=v.1▸dq _
 have hq:P.kq<=P.k/\0<P.k:=⟨bv B,Nat.zero_lt_of_lt V⟩
 have O:∀i,1<=i->i<P.k->ty (P.pr i)=some (.prod i):=λi a b=>(N.T.sat _ _ l.a17.2).2.2 i (B▸b) (.inr a)
 have T:=O P.kn v.2 V
 refine W.Jm ?_
 have o1:Ev L H (.at (.v 0) 18) (.ref P.aPn):=.att (.v u) (N.T.gat G l.a18.1)
 have j:∀U,(∀i,1<=i->i<P.kn->au U (.str (lhs P.R i))≠none)->au U (.str nm)≠none->∀i,1<=i->i<P.k->au U (.str (lhs P.R i))≠none:=λU t J i a b=>by
  rcases mc i P.kn with q | q
  ·exact t i a q
  ·obtain rfl:i=P.kn:=eD (db (hN b v.1.symm)) q
   erw[Y];exact J
 by_cases J:au I (.str nm)=none
 ·refine W.Jo o1 (.v X) (HF N.T o Z J) ⟨bc.mpr rfl,?_⟩
  refine W.dL (.one (.v D)) u l.cls rfl l.a18.1 o (λd=>.v X) Z (ax M.len (aw rfl)) λb C=>?_
  refine N.GC (P':=P.wk (P.toPK.knU λx=>if x=nm then b else P.aNm x)) (G:=λH=>aj _ _ [] ⟨H,L⟩ (bf _ _ [] F FX) FX) (.jE nm) C l.a18.2 (ak o) (λa z K ht s=>s.Ml hq v ((k9 N.T C _ _ T).1) (λq=>?_) λy q=>?_) (λd=>⟨(ch rfl).symm,ab some ?_,λi a c=>(k9 N.T C _ _ (O i c a)).1,P.kn,v.2,V,Y⟩)
   (λgb k=>⟨Q,_,rfl,⟨λp T=>(bV T).elim (λT=>(M.mono λb' d h=>(k b' _ h).1).ks p T) λe=>⟨nm,A,by exact Eq.substr e rfl,b,by exact Eq.substr e rfl,gb,trivial⟩,dQ M.nd⟩,j _ (λi a c=>?_) ?_⟩) λty' H' N' gb k J=>W.nil (r ty' H' _ N' k.aa)
  ·subst q;exact K (s.1.trans Q.symm)
  ·subst q
   have:nm≠y:=λq=>by
    subst q
    obtain⟨i,q1,q2,q3⟩:=s.2.2.2
    exact t i q1 q2 (q3▸J)
   exact⟨Y▸this,ca (en this)⟩
  ·show [CV.ref (P.pr P.kn)]=(((range P.k).filter λr=>decide (1<=r/\lhs P.R r=nm)).map λi=>CV.ref (P.pr i))
   (erw[ip v.1];erw[nM v.2];erw[ch Y];erw[show(range P.kn).filter (λr=>decide (1<=r/\lhs P.R r=nm))=[] from filter_eq_nil_iff.mpr λi hi q=>t i (a7 q).1 (du.mp hi) ((a7 q).2▸J)])
   rfl
  ·erw[aQ]
   split
   ·exact cw _
   ·exact t i a c
  ·(erw[aQ];erw[ch rfl]);exact cw _
 ·obtain⟨w,hw,hm⟩:=bh J
  obtain⟨x,hx,e1,b,e2,C,_⟩:=M.ks _ hm
  obtain rfl:nm=x:=CV.str.inj e1
  obtain⟨r1,m,r3,r4⟩:=N.T.sat _ _ C
  have m:H.lst b=some _:=m
  refine W.ap (.ix o1 (.v X) (getD N.T o Z (hw.trans (ab some e2)))) m (.v D) ?_ (W.nil (r ty _ P.aNm (N.aA C (ak m) (λa z K ht s=>?_) ⟨r1,ab some ?_,λi a c=>O i c a,P.kn,v.2,V,Y⟩) λd d h=>h))
  ·erw[ba _]
   have:=length_filter_le (λr=>decide (1<=r/\lhs P.R r=nm)) (range P.kn)
   rw[eh] at this
   exact ax (ae this R) (aw rfl)
  ·by_cases q:z=.names
   ·subst q
    obtain⟨E,U,q1,q2,q3⟩:=s
    cases(show H.dct a=some U from q1).symm.trans (E.symm▸o)
    exact⟨E,I,q1,q2,j I t J⟩
   ·refine s.Ml hq v T q λy e=>?_
    subst e
    exact⟨λe=>K (s.1.trans ((ab P.aNm (Y.symm.trans e)).symm.trans r1.symm)),rfl⟩
  ·show _=(((range P.k).filter λr=>decide (1<=r/\lhs P.R r=nm)).map λi=>CV.ref (P.pr i))
   (erw[ip v.1];erw[nM v.2];exact Eq.substr (ch Y) rfl)
inductive API(P:Par)(H0:CH)(t0 ty:TY)(W:EN->Prop)(H':CH)(L:EN):Prop
 | mk (w:W L) (ty':TY) (N:Now H0 t0 P ty' H') (k:Ka ty ty')
theorem A9{s:Nat}(N:Now H0 t0 P ty H)(B:Bld P)(D:ty g=some .b7)(hc:P.c<=100)(U:lhs P.R P.k=Y)(j:rhs P.R P.k=t)(hs:ty s=some (.aq (t.map .str)))
(hQ:∀ty' H' p f,Now H0 t0 (P.wk (P.toPK.nx p f t.length)) ty' H'->Ka ty ty'->Q .none H'):calls fF mF (n+2) 201 [.ref g,.str Y,.ref s] H Q:=by
 have o:=U▸B.G.nm _ B.k.1 B.k.2
 have v:=j▸B.G.sym P.k
 have I:=j▸B.G.ln P.k
 have z6:=B.G.len.2
 have M:=B.k.2
 have d:P.k<=5:=cy (cf M z6)
 have z0:=rj I v
 have V:=b6 o
 have z7:=aV _ V
 have S:∀y∈t,cH y:=λy hy=>aO (v y hy)
 refine cB [.ref g,.str Y,.ref s,.none,.str (u 1),.int 0] (d:=bA) rfl rfl rfl rfl λFQ w c=>?_
 obtain⟨z8,T,z1⟩:=rm N.T (N.T.gr D).a20.2 (DI o)
 refine W.fV (.cm (.v rfl) (.att (.v rfl) (N.T.gat D (N.T.gr D).a20.1)) (x7 N.T T z7 z1)) rfl (W.nil ?_)
 refine W.j9 (.cm (.v rfl) .c (eqS (aO V) (asc (by decide)))) (λq=>absurd q (GD o)) λw=>W.nil ?_
 refine W.Mj (.one (.v rfl)) (jH N V λt1 H1 N1 k1=>⟨true,rfl,false,rfl,W.nil ?_⟩)
 clear T z1
 refine frE (ys:=t) (f:=.str) (I:=λw=>API P H0 t0 ty (APL g Y s)) (.v rfl) ⟨⟨rfl,rfl,rfl,rfl,rfl,rfl⟩,t1,N1,k1⟩ (λi H' L h=>h.casesOn λw w N k=>N.T.gL (k _ _ hs)) ?_ ?_
 ·rintro i x H2 L K hx ⟨m,t2,J,k2⟩ hK
  have z2:=v x (be hx)
  obtain⟨c1,c2⟩:=Jl x z2
  refine W.fV (.cm (.ix (.v rfl) .c (Mm c1)) .c (ab some c2)) rfl (W.nil ?_)
  exact W.Ji (.one (.v rfl)) (jH J z2 λt3 H3 N3 k3=>⟨true,rfl,false,rfl,false,rfl,W.nil (hK.nxt ⟨(m.u rfl).u rfl,t3,N3,k2.t k3⟩)⟩)
 rintro H2 L2 ⟨m,t2,J,k2⟩
 have O:=k2 _ _ D
 have r:=k2 _ _ hs
 have R:=J.T.gr O
 refine W.j9 (.cm .c (.v m.l2) (fQ (J.T.gL r) S (asc (by decide)))) (λq=>absurd (v _ q) (by decide)) λw=>?_
 obtain⟨z8,T,_⟩:=J.T.sat _ _ R.a20.2
 refine W.fn (.two (.v m.l2) (.att (.v m.l0) (J.T.gat O R.a20.1))) (xW J.T r T (ax I (aw rfl)) v λpv z9=>?_)
 refine W.asg (.geN (.att (.v m.l0) (J.T.gat O R.a24.1)) (J.T.sat _ _ R.a24.2) (.v rfl) (z9.elim (λe=>e▸rfl) λ⟨x,hx,e⟩=>e▸aV x hx) (.tu (.two .c .c)) rfl) (W.nil ?_)
 have X:=Jj Y o t z0
 have z3:(CV.str (fT Y t)).keyOk=true:=bn.mpr ⟨X.1,rfl⟩
 refine W.asg (.jsL (.v m.l1) (DM V) (.v m.l2) (J.T.gL r) S (ae X.2 (aw rfl))) ?_
 obtain⟨_,zo,z4,zz,z5⟩:=J.T.sat _ _ R.a19.2
 refine W.fV (.cm (.v rfl) (.att (.v m.l0) (J.T.gat O R.a19.1)) (x7 J.T z4 z3 (b9.mpr λh=>?_))) rfl (W.nil ?_)
 ·obtain⟨p,hp,e⟩:=bo.mp h
  obtain⟨i,hi1,C,e2⟩:=z5 p hp
  have C:i<P.k:=B.mm▸C
  obtain⟨e3,e4⟩:=x6 (B.G.nm i hi1 (gd C M)) o (rj (B.G.ln i) (B.G.sym i)) z0 (CV.str.inj (e2.symm.trans e))
  exact absurd (B.G.nd i P.k hi1 B.k.1 (gd C M) M (e3.trans U.symm) (e4.trans j.symm)) (dr C)
 clear z4 zz z5 T
 obtain⟨_,A,_⟩:=J.T.sat _ _ R.a17.2
 have A:H2.lst P.aP=some _:=A
 refine W.asg (.uw (k:=P.k) (.att (.v m.l0) (J.T.gat O R.a17.1)) (J.T.lc A) ((vR (aD A)).trans (ab some ?_)) (ae d (aw rfl))) ?_
 ·(erw[ik];erw[ba _];erw[length_range'];erw[B.q]);exact hY B.k.1
 refine W.gen (p:=APM g Y s t P.k) ⟨m.u rfl |>.u rfl |>.u rfl |>.u rfl,rfl,rfl,rfl⟩ λL m=>?_
 clear A
 refine W.Mk J O m.l0 m.l1 o B.nk λt4 H4 es N4 k4 h1 h2=>?_
 have hq:P.kq<=P.k/\0<P.k:=⟨bv B.q,B.k.1⟩
 replace N4:=N4.NJ hq (bv B.n) B.t h1 (U▸h2)
 replace k4:=k2.t k4
 clear J k2 O r R
 refine frL (ys:=t) (f:=.str) (I:=λi=>API (P.wk (P.toPK.ktU.cU i)) H0 t0 ty (APM g Y s t P.k)) (.v m.l2) ⟨m,t4,N4,k4⟩ (λi H' L h=>h.casesOn λw w N k=>N.T.gL (k _ _ hs)) ?_ ?_
 ·rintro i x H5 L5 K hx ⟨m,t5,E,Z⟩ hK
  have hi:=(a6.mp hx).1
  exact Mp (k:=P.k) E (Z _ _ D) hq (bv B.n) B.nk (show P.c+i<=100+100 from h7 hc (ae (cy hi) (ae I (aw rfl)))) (v x (be hx)) m.l0 m.l12 rfl λt6 H6 N6 k6=>hK.nxt ⟨⟨m.u rfl,m.l9,m.l10,m.l12⟩,t6,N6,Z.t k6⟩
 rintro H5 L5 ⟨m,t5,E,Z⟩
 refine W.nw (.cons (.v m.l12) (.cons (.v m.l1) (.cons (.v m.l2) (.cons (.v m.l9) (.cons (.v m.l3) (.cons (.v m.l4) (.one (.v m.l5)))))))) rfl λp hp=>qX E.T hp (Z _ _ hs) v (ae I (aw rfl)) (DM V) λt6 H6 f b N6 gp gb bF zq F=>⟨rfl,?_⟩
 obtain⟨t7,N7,zw,k7⟩:=(E.call N6).NK (p:=p) (b:=b) (f:=f) hq (bv B.n) gp (E.live p hp) (by erw[show rhs (P.wk (P.toPK.ktU.cU t.length)).R (P.wk (P.toPK.ktU.cU t.length)).k=t from j];exact gb) (E.live b bF) zq (U▸j▸F) (B.ad _) B.m B.li B.lx
 have ka:Ka ty t7:=λa z h=>k7 _ _ (E.T.ne (Z _ _ h) hp) (E.T.ne (Z _ _ h) bF) (N6.get E.T (Z _ _ h))
 clear E N6 gp gb Z k7 F N4 k4
 have g7:=N7.T.gr (ka _ _ D)
 have zy:P.kq+1=P.k+1/\0<P.kq:=⟨ab (·+1) B.q,by erw[B.q];exact B.k.1⟩
 obtain⟨l,q1,q2,N8⟩:=N7.NL zy (ae (bv B.n) (gN _)) g7.a17.2 (ch B.q) (B.q▸zw)
 refine W.ap (.att (.v m.l0) (N7.T.gat (ka _ _ D) g7.a17.1)) q1 (.v rfl) (ax (show l.length<=5 from q2▸(B.q.symm▸d:P.kq<=5)) (aw rfl)) ?_
 clear N7 q1 q2 g7
 have g8:=N8.T.gr (ka _ _ D)
 obtain⟨es,q1,q2,N9⟩:=N8.NN (i:=P.k) (v:=.ref p) ⟨cr _,ft _⟩ (ae (bv B.n) (gN _)) (ab (·+1) B.mm) ⟨B.k.1,dq _⟩ g8.a19.2 (show fT (lhs P.R P.k) (rhs P.R P.k)=fT Y t by(erw[U];exact Eq.substr j rfl))
 refine W.bx (.v rfl) (.att (.v m.l0) (N8.T.gat (ka _ _ D) g8.a19.1)) (.v m.l10) q1 z3 (cf q2 (ae (show P.km<=5 from B.mm.symm▸d) (aw rfl))) ?_
 exact DU (p:=p) N9 (ka _ _ D) rfl ⟨ab (·+1) B.n,B.n▸B.k.1⟩ (show P.kn<=100 from B.n.symm▸ae d (aw rfl)) (B.n▸U) o (ch B.n) m.l0 m.l1 rfl λzu zv f zk zj=>c (hQ zu zv p f zk (ka.t zj))
end
noncomputable def PK.stU(K:PK)(p:Nat):PK:={ K with z:=true,pr:=λi=>if i=0 then p else K.pr i }
section
variable{P:Par}{U w:TY}{H:CH}{n c e g:Nat}{Q:DD}{z:Role}
namespace W
variable{j:PT}{M:MT}{l:FB}{Q:Ap}{X:D1}{L:EN}{v:CV}
theorem nwS{k:CE}(N:Now V U P y H)(f:L 1=some v)(r:∀s J O,Now V U P J O->J s=some (.aq [v])->K1 s y J->∀p,O.free p->j 62 [.ref p,.int 0,.str x,.ref s] (O.setC p 100) λr Y=>r=.none/\tn j M (.li o k) (.ref p) ⟨Y,L⟩ (λst=>aj j M l st Q X) X) :
  aj j M (.asg (.li o k) (.nw 100 [.c (.int 0),.c (.str x),.li [.v 1]])::l) ⟨H,L⟩ Q X:=
 ⟨v,f,λs t=>N.nL (G:=λH=>bu 100=true/\∀c,H.free c->j 62 [.ref c,.int 0,.str x,.ref s] (H.setC c 100) λr Y=>r=.none/\tn j M (.li o k) (.ref c) ⟨Y,L⟩ (λst=>aj j M l st Q X) X) t λJ O T g a C=>⟨rfl,λp B=>r s J O T g C p B⟩⟩
theorem NO{o k:CE}{a i:Nat}{m:B2}(J:Ev L H o (.ref a))(O:Ev L H k (.int i))(g:H.lst a=some m)(p:i<m.length)(r:aj j M l ⟨H.aA a (m.set i v),L⟩ Q X):tn j M (.li o k) v ⟨H,L⟩ (λst=>aj j M l st Q X) X:=
 J _ _ _ _ (O _ _ _ _ ⟨a,m,i,rfl,g,rfl,p,r⟩)
end W
theorem Ac(N:Now V U P y H)(h:y e=some .iF)(J:∃i,1<=i/\i<P.kt/\lhs P.R i=x):∃j b,H.dct e=some j/\au j (.str x)=some (.ref b)/\y b=some .kY:=by
 obtain⟨B,j,o,O,p,a⟩:=N.T.sat _ _ h
 obtain⟨i,f,l,L⟩:=J
 obtain⟨w,t,T⟩:=bh (L▸p i f l)
 obtain⟨_,_,_,b,e,C,_⟩:=O.ks _ T
 exact⟨j,b,o,t.trans (ab some e),C⟩
theorem x8(N:Now V U P y H)(G:GoodR P.R)(O:y g=some .b7)(B:P.k=P.R.length)(m:P.kq=P.k)(r:P.kn=P.k)(z0:P.kt=P.k)(hz:P.z=false)(z1:P.li=0)(z2:P.lx=0)(hc:P.c<=100)(R:P.ad 0=0)(hm:0<=P.m)
(hQ:∀w Y p,Now V U (P.wk ((P.toPK.stU p).cU 1)) w Y->Ka y w->Q .none Y):calls fF mF (n+2) 209 [.ref g,.str sS] H Q:=by
 refine cB [.ref g,.str sS] (d:=cC) rfl rfl rfl rfl λFQ o D=>?_
 have S:rhs P.R 0=[sS]:=ig (x:=(sP,[sS])) G.r0
 have z3:lhs P.R 0=sP:=fH (x:=(sP,[sS])) G.r0
 have z4:=G.len
 have hS:∃i,1<=i/\i<P.kt/\lhs P.R i=sS:=(G.has sS (by decide)).imp λi h=>⟨h.1,by(erw[z0];erw[B]);exact h.2.1,h.2.2⟩
 have T:=aV sS (by decide)
 have g1:=N.T.gr O
 refine W.fV (.nt (b:=true) (.v rfl) (by simp only[truth];decide)) rfl (W.nil ?_)
 obtain⟨es,b0,X,Z,_⟩:=Ac N g1.a21.2 hS
 refine W.fV (.cm (.v rfl) (.att (.v rfl) (N.T.gat O g1.a21.1)) (oH (A8 N.T X T Z))) rfl (W.nil ?_)
 clear X Z g1
 refine W.nwS N rfl λs t1 H1 x gs e p hp=>Mb (d:=bR) rfl rfl rfl rfl rfl (qX (r:=0) (l:=[sS]) x.T hp gs (by decide) (by decide) (by decide) λE H2 f b N2 I K bF u F=>⟨rfl,?_⟩)
 have pF:=x.live p hp
 have j:∀a z,y a=some z->E a=some z/\a≠p/\a≠b:=λa z h=>⟨N2.get x.T (e _ _ h).1,x.T.ne (e _ _ h).1 hp,x.T.ne (e _ _ h).1 bF⟩
 obtain⟨M,K,k3⟩:=(x.call N2).pro (.us 0) (x.live b bF) K (show H2.lst b=some ((nub [] (rhs P.R 0)).map .str) by erw[S];exact N2.T.L K)
 replace I:=k3 _ _ (en u) I
 replace j:∀a z,y a=some z->upd E b (.us 0) a=some z/\a≠p:=λa z h=>⟨k3 _ _ (j _ _ h).2.2 (j _ _ h).1,(j _ _ h).2.1⟩
 clear x N2 e k3 gs
 have g3:=M.T.gr (j _ _ O).1
 obtain⟨ea,q1,q2⟩:=M.T.sat _ _ g3.a17.2
 have q1:H2.lst P.aP=some _:=q1
 have A:=M.T.A I
 refine W.NO (.att (.v rfl) (M.T.gat (j _ _ O).1 g3.a17.1)) .c q1 (Nat.zero_lt_succ _) ?_
 have L:∀a t,a≠p->upd E b (.us 0) a=some t->upd (upd E b (.us 0)) p (.prod 0) a=some t:=λa t d v=>(aZ d).trans v
 have C:=M.NI (P':=P.wk (P.toPK.stU p)) (l:=set ((if P.z then .ref (P.pr 0) else .none)::(range' 1 (P.kq - 1)).map λi=>.ref (P.pr i)) 0 (.ref p)) (.prod 0) pF I rfl g3.a17.2 rfl (ak q1) (λc t d v s=>s.upK ⟨rfl,λo=>rfl,cr _,cr _,λi o h=>ca (by rw[hz] at h;exact ma (h.resolve_right ff))⟩ ⟨bv m,B.symm▸G.pos⟩ (bv r) (λq=>absurd (by subst q;exact s.1) d) (λo=>rfl) (λo o=>⟨rfl,rfl⟩) (λo=>rfl) λo=>rfl)
  ⟨rfl,⟨(B.symm▸G.pos:0<P.k),.inr rfl⟩,M.T.C I,(A 2).trans (F.f2.trans (ab (some∘CV.str) z3.symm)),(A 3).trans (F.f3.trans (ab (λl:List Str=>some (CV.tup (l.map .str))) S.symm)),(A 4).trans F.f4,(A 8).trans F.f8,(A 9).trans F.f9,⟨b,(A 11).trans F.f11,L _ _ u K⟩,.inl ((A 0).trans F.f0),.inl ⟨(A 1).trans F.f1,R⟩,(show P.ad 0<=P.m by erw[R];exact hm),λq=>?_⟩
  ⟨rfl,ab some (show CV.ref p::((range' 1 (P.kq - 1)).map λi=>CV.ref (P.pr i))=CV.ref p::((range' 1 (P.kq - 1)).map λi=>CV.ref (if i=0 then p else P.pr i)) from ab (CV.ref p::·) (map_congr_left λi hi=>ab CV.ref (ca (ma (mem_range'_1.mp hi).1)).symm)),λi a c=>?_⟩
 rotate_left
 ·exact(show 0<P.li∨0=P.li/\0<P.lx from q).elim (λq=>absurd z1 (ma q)) λq=>absurd z2 (ma q.2)
 ·show upd (upd E b (.us 0)) p (.prod 0) (if i=0 then p else P.pr i)=_
  by_cases h0:i=0
  ·subst h0;exact cT
  ·have:=q2 i a (.inr (mr h0))
   erw[ca h0]
   exact L _ _ (oV this I rfl) this
 replace j:∀a z,y a=some z->upd (upd E b (.us 0)) p (.prod 0) a=some z:=λa z h=>L _ _ (j _ _ h).2 (j _ _ h).1
 clear M g3 q1 q2 A L I K F
 generalize upd (upd E b (.us 0)) p (.prod 0)=t4 at *
 generalize CH.aA _ _ _=H4 at C ⊢
 have g4:=C.T.gr (j _ _ O)
 obtain⟨es,b1,X,Z,e3⟩:=Ac C g4.a21.2 hS
 obtain⟨l,d,v⟩:=C.T.sat _ _ e3
 refine W.ap (.ix (.att (.v rfl) (C.T.gat (j _ _ O) g4.a21.1)) (.v rfl) (getD C.T X T Z)) d .c (ax (ae v hc) (aw rfl)) ?_
 have N5:=C.DT (v:=.int 0) ⟨bv m,(B.symm▸G.pos:0<P.k)⟩ (bv r) e3 d
 clear C g4 X Z e3 d v
 generalize CH.aA _ _ _=H5 at N5 ⊢
 have J:=N5.T.gr (j _ _ O)
 refine W.bH (.v rfl) (.v rfl) J.cls rfl (D (hQ t4 _ p (N5.bH (j _ _ O) (ak J.cls) (λo o o o h=>h) ⟨(N5.T.sat _ _ (j _ _ O)).1,{ J with no:=λk B=>(ca (ma (cf (by decide) B))).trans (J.no k B),a17:=J.a17,a18:=J.a18,a19:=J.a19,a20:=J.a20,a21:=J.a21,a22:=J.a22,a23:=J.a23,a24:=J.a24 }⟩) j))
end
noncomputable def Par.wi(P:Par)(I:PI):Par:={ P with toPI:=I }
section
variable{P w:Par}{ty t0 ty':TY}{H H' H0:CH}{n b c e g:Nat}{Q:DD}{z:Role}
set_option tactic.hygienic true in
theorem Sat.wi{r0 x0 y0 y Y U:Nat}{f:Nat->Nat->Nat}(k:P.li=r0)(ex:P.lx=x0)(j:P.ly=y0)(V:∀r d,d<=(rhs P.R r).length->(r<r0∨r=r0/\d<y0)->f r d=P.it r d/\(r<y∨r=y/\d<U))
(J:∀r,ρ=.prod r->(r<y∨r=y/\0<Y)->(r<r0∨r=r0/\0<x0))(o:∀r d,ρ=.item r d->d<=(rhs P.R r).length->(r<y∨r=y/\d+1<Y)->(r<r0∨r=r0/\d+1<x0))(s:Sat P ty v a ρ):Sat (P.wi ⟨y,Y,U,f⟩) ty v a ρ:=by
 subst k ex j
 cases ρ
 case prod r=>exact{ s with a13:=λq=>s.a13 (J r rfl q) }
 case item r d=>exact{ s with pin:=s.pin.trans (V r d s.dk s.ex).1.symm,ex:=(V r d s.dk s.ex).2,a13:=λq=>s.a13 (o r d rfl s.dk q) }
 all_goals exact s
theorem Aft.keep{b:Nat}(h:Aft R t r d b)(k:Kn t Y):Aft R Y r d b:=by
 obtain⟨ρ,U,y⟩:=h
 refine⟨ρ,k U ?_,y⟩
 split at y
 ·split at y <;> (subst y;rfl)
 ·subst y;rfl
namespace W
variable{M:MT}{l a b:FB}{Q:Ap}{X:D1}{L:EN}
theorem Mq{q:Exc}(V:Ev L H U x)(k:Ev L H v y)(g:fS H x y=some (.error q))(r:X q ⟨H,L⟩):aj Y M (.asg t (.ix U v)::l) ⟨H,L⟩ Q X:=V _ _ _ _ (k _ _ _ _ ⟨.error q,g,r⟩)
theorem Jp{z:CV}{q:Exc}(k:Ev L H U x)(j:Ev L H v y)(J:Ev L H V z)(g:fS H y z=some (.error q))(r:X q ⟨H,L⟩):aj Y M (.asg t (.ix U (.ix v V))::l) ⟨H,L⟩ Q X:=k _ _ _ _ (j _ _ _ _ (J _ _ _ _ ⟨.error q,g,r⟩))
theorem HH{p i k:Nat}{y:B2}(V:L 3=some (.int i))(j:L 1=some (.ref p))(U:H.cls p=some 100)(J:H.att 3 p=some (.tup y))(o:y.length=k)(v:k<=100)(O:k<i->aj (calls fF mF (n+1)) M a ⟨H,L⟩ (bf (calls fF mF (n+1)) M l Q X) X)(f:i<=k->aj (calls fF mF (n+1)) M b ⟨H,L⟩ (bf (calls fF mF (n+1)) M l Q X) X) :
  aj (calls fF mF (n+1)) M (.ite (.cm .gt (.v 3) (.b1 .len (.v 1))) a b::l) ⟨H,L⟩ Q X:=by
 refine⟨_,V,_,j,?_⟩
 show JU (calls fF mF (n+1)) (.ref p) ⟨H,L⟩ _
 refine cast (ch U).symm ?_
 subst o
 refine A6 U J (ae v (aw rfl)) ⟨_,rfl,ax v (by decide),_,rfl,_,rfl,?_⟩
 by_cases h:y.length<i
 ·erw[ch (cn (hV.mpr h))];exact O h
 ·erw[ca λq=>h (hV.mp (a7 q))];exact f (Nat.le_of_not_lt h)
end W
theorem vY{l:Bi}{d:Nat}(Y:d<=l.length):((l.take d++rP::l.drop d).map CV.str)[d+1 ]?=l[d]?.map .str:=
 have y:(l.take d).length=d:=length_take_of_le Y
 eM.trans (ab (Option.map CV.str) ((getElem?_append_right (ae (bv y) (gN d))).trans ((ab ((rP::l.drop d)[·]?) ((ab (d+1 - ·) y).trans (Nat.add_sub_cancel_left ..))).trans getElem?_drop)))
theorem DV{l:Bi}{d j:Nat}(y:d<=l.length)(h:j<d):((l.take d++rP::l.drop d).map CV.str)[j]?=l[j]?.map .str:=
 eM.trans (ab (Option.map CV.str) ((fA (hN h (length_take_of_le y).symm)).trans (getElem?_take_of_lt h)))
theorem GF{i:Nat}{l:B2}(y:l[i]?=none)(Y:i<1000):fS H (.tup l) (.int i)=some (.error .index):=Jf (oY.trans y) ⟨Int.lt_of_lt_of_le (by decide) (hO i),hV.mpr Y⟩
theorem Jq(h:l≠[]):∃w,atI l (-1)=some w:=by
 cases l with
 | nil=>exact absurd rfl h
 | cons a t=>
  have e:(-1:Int)+((a::t).length:Nat)=(t.length:Nat):=(Int.add_comm _ _).trans (Int.add_sub_cancel (t.length:Int) 1)
  exact⟨_,(ca (by decide)).trans ((ch (fa (hO t.length) (Int.le_of_eq e.symm))).trans ((ab (λi:Int=>(a::t)[i.toNat]?) e).trans (bm (dq t.length))))⟩
theorem Ba{i:Nat}{L:EN}{Q:Ap}(N:Now H0 t0 P ty H)(G:GoodR P.R)(A:ty g=some .b7)(p:P.kn=P.R.length)(D:i<=(rhs P.R r).length)
(E:H0.free c)(v:ty c=some (.cK 135 f))(K:f 3=some (.tup (((rhs P.R r).take i++rP::(rhs P.R r).drop i).map .str)))(u:L 0=some (.ref g))(z:L 3=some (.int i))(t:L 5=some (.ref c))
(I:∀b ty' H',Now H0 t0 P ty' H'->ty' c=some (.cK 135 λj=>if j=27 then some (.ref b) else f j)->Kp c ty ty'->Aft P.R ty' r i b->aj V mF l ⟨H',L⟩ Q X) :
  aj V mF (.try [.asg (.at (.v 5) 27) (.ix (.at (.v 0) 18) (.ix (.at (.v 5) 3) (.op .add (.v 3) (.c (.int 1)))))] [.index,.key] [.asg (.at (.v 5) 27) (.li [])]::l) ⟨H,L⟩ Q X:=by
 have M:=N.T.gr A
 have Y:=vY D
 have U:Ev L H (.at (.v 0) 18) (.ref P.aPn):=.att (.v u) (N.T.gat A M.a18.1)
 have s:Ev L H (.at (.v 5) 3) (.tup (((rhs P.R r).take i++rP::(rhs P.R r).drop i).map .str)):=.att (.v t) (N.T.oat v rfl K)
 have d:Ev L H (.op .add (.v 3) (.c (.int 1))) (.int (i+1:Nat)):=.add (.v z) .c
 have nil:(∀ty' b,ty' b=some Role.vL->Aft P.R ty' r i b)->aj V mF [.asg (.at (.v 5) 27) (.li [])] ⟨H,L⟩ (bf V mF l Q X) FX:=λn=>
  W.HD N E v rfl t .nil λb t2 H2 N v J bF T k=>W.nil (by
   obtain⟨N,J,m⟩:=N.pro .vL bF J (N.T.L J)
   exact I b _ _ N (m _ _ (en T) v) (λa ρ F h=>m _ _ (k _ _ F h).2 (k _ _ F h).1) (n _ _ J))
 refine W.Jm ?_
 cases e:(rhs P.R r)[i]? with
 | none=>
  rw[e] at Y
  exact W.Jp U s d (GF Y (ax (et (ae D (G.ln r))) (aw rfl))) ⟨aM,nil λty' b h=>⟨_,h,by exact Eq.substr e rfl⟩⟩
 | some x=>
  rw[e] at Y
  have R:Ev L H (.ix (.at (.v 5) 3) (.op .add (.v 3) (.c (.int 1)))) (.str x):=.ix s d (oZ Y)
  have S:=aV x (G.sym r x (be e))
  obtain⟨_,es,o,Z,n3⟩:=N.T.sat _ _ M.a18.2
  have o:H.dct P.aPn=some es:=o
  by_cases O:x∈bz
  ·obtain⟨k,h1,h2,h3⟩:=G.has x O
   obtain⟨w,hw,hm⟩:=bh (h3▸n3 k h1 (p▸h2))
   obtain⟨y,_,C,b,e2,hb,_⟩:=Z.ks _ hm
   obtain rfl:=CV.str.inj C
   exact W.vO N E v rfl (.v t) (.ix U R (getD N.T o S (hw.trans (ab some e2)))) λt2 H2 N B k=>W.nil (I b _ _ N B k ⟨_,(k.nn v) hb,by erw[e];exact(ch O).mpr rfl⟩)
  ·refine W.Mq U R (HF N.T o S (b9.mpr λh=>?_)) ⟨bb _ aM,nil λty' b h=>⟨_,h,by erw[e];exact(ca O).mpr rfl⟩⟩
   obtain⟨q,hq,e⟩:=bo.mp h
   obtain⟨y,hy,C,_⟩:=Z.ks q hq
   exact O (CV.str.inj (e.symm.trans C)▸hy)
theorem x9{i:Nat}{L:EN}{Q:Ap}(N:Now H0 t0 P ty H)(J:i<=(rhs P.R r).length)
(p:H0.free c)(Y:ty c=some (.cK 135 f))(t:f 3=some (.tup (((rhs P.R r).take i++rP::(rhs P.R r).drop i).map .str)))(T:L 3=some (.int i))(o:L 5=some (.ref c))
(C:∀w ty' H',Now H0 t0 P ty' H'->ty' c=some (.cK 135 λj=>if j=28 then some w else f j)->Kp c ty ty'->(∀e x,i=e+1->(rhs P.R r)[e]?=some x->w=.str x)->aj V mF l ⟨H',L⟩ Q X) :
  aj V mF (.try [.asg (.at (.v 5) 28) (.ix (.at (.v 5) 3) (.op .sub (.v 3) (.c (.int 1))))] [.index] [.asg (.at (.v 5) 28) (.c .none)]::l) ⟨H,L⟩ Q X:=by
 have U:∃w,atI (((rhs P.R r).take i++rP::(rhs P.R r).drop i).map CV.str) ((i:Int) - 1)=some w/\(∀e x,i=e+1->(rhs P.R r)[e]?=some x->w=.str x):=by
  cases i with
  | zero=>exact(Jq λe=>cons_ne_nil _ _ (append_eq_nil_iff.mp (map_eq_nil_iff.mp e)).2).imp λw h=>⟨h,λe x q=>absurd q.symm (ml e)⟩
  | succ j=>
   obtain⟨y,O⟩:∃y,(rhs P.R r)[j]?=some y:=⟨_,bm J⟩
   exact⟨.str y,(ab (atI _) (Int.add_sub_cancel (j:Int) 1)).trans (oY.trans ((DV J (dq j)).trans (ab (Option.map CV.str) O))),λe x q h=>by
    obtain rfl:=Nat.succ.inj q
    exact ab CV.str (al (O.symm.trans h))⟩
 obtain⟨w,B,v⟩:=U
 exact W.Jm (W.vO N p Y rfl (.v o) (.ix (.att (.v o) (N.T.oat Y rfl t)) (.sub (.v T) .c) (DL B)) λa A N Y k=>W.nil (C w _ _ N Y k v))
structure BL(g p last i c4:Nat)(L:EN):Prop where
 l0:L 0=some (.ref g)
 l1:L 1=some (.ref p)
 l2:L 2=some (.ref last)
 l3:L 3=some (.int i)
 l4:L 4=some (.ref c4)
noncomputable def Ad(ty:TY)(p y r i:Nat):Prop:=(i=0/\y=p)∨∃j,i=j+1/\ty y=some (.item r j)
theorem DW{p i r:Nat}(N:Now H0 t0 P ty H)(J:P.li=r)(l:P.lx=i)(o:P.ly=i+1)(t:P.it=f)(T:ty p=some (.prod r))(O:Ad ty p U r i)(x:ty c=some (.item r i))(B:i<=(rhs P.R r).length) :
  (∃k,H.cls U=some k/\bu k=true)/\Now H0 t0 (P.wi ⟨r,i+1,i+1,f⟩) ty (H.bH 13 U (.ref c)):=by
 have C:∀{v:Ob} {a:Nat} {ρ:Role},(∀Y,ρ=.prod Y->i=0->Y≠r)->(∀Y d,ρ=.item Y d->d+1=i->Y≠r)->Sat P ty v a ρ->Sat (P.wi ⟨r,i+1,i+1,f⟩) ty v a ρ:=λ{v a ρ} q1 q2 s=>
  s.wi J l o (λY d V h=>⟨by exact Eq.substr t rfl,h⟩) (λY e q=>q.imp id λz=>⟨z.1,mr λh=>q1 Y e h z.1⟩) λY d e V q=>q.imp id λz=>⟨z.1,Nat.lt_of_le_of_ne (db z.2) λh=>q2 Y d e h z.1⟩
 rcases O with⟨rfl,rfl⟩ | ⟨j,rfl,O⟩
 ·have y:=N.T.pd T
  refine⟨⟨_,y.cls,rfl⟩,N.bH T (ak y.cls) (λa ρ L V s=>C (λY e V q=>?_) (λV V V q=>nomatch q) s) { y with a13:=λV=>⟨c,rfl,x⟩,a2:=y.a2,a3:=y.a3,a4:=y.a4,a8:=y.a8,a9:=y.a9,a11:=y.a11,a0:=y.a0,a1:=y.a1 }⟩
  subst e;subst q
  exact L (s.pr.trans y.pr.symm)
 ·have y:=N.T.it O
  refine⟨⟨_,y.cls,rfl⟩,N.bH O (ak y.cls) (λa ρ L V s=>C (λV V q=>nomatch q) (λY d e q q2=>?_) s) { y with pin:=y.pin.trans (by erw[t];rfl),ex:=o▸J▸y.ex,a13:=λV=>.inl ⟨B,c,rfl,x⟩,a2:=y.a2,a3:=y.a3,a4:=y.a4,a10:=y.a10,a11:=y.a11,a15:=y.a15,a27:=y.a27,a28:=y.a28 }⟩
  subst e;cases q;subst q2
  exact L (s.pin.trans y.pin.symm)
theorem Jr{p l i:Nat}{K:Ap}(N:Now H0 t0 P ty H)(G:GoodR P.R)(hg:ty g=some .b7)(M:ty p=some (.prod r))(hr:r<P.k)(R:P.kn=P.R.length)
(S:P.li=r)(X:P.lx=i)(Z:P.ly=i)(J:i<=(rhs P.R r).length)(hl:Ad ty p k r i)
(h4:ty l=some (.aq I))(u:H0.free l)(Q:I.length=i)(m:BL g p k i l L)
(hQ:∀c ty' H' L' f,Now H0 t0 (P.wi ⟨r,i+1,i+1,f⟩) ty' H'->ty' c=some (.item r i)->ty' l=some (.aq (I++[.ref c]))->Kp l ty ty'->BL g p c (i+1) l L'->K .next ⟨H',L'⟩) :
  aj (calls fF mF (n+1)) mF bS ⟨H,L⟩ K FX:=by
 have t:=N.T.pd M
 have Y:=G.ln r
 refine W.HH m.l3 m.l1 t.cls t.a3 (ba _) (ae Y (aw rfl)) (λq=>absurd J (Nat.not_le_of_gt q)) λU=>?_
 refine W.nw (.two (.v m.l1) (.v m.l3)) rfl λc e=>xX (d:=i) N.T e M (ae Y (aw rfl)) J λt1 H1 f b T O x F=>⟨rfl,?_⟩
 have cF:=N.live c e
 have y:∀a ρ,ty a=some ρ->t1 a=some ρ/\a≠c:=λa ρ h=>⟨T.get N.T h,N.T.ne h e⟩
 replace T:=N.call T
 clear N
 refine Ba T G (y _ _ hg).1 R J cF O F.f3 m.l0 m.l3 rfl λz0 t3 H3 N3 v k3 C=>?_
 refine x9 N3 J cF v F.f3 m.l3 rfl λw B H4 N4 V D hw=>W.nil ?_
 replace y:∀a ρ,ty a=some ρ->B a=some ρ/\a≠c:=λa ρ h=>⟨D _ _ (y _ _ h).2 (k3 _ _ (y _ _ h).2 (y _ _ h).1),(y _ _ h).2⟩
 replace C:=C.keep λ{U U} h o=>D _ _ (br h o v rfl) h
 replace x:=(D.nn v) ((k3.nn O) x)
 clear T N3 k3 D O v
 have E:Now H0 t0 (P.wi ⟨r,i,i+1,λr' d=>if r'=r/\d=i then c else P.it r' d⟩) B H4:=N4.par λa ρ U s=>s.wi S X Z (λr' d U h=>⟨ca λz=>h.elim (λh=>absurd z.1 (dr h)) λh=>absurd z.2 (dr h.2),h.imp id λh=>⟨h.1,im h.2⟩⟩) (λU U q=>q) λU U U U q=>q
 have A:=E.T.A V
 obtain⟨N6,O,k6⟩:=E.pro (.item r i) cF V ⟨(ch ⟨rfl,rfl⟩).symm,.inr ⟨rfl,dq i⟩,hr,J,E.T.C V,(A 2).trans F.f2,(A 3).trans F.f3,(A 4).trans F.f4,(A 10).trans F.f10,⟨b,(A 11).trans F.f11,x⟩,(A 15).trans F.f15,⟨z0,A 27,C⟩,⟨w,A 28,hw⟩,λq=>(show r<r∨r=r/\i+1<i from q).elim (λq=>absurd q (kv r)) λq=>absurd q.2 (Nat.not_lt_of_le (gN i))⟩
 replace y:∀a ρ,ty a=some ρ->upd B c (.item r i) a=some ρ/\a≠c:=λa ρ h=>⟨k6 _ _ (y _ _ h).2 (y _ _ h).1,(y _ _ h).2⟩
 clear N4 E k6 V A C x hw
 generalize upd B c (.item r i)=t6 at *
 obtain⟨⟨d,q1,q2⟩,N7⟩:=DW N6 rfl rfl rfl rfl (y _ _ M).1 (hl.imp id λh=>h.imp λj h=>⟨h.1,(y _ _ h.2).1⟩) O J
 refine W.bH (.v rfl) (.v m.l2) q1 q2 ?_
 refine W.fV (.nt (.v rfl) (DJ N7.T (N7.T.it O).cls rfl)) rfl (W.nil ?_)
 refine W.iI N7 u (y _ _ h4).1 (.v m.l4) (.v rfl) (by erw[Q];exact ax (ae J Y) (aw rfl)) λt8 H8 N8 g8 k8=>?_
 exact W.asg (.v rfl) (W.ir m.l3 .c (.inl rfl) (hQ c t8 H8 _ _ N8 (k8 _ _ (en (y _ _ h4).2) O) g8 (λa ρ ha h=>k8 _ _ ha (y _ _ h).1) ⟨m.l0,m.l1,rfl,rfl,m.l4⟩))
theorem GG{p i:Nat}{K:Ap}(N:Now H0 t0 P ty H)(G:GoodR P.R)(x:ty p=some (.prod r))(v:P.li=r)(f:P.lx=i)(V:P.ly=i)(k:i=(rhs P.R r).length+1)(O:Ad ty p Y r i)(m:BL g p Y i l L)
(C:∀H' t,Now H0 t0 (P.wi ⟨r,i+1,i,P.it⟩) ty H'->BL g p Y i l t->K .brk ⟨H',t⟩):aj (calls fF mF (n+1)) mF bS ⟨H,L⟩ K FX:=by
 have J:=N.T.pd x
 have o:=G.ln r
 refine W.HH m.l3 m.l1 J.cls J.a3 (ba _) (ae o (aw rfl)) (λU=>?_) λq=>absurd q (Nat.not_le_of_gt (k.symm▸dq _))
 refine W.asg .c (W.nil ?_)
 rcases O with⟨q,_⟩ | ⟨j,q,O⟩
 ·exact absurd (k.symm.trans q) (ml _)
 obtain rfl:j=(rhs P.R r).length:=Nat.succ.inj (q.symm.trans k)
 have y:=N.T.it O
 refine W.bH (.v rfl) (.v m.l2) y.cls rfl ?_
 refine W.gP (.nt (b:=false) (.v rfl) rfl) rfl (W.brk (C _ _ (N.bH O (ak y.cls) (λa ρ B U s=>s.wi v f V (λU U U h=>⟨rfl,h⟩) (λT U q=>q.imp id λz=>⟨z.1,k.symm▸ft _⟩) λT d e E q=>?_) { y with ex:=V▸v▸y.ex,a13:=λU=>.inr ⟨rfl,rfl⟩,a2:=y.a2,a3:=y.a3,a4:=y.a4,a10:=y.a10,a11:=y.a11,a15:=y.a15,a27:=y.a27,a28:=y.a28 }) ⟨m.l0,m.l1,m.l2,m.l3,m.l4⟩))
 subst e
 by_cases e:T=r/\d=(rhs P.R r).length
 ·obtain⟨A,D⟩:=e
  subst A;subst D
  exact absurd (s.pin.trans y.pin.symm) B
 ·exact q.imp id λz=>⟨z.1,Nat.lt_of_le_of_ne (db z.2) λh=>e ⟨z.1,Nat.succ.inj (h.trans k)⟩⟩
inductive LRI(P:Par)(H0:CH)(t0 ty:TY)(g p r c4:Nat)(k:Nat)(H':CH)(L:EN):Prop
 | mk (i:Nat) (f:Nat->Nat->Nat) (ty':TY) (last:Nat) (l4:B2) (e:k=(rhs P.R r).length+2 - i) (hi:i<=(rhs P.R r).length+1) (N:Now H0 t0 (P.wi ⟨r,i,i,f⟩) ty' H') (h4:ty' c4=some (.aq l4)) (hl:l4.length=i) (h:Ad ty' p last r i) (k:Ka ty ty') (m:BL g p last i c4 L)
inductive LRJ(P:Par)(H0:CH)(t0 ty:TY)(g:Nat)(i:Nat)(H':CH)(L:EN):Prop
 | mk (hi:i<=P.k) (l0:L 0=some (.ref g)) (f:Nat->Nat->Nat) (ty':TY) (N:Now H0 t0 (P.wi ⟨i,0,0,f⟩) ty' H') (k:Ka ty ty')
theorem Js{p:Nat}{L:EN}{K:Ap}(N:Now H0 t0 P ty H)(G:GoodR P.R)(u:ty g=some .b7)(J:ty p=some (.prod r))(z:r<P.k)(O:P.kn=P.R.length)
(l:P.li=r)(t:P.lx=0)(T:P.ly=0)(Q:L 0=some (.ref g))(D:L 1=some (.ref p))
(w:∀f ty' H' E,Now H0 t0 (P.wi ⟨r+1,0,0,f⟩) ty' H'->E 0=some (.ref g)->Ka ty ty'->K .next ⟨H',E⟩):aj (calls fF mF (n+1)) mF dM ⟨H,L⟩ K FX:=by
 refine W.asg (.v D) (W.asg .c (W.newL N .nil λb t1 H1 N1 h4 x I=>?_))
 have M:=G.ln r
 refine whl (J:=LRI P H0 t0 ty g p r b) _ ⟨0,P.it,t1,p,[],rfl,dd _,N1.par λa ρ y s=>s.wi l t T (λy y y h=>⟨rfl,h⟩) (λy y q=>q) λy y y y q=>q,h4,rfl,.inl ⟨rfl,rfl⟩,I.aa,Q,D,rfl,rfl,rfl⟩ ?_
 rintro k H2 L2 ⟨i,f,t2,F,l4,rfl,hi,R,C,V,S,v,m⟩
 refine⟨_,true,.c,rfl,ntf,λy K' X=>?_⟩
 by_cases U:i<=(rhs P.R r).length
 ·exact Jr (i:=i) R G (v _ _ u) (v _ _ J) z O rfl rfl rfl U S C x V m λc t3 H3 L3 f' o hc B k3 j=>X.nxt ⟨(rhs P.R r).length+2 - (i+1),Nat.sub_succ_lt_self _ _ (hX (Nat.le_succ_of_le U)),i+1,f',t3,c,_,rfl,et U,o,B,by(erw[bp];erw[V]);rfl,.inr ⟨i,rfl,hc⟩,λa ρ h=>k3 _ _ (I _ _ h).2 (v _ _ h),j⟩
 ·refine GG (i:=i) R G (v _ _ J) rfl rfl rfl (eD hi (Nat.lt_of_not_le U)) S m λH3 L3 o j=>X.brk ?_
  have Y:=o.T.pd (v _ _ J)
  refine W.bH (.v j.l4) (.v j.l1) Y.cls rfl (w f t2 _ _ (o.bH (v _ _ J) (ak Y.cls) (λa ρ ha y s=>Sat.wi (P:=P.wi ⟨r,i+1,i,f⟩) (r0:=r) (x0:=i+1) (y0:=i) rfl rfl rfl (λA d Z h=>⟨rfl,?_⟩) (λA y q=>?_) (λA d y Z q=>?_) s) { Y with a13:=λy=>Y.a13 (.inr ⟨rfl,ft i⟩),a2:=Y.a2,a3:=Y.a3,a4:=Y.a4,a8:=Y.a8,a9:=Y.a9,a11:=Y.a11,a0:=Y.a0,a1:=Y.a1 }) j.l0 v)
  ·exact .inl (h.elim im λh=>hX (bv h.1))
  ·exact q.elim (λq=>(hZ (db q)).imp id λe=>⟨e,ft i⟩) λq=>absurd q.2 (kv 0)
  ·exact q.elim (λq=>(hZ (db q)).imp id λe=>⟨e,Nat.succ_lt_succ (ax (e▸(show d<=(rhs P.R A).length from Z)) (Nat.lt_of_not_le U))⟩) λq=>absurd q.2 (ij _)
theorem fm{a:Nat}(T:Typed P ty H)(h:ty a=some .prods)(y:P.kq=P.k)(U:0<P.k)(Y:P.z=true):H.lst a=some ((range P.k).map λi=>CV.ref (P.pr i))/\∀i,i<P.k->ty (P.pr i)=some (.prod i):=by
 obtain⟨_,q1,q2⟩:=T.sat _ _ h
 refine⟨q1.trans (ab some ?_),λi v=>q2 i (y▸v) (.inl Y)⟩
 rw[Y,y,range_eq_range',show P.k=(P.k - 1)+1 from(hY U).symm,range'_succ];rfl
theorem DX(N:Now H0 t0 P ty H)(G:GoodR P.R)(k:ty g=some .b7)(C:P.k=P.R.length)(J:P.kq=P.k)(p:P.kn=P.R.length)(B:P.z=true)(l:P.li=0)(L:P.lx=0)(t:P.ly=0)
(D:∀f ty' H',Now H0 t0 (P.wi ⟨P.R.length,0,0,f⟩) ty' H'->Ka ty ty'->Q .none H'):calls fF mF (n+2) 280 [.ref g] H Q:=by
 refine cB [.ref g] (d:=bG) rfl rfl rfl rfl λS y v=>?_
 have o:=G.len
 have O:0<P.k:=cf (ft 3) (C.symm▸o.1)
 refine frL (ys:=range P.k) (f:=λi=>.ref (P.pr i)) (a:=P.aP) (I:=LRJ P H0 t0 ty g) (.att (.v rfl) (N.T.gat k (N.T.gr k).a17.1)) ⟨dd _,rfl,P.it,ty,N.par λa ρ y s=>s.wi l L t (λy y y h=>⟨rfl,h⟩) (λy y q=>q) λy y y y q=>q,λy y h=>h⟩ ?_ ?_ ?_
 ·rintro i T A ⟨_,_,f,x,Y,V⟩
  exact aD (fm (P:=P.wi ⟨i,0,0,f⟩) Y.T (Y.T.gr (V _ _ k)).a17.2 J O B).1
 ·rintro i j T A K E ⟨W,I,f,x,Y,V⟩ M
  obtain⟨U,e⟩:=a6.mp E
  rw[getElem_range] at e
  subst e
  rw[eh] at U
  exact Js Y G (V _ _ k) ((fm (P:=P.wi ⟨i,0,0,f⟩) Y.T (Y.T.gr (V _ _ k)).a17.2 J O B).2 i U) U p rfl rfl rfl I rfl λd m X Z r F R=>M.nxt ⟨U,F,d,m,r,V.t R⟩
 ·rintro T A ⟨_,_,f,x,Y,V⟩
  rw[eh] at Y
  exact v (D f x T (C▸Y) V)
end
noncomputable def Par.wf(P:Par)(F:PF):Par:={ P with toPF:=F }
noncomputable def Par.wo(P:Par)(F:PO):Par:={ P with toPO:=F }
noncomputable def cI{z:Type}(f:Str->z)(x:Str)(v:z):Str->z:=λy=>if y=x then v else f y
theorem fM{z:Type}{f:Str->z}{v:z}:cI f x v x=v:=ch rfl
theorem dw{z:Type}{f:Str->z}{v:z}(h:y≠x):cI f x v y=f y:=ca h
noncomputable def PF.new(F:PF)(x:Str)(b:Nat)(l:Bi):PF:={ F with fe:=false,af:=cI F.af x (some b),fc:=cI F.fc x l }
noncomputable abbrev Ee:=Str->List Str
noncomputable def PF.fcU(F:PF)(fc:Ee):PF:={ F with fc:=fc }
noncomputable def PO.new(F:PO)(x:Str)(b:Nat)(l:Bi):PO:={ F with ge:=false,ao:=cI F.ao x (some b),fo:=cI F.fo x l }
noncomputable def PO.foU(F:PO)(fo:Ee):PO:={ F with fo:=fo }
theorem rq{l:Bi}(h:l.Nodup)(z:∀x∈l,x∈laS):l.length<=5:=cj h z
noncomputable def mu(c:Ee):Nat:=(5 - (c sS).length)+(5 - (c sA).length)+(5 - (c sB).length)
theorem Ae{c:Ee}{x y:Str}(z:x∈bz)(h:(c x).length<5):mu (cI c x (c x++[y]))<mu c:=by
 simp only[bz,bt,cp,or_false] at z
 have Q:sS≠sA:=by decide
 have w:sS≠sB:=by decide
 have Y:sA≠sB:=by decide
 unfold mu
 rcases z with rfl | rfl | rfl
 ·(erw[fM];erw[dw (en Q)];erw[dw (en w)];erw[bp];erw[length_singleton]);lia
 ·(erw[fM];erw[dw Q];erw[dw (en Y)];erw[bp];erw[length_singleton]);lia
 ·(erw[fM];erw[dw w];erw[dw Y];erw[bp];erw[length_singleton]);lia
structure Dn(q q':Bool)(a b:Nat):Prop where
 le:b<=a
 lt:q'=true->q=true∨b<a
theorem Dn.r{q:Bool}:Dn q q a a:=⟨cr _,.inl⟩
theorem Dn.t{q:Bool}(h:Dn q Q a b)(k:Dn Q z b c):Dn q z a c:=
 ⟨ae k.le h.le,λe=>(k.lt e).elim (λe=>(h.lt e).imp id (ax k.le)) λe=>.inr (cf e h.le)⟩
section
variable{P y:Par}{ty t0 ty':TY}{H H' H0:CH}{n b c g:Nat}{Q:DD}{z w:Role}
structure RL(ty:TY)(c:Nat)(r:Bi):Prop where
 t:ty c=some (.aq (r.map .str))
 nd:r.Nodup
 la:∀y∈r,y∈laS
theorem DY{x:Str}(T:Typed P ty H)(V:ty g=some .b7)(k:P.ff=true)(j:x∈aH):∃b Y,H.dct P.aF=some Y/\au Y (.str x)=some (.ref b)/\ty b=some (.fst x)/\P.af x=some b/\H.lst b=some ((P.fc x).map .str)/\(P.fc x).Nodup/\∀y∈P.fc x,y∈laS:=by
 obtain⟨_,Y,J,o,_,O⟩:=T.sat _ _ (T.gr V).a22.2
 obtain⟨w,p,f⟩:=bh (O k x j)
 obtain⟨y,_,l,b,e,U,v⟩:=o.ks _ f
 obtain rfl:=CV.str.inj l
 exact⟨b,Y,J,p.trans (ab some e),U,v,(T.sat _ _ U).2 v⟩
theorem ya{x:Str}(T:Typed P ty H)(V:ty g=some .b7)(k:P.fz=true)(j:x∈bz):∃b Y,H.dct P.aFo=some Y/\au Y (.str x)=some (.ref b)/\ty b=some (.fol x)/\P.ao x=some b/\H.lst b=some ((P.fo x).map .str)/\(P.fo x).Nodup/\∀y∈P.fo x,y∈laS/\y≠jq:=by
 obtain⟨_,Y,J,o,_,O⟩:=T.sat _ _ (T.gr V).a23.2
 obtain⟨w,p,f⟩:=bh (O k x j)
 obtain⟨y,_,l,b,e,U,v⟩:=o.ks _ f
 obtain rfl:=CV.str.inj l
 exact⟨b,Y,J,p.trans (ab some e),U,v,(T.sat _ _ U).2 v⟩
theorem Jt:cH jq:=eu (by decide)
inductive FI2(P:Par)(H0:CH)(t0 ty:TY)(g c:Nat)(H':CH)(L':EN):Prop
 | mk (r:Bi) (ty':TY) (N:Now H0 t0 P ty' H') (k:Kp c ty ty') (h:RL ty' c r) (he:jq∉r) (l0:L' 0=some (.ref g)) (l2:L' 2=some (.ref c)) (q:Bool) (l4:L' 4=some (.bool q))
inductive FI1(P:Par)(H0:CH)(t0 ty:TY)(g c:Nat)(H':CH)(L':EN):Prop
 | mk (r:Bi) (ty':TY) (N:Now H0 t0 P ty' H') (k:Kp c ty ty') (h:RL ty' c r) (he:jq∉r) (l0:L' 0=some (.ref g)) (l2:L' 2=some (.ref c))
theorem DZ{x:Str}{L:EN}{K:Ap}(N:Now H0 t0 P ty H)(T:ty g=some .b7)(C:P.ff=true)(I:x∈aH)(M:RL ty c r)(B:H0.free c)(U:jq∉r)
(s:L 0=some (.ref g))(F:L 2=some (.ref c))(R:L 3=some (.str x))
(d:∀(m:Bi) ty' H' a f,Now H0 t0 P ty' H'->Kp c ty ty'->RL ty' c m->jq∉m->a 0=some (.ref g)->a 2=some (.ref c)->(f=.next∨f=.brk)->K f ⟨H',a⟩) :
  aj (calls fF mF n) mF gH ⟨H,L⟩ K FX:=by
 obtain⟨b,es,S,X,Z,G,f1,f2,u⟩:=DY N.T T C I
 refine W.asg .c ?_
 refine frL (ys:=P.fc x) (f:=.str) (I:=λO=>FI2 P H0 t0 ty g c) (.ix (.att (.v s) (N.T.gat T (N.T.gr T).a22.1)) (.v R) (getD N.T S (aV _ I) X)) ⟨r,ty,N,.r,M,U,s,F,false,rfl⟩ ?_ ?_ ?_
 ·rintro i p l ⟨r,J,v,V,Y,_⟩
  exact aD ((v.T.sat _ _ ((V.nn M.t) Z)).2 G).1
 ·rintro i y p l K A ⟨r,J,v,V,Y,U,o,k,q,t⟩ D
  have j:=u y (be A)
  refine W.j9 (.cm (.v rfl) .c (eqS (eu j) Jt)) (λO=>W.asg .c (W.nil (D.nxt ⟨r,J,v,V,Y,U,o,k,true,rfl⟩))) λz=>?_
  refine W.ux (.cm (.v rfl) (.v k) (oH (fQ (v.T.gL Y.t) (λy A=>eu (Y.la y A)) (eu j)))) (λQ=>?_) λO=>W.nil (W.nil (D.nxt ⟨r,J,v,V,Y,U,o,k,q,t⟩))
  refine W.iI v B Y.t (.v k) (.v rfl) (by erw[ba _];exact ax (rq Y.nd Y.la) (aw rfl)) λw H3 e E k3=>W.nil (W.nil (D.nxt ⟨r++[y],w,e,V.t k3,⟨by erw[ej];exact E,eO Y.nd Q,cO Y.la j⟩,λh=>(dC.mp h).elim U λh=>z (bc.mp h).symm,o,k,q,t⟩))
 ·rintro p l ⟨r,J,v,V,Y,U,o,k,q,t⟩
  exact W.ite (.v t) rfl (λO=>W.pass (W.nil (d r J p l .next v V Y U o k (.inl rfl)))) λO=>W.brk (d r J p l .brk v V Y U o k (.inr rfl))
theorem D0{l:Bi}(N:Now H0 t0 P ty H)(F:ty g=some .b7)(t:P.ff=true)(R:∀x∈l,x∈aH)
(D:∀c r ty' H',Now H0 t0 P ty' H'->Ka ty ty'->RL ty' c r->Q (.ref c) H'):calls fF mF (n+1) 258 [.ref g,.tup (l.map .str)] H Q:=by
 refine cB [.ref g,.tup (l.map .str)] (d:=eK) rfl rfl rfl rfl λb v S=>?_
 refine W.newL N .nil λc T e X Z E I=>?_
 have C:∀{J},Kp c T J->Ka ty J:=λV a z h=>V _ _ (I _ _ h).2 (I _ _ h).1
 refine frT (ys:=l) (f:=.str) (I:=λS=>FI1 P H0 t0 T g c) (.v rfl) ⟨[],T,X,.r,⟨Z,dt,aR⟩,cp,rfl,rfl⟩ ?_ ?_
 ·rintro i x G u K q ⟨r,J,B,V,Y,k,M,o⟩ s
  refine DZ B (C V _ _ F) t (R x (be q)) Y E k M o rfl λd O A L3 f p L U j w m y=>?_
  rcases y with rfl | rfl
  ·exact s.nxt ⟨d,O,p,V.t L,U,j,w,m⟩
  ·exact s.brk (W.ret (.v m) (v (D c d O A p (C (V.t L)) U)))
 ·rintro G u ⟨r,J,B,V,Y,k,M,o⟩
  exact W.iI B E Y.t (.v o) .c (by erw[ba _];exact ax (rq Y.nd Y.la) (aw rfl)) λO A p U L=>W.nil (W.ret (.v o) (v (D c (r++[jq]) O A p (C (V.t L)) ⟨by erw[ej];exact U,eO Y.nd k,cO Y.la (by decide)⟩)))
end
noncomputable def yb(H:CH)(a:Nat)(x:Str):Prop:=∃z,H.dct a=some z/\au z (.str x)≠none
section
variable{P w:Par}{ty t0 ty':TY}{H H' H0:CH}{n b c e g:Nat}{Q:DD}{z:Role}
theorem SD.put{j:Str->Option Nat}{x:Str}(h:SD ty D f (λy c=>j y=some c) Y)(o:x∈D)(k:Ka ty ty')(O:ty' b=some (f x)):SD ty' D f (λy c=>cI j x (some b) y=some c) (aW Y (.str x) (.ref b)):=by
 refine⟨λp J=>?_,dQ h.nd⟩
 have U:=bV J
 by_cases q:p=(.str x,.ref b)
 ·exact⟨x,o,by exact Eq.substr q rfl,b,by exact Eq.substr q rfl,O,fM⟩
 ·obtain⟨y,l,e,c,e2,L,t⟩:=h.ks p (U.resolve_right q)
  refine⟨y,l,e,c,e2,k _ _ L,(dw λT=>q ?_).trans t⟩
  subst T
  have V:au (aW Y (.str y) (.ref b)) (.str y)=some (.ref b):=by(erw[aQ];exact Eq.substr (ch rfl) rfl)
  exact my e ((λ{v w:CV} (V:(CV.str y,v)∈_) (C:(CV.str y,w)∈_)=>(Prod.mk.inj (nK (dQ h.nd) V C rfl)).2) (e▸J) (fj V))
set_option tactic.hygienic true in
theorem jJ(h:y=x∨au Y y≠none):au (aW Y x v) y≠none:=by
 erw[aQ]
 split
 ·exact cw _
 ·rename_i q;exact h.resolve_left λe=>q e.symm
namespace W
variable{U:PT}{M:MT}{Q:Ap}{L:EN}{r:Bi}
theorem Ju(N:Now H0 t0 P ty H)(C:ty g=some .b7)(B:L 0=some (.ref g))(h:Evs L H Y (r.map .str))(A:∀H,Ev L H k (.str x))(o:x∈eS::aH)(D:r.Nodup)(E:∀y∈r,y∈laS)(O:P.ff=false)
(z:∀b ty' H',Now H0 t0 (P.wf (P.toPF.new x b r)) ty' H'->Ka ty ty'->(∀y,y=x∨yb H P.aF y->yb H' P.aF y)->aj U M l ⟨H',L⟩ Q X):aj U M (.asg (.ix (.at (.v 0) 22) k) (.li Y)::l) ⟨H,L⟩ Q X:=by
 have j:=N.T.gr C
 obtain⟨p,I,V,f,w,c⟩:=N.T.sat _ _ j.a22.2
 have V:H.dct P.aF=some I:=V
 refine W.dL h B j.cls rfl j.a22.1 V A (xS x o) (ax f.len (aw rfl)) λb t=>?_
 refine N.GC (P':=P.wf (P.toPF.new x b r)) (G:=λH=>aj U M l ⟨H,L⟩ Q X) (.fst x) t j.a22.2 (ak V) (λa ρ d m s=>?_) (λi=>⟨cw _,λi=>(show _=some ((cI P.fc x r x).map _)/\(cI P.fc x r x).Nodup/\∀y∈cI P.fc x r x,y∈laS by erw[fM];exact⟨rfl,D,E⟩)⟩) (λT J=>⟨p,_,rfl,f.put o J.aa T,ff,λq=>?_⟩) λty' H' F T J R=>z b ty' H' F J.aa λy S=>⟨_,R,jJ (S.imp (ab _) λ⟨Z,q1,q2⟩=>al (V.symm.trans q1)▸q2)⟩
 ·by_cases q:∃y,ρ=.fst y
  ·obtain⟨y,rfl⟩:=q
   refine⟨s.1,λv=>?_⟩
   have v:cI P.af x (some b) y=some a:=v
   by_cases e:y=x
   ·subst e
    rw[fM] at v
    exact absurd (al v).symm (N.T.ne m t)
   ·rw[dw e] at v
    show _=some ((cI P.fc x r y).map _)/\(cI P.fc x r y).Nodup/\∀z∈cI P.fc x r y,z∈laS
    erw[dw e]
    exact s.2 v
  ·exact s.upF (λe=>by subst e;exact d (s.1.trans p.symm)) λy e=>q ⟨y,e⟩
 ·rw[show P.ff=true from q] at O;cases O
theorem Mr(N:Now H0 t0 P ty H)(C:ty g=some .b7)(B:L 0=some (.ref g))(h:Evs L H Y (r.map .str))(A:∀H,Ev L H k (.str x))(o:x∈bz)(D:r.Nodup)(E:∀y∈r,y∈laS/\y≠jq)(O:P.fz=false)
(z:∀b ty' H',Now H0 t0 (P.wo (P.toPO.new x b r)) ty' H'->Ka ty ty'->(∀y,y=x∨yb H P.aFo y->yb H' P.aFo y)->aj U M l ⟨H',L⟩ Q X):aj U M (.asg (.ix (.at (.v 0) 23) k) (.li Y)::l) ⟨H,L⟩ Q X:=by
 have j:=N.T.gr C
 obtain⟨p,I,V,f,w,c⟩:=N.T.sat _ _ j.a23.2
 have V:H.dct P.aFo=some I:=V
 refine W.dL h B j.cls rfl j.a23.1 V A (aV x (b6 o)) (ax f.len (aw rfl)) λb t=>?_
 refine N.GC (P':=P.wo (P.toPO.new x b r)) (G:=λH=>aj U M l ⟨H,L⟩ Q X) (.fol x) t j.a23.2 (ak V) (λa ρ d m s=>?_) (λi=>⟨cw _,λi=>(show _=some ((cI P.fo x r x).map _)/\(cI P.fo x r x).Nodup/\∀y∈cI P.fo x r x,y∈laS/\y≠jq by erw[fM];exact⟨rfl,D,E⟩)⟩) (λT J=>⟨p,_,rfl,f.put o J.aa T,ff,λq=>?_⟩) λty' H' F T J R=>z b ty' H' F J.aa λy S=>⟨_,R,jJ (S.imp (ab _) λ⟨Z,q1,q2⟩=>al (V.symm.trans q1)▸q2)⟩
 ·by_cases q:∃y,ρ=.fol y
  ·obtain⟨y,rfl⟩:=q
   refine⟨s.1,λv=>?_⟩
   have v:cI P.ao x (some b) y=some a:=v
   by_cases e:y=x
   ·subst e
    rw[fM] at v
    exact absurd (al v).symm (N.T.ne m t)
   ·rw[dw e] at v
    show _=some ((cI P.fo x r y).map _)/\(cI P.fo x r y).Nodup/\∀z∈cI P.fo x r y,z∈laS/\z≠jq
    erw[dw e]
    exact s.2 v
  ·exact s.upO (λe=>by subst e;exact d (s.1.trans p.symm)) λy e=>q ⟨y,e⟩
 ·rw[show P.fz=true from q] at O;cases O
theorem NP{m:Nat}{b:FB}(j:Ev L H o (.ref c))(J:H.cls c=some d)(O:bu d=true)(p:M d m=some f)(T:H.att m c=none)(h:Evs L H Y y)(r:U f (.ref c::y) H λv H'=>aj U M (.fr t (.val (.c v)) b V::l) ⟨H',L⟩ Q X):aj U M (.fr t (.val (.me o m Y)) b V::l) ⟨H,L⟩ Q X:=
 j _ _ _ _ ⟨c,d,f,rfl,J,O,p,T,h _ _ _ _ r⟩
theorem Jv{z:CV}{b:FB}(N:Now H0 t0 P ty H)(o:Ev L H V (.ref c))(O:Ev L H j y)(p:Ev L H J z)(g:H.getL c=some m)(f:cut m y z=some m')(r:∀c ty' H',Now H0 t0 P ty' H'->ty' c=some (.aq m')->H0.free c->K1 c ty ty'->aj U M (.fr t (.val (.c (.ref c))) b v::l) ⟨H',L⟩ Q X):aj U M (.fr t (.val (.sl V j J)) b v::l) ⟨H,L⟩ Q X:=
 o _ _ _ _ (O _ _ _ _ (p _ _ _ _ ⟨m,m',g,f,λc T=>N.nL (G:=λH=>aj U M (.fr t (.val (.c (.ref c))) b v::l) ⟨H,L⟩ Q X) T (r c)⟩))
end W
theorem Jw{y:Str}(N:Now H0 t0 P ty H)(V:ty b=some (.fst x))(k:P.af x=some b)(J:y∉P.fc x)(o:y∈laS) :
  Now H0 t0 (P.wf (P.toPF.fcU (cI P.fc x (P.fc x++[y])))) ty (H.aA b ((P.fc x).map .str++[.str y]))/\(P.fc x).length<5:=by
 obtain⟨O,p,f⟩:=(N.T.sat _ _ V).2 k
 have Y:=eO p J
 have U:=cO f o
 refine⟨N.aA V (ak (show H.lst b=_ from O)) (λa ρ v l s=>?_) ⟨cw _,λL=>?_⟩,?_⟩
 ·by_cases q:∃z,ρ=.fst z
  ·obtain⟨z,rfl⟩:=q
   refine⟨s.1,λj=>?_⟩
   have e:z≠x:=λe=>by subst e;exact absurd (al ((show P.af z=some a from j).symm.trans k)) v
   show _=some ((cI P.fc x _ z).map _)/\(cI P.fc x _ z).Nodup/\∀w∈cI P.fc x _ z,_
   erw[dw e]
   exact s.2 j
  ·by_cases q2:ρ=.qN
   ·subst q2;exact s
   ·exact s.upF q2 λy e=>q ⟨y,e⟩
 ·show _=some ((cI P.fc x _ x).map _)/\(cI P.fc x _ x).Nodup/\∀w∈cI P.fc x _ x,_
  erw[fM]
  exact⟨by erw[ej];rfl,Y,U⟩
 ·have:=rq Y U
  rw[bp] at this
  exact this
theorem Jx{y:Str}(N:Now H0 t0 P ty H)(V:ty b=some (.fol x))(k:P.ao x=some b)(J:y∉P.fo x)(o:y∈laS/\y≠jq) :
  Now H0 t0 (P.wo (P.toPO.foU (cI P.fo x (P.fo x++[y])))) ty (H.aA b ((P.fo x).map .str++[.str y]))/\(P.fo x).length<5:=by
 obtain⟨O,p,f⟩:=(N.T.sat _ _ V).2 k
 have Y:=eO p J
 have U:=cO f o
 refine⟨N.aA V (ak (show H.lst b=_ from O)) (λa ρ v L s=>?_) ⟨cw _,λt=>?_⟩,?_⟩
 ·by_cases q:∃z,ρ=.fol z
  ·obtain⟨z,rfl⟩:=q
   refine⟨s.1,λj=>?_⟩
   have e:z≠x:=λe=>by subst e;exact absurd (al ((show P.ao z=some a from j).symm.trans k)) v
   show _=some ((cI P.fo x _ z).map _)/\(cI P.fo x _ z).Nodup/\∀w∈cI P.fo x _ z,_
   erw[dw e]
   exact s.2 j
  ·by_cases q2:ρ=.qO
   ·subst q2;exact s
   ·exact s.upO q2 λy e=>q ⟨y,e⟩
 ·show _=some ((cI P.fo x _ x).map _)/\(cI P.fo x _ x).Nodup/\∀w∈cI P.fo x _ x,_
  erw[fM]
  exact⟨by erw[ej];rfl,Y,U⟩
 ·have:=rq Y λz l=>(U z l).1
  rw[bp] at this
  exact this
theorem rQ{D:Bi}{Y:At}(h:∀p∈Y,∃x∈D,p.1=.str x):∃U:List Str,Y.map (·.1)=U.map .str/\∀x∈U,x∈D:=by
 induction Y with
 | nil=>exact⟨[],rfl,aR⟩
 | cons p Y v=>
  obtain⟨U,e,V⟩:=v λq k=>h q (bb _ k)
  obtain⟨x,j,J⟩:=h p aM
  exact⟨x::U,by(erw[jp];erw[jp];erw[e];exact Eq.substr J rfl),λy o=>(bt.mp o).elim (λe=>e▸j) (V y)⟩
noncomputable def PA.nkU(A:PA)(y:Bi):PA:={ A with nk:=some y }
noncomputable def Par.wa(P:Par)(A:PA):Par:={ P with toPA:=A }
structure Nms(nk:Option (List Str))(ks:Bi):Prop where
 nk:nk=some ks
 sub:∀x∈ks,x∈bz
 all:∀x∈bz,x∈ks
theorem freeze(N:Now H0 t0 P ty H)(G:GoodR P.R)(f:ty g=some .b7)(V:P.kt=P.R.length):∃Y:List Str,Now H0 t0 (P.wa (P.toPA.nkU Y)) ty H/\Nms (some Y) Y:=by
 obtain⟨l,es,L,t,T,E⟩:=N.T.sat _ _ (N.T.gr f).a21.2
 obtain⟨Y,O,k⟩:=rQ (D:=bz) λp C=>(t.ks p C).imp λx h=>⟨h.1,h.2.1⟩
 refine⟨Y,N.par λa ρ I h=>?_,rfl,k,λx B=>?_⟩
 ·by_cases q:ρ=.iF
  ·subst q
   obtain⟨U,j,v,J,o,M⟩:=h
   cases(show H.dct a=some j from v).symm.trans ((U.trans l.symm)▸L)
   exact⟨U,es,v,J,o,λA D=>al D▸O⟩
  ·cases ρ
   case iF=>exact absurd rfl q
   case b7=>exact⟨h.1,h.2.cls,h.2.a17,h.2.a18,h.2.a19,h.2.a20,h.2.a21,h.2.a22,h.2.a23,h.2.a24,h.2.no⟩
   case table=>exact⟨h.1,h.2.cls,h.2.a29,h.2.a30,h.2.a31,h.2.a32,h.2.a34,h.2.a35,h.2.a36,h.2.a40,h.2.a41,h.2.no⟩
   all_goals exact h
 ·obtain⟨i,v,J,o⟩:=G.has x B
  have:=mw.mp (T i v (V▸J))
  rw[O,o] at this
  exact(bo.mp this).elim λy h=>CV.str.inj h.2▸h.1
structure CFL(g:Nat)(nm:Str)(q:Bool)(L:EN):Prop where
 l0:L 0=some (.ref g)
 l2:L 2=some (.str nm)
 l3:L 3=some (.bool q)
theorem Ms{nm y:Str}{q:Bool}{K:Ap}(N:Now H0 t0 P ty H)(V:ty g=some .b7)(k:P.ff=true)(Y:nm∈bz)(v:y∈laS)(m:CFL g nm q L)(j:L 5=some (.str y))
(J:∀O H' p f,Now H0 t0 (P.wf (P.toPF.fcU O)) ty H'->Dn q f (mu P.fc) (mu O)->CFL g nm f p->K .next ⟨H',p⟩):aj (calls fF mF n) mF dH ⟨H,L⟩ K FX:=by
 obtain⟨b,E,t,T,x,C,l,I,B⟩:=DY N.T V k (b6 Y)
 have o:Ev L H (.ix (.at (.v 0) 22) (.v 2)) (.ref b):=.ix (.att (.v m.l0) (N.T.gat V (N.T.gr V).a22.1)) (.v m.l2) (getD N.T t (aV _ (b6 Y)) T)
 refine W.ux (.cm (.v j) o (oH (fQ (aD l) (λy v=>eu (B y v)) (eu v)))) (λa=>?_) λA=>W.nil (J P.fc H L q N .r m)
 obtain⟨D,U⟩:=Jw N x C a v
 exact W.ap o l (.v j) (by erw[ba _];exact gd U (aw rfl)) (W.asg .c (W.nil (J _ _ _ true D ⟨cy (Ae Y U),λA=>.inr (Ae Y U)⟩ ⟨m.l0,m.l2,rfl⟩)))
inductive CF4(P:Par)(H0:CH)(t0 t1:TY)(q:Bool)(g:Nat)(nm:Str)(H':CH)(L:EN):Prop
 | mk (fc:Ee) (q':Bool) (N:Now H0 t0 (P.wf (P.toPF.fcU fc)) t1 H') (h:Dn q q' (mu P.fc) (mu fc)) (m:CFL g nm q' L)
theorem Mt{p:Nat}{nm:Str}{q:Bool}{K:Ap}(N:Now H0 t0 P ty H)(G:GoodR P.R)(k:ty g=some .b7)(U:P.ff=true)(j:nm∈bz)(t:ty p=some (.prod r))(m:CFL g nm q L)(E:L 4=some (.ref p))
(I:∀Y ty' H' T J,Now H0 t0 (P.wf (P.toPF.fcU Y)) ty' H'->Ka ty ty'->Dn q J (mu P.fc) (mu Y)->CFL g nm J T->K .next ⟨H',T⟩):aj (calls fF mF (n+1)) mF dI ⟨H,L⟩ K FX:=by
 have v:=N.T.gr k
 refine W.NP (.v m.l0) v.cls rfl rfl (v.no 44 (by decide)) (.one (.att (.v E) (N.T.pat t (N.T.pd t).a3))) (D0 N k U (G.sym r) λc l x Z M C B=>?_)
 refine frL (ys:=l) (f:=.str) (I:=λa=>CF4 P H0 t0 x q g nm) .c ⟨P.fc,q,M,.r,m⟩ (λi H L h=>h.casesOn λY J N a a=>N.T.gL B.t) ?_ λA D h=>h.casesOn λY q2 o O V=>I Y x A D q2 o C O V
 rintro i y A D K s ⟨Y,q2,o,O,V⟩ d
 exact Ms o (C _ _ k) U j (B.la y (be s)) ⟨V.l0,V.l2,V.l3⟩ rfl λf u z F R S X=>d.nxt ⟨f,F,R,O.t S,X⟩
inductive CF5(P:Par)(H0:CH)(t0 ty:TY)(q:Bool)(g:Nat)(nm:Str)(H':CH)(L:EN):Prop
 | mk (fc:Ee) (ty':TY) (q':Bool) (N:Now H0 t0 (P.wf (P.toPF.fcU fc)) ty' H') (k:Ka ty ty') (h:Dn q q' (mu P.fc) (mu fc)) (m:CFL g nm q' L)
theorem Mu{nm:Str}{q:Bool}{K:Ap}(N:Now H0 t0 P ty H)(G:GoodR P.R)(f:P.kn=P.R.length)(l:ty g=some .b7)(t:P.ff=true)(Y:nm∈bz)(m:CFL g nm q L)
(I:∀v ty' H' B a,Now H0 t0 (P.wf (P.toPF.fcU v)) ty' H'->Ka ty ty'->Dn q a (mu P.fc) (mu v)->CFL g nm a B->K .next ⟨H',B⟩):aj (calls fF mF (n+1)) mF dJ ⟨H,L⟩ K FX:=by
 have j:=N.T.gr l
 obtain⟨_,es,M,s,d⟩:=N.T.sat _ _ j.a18.2
 obtain⟨k,F,J,T⟩:=G.has nm Y
 obtain⟨w,R,S⟩:=bh (T▸d k F (f▸J))
 obtain⟨y,_,W,b,X,A,_⟩:=s.ks _ S
 obtain rfl:=CV.str.inj W
 refine frL (ys:=(range P.kn).filter λr=>decide (1<=r/\lhs P.R r=nm)) (f:=λi=>.ref (P.pr i)) (a:=b) (I:=λp=>CF5 P H0 t0 ty q g nm) (.ix (.att (.v m.l0) (N.T.gat l j.a18.1)) (.v m.l2) (getD N.T M (aV _ (b6 Y)) (R.trans (ab some X)))) ⟨P.fc,ty,q,N,λp p h=>h,.r,m⟩ (λi H L h=>h.casesOn λv x q2 V U p p=>aD (V.T.sat _ _ (U _ _ A)).2.1) ?_ λD E h=>h.casesOn λv x q2 V U J o=>I v x D E q2 V U J o
 rintro i r D E K Z ⟨v,x,q2,V,U,J,o⟩ u
 have O:=eJ.mp (be Z)
 exact Mt V G (U _ _ l) t Y ((V.T.sat _ _ (U _ _ A)).2.2.1 r (du.mp O.1) (a7 O.2).1) ⟨o.l0,o.l2,o.l3⟩ rfl λC z H3 L3 Q c e T m3=>u.nxt ⟨C,z,Q,c,U.t e,J.t T,m3⟩
theorem fR(T:Typed P ty H)(Y:ty g=some .b7)(U:P.nk=some ks):∃y,H.dct P.aN=some y/\y.map (·.1)=ks.map .str:=by
 obtain⟨_,y,v,_,_,V⟩:=T.sat _ _ (T.gr Y).a21.2
 exact⟨y,v,V ks U⟩
inductive CF6(P:Par)(H0:CH)(t0 ty:TY)(g:Nat)(H':CH)(L:EN):Prop
 | mk (fc:Ee) (ty':TY) (q':Bool) (N:Now H0 t0 (P.wf (P.toPF.fcU fc)) ty' H') (k:Ka ty ty') (h:Dn false q' (mu P.fc) (mu fc)) (l0:L 0=some (.ref g)) (l3:L 3=some (.bool q'))
theorem Mv{L:EN}{K:Ap}(N:Now H0 t0 P ty H)(G:GoodR P.R)(o:P.kn=P.R.length)(k:ty g=some .b7)(O:P.ff=true)(p:Nms P.nk ks)(B:L 0=some (.ref g))
(a:∀f y ty' H' A,Now H0 t0 (P.wf (P.toPF.fcU y)) ty' H'->Ka ty ty'->A 0=some (.ref g)->(f=.next/\mu y<mu P.fc∨f=.brk)->K f ⟨H',A⟩):aj (calls fF mF (n+1)) mF dK ⟨H,L⟩ K FX:=by
 obtain⟨F,D,_⟩:=fR N.T k p.nk
 refine W.asg .c (frK (ks:=ks) (a:=P.aN) (I:=λU=>CF6 P H0 t0 ty g) (.att (.v B) (N.T.gat k (N.T.gr k).a21.1)) (N.T.dg D) ⟨P.fc,ty,false,N,λU U h=>h,.r,B,rfl⟩ (λi H L h=>h.casesOn λy j q2 v Y U U U=>fR (P:=P.wf (P.toPF.fcU y)) v.T (Y _ _ k) p.nk) ?_ ?_)
 ·rintro i x l t K E ⟨y,j,q2,v,Y,T,J,V⟩ I
  exact Mu v G o (Y _ _ k) O (p.sub x (be E)) ⟨J,rfl,V⟩ λC M R S s d m r V=>I.nxt ⟨C,M,s,d,Y.t m,T.t r,V.l0,V.l3⟩
 ·rintro l t ⟨y,j,q2,v,Y,T,J,V⟩
  refine W.nil (W.ite (.nt (.v V) rfl) rfl (λU=>W.brk (a .brk y j l t v Y J (.inr rfl))) λe=>W.nil (a .next y j l t v Y J (.inl ⟨rfl,(T.lt ?_).resolve_left ff⟩)))
  cases q2
  ·cases e
  ·rfl
inductive CFA(P:Par)(H0:CH)(t0 ty:TY)(g:Nat)(X:Str->Prop)(H':CH)(L:EN):Prop
 | mk (af:Str->Option Nat) (fc:Ee) (ty':TY) (N:Now H0 t0 (P.wf ⟨false,false,af,fc⟩) ty' H') (k:Ka ty ty') (l0:L 0=some (.ref g)) (h:∀x,X x->yb H' P.aF x)
inductive CFW(P:Par)(H0:CH)(t0 ty:TY)(g:Nat)(af:Str->Option Nat)(k:Nat)(H':CH)(L:EN):Prop
 | mk (fc:Ee) (ty':TY) (N:Now H0 t0 (P.wf ⟨false,true,af,fc⟩) ty' H') (h:Ka ty ty') (l0:L 0=some (.ref g)) (e:k=mu fc)
theorem ru(N:Now H0 t0 P ty H)(G:GoodR P.R)(Z:P.kn=P.R.length)(U:ty g=some .b7)(u:P.fe=true)(z3:P.ff=false)(M:Nms P.nk ks)
(hQ:∀v V ty' H' r,Now H0 t0 (P.wf ⟨false,true,v,V⟩) ty' H'->Ka ty ty'->Q r H'):calls fF mF (n+2) 265 [.ref g] H Q:=by
 refine cB [.ref g] (d:=bE) rfl rfl rfl rfl λFQ s j=>?_
 have J:=N.T.gr U
 obtain⟨z,m,w,a2,a4,a5⟩:=N.T.sat _ _ J.a22.2
 have w:H.dct P.aF=some m:=w
 obtain rfl:m=[]:=a4 u
 refine W.fV (.att (.v rfl) (N.T.gat U J.a22.1)) (qV N.T w) (W.nil ?_)
 have N0:Now H0 t0 (P.wf ⟨false,false,P.af,P.fc⟩) ty H:=N.par λa ρ hr h=>by
  by_cases q:ρ=.qN
  ·subst q;exact h.imp id λh=>h.imp λF h=>⟨h.1,h.2.1,ff,ff⟩
  ·by_cases q2:∃x,ρ=.fst x
   ·obtain⟨x,rfl⟩:=q2;exact h
   ·exact h.upF q λx e=>q2 ⟨x,e⟩
 obtain⟨z4,b1,b2,_⟩:=N.T.sat _ _ J.a20.2
 refine frK (ks:=dS) (a:=P.aT) (I:=λi=>CFA P H0 t0 ty g (·∈dS.take i)) (.att (.v rfl) (N.T.gat U J.a20.1)) (N.T.dg b1) ⟨P.af,P.fc,ty,N0,λj j h=>h,rfl,aR⟩ (λi H L h=>h.casesOn λv V c l t j j=>(l.T.sat _ _ (l.T.gr (t _ _ U)).a20.2).imp λF d=>⟨d.1,d.2.1⟩) ?_ ?_
 ·rintro i x H2 L2 K T ⟨v,V,c,l,t,o,p⟩ E
  have R:=be T
  refine W.Ju (r:=[x]) l (t _ _ U) o (.one (.v rfl)) (λj=>.v rfl) (bb _ (DH R)) (fb _ _) (λy Y=>bc.mp Y▸zX R) rfl λb t3 H3 B C O=>E.nxt ⟨_,_,t3,B,t.t C,o,λy Y=>?_⟩
  rw[eI,T] at Y
  exact(dC.mp Y).elim (λY=>O y (.inr (p y Y))) λY=>O y (.inl (bc.mp Y))
 rintro H2 L2 ⟨v,V,c,l,t,o,p⟩
 refine W.nil (W.Ju (r:=[eS]) l (t _ _ U) o (.one .c) (λj=>.c) aM (fb _ _) (λy Y=>bc.mp Y▸(by decide)) rfl λb t3 H3 B C O=>?_)
 replace C:=t.t C
 have z0:∀x∈dS,yb H3 P.aF x:=λx T=>O x (.inr (p x T))
 clear N N0 l p O J
 obtain⟨F,e1,_⟩:=fR (P:=P.wf _) B.T (C _ _ U) M.nk
 refine frK (ks:=ks) (a:=P.aN) (I:=λi=>CFA P H0 t0 ty g λx=>x∈dS∨x∈ks.take i) (.att (.v o) (B.T.gat (C _ _ U) (B.T.gr (C _ _ U)).a21.1)) (B.T.dg e1) ⟨_,_,t3,B,C,o,λx h=>h.elim (z0 x) nme⟩ (λi H L h=>h.casesOn λv V c l t j j=>fR (P:=P.wf ⟨false,false,v,V⟩) l.T (t _ _ U) M.nk) ?_ ?_
 ·rintro i x H4 L4 K T ⟨v,V,t4,N4,S,o,p⟩ E
  refine W.Ju (r:=[]) N4 (S _ _ U) o .nil (λj=>.v rfl) (bb _ (b6 (M.sub x (be T)))) dt aR rfl λb t5 H5 N5 k5 A=>E.nxt ⟨_,_,t5,N5,S.t k5,o,λy Y=>?_⟩
  rw[eI,T] at Y
  exact Y.elim (λY=>A y (.inr (p y (.inl Y)))) λY=>(dC.mp Y).elim (λY=>A y (.inr (p y (.inr Y)))) λY=>A y (.inl (bc.mp Y))
 rintro H4 L4 ⟨v,V,t4,N4,S,o,p⟩
 rw[fI] at p
 have N5:Now H0 t0 (P.wf ⟨false,true,v,V⟩) t4 H4:=N4.par λa ρ hr h=>by
  by_cases q:ρ=.qN
  ·subst q
   obtain⟨z,F,h1,h2,h3,_⟩:=h
   refine⟨z,F,h1,h2,h3,λj x T=>?_⟩
   obtain⟨z5,q1,q2⟩:=p x ((xT T).imp id (M.all x))
   exact al (q1.symm.trans (z▸(show H4.dct a=some F from h1)))▸q2
  ·by_cases q2:∃x,ρ=.fst x
   ·obtain⟨x,rfl⟩:=q2;exact h
   ·exact Sat.upF (P:=P.wf ⟨false,false,v,V⟩) (F:=⟨false,true,v,V⟩) q (λx e=>q2 ⟨x,e⟩) h
 refine W.nil (whl (J:=CFW P H0 t0 ty g v) _ ⟨V,t4,N5,S,o,rfl⟩ ?_)
 rintro k H6 L6 ⟨z1,t6,N6,k6,m6,rfl⟩
 refine⟨_,true,.c,rfl,ntf,λj K E=>Mv (P:=P.wf ⟨false,true,v,z1⟩) N6 G Z (k6 _ _ U) rfl M m6 λf D t7 H7 L7 X I m7 hf=>?_⟩
 rcases hf with⟨rfl,z2⟩ | rfl
 ·exact E.nxt ⟨mu D,z2,D,t7,X,k6.t I,m7,rfl⟩
 ·have I:=k6.t I
  exact E.brk (W.ret (.att (.v m7) (X.T.gat (I _ _ U) (X.T.gr (I _ _ U)).a22.1)) (s (hQ v D t7 H7 _ X I)))
structure FLL(g p i:Nat)(B:Str)(q:Bool)(L:EN):Prop where
 l0:L 0=some (.ref g)
 l3:L 3=some (.bool q)
 l4:L 4=some (.ref p)
 l5:L 5=some (.int i)
 l6:L 6=some (.str B)
theorem D3{B y:Str}{q:Bool}{K:Ap}(N:Now H0 t0 P ty H)(k:ty g=some .b7)(j:P.fz=true)(U:B∈bz)(v:y∈laS)(J:y≠jq)(m:FLL g p i B q L)(l:L 9=some (.str y)) :
  ∃b,Ev L H (.ix (.at (.v 0) 23) (.v 6)) (.ref b)/\bO H .d8 (.str y) (.ref b)=some (!decide (y∈P.fo B))/\((∀O H' V,Now H0 t0 (P.wo (P.toPO.foU O)) ty H'->Dn q V (mu P.fo) (mu O)->(∀z,z≠B->O z=P.fo z)->FLL g p i B V (upd L 3 (.bool V))->aj (calls fF mF n) mF [] ⟨H',upd L 3 (.bool V)⟩ K FX)->y∉P.fo B->
   aj (calls fF mF n) mF [.ex (.ap (.ix (.at (.v 0) 23) (.v 6)) (.v 9)),.asg (.n 3) (.c (.bool true))] ⟨H,L⟩ K FX):=by
 obtain⟨b,M,t,T,x,C,f,h,a⟩:=ya N.T k j U
 have o:Ev L H (.ix (.at (.v 0) 23) (.v 6)) (.ref b):=.ix (.att (.v m.l0) (N.T.gat k (N.T.gr k).a23.1)) (.v m.l6) (getD N.T t (aV _ (b6 U)) T)
 refine⟨b,o,oH (fQ (aD f) (λy v=>eu (a y v).1) (eu v)),λA D=>?_⟩
 obtain⟨E,Y⟩:=Jx N x C D ⟨v,J⟩
 exact W.ap o f (.v l) (by erw[ba _];exact gd Y (aw rfl)) (W.asg .c (A _ _ true E ⟨cy (Ae U Y),λs=>.inr (Ae U Y)⟩ (λz I=>dw I) ⟨m.l0,rfl,m.l4,m.l5,m.l6⟩))
theorem Mw{B y:Str}{q:Bool}{K:Ap}(N:Now H0 t0 P ty H)(l:ty g=some .b7)(v:P.fz=true)(t:B∈bz)(T:y∈laS)(V:y≠jq)(m:FLL g p i B q L)(k:L 9=some (.str y))
(j:∀Y H' J U,Now H0 t0 (P.wo (P.toPO.foU Y)) ty H'->Dn q U (mu P.fo) (mu Y)->(∀z,(z=B->y∈P.fo B)->Y z=P.fo z)->FLL g p i B U J->K .next ⟨H',J⟩):aj (calls fF mF n) mF bN ⟨H,L⟩ K FX:=by
 obtain⟨b,o,x,C⟩:=D3 (n:=n) (K:=bf (calls fF mF n) mF [] K FX) N l v t T V m k
 exact W.ux (.cm (.v k) o x) (λO=>C (λY H' U a d A D=>W.nil (j Y H' _ U a d (λz e=>A z λq=>O (e q)) D)) O) λf=>W.nil (j P.fo H L q N .r (λf f=>rfl) m)
theorem Mx{B y:Str}{q e:Bool}{K:Ap}(N:Now H0 t0 P ty H)(a:ty g=some .b7)(l:P.fz=true)(A:B∈bz)(t:y∈laS)(m:FLL g p i B q L)(J:L 8=some (.bool e))(V:L 9=some (.str y))
(T:∀Y H' U v D,Now H0 t0 (P.wo (P.toPO.foU Y)) ty H'->Dn q v (mu P.fo) (mu Y)->FLL g p i B v U->U 8=some (.bool D)->K .next ⟨H',U⟩):aj (calls fF mF n) mF cZ ⟨H,L⟩ K FX:=by
 have k:∀{H':CH} {U:EN} {Y:Ee} {v:Bool},Now H0 t0 (P.wo (P.toPO.foU Y)) ty H'->Dn q v (mu P.fo) (mu Y)->FLL g p i B v U->U 8=some (.bool e)->U 9=some (.str y)->
   aj (calls fF mF n) mF [.ite (.cm .eq (.v 9) (.c (.str (u 99360369208828)))) [.asg (.n 8) (.c (.bool true))] []] ⟨H',U⟩ K FX:=λ{H' U Y v} x O m J V=>
  W.j9 (.cm (.v V) .c (eqS (eu t) Jt)) (λC=>W.asg .c (W.nil (T Y H' _ v true x O ⟨m.l0,m.l3,m.l4,m.l5,m.l6⟩ rfl))) λC=>W.nil (T Y H' _ v e x O m J)
 have f:Ev L H (.cm .ne (.v 9) (.c (.str (u 99360369208828)))) (.bool (!decide (y=jq))):=.cm (.v V) .c (neV (eqS (eu t) Jt))
 by_cases j:y=jq
 ·rw[cn j] at f
  exact W.fV (.anF f rfl) rfl (W.nil (k N .r m J V))
 ·obtain⟨b,o,E,O⟩:=D3 (n:=n) (K:=bf (calls fF mF n) mF _ K FX) N a l A t j m V
  rw[dT j] at f
  exact W.ux (.anT f rfl (.cm (.v V) o E)) (λI=>O (λY H' v M d s h=>W.nil (k M d h J V)) I) λC=>W.nil (k N .r m J V)
inductive FLA(P:Par)(H0:CH)(t0 t1:TY)(q:Bool)(g p i:Nat)(B:Str)(H':CH)(L:EN):Prop
 | mk (fo:Ee) (q' e:Bool) (N:Now H0 t0 (P.wo (P.toPO.foU fo)) t1 H') (h:Dn q q' (mu P.fo) (mu fo)) (m:FLL g p i B q' L) (l8:L 8=some (.bool e))
inductive FLB(P:Par)(H0:CH)(t0 t1:TY)(q:Bool)(g p i:Nat)(B:Str)(x:Str)(l:Bi)(H':CH)(L:EN):Prop
 | mk (fo:Ee) (q':Bool) (N:Now H0 t0 (P.wo (P.toPO.foU fo)) t1 H') (e:fo x=l) (h:Dn q q' (mu P.fo) (mu fo)) (m:FLL g p i B q' L)
theorem My{p i:Nat}{q:Bool}{K:Ap}(N:Now H0 t0 P ty H)(G:GoodR P.R)(A:ty g=some .b7)(z:P.ff=true)(t:P.fz=true)(Q:Nms P.nk ks)(w:ty p=some (.prod r))(z0:1<=r)(z1:r<P.R.length)(hi:(rhs P.R r)[i]?=some B)(m:FLL g p i B q L)
(hQ:∀k ty' H' L' q',Now H0 t0 (P.wo (P.toPO.foU k)) ty' H'->Ka ty ty'->Dn q q' (mu P.fo) (mu k)->FLL g p i B q' L'->K .next ⟨H',L'⟩):aj (calls fF mF (n+1)) mF dh ⟨H,L⟩ K FX:=by
 have T:=N.T.gr A
 have hB:=G.sym r B (be hi)
 have z2:i<(rhs P.R r).length:=(a6.mp hi).1
 have D:=G.ln r
 obtain⟨es,e1,E⟩:=fR N.T A Q.nk
 have I:au es (.str B)≠none↔B∈bz:=by
  (rewrite[mw];erw[E])
  exact⟨λh=>(bo.mp h).elim λy h=>Q.sub B (CV.str.inj h.2▸h.1),λh=>dp (Q.all B h)⟩
 refine W.ite (.cm (.v m.l6) (.att (.v m.l0) (N.T.gat A T.a21.1)) (inD N.T e1 (aV _ hB))) rfl (λhs=>?_) λv=>W.nil (hQ P.fo ty H L q N (λv v h=>h) .r m)
 have M:B∈bz:=I.mp λe=>by rw[e] at hs;cases hs
 refine W.me (.v m.l0) T.cls rfl rfl (T.no 44 (by decide)) (.one (.slT (i+1) (.att (.v m.l4) (N.T.pat w (N.T.pd w).a3)) (.add (.v m.l5) .c) .c (ft i) (by erw[ba _];exact z2))) ?_
 erw[ip map_drop]
 refine D0 N A z (λx hx=>G.sym r x (mem_of_mem_drop hx)) λc l S H1 N1 X hc=>W.asg .c ?_
 have V:=X _ _ A
 refine frL (ys:=l) (f:=.str) (I:=λv=>FLA P H0 t0 S q g p i B) (.v rfl) ⟨P.fo,q,false,N1,.r,⟨m.l0,m.l3,m.l4,m.l5,m.l6⟩,rfl⟩ (λj H L h=>h.casesOn λk q2 E Y v v v=>Y.T.gL hc.t) ?_ ?_
 ·rintro j y H2 L2 K hy ⟨k,q2,E,Y,Z,U,u⟩ hK
  exact Mx Y V t M (hc.la y (be hy)) ⟨U.l0,U.l3,U.l4,U.l5,U.l6⟩ u rfl λz3 H3 L3 s e3 C d J j8=>hK.nxt ⟨z3,s,e3,C,Z.t d,J,j8⟩
 rintro H2 L2 ⟨k,q2,E,Y,Z,U,u⟩
 have o:=X _ _ w
 have f:aj (calls fF mF (n+1)) mF [.fr (.n 9) (.val (.ix (.at (.v 0) 23) (.at (.v 4) 2))) bN []] ⟨H2,L2⟩ (bf (calls fF mF (n+1)) mF [] (bf (calls fF mF (n+1)) mF [] K FX) FX) FX:=by
  have F:=G.nm r z0 z1
  obtain⟨b,es,d1,d2,d3,d4,d5,d6,d7⟩:=ya (P:=P.wo (P.toPO.foU k)) Y.T V t F
  refine frL (ys:=k (lhs P.R r)) (f:=.str) (I:=λv=>FLB P H0 t0 S q g p i B (lhs P.R r) (k (lhs P.R r))) (.ix (.att (.v U.l0) (Y.T.gat V (Y.T.gr V).a23.1)) (.att (.v U.l4) (Y.T.pat o (Y.T.pd o).a2)) (getD Y.T d1 (aV _ (b6 F)) d2)) ⟨k,q2,Y,rfl,Z,U⟩ (λj H L h=>h.casesOn λO s C R v v=>R▸aD ((C.T.sat _ _ d3).2 d4).1) ?_ λH3 L3 h=>h.casesOn λO s C R d J=>W.nil (W.nil (W.nil (hQ O S H3 L3 s C X d J)))
  rintro j y H3 L3 K hy ⟨O,s,C,R,d,J⟩ hK
  have a:=be hy
  exact Mw C V t M (d7 y a).1 (d7 y a).2 ⟨J.l0,J.l3,J.l4,J.l5,J.l6⟩ rfl λz4 H4 L4 q4 N4 h4 hz m4=>hK.nxt ⟨z4,q4,N4,(hz _ λe=>(show y∈O B from e▸R.symm▸a)).trans R,d.t h4,m4⟩
 refine W.nil ?_
 cases E with
 | true=>exact W.gP (.orT (.v u) rfl) rfl f
 | false=>exact W.j9 (.orF (.v u) rfl (.cm (.v U.l5) (.sub (.Dz (.att (.v U.l4) (Y.T.pat o (Y.T.pd o).a3)) (jI (ae D (aw (m:=20) rfl)))) .c) eqI)) (λv=>f) λv=>W.nil (W.nil (hQ k S H2 L2 q2 Y X Z U))
inductive FLC(P:Par)(H0:CH)(t0 ty:TY)(q:Bool)(g p:Nat)(H':CH)(L:EN):Prop
 | mk (fo:Ee) (ty':TY) (q':Bool) (N:Now H0 t0 (P.wo (P.toPO.foU fo)) ty' H') (k:Ka ty ty') (h:Dn q q' (mu P.fo) (mu fo)) (l0:L 0=some (.ref g)) (l3:L 3=some (.bool q')) (l4:L 4=some (.ref p))
theorem Mz{p:Nat}{L:EN}{q:Bool}{K:Ap}(N:Now H0 t0 P ty H)(G:GoodR P.R)(I:ty g=some .b7)(U:P.ff=true)(v:P.fz=true)(M:Nms P.nk E)(V:ty p=some (.prod r))(k:1<=r)(j:r<P.R.length)(s:L 0=some (.ref g))(d:L 3=some (.bool q))(x:L 4=some (.ref p))
(F:∀y ty' H' J C,Now H0 t0 (P.wo (P.toPO.foU y)) ty' H'->Ka ty ty'->Dn q C (mu P.fo) (mu y)->J 0=some (.ref g)->J 3=some (.bool C)->K .next ⟨H',J⟩):aj (calls fF mF (n+1)) mF di ⟨H,L⟩ K FX:=by
 refine Mc (ys:=rhs P.R r) (f:=.str) (I:=λo=>FLC P H0 t0 ty q g p) (.att (.v x) (N.T.pat V (N.T.pd V).a3)) ⟨P.fo,ty,q,N,λo o h=>h,.r,s,d,x⟩ ?_ λa A h=>h.casesOn λy D q2 O Y f l t o=>F y D a A q2 O Y f l t
 rintro i B a A K R ⟨y,D,q2,O,Y,f,l,t,S⟩ W
 exact My (i:=i) (B:=B) (p:=p) O G (Y _ _ I) U v M (Y _ _ V) k j R ⟨l,t,S,rfl,rfl⟩ λT X w c Z u z Q m=>W.nxt ⟨T,X,Z,u,Y.t z,f.t Q,m.l0,m.l3,m.l4⟩
inductive FLD(P:Par)(H0:CH)(t0 ty:TY)(q:Bool)(g:Nat)(H':CH)(L:EN):Prop
 | mk (fo:Ee) (ty':TY) (q':Bool) (N:Now H0 t0 (P.wo (P.toPO.foU fo)) ty' H') (k:Ka ty ty') (h:Dn q q' (mu P.fo) (mu fo)) (l0:L 0=some (.ref g)) (l3:L 3=some (.bool q'))
theorem MA{L:EN}{K:Ap}(N:Now H0 t0 P ty H)(G:GoodR P.R)(p:ty g=some .b7)(l:P.ff=true)(t:P.fz=true)(m:Nms P.nk ks)(k:P.k=P.R.length)(T:P.kq=P.k)(F:P.z=true)(D:L 0=some (.ref g))
(E:∀f Y ty' H' I,Now H0 t0 (P.wo (P.toPO.foU Y)) ty' H'->Ka ty ty'->I 0=some (.ref g)->(f=.next/\mu Y<mu P.fo∨f=.brk)->K f ⟨H',I⟩):aj (calls fF mF (n+1)) mF dj ⟨H,L⟩ K FX:=by
 have j:=N.T.gr p
 have M:=G.len
 obtain⟨R,S⟩:=fm N.T j.a17.2 T (k.symm▸G.pos) F
 refine W.asg .c (W.Jv (m':=((range P.k).drop 1).map λi=>CV.ref (P.pr i)) N (.att (.v D) (N.T.gat p j.a17.1)) .c .c (aD R) (by erw[map_drop];exact ND) λc s H1 X Z U J=>?_)
 refine frL (ys:=(range P.k).drop 1) (f:=λi=>.ref (P.pr i)) (I:=λU=>FLD P H0 t0 s false g) .c ⟨P.fo,s,false,X,λU U h=>h,.r,D,rfl⟩ (λi H L h=>h.casesOn λY o q2 V y U U U=>V.T.gL (y _ _ Z)) ?_ ?_
 ·rintro i r x C K d ⟨Y,o,q2,V,y,B,O,a⟩ u
  rw[getElem?_drop] at d
  obtain⟨v,e⟩:=a6.mp d
  rw[getElem_range] at e
  rw[eh] at v
  subst e
  exact Mz (r:=1+i) V G (y _ _ (J _ _ p).1) l t m (y _ _ (J _ _ (S _ v)).1) (dE _ _) (show 1+i<P.R.length from k▸v) O a rfl λA q H3 L3 z Q w b j0 j3=>u.nxt ⟨A,q,z,Q,y.t w,B.t b,j0,j3⟩
 ·rintro x C ⟨Y,o,q2,V,y,B,O,a⟩
  refine W.nil (W.ite (.nt (.v a) rfl) rfl (λU=>W.brk (E .brk Y o x C V (J.aa.t y) O (.inr rfl))) λe=>W.nil (E .next Y o x C V (J.aa.t y) O (.inl ⟨rfl,(B.lt ?_).resolve_left ff⟩)))
  cases q2
  ·cases e
  ·rfl
inductive FLE(P:Par)(H0:CH)(t0 ty:TY)(g:Nat)(X:Bi)(H':CH)(L:EN):Prop
 | mk (ao:Str->Option Nat) (fo:Ee) (ty':TY) (N:Now H0 t0 (P.wo ⟨false,false,ao,fo⟩) ty' H') (k:Ka ty ty') (l0:L 0=some (.ref g)) (l1:L 1=some .none) (h:∀x∈X,yb H' P.aFo x)
inductive FLW(P:Par)(H0:CH)(t0 ty:TY)(g:Nat)(ao:Str->Option Nat)(k:Nat)(H':CH)(L:EN):Prop
 | mk (fo:Ee) (ty':TY) (N:Now H0 t0 (P.wo ⟨false,true,ao,fo⟩) ty' H') (h:Ka ty ty') (l0:L 0=some (.ref g)) (e:k=mu fo)
theorem oJ(N:Now H0 t0 P ty H)(G:GoodR P.R)(Y:ty g=some .b7)(j:P.k=P.R.length)(I:P.kq=P.k)(hz:P.z=true)(M:P.ff=true)(z0:P.ge=true)(z3:P.fz=false)(s:Nms P.nk ks)
(hQ:∀J o ty' H' r,Now H0 t0 (P.wo ⟨false,true,J,o⟩) ty' H'->Ka ty ty'->Q r H'):calls fF mF (n+2) 273 [.ref g] H Q:=by
 refine cB [.ref g,.none] (d:=bB) rfl rfl rfl rfl λFQ d O=>?_
 have U:=N.T.gr Y
 have z2:=G.len
 obtain⟨_,m,Z,a2,a4,a5⟩:=N.T.sat _ _ U.a23.2
 have Z:H.dct P.aFo=some m:=Z
 obtain rfl:m=[]:=a4 z0
 refine W.fV (.att (.v rfl) (N.T.gat Y U.a23.1)) (qV N.T Z) (W.nil ?_)
 obtain⟨_,F,f1,f2,f4,f5⟩:=N.T.sat _ _ U.a22.2
 have p:(!F.isEmpty)=true:=by
  cases F with
  | nil=>exact absurd rfl (f5 M sS (by decide))
  | cons _ _=>rfl
 refine W.fV (.nt (.att (.v rfl) (N.T.gat Y U.a22.1)) ((qV N.T f1).trans (ab some p))) rfl (W.nil ?_)
 have N0:Now H0 t0 (P.wo ⟨false,false,P.ao,P.fo⟩) ty H:=N.par λa ρ hr h=>by
  by_cases q:ρ=.qO
  ·subst q;exact h.imp id λh=>h.imp λu h=>⟨h.1,h.2.1,ff,ff⟩
  ·by_cases q2:∃x,ρ=.fol x
   ·obtain⟨x,rfl⟩:=q2;exact h
   ·exact h.upO q λx e=>q2 ⟨x,e⟩
 obtain⟨u,e1,_⟩:=fR N.T Y s.nk
 refine frK (ks:=ks) (a:=P.aN) (I:=λi=>FLE P H0 t0 ty g (ks.take i)) (.att (.v rfl) (N.T.gat Y U.a21.1)) (N.T.dg e1) ⟨P.ao,P.fo,ty,N0,λO O h=>h,rfl,rfl,aR⟩ (λi H L h=>h.casesOn λJ o t2 N2 k2 O O O=>fR (P:=P.wo ⟨false,false,J,o⟩) N2.T (k2 _ _ Y) s.nk) ?_ ?_
 ·rintro i x H4 L4 K z ⟨J,o,t4,V,l,D,m1,R⟩ w
  refine W.Mr (r:=[]) V (l _ _ Y) D .nil (λO=>.v rfl) (s.sub x (be z)) dt aR rfl λb c H5 N5 S v=>w.nxt ⟨_,_,c,N5,l.t S,D,m1,λy t=>?_⟩
  rw[eI,z] at t
  exact(dC.mp t).elim (λt=>v y (.inr (R y t))) λt=>v y (.inl (bc.mp t))
 rintro H4 L4 ⟨J,o,t4,V,l,D,m1,R⟩
 rw[fI] at R
 clear N N0 U Z a2 a4 a5 f1 f2 f4 f5 p e1
 obtain⟨p1,p2⟩:=fm (P:=P.wo ⟨false,false,J,o⟩) V.T (V.T.gr (l _ _ Y)).a17.2 I (j.symm▸G.pos) hz
 have T:=p2 1 (j.symm▸G.one)
 refine W.nil (W.gP (.nt (b:=false) (.v m1) rfl) rfl (W.asg (.att (.ix (.att (.v D) (V.T.gat (l _ _ Y) (V.T.gr (l _ _ Y)).a17.1)) .c (i7 (i:=1) (aD p1) (getElem?_range (j.symm▸G.one:1<P.k)))) (V.T.pat T (V.T.pd T).a2)) (W.nil ?_)))
 refine W.Mr (r:=[eS]) V (l _ _ Y) D (.one .c) (λO=>.v rfl) (G.nm 1 (cr _) G.one) (fb _ _) (λy t=>bc.mp t▸(by decide)) rfl λb c H5 N5 S v=>?_
 replace S:=l.t S
 have X:Now H0 t0 (P.wo ⟨false,true,cI J (lhs P.R 1) (some b),cI o (lhs P.R 1) [eS]⟩) c H5:=N5.par λa ρ hr h=>by
  by_cases q:ρ=.qO
  ·subst q
   obtain⟨ea,u,h1,h2,h3,_⟩:=h
   refine⟨ea,u,h1,h2,h3,λO x z=>?_⟩
   obtain⟨z4,q1,q2⟩:=v x (.inr (R x (s.all x z)))
   exact al (q1.symm.trans (ea▸(show H5.dct a=some u from h1)))▸q2
  ·by_cases q2:∃x,ρ=.fol x
   ·obtain⟨x,rfl⟩:=q2;exact h
   ·exact Sat.upO (P:=P.wo ((P.wo ⟨false,false,J,o⟩).toPO.new (lhs P.R 1) b [eS])) (F:=⟨false,true,_,_⟩) q (λx e=>q2 ⟨x,e⟩) h
 generalize cI J (lhs P.R 1) (some b)=C at X
 generalize cI o (lhs P.R 1) [eS]=B at X
 clear V N5 v R p1 p2 T
 refine whl (J:=FLW P H0 t0 ty g C) _ ⟨B,c,X,S,D,rfl⟩ ?_
 rintro k H6 L6 ⟨B,t6,X,k6,m6,rfl⟩
 refine⟨_,true,.c,rfl,ntf,λO K w=>MA (P:=P.wo ⟨false,true,C,B⟩) X G (k6 _ _ Y) M rfl s j I hz m6 λf A t7 H7 L7 N7 E m7 hf=>?_⟩
 rcases hf with⟨rfl,z1⟩ | rfl
 ·exact w.nxt ⟨mu A,z1,A,t7,N7,k6.t E,m7,rfl⟩
 ·have E:=k6.t E
  exact w.brk (W.ret (.att (.v m7) (N7.T.gat (E _ _ Y) (N7.T.gr (E _ _ Y)).a23.1)) (d (hQ C A t7 H7 _ N7 E)))
end
noncomputable def Par.wm(P:Par)(M:PM):Par:={ P with toPM:=M }
structure Full(P:Par):Prop where
 G:GoodR P.R
 k:P.k=P.R.length
 kq:P.kq=P.k
 kn:P.kn=P.R.length
 z:P.z=true
 li:P.li=P.R.length
 m0:0<=P.m
section
variable{P P':Par}{ty t0 ty0 ty':TY}{H H' H0:CH}{n b c e g t:Nat}{Q:DD}{ρ z:Role}
inductive AfL(P:Par)(ty:TY)(H:CH)(a r d:Nat):Prop
 | mk (b:Nat) (ρ:Role) (h1:(view H a).att 27=some (.ref b)) (h2:ty b=some ρ) (o:ρ.own=false) (hl:∀(P':Par) ty' H',P'.toPK=P.toPK->Typed P' ty' H'->ty' b=some ρ->H'.lst b=some ((after P.R (r,d)).map λi=>CV.ref (P.pr i))) (hp:∀i∈after P.R (r,d),ty (P.pr i)=some (.prod i))
theorem yc{a:Nat}(T:Typed P ty H)(F:Full P)(h:ty a=some (.item r d)):AfL P ty H a r d:=by
 obtain⟨b,o,ρ,y,Y⟩:=(T.it h).a27
 have w:ρ=.vL->after P.R (r,d)=[]->AfL P ty H a r d:=λe O=>by
  subst e
  exact⟨b,_,o,y,rfl,O.symm▸λV V V V k j=>k.sat _ _ j,O.symm▸aR⟩
 cases e:(rhs P.R r)[d]? with
 | none=>rw[e] at Y;exact w Y (qZ e)
 | some x=>
  rw[e] at Y
  have Y:if x∈bz then ρ=.jE x else ρ=.vL:=Y
  have U:=qY (R:=P.R) (p:=(r,d)) e
  by_cases J:x∈bz
  ·obtain rfl:=(ch J).mp Y
   rw[← F.kn] at U
   exact⟨b,_,o,y,rfl,U.symm▸λP' ty' H' e k j=>e▸(k.sat _ _ j).2.1,U.symm▸λi v=>(T.sat _ _ y).2.2.1 i (du.mp (eJ.mp v).1) (a7 (eJ.mp v).2).1⟩
  ·exact w ((ca J).mp Y) (U.trans (filter_eq_nil_iff.mpr λi v q=>J ((a7 q).2▸F.G.nm i (a7 q).1 (du.mp v))))
theorem D4{a:Nat}(T:Typed P ty H)(h:ty a=some (.prod r)):j5 H (.ref a) 1=some (.int (P.ad r)):=by
 have w:=T.pd h
 rcases w.a1 with⟨y,Y⟩ | y
 ·erw[Y];exact(zY w.cls rfl y).trans (ch ⟨rfl,.inr rfl⟩)
 ·exact fL w.cls rfl y
inductive ClS(H0:CH)(t0:TY)(P:Par)(c:Nat)(ty0:TY)(ad:Bz)(q:BM)(H:CH):Prop
 | mk (l:Bz) (adf:Nat->Int) (ty:TY) (N:Now H0 t0 (P.wm ⟨adf,P.m⟩) ty H) (k:Kp c ty0 ty) (hc:ty c=some (.aq (l.map .ref))) (ha:dN (λa p=>ty a=some (.item p.1 p.2)) l q) (M:∀r,r<P.R.length->(adf r=P.m↔r∈ad))
structure Cl0(P:Par)(ty0:TY)(t c:Nat):Prop where
 F:Full P
 t:ty0 t=some .table
 c:∃l,ty0 c=some (.aq l)
theorem Cl0.k(B:Cl0 P ty0 t c)(k:Kp c ty0 ty):Kn ty0 ty:=λ{w w} h o=>k _ _ (br h o B.c.choose_spec rfl) h
theorem Jy{r:Nat}{L:EN}{q:BM}{ad:Bz}{K:Ap}(B:Cl0 P ty0 t c)(S:ClS H0 t0 P c ty0 ad q H)(Z:H0.free c)(G:q.length<900)(O:r<P.R.length)(U:ty0 (P.pr r)=some (.prod r))
(d:L 0=some (.ref t))(u:L 2=some (.ref c))(x:L 5=some (.ref (P.pr r)))(z:r∈ad->K .cont ⟨H,L⟩)(Q:r∉ad->∀H',ClS H0 t0 P c ty0 (ad++[r]) (q++[(r,0)]) H'->K .next ⟨H',upd L 3 (.bool true)⟩) :
  aj (calls fF mF n) mF bW ⟨H,L⟩ K FX:=by
 obtain⟨l,y,ty,N,k,m,F,M⟩:=S
 have C:=(B.k k) B.t
 replace U:=(B.k k) U
 refine W.j9 (.cm (.att (.v x) (D4 N.T U)) (.att (.v d) (N.T.tat C (N.T.tb C).a36)) eqI) (λe=>W.cont (z ((M r O).mp e))) λA=>W.nil ?_
 replace A:r∉ad:=λh=>A ((M r O).mpr h)
 obtain⟨a,v,D⟩:=(N.T.pd U).a13 (.inl (B.F.li▸O))
 refine W.iI N Z m (.v u) (.att (.v x) (N.T.pat U v)) (by(erw[ba _];erw[F.len]);exact gd G (aw rfl)) λR b f E X=>?_
 have T:∀{a ρ},ty a=some ρ->ρ.own=false->R a=some ρ:=λh o=>X _ _ (br h o m rfl) h
 have V:=T U rfl
 have j:=T C rfl
 have w:=f.T.pd V
 refine W.bH (.att (.v d) (f.T.tat j (f.T.tb j).a36)) (.v x) w.cls rfl (W.asg .c (Q A _ ⟨l++[a],λi=>if i=r then P.m else y i,R,f.bH V (ak w.cls) (λa ρ I O s=>?_) ?_,k.t X,by erw[ej];exact E,(F.mono λa p h=>T h rfl).app (.cons (T D rfl) .nil),λi g=>?_⟩))
 ·by_cases q:∃Y,ρ=.prod Y
  ·obtain⟨Y,rfl⟩:=q
   have J:Y≠r:=λe=>by subst e;exact I (s.pr.trans w.pr.symm)
   exact{ s with a1:=(show _/\(if Y=r then P.m else y Y)=0∨_=some (CV.int (if Y=r then P.m else y Y)) by erw[ca J];exact s.a1),am:=(show(if Y=r then P.m else y Y)<=P.m by erw[ca J];exact s.am) }
  ·by_cases q2:ρ=.table
   ·subst q2;exact⟨s.1,{ s.2 with cls:=s.2.cls }⟩
   ·exact Sat.upM (P:=P.wm ⟨y,P.m⟩) (λY e=>q ⟨Y,e⟩) q2 s
 ·exact{ w with a1:=.inr (show some _=some (CV.int (if r=r then P.m else y r)) by erw[ch rfl];rfl),am:=(show(if r=r then P.m else y r)<=P.m by erw[ch rfl];exact mA _),a2:=w.a2,a3:=w.a3,a4:=w.a4,a8:=w.a8,a9:=w.a9,a11:=w.a11,a0:=w.a0,a13:=w.a13 }
 ·by_cases e:i=r
  ·subst e;exact iff_of_true (ch rfl) (cq _ aM)
  ·exact(iff_of_eq (ab (·=P.m) (ca e))).trans ((M i g).trans ⟨de _,λh=>(dC.mp h).elim id λh=>absurd (bc.mp h) e⟩)
theorem Bb{R:List aI}(p:Pl):(after R p).length<=R.length:=ae (cj (rg (R:=R) p) (m:=range R.length) λr w=>du.mpr (dR.mp w).1) (bv eh)
theorem Full.wm(F:Full P):Full (P.wm ⟨w,P.m⟩):=⟨F.G,F.k,F.kq,F.kn,F.z,F.li,F.m0⟩
theorem ClS.base{ad:Bz}{q:BM}(k:Kp c ty0 ty)(S:ClS H0 t0 P c ty ad q H):ClS H0 t0 P c ty0 ad q H:=
 S.casesOn λl f t N w y Y M=>⟨l,f,t,N,k.t w,y,Y,M⟩
inductive CLI(H0:CH)(t0:TY)(P:Par)(t c:Nat)(ty0:TY)(b:Bool)(ad:Bz)(q:BM)(nw:Bz)(H':CH)(L':EN):Prop
 | mk (S:ClS H0 t0 P c ty0 (ad++nw) (q++nw.map λr=>(r,0)) H') (l0:L' 0=some (.ref t)) (l2:L' 2=some (.ref c)) (b':Bool) (l3:L' 3=some (.bool b')) (hb:b'=true->b=true∨nw≠[])
theorem Jz{I r:Nat}{L:EN}{q:BM}{ad l:Bz}{b:Bool}{K:Ap}(B:Cl0 P ty t c)(N:Now H0 t0 (P.wm ⟨U,P.m⟩) ty H)(s:ty c=some (.aq (l.map .ref)))(Z:dN (λa p=>ty a=some (.item p.1 p.2)) l q)(M:∀r,r<P.R.length->(U r=P.m↔r∈ad))(G:H0.free c)(u:q.length<800)(m:ty I=some (.item r d))
(z:L 0=some (.ref t))(Q:L 2=some (.ref c))(g:L 3=some (.bool b))(e:L 4=some (.ref I))
(hQ:∀H' V v,ClS H0 t0 P c ty (ad++news P.R ad (r,d)) (q++(news P.R ad (r,d)).map λr=>(r,0)) H'->(v=true->b=true∨news P.R ad (r,d)≠[])->V 0=some (.ref t)->V 2=some (.ref c)->V 3=some (.bool v)->K .next ⟨H',V⟩) :
  aj (calls fF mF n) mF bX ⟨H,L⟩ K FX:=by
 obtain⟨T,ρ,e1,F,e3,e4,e5⟩:=yc N.T B.F.wm m
 refine frL (ys:=after P.R (r,d)) (f:=λi=>.ref (P.pr i)) (a:=T) (I:=λk=>CLI H0 t0 P t c ty b ad q (((after P.R (r,d)).take k).filter λr=>decide (r∉ad)))
  (.att (.v e) (N.T.iat m e1)) ⟨⟨l,U,ty,N,.r,s,(eR q).symm▸Z,(eR ad).symm▸M⟩,z,Q,b,g,.inl⟩ (λi H' V h=>h.casesOn λS y y y y y=>S.casesOn λy x t2 N2 k2 y y y=>aD (e4 (P.wm ⟨x,P.m⟩) _ _ rfl N2.T (k2 _ _ (br F e3 s rfl) F))) ?_ λR W h=>?_
 ·rintro k Y R W K X ⟨S,j,J,v,C,A⟩ D
  have o:=be X
  have O:(after P.R (r,d)).take (k+1)=(after P.R (r,d)).take k++[Y]:=by(erw[eI];erw[X]);rfl
  have f:Y∉(after P.R (r,d)).take k:=λh=>(kO.mp (O▸(rg (R:=P.R) (r,d)).sublist (take_sublist (k+1) _))).2.2 Y h Y aM rfl
  have E:(((after P.R (r,d)).take k).filter λr=>decide (r∉ad)).length<=5:=ae (length_filter_le _ _) (ae (length_take_le' k _) (ae (Bb _) B.F.G.len.2))
  have hf:((after P.R (r,d)).take (k+1)).filter (λr=>decide (r∉ad))=((after P.R (r,d)).take k).filter (λr=>decide (r∉ad))++[Y].filter (λr=>decide (r∉ad)):=by(erw[O];exact Eq.substr (filter_append _ _) rfl)
  rw[hf] at D
  refine Jy (r:=Y) B S G (by(erw[bp];erw[ba _]);exact ax (ew E _) (cf (Nat.add_lt_add_right u 5) (by decide))) (dR.mp o).1 (e5 Y o) j J rfl (λw=>D.con ?_) λw H3 S3=>D.nxt ?_
  ·have w:=(dC.mp w).resolve_right λh=>f (eJ.mp h).1
   (erw[lm (p:=λr=>decide (r∉ad)) (a:=Y) (l:=[]) (λh=>a7 h w)];erw[filter_nil];erw[eR _])
   exact⟨S,j,J,v,C,A⟩
  ·(erw[ll (p:=λr=>decide (r∉ad)) (a:=Y) (l:=[]) (cn λh=>w (de _ h))];erw[filter_nil])
   exact⟨by(rewrite[← io];erw[ej];rewrite[← io]);exact S3,j,J,true,rfl,λy=>.inr (append_ne_nil_of_right_ne_nil _ (cons_ne_nil _ _))⟩
 ·rw[fI] at h
  exact h.casesOn λS j J v C A=>hQ R W v S A j J C
theorem vZ{ad:Bz}{f:Nat}:∀{q:BM},q.length<=f->(∀j∈q,∀r∈after R j,r∈ad)->kX R f ad q=q:=by
 induction f with
 | zero=>exact λ{q} h V=>(fw (Nat.le_zero.mp h)).symm▸rfl
 | succ f y=>
  intro q h w
  cases q with
  | nil=>rfl
  | cons j q=>
   have Y:news R ad j=[]:=filter_eq_nil_iff.mpr λr U q=>a7 q (w j aM r U)
   (erw[sR];erw[Y];erw[eR _];erw[show at0 []=[] from rfl];erw[eR _];exact Eq.substr (y (kz h) λj v=>w j (bb _ v)) rfl)
theorem GH{R:List aI}{ad:Bz}:left R ad<=R.length:=ae (length_filter_le _ _) (bv eh)
structure GrS(R:List aI)(C:BM)(ad:Bz)(B i:Nat)(q2:BM)(ad2:Bz)(f2:Nat):Prop where
 le:i<=q2.length
 eq:q2.take i++kX R f2 ad2 (q2.drop i)=C
 fu:(q2.drop i).length+left R ad2<=f2
 bd:q2.length+left R ad2<=B
 done:∀j∈q2.take i,∀r∈after R j,r∈ad2
 sub:∀r∈ad,r∈ad2
theorem GrS.next{ad:Bz}{q2:BM}(h:GrS R C ad B i q2 w T)(x:q2[i]?=some p) :
  (∃J,GrS R C ad B (i+1) (q2++(news R w p).map λr=>(r,0)) (w++news R w p) J)/\(news R w p≠[]->¬ ∀j∈C,∀r∈after R j,r∈ad):=by
 obtain⟨y,o⟩:=a6.mp x
 have v:q2.take (i+1)=q2.take i++[p]:=by(erw[eI];erw[x]);rfl
 have O:q2.drop i=p::q2.drop (i+1):=(drop_eq_getElem_cons y).trans (ab (·::_) o)
 have Y:=h.fu
 have f:=h.eq
 rw[O] at Y f
 cases T with
 | zero=>exact absurd (ae (dE _ _) Y) (lj _)
 | succ J=>
  refine⟨⟨J,bp▸ae y (dE _ _),?_,drop_append_of_le_length y▸jY Y,?_,λj U r V=>?_,λr q=>de _ (h.sub r q)⟩,λl k=>(exists_mem_of_ne_nil _ l).elim λr V=>(fk.mp V).2 (h.sub r (k p (f▸cq _ aM) r (fk.mp V).1))⟩
  ·(erw[take_append_of_le_length y];erw[drop_append_of_le_length y];erw[v];rewrite[io])
   exact f
  ·(erw[bp];erw[ba _];rewrite[Nat.add_assoc];erw[kb (news R w p).length _])
   exact ae (ew sQ _) h.bd
  ·rw[take_append_of_le_length y,v] at U
   refine(dC.mp U).elim (λU=>de _ (h.done j U r V)) λU=>?_
   obtain rfl:=bc.mp U
   exact Classical.byCases (p:=r∈w) (de _) λL=>cq _ (fk.mpr ⟨V,L⟩)
inductive CLJ(H0:CH)(t0:TY)(P:Par)(t c:Nat)(ty0:TY)(C:BM)(ad:Bz)(m i:Nat)(H':CH)(L':EN):Prop
 | mk (q2:BM) (ad2:Bz) (f2:Nat) (S:ClS H0 t0 P c ty0 ad2 q2 H') (G:GrS P.R C ad m i q2 ad2 f2) (l0:L' 0=some (.ref t)) (l2:L' 2=some (.ref c)) (b':Bool) (l3:L' 3=some (.bool b')) (hb:(∀j∈C,∀r∈after P.R j,r∈ad)->b'=false)
theorem D5{L:EN}{q:BM}{ad:Bz}{m:Nat}{K:Ap}(B:Cl0 P ty0 t c)(S:ClS H0 t0 P c ty0 ad q H)(Z:H0.free c)(G:m<800)(U:kX P.R f ad q=C)(u:q.length+left P.R ad<=f)(J:q.length+left P.R ad<=m)(z:L 0=some (.ref t))(a:L 2=some (.ref c))
(Q:∀w H' v A,ClS H0 t0 P c ty0 w C H'->C.length+left P.R w<=m->(∀j∈C,∀r∈after P.R j,r∈w)->((∀j∈C,∀r∈after P.R j,r∈ad)->A=false)->v 0=some (.ref t)->v 2=some (.ref c)->v 3=some (.bool A)->K .next ⟨H',v⟩) :
  aj (calls fF mF n) mF bY ⟨H,L⟩ K FX:=by
 refine W.asg .c (frW (α:=Nat) (f:=.ref) (a:=c) (I:=CLJ H0 t0 P t c ty0 C ad m) m (.v a)
  ⟨q,ad,f,S,⟨dd _,U,u,J,aR,λg h=>h⟩,z,a,false,rfl,λg=>rfl⟩ ?_)
 rintro i b L2 ⟨q2,w,D,E,y,I,s,b2,d,F⟩
 have o:=E
 obtain⟨l,z0,ty,N,k,O,V,M⟩:=o
 have Y:q2.length<=m:=ae (dE _ _) y.bd
 refine⟨ae y.le Y,l,N.T.gL O,λe=>?_,ae y.le (bv V.len.symm),λa4 h4 K hK=>?_⟩
 ·obtain rfl:=e.trans V.len
  have U:=y.eq
  rw[drop_length,fI,show kX P.R D w []=[] by cases D <;> rfl,eR] at U
  subst U
  exact W.nil (Q w b L2 b2 E y.bd (fI (l:=q2)▸y.done) F I s d)
 ·obtain⟨p,hp,hi⟩:=V.get h4
  obtain⟨⟨f3,W3⟩,T⟩:=y.next hp
  refine Jz (r:=p.1) (d:=p.2) ⟨B.F,(B.k k) B.t,_,O⟩ N O V M Z (ax Y G) hi I s d rfl λH3 L3 R o x j0 j2 j3=>hK.nxt ⟨_,_,f3,o.base k,W3,j0,j2,R,j3,λX=>?_⟩
  cases R with
  | false=>rfl
  | true=>exact(x rfl).elim (λe=>e.symm.trans (F X)) λh=>absurd X (T h)
inductive CLK(H0:CH)(t0:TY)(P:Par)(t c:Nat)(ty0:TY)(q:BM)(k:Nat)(H':CH)(L:EN):Prop
 | a (e:k=2) (l0:L 0=some (.ref t)) (l2:L 2=some (.ref c)) (l3:L 3=some (.bool true)) (S:ClS H0 t0 P c ty0 [] q H')
 | b (b:Bool) (ad:Bz) (l0:L 0=some (.ref t)) (l2:L 2=some (.ref c)) (l3:L 3=some (.bool b)) (hk:k<=1) (hb:k=0->b=false) (S:ClS H0 t0 P c ty0 ad (clo P.R q) H') (hB:(clo P.R q).length+left P.R ad<=q.length+P.R.length) (hd:∀j∈clo P.R q,∀r∈after P.R j,r∈ad)
theorem v5{I:Nat}{l:Bz}{q:BM}(N:Now H0 t0 P ty H)(F:Full P)(V:ty t=some .table)(hI:ty I=some (.aq (l.map .ref)))(ha:dN (λa p=>ty a=some (.item p.1 p.2)) l q)(hq:q.length<=600)
(hQ:∀c y ty' H',Now H0 t0 (P.wm ⟨y,P.m+1⟩) ty' H'->Ka ty ty'->ty' c=some (.stL (clo P.R q))->Q (.ref c) H'):calls fF mF (n+1) 340 [.ref t,.ref I] H Q:=by
 refine cB [.ref t,.ref I] (d:=aU) rfl rfl rfl rfl λFQ J o=>?_
 have w:=N.T.tb V
 have hM:∀r,r<P.R.length->(P.ad r=P.m+1↔r∈([]:Bz)):=λr hr=>
  iff_of_false (λe=>absurd (e▸(N.T.pd ((fm N.T (N.T.gr w.a29.2).a17.2 F.kq (F.k▸cf (Nat.zero_lt_succ 3) F.G.len.1) F.z).2 r (F.k▸hr))).am) (Int.not_le_of_gt (Int.lt_succ P.m))) cp
 refine W.iN (.v rfl) w.cls (N.T.tat V w.a36) .c (.inl rfl) ?_
 have O:P.m<=P.m+1:=Int.le_of_lt (Int.lt_succ P.m)
 have N1:Now H0 t0 (P.wm ⟨P.ad,P.m+1⟩) ty (H.bH 36 t (.int (P.m+1))):=N.bH V (ak w.cls) (λa ρ d hr s=>by
  by_cases q:∃A,ρ=.prod A
  ·obtain⟨A,rfl⟩:=q
   exact{ s with am:=fa s.am O }
  ·exact s.upM (λA e=>q ⟨A,e⟩) λe=>by subst e;exact d (s.1.trans (N.T.sat _ _ V).1.symm)) ⟨(N.T.sat _ _ V).1,{ w with a36:=rfl,no:=λk D=>(ca (ma (cf (by decide) D))).trans (w.no k D),a30:=w.a30,a29:=w.a29,a31:=w.a31,a32:=w.a32,a34:=w.a34,a35:=w.a35,a40:=w.a40,a41:=w.a41 }⟩
 have F1:Full (P.wm ⟨P.ad,P.m+1⟩):=⟨F.G,F.k,F.kq,F.kn,F.z,F.li,fa F.m0 O⟩
 refine W.slL N1 (.v rfl) .c .c (N1.T.gL hI) rfl λc E M N2 hc m f=>W.asg .c ?_
 have B:Cl0 (P.wm ⟨P.ad,P.m+1⟩) E t c:=⟨F1,(f _ _ V).1,_,hc⟩
 have T:q.length+P.R.length<=605:=h7 hq F.G.len.2
 have i:∀{ad M} {L:EN},ClS H0 t0 (P.wm ⟨P.ad,P.m+1⟩) c E ad (clo P.R q) M->(clo P.R q).length+left P.R ad<=q.length+P.R.length->L 2=some (.ref c)->aj (calls fF mF n) mF [.ret (.v 2)] ⟨M,L⟩ FQ FX:=λ{ad M L} S hb j=>S.casesOn λl' y t3 N3 k3 x R o=>by
  obtain⟨N4,h4,k4⟩:=N3.pro (.stL (clo P.R q)) m x ⟨l',N3.T.L x,R,ax (ae (dE _ _) hb) (ax T (by decide))⟩
  exact W.ret (.v j) (J (hQ c y _ _ N4 (λa ρ h=>k4 _ _ (f _ _ h).2 (k3 _ _ (f _ _ h).2 (f _ _ h).1)) h4))
 have C:q.length+P.R.length<800:=ax T (by decide)
 refine whl (J:=CLK H0 t0 (P.wm ⟨P.ad,P.m+1⟩) t c E q) 2 (.a rfl rfl rfl rfl ⟨l,P.ad,E,N2,.r,hc,ha.mono λa p h=>(f _ _ h).1,hM⟩) ?_
 rintro k H3 L3 (⟨rfl,X,j,Z,S⟩ | ⟨b,ad,X,j,Z,D,G,S,hB,hd⟩)
 ·have hn:q.length+left P.R []<=q.length+P.R.length:=ew GH _
  exact⟨_,true,.v Z,rfl,(Bool.noConfusion ·),λo K u=>D5 (m:=q.length+P.R.length) B S m C (show kX P.R (q.length+P.R.length+1) [] q=clo P.R q from rfl) (Nat.le_succ_of_le hn) hn X j λY H4 L4 z g U v o j0 j2 j3=>u.nxt ⟨1,dq 1,.b z Y j0 j2 j3 (cr 1) (λh=>absurd h Nat.one_ne_zero) g U v⟩⟩
 ·refine⟨_,b,.v Z,rfl,λo=>i S hB j,λz0 K u=>?_⟩
  obtain rfl:k=1:=eD D (mr λh=>Bool.noConfusion ((G h).symm.trans z0))
  exact D5 (f:=(clo P.R q).length+left P.R ad) (m:=q.length+P.R.length) B S m C (vZ (dE _ _) hd) (cr _) hB X j λY H4 L4 z g U v z1 j0 j2 j3=>u.nxt ⟨0,dq 0,.b z Y j0 j2 j3 (gN 0) (λo=>z1 hd) g U v⟩
end
section
variable(R:List aI)
noncomputable def items:List Pl:=(range R.length).flatMap λr=>(range ((rhs R r).length+1)).map λd=>(r,d)
noncomputable def kit:List Pl:=(items R).filter λp=>decide (1<=p.2)
end
noncomputable def D6:Nat->List Pl->List (List Pl)
 | 0,_=>[[]]
 | n+1,U=>[]::U.flatMap λx=>(D6 n (U.erase x)).map (x::·)
noncomputable def cnt:Nat->Nat
 | 0=>1
 | n+1=>1+(n+1) * cnt n
theorem GI{z Q:Type}{f:z->List Q}{k:Nat}{V:List z}(h:∀x∈V,(f x).length<=k):(V.flatMap f).length<=V.length * k:=by
 induction V with
 | nil=>exact dd _
 | cons a V w=>
  (erw[flatMap_cons];erw[bp];erw[ik];erw[Nat.succ_mul _ _];erw[kb _ _])
  exact h7 (w λx y=>h x (bb _ y)) (h a aM)
theorem v7{n:Nat}{U:BM}{x:Pl}(h:U.length<=n+1)(z:x∈U):(U.erase x).length<=n:=length_erase_of_mem z▸Nat.sub_le_of_le_add h
theorem D7(n:Nat):∀(U:BM),U.length<=n->(D6 n U).length<=cnt n:=by
 induction n with
 | zero=>exact λz z=>cr 1
 | succ n Q=>exact λU h=>ae (et (ae (GI λx w=>(ba _).symm▸Q _ (v7 h w)) (Nat.mul_le_mul_right (cnt n) h))) (bv (kb ((n+1) * cnt n) 1))
theorem v8(n:Nat):∀(U l:BM),U.length<=n->U.Nodup->(l∈D6 n U↔l.Nodup/\∀x∈l,x∈U):=by
 induction n with
 | zero=>
  intro U l h _
  obtain rfl:U=[]:=fw (Nat.le_zero.mp h)
  exact bc.trans ⟨λe=>e.symm▸⟨dt,aR⟩,λh=>eq_nil_iff_forall_not_mem.mpr λx Y=>cp (h.2 x Y)⟩
 | succ n j=>
  intro U l h v
  have Q:=λx (Y:x∈U) t=>j (U.erase x) t (v7 h Y) (v.erase x)
  cases l with
  | nil=>exact iff_of_true aM ⟨dt,aR⟩
  | cons x t=>
   refine⟨λq=>?_,λq=>bb _ (ii.mpr ⟨x,q.2 x aM,dp ((Q x (q.2 x aM) t).mpr ⟨(ei.mp q.1).2,λy w=>(Nodup.mem_erase_iff v).mpr ⟨λe=>(ei.mp q.1).1 (e▸w),q.2 y (bb _ w)⟩⟩)⟩)⟩
   obtain⟨y,w,q⟩:=ii.mp ((bt.mp q).resolve_left (cons_ne_nil _ _))
   obtain⟨J,o,e⟩:=bo.mp q
   obtain⟨rfl,rfl⟩:=eF e
   have k:=(Q y w J).mp o
   exact⟨ei.mpr ⟨λq=>((Nodup.mem_erase_iff v).mp (k.2 y q)).1 rfl,k.1⟩,λz V=>(bt.mp V).elim (λe=>e▸w) λV=>mem_of_mem_erase (k.2 z V)⟩
section
variable{R:List aI}
theorem aY{p:Pl}:p∈items R↔p.1<R.length/\p.2<=(rhs R p.1).length:=by
 refine ii.trans ⟨λh=>?_,λh=>⟨p.1,du.mpr h.1,bo.mpr ⟨p.2,du.mpr (hX h.2),rfl⟩⟩⟩
 obtain⟨r,z,h⟩:=h
 obtain⟨d,Q,rfl⟩:=bo.mp h
 exact⟨du.mp z,db (du.mp Q)⟩
theorem mG:(items R).Nodup:=
 pairwise_flatMap.mpr ⟨λr Y=>Pairwise.map _ (λa b z q=>z (ab Prod.snd q)) mo,mo.imp λ{a b} z x Q y w q=>z ((bo.mp Q).elim λd h=>(bo.mp w).elim λe k=>ab Prod.fst (h.2.trans (q.trans k.2.symm)))⟩
theorem o6{p:Pl}:p∈kit R↔p∈items R/\1<=p.2:=eJ.trans (and_congr_right λz=>lf)
theorem yd:(kit R).Nodup:=mG.filter _
theorem GJ(G:GoodR R):rhs R 0=[sS]:=ig (x:=(sP,[sS])) G.r0
noncomputable def rln(r:Nat):Nat:=if r=0∨r=3 then 1 else 2
theorem JA(G:GoodR R)(r:Nat):(rhs R r).length<=rln r:=by
 unfold rln
 by_cases h:r=0∨r=3
 ·erw[ch h];exact h.elim (λe=>e▸bv (ab List.length (GJ G))) λe=>e▸G.ln3
 ·erw[ca h];exact G.ln r
theorem uF(G:GoodR R):(kit R).length<=8:=
 cj (m:=(range 5).flatMap λr=>(range (rln r)).map λd=>(r,d+1)) yd λp z=>
  have h:=o6.mp z
  have k:=aY.mp h.1
  ii.mpr ⟨p.1,du.mpr (cf k.1 G.len.2),bo.mpr ⟨p.2 - 1,du.mpr (cf (Nat.sub_one_lt_of_lt h.2) (ae k.2 (JA G _))),my rfl (hY h.2)⟩⟩
theorem fJ(G:GoodR R):(items R).length<=15:=
 cj (m:=(range 5).flatMap λr=>(range 3).map λd=>(r,d)) mG λp z=>
  have k:=aY.mp z
  ii.mpr ⟨p.1,du.mpr (cf k.1 G.len.2),bo.mpr ⟨p.2,du.mpr (hX (ae k.2 (G.ln _))),rfl⟩⟩
noncomputable def fX(R:List aI):List (List Pl):=clo R [(0,0)]::(D6 8 (kit R)).map (clo R)
theorem mH(G:GoodR R):(fX R).length<=109602:=by
 show((D6 8 (kit R)).map (clo R)).length+1<=109601+1
 erw[ba _]
 exact et (D7 8 (kit R) (uF G))
theorem D8{p:Pl}:[p].Nodup:=fb _ _
theorem v9:(clo R [(0,0)]).Nodup:=xZ D8 λp z Q=>bc.mp z▸rfl
theorem j4(G:GoodR R){q:BM}(h:q∈fX R):q.Nodup/\(∀p∈q,p∈items R)/\Fwd R (·∈q):=by
 have Q:∀I:List Pl,(∀p∈I,p∈items R)->∀p∈clo R I,p∈items R:=λI w p z=>by
  obtain⟨U,e,y,_⟩:=jZ (R:=R) I
  exact(dC.mp (e▸z)).elim (w p) λz=>aY.mpr ⟨(y p z).2.2,(y p z).1▸dd _⟩
 rcases bt.mp h with rfl | h
 ·exact⟨v9,Q _ λp z=>bc.mp z▸aY.mpr ⟨cf (by decide) G.len.1,dd _⟩,uC _⟩
 ·obtain⟨I,w,rfl⟩:=bo.mp h
  have h:=(v8 8 _ I (uF G) yd).mp w
  exact⟨xZ h.1 λp z Y=>absurd Y (ma (o6.mp (h.2 p z)).2),Q _ λp z=>(o6.mp (h.2 p z)).1,uC _⟩
theorem iK(G:GoodR R){q:BM}(h:q∈fX R):q.length<=15:=
 ae (cj (j4 G h).1 (j4 G h).2.1) (fJ G)
theorem Bc(G:GoodR R){q:BM}(h:q∈fX R)(x:Str):(moves R q x).Nodup/\∀p∈moves R q x,p∈kit R:=by
 have h:=j4 G h
 refine⟨vW h.1,λp z=>?_⟩
 obtain⟨d,e,Q,w⟩:=cR.mp z
 exact o6.mpr ⟨aY.mpr ⟨(aY.mp (h.2.1 _ Q)).1,e▸(a6.mp w).1⟩,e▸ft d⟩
theorem Bd(G:GoodR R){q:BM}(h:q∈fX R)(x:Str):clo R (moves R q x)∈fX R:=
 bb _ (bo.mpr ⟨_,(v8 8 _ _ (uF G) yd).mpr (Bc G h x),rfl⟩)
end
section
variable{P:Par}{ty t0 w ty':TY}{H H' H0:CH}{n b c e g t:Nat}{Q:DD}{z y:Role}
theorem ry(q:BM):CV.hks (q.map plC)=true/\CV.dB (q.map plC)<=1:=by
 induction q with
 | nil=>exact⟨rfl,dd _⟩
 | cons p q U=>
  refine⟨U.1,?_⟩
  simp only[jp,CV.dB]
  exact Nat.max_le.mpr ⟨cr 1,U.2⟩
theorem i9(q:BM):(ay q).keyOk=true:=by
 obtain⟨U,V⟩:=ry q
 unfold ay CV.keyOk
 exact bn.mpr ⟨U,Nat.ble_eq.mpr (ae (et V) (by decide))⟩
theorem wg(q:BM)(U:cH x):(vN q x).keyOk=true:=by
 obtain⟨V,k⟩:=ry q
 exact bn.mpr ⟨bn.mpr ⟨V,bn.mpr ⟨U,rfl⟩⟩,Nat.ble_eq.mpr (et (Nat.max_le.mpr ⟨ae (et k) (by decide),dd _⟩))⟩
theorem o7{q:Pl}(h:plC p=plC q):p=q:=by
 have h:=(eF (CV.tup.inj h))
 exact my (Int.ofNat.inj (CV.int.inj h.1)) (Int.ofNat.inj (CV.int.inj (eF h.2).1))
theorem oh{p q:BM}(h:p.map plC=q.map plC):p=q:=by
 induction p generalizing q with
 | nil=>cases q with
  | nil=>rfl
  | cons=>cases h
 | cons a p U=>cases q with
  | nil=>cases h
  | cons b q=>(erw[o7 (eF h).1];exact Eq.substr (U (eF h).2) rfl)
theorem gO{q:BM}(h:ay p=ay q):p=q:=oh (CV.tup.inj h)
theorem D9{q:BM}{y:Str}(h:vN p x=vN q y):p=q/\x=y:=
 have h:=eF (CV.tup.inj h)
 ⟨gO h.1,CV.str.inj (eF h.2).1⟩
theorem ja{q:BM}{p:Pl}:moves R (q++[p]) x=moves R q x++(if (rhs R p.1)[p.2]?=some x then [(p.1,p.2+1)] else []):=by
 unfold moves
 erw[filterMap_append]
 refine ab _ ?_
 by_cases h:(rhs R p.1)[p.2]?=some x
 ·simp only[filterMap_cons,filterMap_nil,ch h]
 ·simp only[filterMap_cons,filterMap_nil,ca h]
theorem rz{U:At}(F:Full P)(V:∀e∈U,(e.1=.str eS/\∃b,e.2=.ref b/\ty b=some (.stL (clo P.R p)))∨∃r d,r<P.k/\d<=(rhs P.R r).length/\e.1=plC (r,d)/\∃b,e.2=.ref b/\ty b=some (.trie x (p++[(r,d)])))(j:(U.map (·.1)).Nodup):U.length<szl:=by
 have:=cj j (m:=CV.str eS::(items P.R).map plC) λk J=>by
  obtain⟨e,o,rfl⟩:=bo.mp J
  rcases V e o with h | ⟨r,d,O,f,h,_⟩
  ·erw[h.1];exact aM
  ·erw[h];exact bb _ (dp (aY.mpr ⟨F.k▸O,f⟩))
 rw[ba,ik,ba] at this
 exact ax (ae this (et (fJ F.G))) (aw rfl)
structure GTL(t I:Nat)(x:Str)(s c:Nat)(L:EN):Prop where
 l0:L 0=some (.ref t)
 l1:L 1=some (.ref I)
 l2:L 2=some (.str x)
 l4:L 4=some (.ref s)
 l5:L 5=some (.ref c)
theorem GK{s a:Nat}{x:Str}{l:Bz}{p:BM}{K:Ap}(N:Now H0 t0 P ty H)(F:Full P)(hx:x∈aH)(hc:ty c=some (.aq (l.map .ref)))(cF:H0.free c)(ha:dN (λa p=>ty a=some (.item p.1 p.2)) l p)(hp:p.length<900)(hs:ty s=some (.trie x p))(B:ty a=some (.item r d))(m:GTL t I x s c L)(l6:L 6=some (.ref a))
(hQ:∀l' i ty' H' L',Now H0 t0 P ty' H'->Kp c ty ty'->ty' c=some (.aq (l'.map .ref))->dN (λa p=>ty' a=some (.item p.1 p.2)) l' (p++if (rhs P.R r)[d]?=some x then [(r,d+1)] else [])->ty' i=some (.trie x (p++if (rhs P.R r)[d]?=some x then [(r,d+1)] else []))->GTL t I x i c L'->K .next ⟨H',L'⟩) :
  aj (calls fF mF n) mF aC ⟨H,L⟩ K FX:=by
 have hi:=N.T.it B
 have skip:¬ (rhs P.R r)[d]?=some x->∀v,K .next ⟨H,upd L 7 v⟩:=λJ v=>by
  rw[ca J,eR] at hQ
  exact hQ l s ty H _ N .r hc ha hs ⟨m.l0,m.l1,m.l2,m.l4,m.l5⟩
 rcases hi.a13 (.inl (by(erw[F.li];erw[ip F.k]);exact hi.rk)) with⟨S,b,T,V⟩ | ⟨S,T⟩
 ·have X:=N.T.it V
  obtain⟨w,hw,z1⟩:=X.a28
  have A:=bm S
  have hw:=hw.trans (ab some (z1 d _ rfl A))
  refine W.asg (.att (.v l6) (N.T.iat B T)) (W.j9 (.anT (.v rfl) (DJ N.T X.cls rfl) (.cm (.att (.v rfl) (N.T.iat V hw)) (.v m.l2) (eqS (aO (F.G.sym r _ (fg S))) (aO hx)))) (λJ=>?_) λJ=>W.nil (skip (λh=>J (al (A.symm.trans h))) _))
  rw[ch (A.trans (ab some J))] at hQ
  have D:∀{o C U},Now H0 t0 P o C->Ka ty o->U 7=some (.ref b)->Ev U C (.tu [.at (.v 7) 4,.at (.v 7) 15]) (plC (r,d+1)):=λ{o C U} O f E=>
   have T:=f _ _ V
   .tu (.two (.att (.v E) (O.T.iat T (O.T.it T).a4)) (.att (.v E) (O.T.iat T (O.T.it T).a15)))
  have Z:∀{M o C U},Now H0 t0 P o C->Ka ty o->o M=some (.trie x (p++[(r,d+1)]))->GTL t I x s c U->U 7=some (.ref b)->U 8=some (.ref M)->aj (calls fF mF n) mF [.ex (.ap (.v 5) (.v 7)),.asg (.n 4) (.v 8)] ⟨C,U⟩ (bf (calls fF mF n) mF [] K FX) FX:=λ{M o C U} O f G m E l8=>
   have u:=f _ _ hc
   W.iI O cF u (.v m.l5) (.v E) (by(erw[ba _];erw[ha.len]);exact gd hp (aw rfl)) λt2 H2 Q z2 R=>W.asg (.v l8) (W.nil (hQ (l++[b]) M t2 _ _ Q (f.p.t R) (by erw[ej];exact z2) ((ha.mono λa p h=>R _ _ (br h rfl hc rfl) (f _ _ h)).app (.cons (R _ _ (br V rfl hc rfl) (f _ _ V)) .nil)) (R _ _ (br G rfl u rfl) G) ⟨m.l0,m.l1,m.l2,rfl,m.l5⟩))
  obtain⟨es,M,s2,s3⟩:=N.T.sat _ _ hs
  have y:∀{U},GTL t I x s c U->U 7=some (.ref b)->aj (calls fF mF n) mF [.asg (.n 8) .d0,.asg (.ix (.v 4) (.tu [.at (.v 7) 4,.at (.v 7) 15])) (.v 8)] ⟨H,U⟩ (bf (calls fF mF n) mF [.ex (.ap (.v 5) (.v 7)),.asg (.n 4) (.v 8)] (bf (calls fF mF n) mF [] K FX) FX) FX:=λ{U} m E=>by
   refine W.newD N λc2 o C O Y dF f=>?_
   obtain⟨Q,g,R⟩:=O.pro (.trie x (p++[(r,d+1)])) dF Y ⟨[],O.T.D Y,aR,dt⟩
   have k3:Ka ty _:=λa z h=>R _ _ (f _ _ h).2 (f _ _ h).1
   obtain⟨z3,u1,u2,u3⟩:=Q.T.sat _ _ (k3 _ _ hs)
   refine W.bx (.v rfl) (.v m.l4) (D Q k3 E) u1 rfl (rz F u2 u3) (W.nil (Z (Q.bx (P':=P) (k3 _ _ hs) (ak u1) (λk k k k h=>h) ⟨_,rfl,λe J=>(bV J).elim (u2 e) λq=>?_,dQ u3⟩) k3 g ⟨m.l0,m.l1,m.l2,m.l4,m.l5⟩ E rfl))
   subst q
   exact .inr ⟨r,d+1,hi.rk,S,rfl,c2,rfl,g⟩
  have m7:GTL t I x s c (upd L 7 (.ref b)):=⟨m.l0,m.l1,m.l2,m.l4,m.l5⟩
  cases j:au es (plC (r,d+1)) with
  | none=>exact W.asg (.geN (.v m.l4) M (D N (λk k h=>h) rfl) rfl .c j) (W.gP (.nt (b:=false) (.v rfl) rfl) rfl (y ⟨m.l0,m.l1,m.l2,m.l4,m.l5⟩ rfl))
  | some w=>
   obtain⟨i,rfl,z0⟩:∃i,w=.ref i/\ty i=some (.trie x (p++[(r,d+1)])):=by
    rcases s2 _ (fj j) with⟨h,_⟩ | ⟨r',d',_,_,h,b',h1,h2⟩
    ·cases h
    ·cases o7 h
     exact⟨b',h1,h2⟩
   obtain⟨z4,v1,_⟩:=N.T.sat _ _ z0
   exact W.asg (.geS (.v m.l4) M (D N (λk k h=>h) rfl) rfl .c j) (W.ite (.nt (.v rfl) (qV N.T v1)) rfl (λk=>y ⟨m.l0,m.l1,m.l2,m.l4,m.l5⟩ rfl) λk=>W.nil (Z N (λk k h=>h) z0 ⟨m.l0,m.l1,m.l2,m.l4,m.l5⟩ rfl rfl))
 ·have J:¬ (rhs P.R r)[d]?=some x:=by rw[fi (bv S.symm)];exact nsm
  exact W.asg (.att (.v l6) (N.T.iat B T)) (W.fV (.anF (.v rfl) rfl) rfl (W.nil (skip J _)))
variable{I:Nat}{q:BM}{x:Str}
theorem uG(V:Q (ay []) H):calls fF mF (n+1) 318 [.none] H Q:=
 cB [.none] (d:=lT) rfl rfl rfl rfl λk U j=>W.gP (.nt (b:=false) (.v rfl) rfl) rfl (W.ret (.tu .nil) (U V))
theorem mJ(N:Now H0 t0 P ty H)(h:jF ty q v)(U:∀ty' H',Now H0 t0 P ty' H'->Ka ty ty'->Q (ay q) H'):calls fF mF (n+1) 318 [v] H Q:=by
 rcases h with⟨rfl,rfl⟩ | ⟨b,rfl,V⟩
 ·exact uG (U ty H N λk k h=>h)
 ·exact o5 N V U
theorem jF.truth(T:Typed P ty H)(h:jF ty q v):truth H v=some (!q.isEmpty):=by
 rcases h with⟨rfl,rfl⟩ | ⟨b,rfl,U⟩
 ·rfl
 ·obtain⟨l,V,k,_⟩:=T.st U
  erw[nH (aD V)]
  cases k <;> rfl
theorem jF.ka(h:jF ty q v)(k:Ka ty ty'):jF ty' q v:=h.imp id λh=>h.imp λb h=>⟨h.1,k _ _ h.2⟩
theorem sU{U:At}(F:Full P)(V:P.qs=fX P.R)(J:∀p∈U,∃x∈aH,(p.1=.str x/\∃b,p.2=.ref b/\ty b=some (.trie x []))∨∃q∈P.qs,p.1=vN q x/\jF ty (clo P.R (moves P.R q x)) p.2)(o:(U.map (·.1)).Nodup):U.length<szl:=by
 have:=cj o (m:=aH.map CV.str++P.qs.flatMap λq=>aH.map λx=>vN q x) λk O=>by
  obtain⟨e,f,rfl⟩:=bo.mp O
  obtain⟨x,j,⟨h,_⟩ | ⟨q,L,h,_⟩⟩:=J e f
  ·rw[h];exact de _ (dp j)
  ·rw[h];exact cq _ (ii.mpr ⟨q,L,bo.mpr ⟨x,j,rfl⟩⟩)
 have T:∀l:List (List Pl),(l.flatMap λq=>aH.map λx=>vN q x).length=l.length * 6:=λl=>by
  induction l with
  | nil=>rfl
  | cons a l C=>rw[flatMap_cons,bp,C,ba,ik,Nat.add_mul,kb];rfl
 rw[ba,bp,T,ba,V] at this
 exact ax (ae this (ew (Nat.mul_le_mul_right 6 (mH F.G)) _)) (aw rfl)
namespace W
variable{V:PT}{Q:Ap}{L:EN}{U:FV}{j:Nat}
theorem NQ(T:Ev L H o (.ref c))(g:H.dct c=some k)(h:Evs L H U J)(r:V f J H λy H'=>∃p,L j=some p/\∃k,H'.dct c=some k/\(CV.tup [y,p]).keyOk=true/\aj V M l ⟨H',upd L i ((au k (.tup [y,p])).getD .none)⟩ Q X):aj V M (.asg (.n i) (.ge o (.tu [.fn f U,.v j]) (.c .none))::l) ⟨H,L⟩ Q X:=
 T _ _ _ _ ⟨c,k,rfl,g,h _ _ _ _ r⟩
theorem MB(C:Ev L H O v)(B:Ev L H o (.ref c))(h:Evs L H U J)(r:V f J H λy H'=>∃p,L j=some p/\∃a T,CV.ref c=.ref a/\H'.dct a=some T/\(CV.tup [y,p]).keyOk=true/\T.length<szl/\aj V M l ⟨H'.bx a (aW T (.tup [y,p]) v),L⟩ Q X):aj V M (.asg (.ix o (.tu [.fn f U,.v j])) O::l) ⟨H,L⟩ Q X:=
 C _ _ _ _ (B _ _ _ _ (h _ _ _ _ r))
end W
structure Gt(P:Par)(ty:TY)(t I:Nat)(q:BM)(x:Str):Prop where
 F:Full P
 qs:P.qs=fX P.R
 t:ty t=some .table
 I:ty I=some (.stL q)
 q:q∈P.qs
 x:x∈aH
theorem Gt.ka(h:Gt P ty t I q x)(k:Ka ty ty'):Gt P ty' t I q x:={ h with t:=k _ _ h.t,I:=k _ _ h.I }
theorem Gt.wm{M:PM}(h:Gt P ty t I q x)(U:P.m<=M.m):Gt (P.wm M) ty t I q x:={ h with F:=⟨h.F.G,h.F.k,h.F.kq,h.F.kn,h.F.z,h.F.li,fa h.F.m0 U⟩ }
theorem rA{L:EN}{j:Ap}(N:Now H0 t0 P ty H)(g:Gt P ty t I q x)(l:jF ty (clo P.R (moves P.R q x)) v)(T:L 0=some (.ref t))(C:L 1=some (.ref I))(B:L 2=some (.str x))(J:L 3=some v)
(a:∀ty' H',Now H0 t0 P ty' H'->Ka ty ty'->j (.ret v) ⟨H',L⟩):aj (calls fF mF (n+1)) mF [.asg (.ix (.at (.v 0) 34) (.tu [.fn 318 [.v 1],.v 2])) (.v 3),.ret (.v 3)] ⟨H,L⟩ j FX:=by
 have U:=(N.T.tb g.t).a34
 refine W.MB (.v J) (.att (.v T) (N.T.tat g.t U.1)) (.one (.v C)) (o5 N g.I λA M o V=>?_)
 obtain⟨D,O,p,f⟩:=o.T.sat _ _ (V _ _ U.2)
 refine⟨_,B,_,D,rfl,O,wg q (aO g.x),sU g.F g.qs p f,W.ret (.v J) (a A _ (o.bx (P':=P) (V _ _ U.2) (ak O) (λk k k k h=>h) ⟨_,rfl,λe E=>(bV E).elim (p e) λe=>?_,dQ f⟩) V)⟩
 subst e
 exact⟨x,g.x,.inr ⟨q,g.q,rfl,l.ka V⟩⟩
theorem g9{a:Nat}(T:Typed P ty H)(h:ty a=some (.stL q)):H.lst a=some (q.map λp=>CV.ref (P.it p.1 p.2))/\∀p∈q,ty (P.it p.1 p.2)=some (.item p.1 p.2):=by
 obtain⟨l,O,j,_⟩:=T.st h
 have U:∀{l:Bz} {q:BM},dN (λa p=>ty a=some (.item p.1 p.2)) l q->l.map CV.ref=q.map (λp=>CV.ref (P.it p.1 p.2))/\∀p∈q,ty (P.it p.1 p.2)=some (.item p.1 p.2):=λ{l q} j=>by
  induction j with
  | nil=>exact⟨rfl,aR⟩
  | @cons a p l q V _ o=>
   have k:a=P.it p.1 p.2:=(T.it V).pin
   subst k
   exact⟨by(erw[jp];erw[jp];exact Eq.substr o.1 rfl),λf J=>(bt.mp J).elim (λe=>e▸V) (o.2 f)⟩
 exact⟨O.trans (ab some (U j).1),(U j).2⟩
theorem sV:(moves R q x).length<=q.length:=length_filterMap_le _ _
theorem sW{y:Ap}{s:Nat}{r:Bz}(N:Now H0 t0 P ty H)(g:Gt P ty t I q x)(l:ty c=some (.aq (r.map .ref)))(cF:H0.free c)(Y:dN (λa p=>ty a=some (.item p.1 p.2)) r (moves P.R q x))(F:ty s=some (.trie x (moves P.R q x)))(m:GTL t I x s c L)(l3:L 3=some v)(R:moves P.R q x=[]->jF ty (clo P.R (moves P.R q x)) v)
(hQ:∀M ty' H' v L,P.m<=M.m->Now H0 t0 (P.wm M) ty' H'->Kp c ty ty'->jF ty' (clo P.R (moves P.R q x)) v->y (.ret v) ⟨H',L⟩) :
  aj (calls fF mF (n+1)) mF [.ite (.v 5) [.asg (.n 3) (.me (.v 0) 48 [.v 5]),.asg (.ix (.v 4) (.c (.str eS))) (.v 3)] [.asg (.ix (.v 4) (.c (.str eS))) (.v 5)]] ⟨H,L⟩ (bf (calls fF mF (n+1)) mF [.asg (.ix (.at (.v 0) 34) (.tu [.fn 318 [.v 1],.v 2])) (.v 3),.ret (.v 3)] y FX) FX:=by
 have U:=Y.len
 have k:(CV.str eS).keyOk=true:=xS _ aM
 have z0:=sV (q:=q) (x:=x) (R:=P.R)
 have z1:=iK g.F.G (g.qs▸g.q)
 refine W.ite (.v m.l5) (nH (N.T.gL l)) (λz2=>?_) λS=>?_
 ·have T:=N.T.tb g.t
  refine W.me (.v m.l0) T.cls rfl rfl (T.no 48 (by decide)) (.one (.v m.l5)) (v5 N g.F g.t l Y (by lia) λX V t5 H5 C j J=>?_)
  have hm:P.m<=P.m+1:=by lia
  have g5:=(g.ka j).wm (M:=⟨V,P.m+1⟩) hm
  obtain⟨Z,B,A,D⟩:=C.T.sat _ _ (j _ _ F)
  refine W.bx (.v rfl) (.v m.l4) .c B k (rz (P:=P.wm ⟨V,P.m+1⟩) g5.F A D) (W.nil (W.nil (rA (C.bx (P':=P.wm ⟨V,P.m+1⟩) (j _ _ F) (ak B) (λO O O O h=>h) ⟨_,rfl,λe K=>(bV K).elim (A e) λe=>?_,dQ D⟩) g5 (.inr ⟨X,rfl,J⟩) m.l0 m.l1 m.l2 rfl λG u Q E=>hQ ⟨V,P.m+1⟩ G u _ _ hm Q (j.t E).p (.inr ⟨X,rfl,E _ _ J⟩))))
  subst e
  exact .inl ⟨rfl,X,rfl,J⟩
 ·have f:moves P.R q x=[]:=by
   cases r with
   | nil=>exact fw U.symm
   | cons=>cases S
  have R:=R f
  rw[f] at U
  obtain rfl:r=[]:=fw U
  obtain⟨C,w,j⟩:=N.pro (.stL []) cF l ⟨[],N.T.L l,.nil,by decide⟩
  have d:∀{a z},ty a=some z->z.own=false->_=some z:=λh o=>j _ _ (br h o l rfl) h
  obtain⟨Z,B,A,D⟩:=C.T.sat _ _ (d F rfl)
  have i:jF _ (clo P.R (moves P.R q x)) v:=R.imp id λh=>h.imp λb h=>⟨h.1,d h.2 rfl⟩
  refine W.bx (.v m.l5) (.v m.l4) .c B k (rz g.F A D) (W.nil (W.nil (rA (C.bx (P':=P) (d F rfl) (ak B) (λO O O O h=>h) ⟨_,rfl,λe K=>(bV K).elim (A e) λe=>?_,dQ D⟩) { g with t:=d g.t rfl,I:=d g.I rfl } i m.l0 m.l1 m.l2 l3 λG u Q E=>hQ P.toPM G u _ _ (mA _) Q (j.t E.p) (i.ka E))))
  subst e
  exact .inl ⟨rfl,c,rfl,by(erw[f];erw[mE]);exact w⟩
inductive GTI(P:Par)(H0:CH)(t0 ty:TY)(t I:Nat)(x:Str)(c:Nat)(m:BM)(H':CH)(L:EN):Prop
 | mk (l5:Bz) (s:Nat) (ty':TY) (N:Now H0 t0 P ty' H') (k:Kp c ty ty') (hc:ty' c=some (.aq (l5.map .ref))) (ha:dN (λa p=>ty' a=some (.item p.1 p.2)) l5 m) (hs:ty' s=some (.trie x m)) (w:GTL t I x s c L)
theorem wj{L:EN}{D:Ap}{s:Nat}(N:Now H0 t0 P ty H)(g:Gt P ty t I q x)(hs:ty s=some (.trie x []))(l0:L 0=some (.ref t))(e:L 1=some (.ref I))(l2:L 2=some (.str x))(l4:L 4=some (.ref s))
(hQ:∀M ty' H' v L,P.m<=M.m->Now H0 t0 (P.wm M) ty' H'->Ka ty ty'->jF ty' (clo P.R (moves P.R q x)) v->D (.ret v) ⟨H',L⟩) :
  aj (calls fF mF (n+1)) mF [.asg (.n 5) (.li []),.fr (.n 6) (.val (.v 1)) aC [],.asg (.n 3) (.ge (.v 4) (.c (.str eS)) (.c .none)),
   .ite (.nt (.v 3)) [.ite (.v 5) [.asg (.n 3) (.me (.v 0) 48 [.v 5]),.asg (.ix (.v 4) (.c (.str eS))) (.v 3)] [.asg (.ix (.v 4) (.c (.str eS))) (.v 5)]] [],
   .asg (.ix (.at (.v 0) 34) (.tu [.fn 318 [.v 1],.v 2])) (.v 3),.ret (.v 3)] ⟨H,L⟩ D FX:=by
 refine W.newL N .nil λc t1 H1 N1 hc E V=>?_
 have z0:=iK g.F.G (g.qs▸g.q)
 refine frL (ys:=q) (f:=λp=>.ref (P.it p.1 p.2)) (a:=I) (I:=λi=>GTI P H0 t0 t1 t I x c (moves P.R (q.take i) x)) (.v e)
  ⟨[],s,t1,N1,.r,hc,.nil,(V _ _ hs).1,l0,e,l2,l4,rfl⟩ (λi H L h=>h.casesOn λO O C J f O O O O=>aD (g9 J.T (f _ _ (V _ _ g.I).2 (V _ _ g.I).1)).1) ?_ ?_
 ·rintro i p H2 L2 K hp ⟨l5,s',C,J,f,o,j,U,m⟩ hK
  have F:=(g9 J.T (f _ _ (V _ _ g.I).2 (V _ _ g.I).1)).2 p (be hp)
  have R:moves P.R (q.take (i+1)) x=moves P.R (q.take i) x++if (rhs P.R p.1)[p.2]?=some x then [(p.1,p.2+1)] else []:=by
   (erw[eI];erw[hp])
   exact ja
  rw[R] at hK
  exact GK (t:=t) (I:=I) J g.F g.x o E j (ax sV (by erw[length_take];lia)) U F ⟨m.l0,m.l1,m.l2,m.l4,m.l5⟩ rfl λl' s2 S H3 L3 X B Z G u m3=>hK.nxt ⟨l',s2,S,X,f.t B,Z,G,u,m3⟩
 rintro H2 L2 ⟨l5,s',C,J,f,o,j,U,m⟩
 rw[fI] at j U
 have Q:Gt P C t I q x:={ g with t:=f _ _ (V _ _ g.t).2 (V _ _ g.t).1,I:=f _ _ (V _ _ g.I).2 (V _ _ g.I).1 }
 obtain⟨es,u1,u2,u3⟩:=J.T.sat _ _ U
 have l:(CV.str eS).keyOk=true:=xS _ aM
 have T:∀M ty' H' v L,P.m<=M.m->Now H0 t0 (P.wm M) ty' H'->Kp c C ty'->jF ty' (clo P.R (moves P.R q x)) v->D (.ret v) ⟨H',L⟩:=λM ty' H' v L y N k hr=>hQ M ty' H' v L y N (λa z h=>k _ _ (V _ _ h).2 (f _ _ (V _ _ h).2 (V _ _ h).1)) hr
 refine W.nil ?_
 cases Y:au es (.str eS) with
 | none=>exact W.asg (.geN (.v m.l4) u1 .c l .c Y) (W.gP (.nt (b:=false) (.v rfl) rfl) rfl (sW J Q o E j U ⟨m.l0,m.l1,m.l2,m.l4,m.l5⟩ rfl (λy=>.inl ⟨rfl,by(erw[y];exact Eq.substr mE rfl)⟩) T))
 | some w=>
  obtain⟨b,rfl,hb⟩:∃b,w=.ref b/\C b=some (.stL (clo P.R (moves P.R q x))):=by
   rcases u2 _ (fj Y) with⟨_,h⟩ | ⟨r,d,_,_,h,_⟩
   ·exact h
   ·cases h
  have A:jF C (clo P.R (moves P.R q x)) (.ref b):=.inr ⟨b,rfl,hb⟩
  exact W.asg (.geS (.v m.l4) u1 .c l .c Y) (W.ite (.nt (.v rfl) (A.truth J.T)) rfl (λO=>sW J Q o E j U ⟨m.l0,m.l1,m.l2,m.l4,m.l5⟩ rfl (λO=>A) T) λO=>W.nil (rA J Q A m.l0 m.l1 m.l2 rfl λS H3 X B=>T P.toPM S H3 _ _ (mA _) X B.p (A.ka B)))
theorem Ea(N:Now H0 t0 P ty H)(g:Gt P ty t I q x)(s:∀M ty' H' v,P.m<=M.m->Now H0 t0 (P.wm M) ty' H'->Ka ty ty'->jF ty' (clo P.R (moves P.R q x)) v->Q v H'):calls fF mF (n+2) 347 [.ref t,.ref I,.str x] H Q:=by
 refine cB [.ref t,.ref I,.str x] (d:=bq) rfl rfl rfl rfl λZ V j=>?_
 have U:=(N.T.tb g.t).a34
 obtain⟨z0,K,_⟩:=N.T.sat _ _ U.2
 have o:=aV x g.x
 refine W.NQ (.att (.v rfl) (N.T.tat g.t U.1)) K (.one (.v rfl)) (o5 N g.I λD d k p=>?_)
 clear K
 obtain⟨f,m,G,d3⟩:=k.T.sat _ _ (p _ _ U.2)
 have l:=g.ka p
 have U:=(k.T.tb l.t).a34
 refine⟨_,rfl,f,m,wg q (aO g.x),?_⟩
 have J:∀u,aj (calls fF mF (n+1)) mF [.asg (.n 4) (.ge (.at (.v 0) 34) (.v 2) (.c .none)),.ite (.nt (.v 4)) [.asg (.n 4) .d0,.asg (.ix (.at (.v 0) 34) (.v 2)) (.v 4)] [],
   .asg (.n 5) (.li []),.fr (.n 6) (.val (.v 1)) aC [],.asg (.n 3) (.ge (.v 4) (.c (.str eS)) (.c .none)),
   .ite (.nt (.v 3)) [.ite (.v 5) [.asg (.n 3) (.me (.v 0) 48 [.v 5]),.asg (.ix (.v 4) (.c (.str eS))) (.v 3)] [.asg (.ix (.v 4) (.c (.str eS))) (.v 5)]] [],
   .asg (.ix (.at (.v 0) 34) (.tu [.fn 318 [.v 1],.v 2])) (.v 3),.ret (.v 3)] ⟨d,upd (locs 0 [.ref t,.ref I,.str x]) 3 u⟩ Z FX:=λu=>by
  have T:∀{L},L 0=some (.ref t)->L 1=some (.ref I)->L 2=some (.str x)->aj (calls fF mF (n+1)) mF [.asg (.n 4) .d0,.asg (.ix (.at (.v 0) 34) (.v 2)) (.v 4)] ⟨d,L⟩ (bf (calls fF mF (n+1)) mF [.asg (.n 5) (.li []),.fr (.n 6) (.val (.v 1)) aC [],.asg (.n 3) (.ge (.v 4) (.c (.str eS)) (.c .none)),
   .ite (.nt (.v 3)) [.ite (.v 5) [.asg (.n 3) (.me (.v 0) 48 [.v 5]),.asg (.ix (.v 4) (.c (.str eS))) (.v 3)] [.asg (.ix (.v 4) (.c (.str eS))) (.v 5)]] [],
   .asg (.ix (.at (.v 0) 34) (.tu [.fn 318 [.v 1],.v 2])) (.v 3),.ret (.v 3)] Z FX) FX:=λ{L} Y l1 l2=>by
   refine W.newD k λc t3 H3 N3 C dF k3=>?_
   obtain⟨E,B,k4⟩:=N3.pro (.trie x []) dF C ⟨[],N3.T.D C,aR,dt⟩
   have k5:Ka D _:=λa z h=>k4 _ _ (k3 _ _ h).2 (k3 _ _ h).1
   have i:=l.ka k5
   have U:=(E.T.tb i.t).a34
   obtain⟨z1,w1,w2,w3⟩:=E.T.sat _ _ U.2
   refine W.bx (.v rfl) (.att (.v Y) (E.T.tat i.t U.1)) (.v l2) w1 o (sU g.F g.qs w2 w3) (W.nil (wj (E.bx (P':=P) U.2 (ak w1) (λj j j j h=>h) ⟨_,rfl,λe he=>(bV he).elim (w2 e) λe=>?_,dQ w3⟩) i B Y l1 l2 rfl λM r F v L R S X A=>V (s M r F v R S (p.t (k5.t X)) A)))
   subst e
   exact⟨x,g.x,.inl ⟨rfl,c,rfl,B⟩⟩
  cases O:au f (.str x) with
  | none=>exact W.asg (.geN (.att (.v rfl) (k.T.tat l.t U.1)) m (.v rfl) o .c O) (W.gP (.nt (b:=false) (.v rfl) rfl) rfl (T rfl rfl rfl))
  | some w=>
   obtain⟨b,rfl,hb⟩:∃b,w=.ref b/\D b=some (.trie x []):=by
    obtain⟨y,hy,⟨h,b,h1,h2⟩ | ⟨_,_,h,_⟩⟩:=G _ (fj O)
    ·cases CV.str.inj h;exact⟨b,h1,h2⟩
    ·cases h
   obtain⟨z2,v1,_⟩:=k.T.sat _ _ hb
   exact W.asg (.geS (.att (.v rfl) (k.T.tat l.t U.1)) m (.v rfl) o .c O) (W.ite (.nt (.v rfl) (qV k.T v1)) rfl (λj=>T rfl rfl rfl) λj=>W.nil (wj k l hb rfl rfl rfl rfl λM r F v L R S X A=>V (s M r F v R S (p.t X) A)))
 cases O:au f (vN q x) with
 | none=>exact W.fV (.v (by erw[show au f (.tup [ay q,.str x])=none from O];rfl)) rfl (W.nil (J _))
 | some v=>
  have hR:jF D (clo P.R (moves P.R q x)) v:=by
   obtain⟨y,hy,⟨h,_⟩ | ⟨q',z3,h,A⟩⟩:=G _ (fj O)
   ·cases h
   ·obtain⟨rfl,rfl⟩:=D9 h
    exact A
  erw[show au f (.tup [ay q,.str x])=some v from O]
  exact W.ite (.v rfl) (hR.truth k.T) (λj=>W.ret (.v rfl) (V (s P.toPM D d v (mA _) k p hR))) λj=>W.nil (J _)
end
section
variable(R:List aI)
noncomputable def usy(q:BM):List Str:=nub [] (q.flatMap λp=>nub [] (rhs R p.1))
noncomputable abbrev Ch:=List (List Pl)
noncomputable def gm(q:BM)(C:Ch)(x:Str):List (List Pl):=if clo R (moves R q x)=[]∨clo R (moves R q x)∈C then C else C++[clo R (moves R q x)]
noncomputable def rR:Nat->List (List Pl)->Nat->List (List Pl)
 | 0,C,_=>C
 | f+1,C,i=>C[i]?.elim C λq=>rR f ((usy R q).foldl (gm R q) C) (i+1)
noncomputable def CC:List (List Pl):=rR R ((fX R).length+1) [clo R [(0,0)]] 0
end
section
variable{R:List aI}
theorem o8{q:BM}{x:Str}:x∈usy R q↔∃p∈q,x∈rhs R p.1:=
 i8.trans ((or_iff_right cp).trans (ii.trans (exists_congr λp=>and_congr_right λz=>i8.trans (or_iff_right cp))))
theorem sX{q:BM}(h:moves R q x≠[]):x∈usy R q:=
 (exists_mem_of_ne_nil _ h).elim λp z=>(cR.mp z).elim λd e=>o8.mpr ⟨_,e.2.1,be e.2.2⟩
section
variable{q:BM}{C:Ch}
theorem uH(h:clo R (moves R q x)=[]∨clo R (moves R q x)∈C):gm R q C x=C:=ch h
theorem rB(h:¬ (clo R (moves R q x)=[]∨clo R (moves R q x)∈C)):gm R q C x=C++[clo R (moves R q x)]:=ca h
theorem Be{g:BM}(h:g∈C):g∈gm R q C x:=by
 by_cases k:clo R (moves R q x)=[]∨clo R (moves R q x)∈C
 ·erw[uH k];exact h
 ·erw[rB k];exact de _ h
end
theorem Bf{q:BM}{l:Bi}:∀{C:Ch} {g:BM},g∈C->g∈l.foldl (gm R q) C:=by
 induction l with
 | nil=>exact λh=>h
 | cons x l z=>exact λh=>z (Be h)
theorem wu{z:Type}{l:List z}{a p:z}{j:Nat}(h:(l++[a])[j]?=some p):l[j]?=some p∨j=l.length/\p=a:=by
 rcases Nat.lt_trichotomy j l.length with q | q | q
 ·exact .inl ((fA q).symm.trans h)
 ·exact .inr ⟨q,(al (getElem?_concat_length.symm.trans (q▸h))).symm⟩
 ·exact nos ((fi (bp▸q)).symm.trans h)
theorem mK{z:Type}{l:List z}{a p:z}{j:Nat}(h:l[j]?=some p):(l++[a])[j]?=some p:=(fA (a6.mp h).1).trans h
inductive Rch(R:List aI)(C:Ch)(j:Nat)(q:BM):Prop
 | z (e:j=0)
 | s (i:Nat) (p:BM) (x:Str) (h:i<j) (hp:C[i]?=some p) (hx:x∈aH) (hm:moves R p x≠[]) (e:q=clo R (moves R p x))
structure Stt(R:List aI)(C:Ch)(i:Nat):Prop where
 le:i<=C.length
 nd:C.Nodup
 sub:∀q∈C,q∈fX R
 hd:C[0]?=some (clo R [(0,0)])
 rch:∀j q,C[j]?=some q->Rch R C j q
 cls:∀j q x,j<i->C[j]?=some q->moves R q x≠[]->clo R (moves R q x)∈C
theorem MC:Stt R [clo R [(0,0)]] 0:=
 ⟨dd _,fb _ _,λq h=>bc.mp h▸aM,rfl,λj q h=>.z (Nat.lt_one_iff.mp (a6.mp h).1),λj q x h=>absurd h (ij _)⟩
theorem Eb(G:GoodR R){i:Nat}{q:BM}{x:Str}(h:Stt R C k)(w:C[i]?=some q)(v:x∈aH):Stt R (gm R q C x) k/\(gm R q C x)[i]?=some q:=by
 by_cases Y:clo R (moves R q x)=[]∨clo R (moves R q x)∈C
 ·erw[uH Y];exact⟨h,w⟩
 ·erw[rB Y]
  exact⟨⟨bp▸ae h.le (dE _ _),eO h.nd λe=>Y (.inr e),cO h.sub (Bd G (h.sub q (be w)) x),mK h.hd,
   λj p Q=>(wu Q).elim (λQ=>(h.rch j p Q).casesOn .z λV J o O f=>.s V J o O (mK f)) λe=>.s i q x (e.1▸(a6.mp w).1) (mK w) v (λz=>Y (.inl ((ab (clo R) z).trans mE))) e.2,
   λj p y Q U g=>(wu U).elim (λU=>de _ (h.cls j p y Q U g)) λe=>absurd (e.1▸Q) (Nat.not_lt_of_le h.le)⟩,mK w⟩
theorem wz(G:GoodR R){i:Nat}{q:BM}{l:Bi}:∀{C:Ch},Stt R C k->C[i]?=some q->(∀x∈l,x∈aH)->Stt R (l.foldl (gm R q) C) k/\(l.foldl (gm R q) C)[i]?=some q/\∀x∈l,moves R q x≠[]->clo R (moves R q x)∈l.foldl (gm R q) C:=by
 induction l with
 | nil=>exact λh Q V=>⟨h,Q,aR⟩
 | cons x l v=>
  intro C h Q Y
  have a:=Eb G h Q (Y x aM)
  have b:=v a.1 a.2 λy z=>Y y (bb _ z)
  refine⟨b.1,b.2.1,λy z U=>(bt.mp z).elim (λe=>Bf (l:=l) ?_) λz=>b.2.2 y z U⟩
  subst e
  by_cases w:clo R (moves R q y)=[]∨clo R (moves R q y)∈C
  ·erw[uH w];exact w.resolve_left λe=>U (uE.mp e)
  ·erw[rB w];exact cq _ aM
theorem o9(G:GoodR R)(h:Stt R C i):C.length<=(fX R).length:=cj h.nd h.sub
theorem Af{f i:Nat}{C:Ch}(e:C[i]?=none):rR R (f+1) C i=C:=ab (Option.elim · C _) e
theorem Ag{f i:Nat}{C:Ch}{q:BM}(e:C[i]?=some q):rR R (f+1) C i=rR R f ((usy R q).foldl (gm R q) C) (i+1):=ab (Option.elim · C λq=>rR R f ((usy R q).foldl (gm R q) C) (i+1)) e
theorem wA(G:GoodR R){q:BM}(h:Stt R C i)(e:C[i]?=some q):Stt R ((usy R q).foldl (gm R q) C) (i+1):=by
 obtain⟨z,y,U⟩:=wz G h e (l:=usy R q) λx v=>(o8.mp v).elim λp h=>G.sym _ _ h.2
 refine⟨(a6.mp y).1,z.nd,z.sub,z.hd,z.rch,λj p x V Y Q=>(hZ (db V)).elim (λw=>z.cls j p x w Y Q) λe=>?_⟩
 obtain rfl:=al (y.symm.trans (e▸Y))
 exact U x (sX Q) Q
theorem Ec(G:GoodR R)(f:Nat):∀(C:Ch) (i:Nat),Stt R C i->(fX R).length<f+i->Stt R (rR R f C i) (rR R f C i).length:=by
 induction f with
 | zero=>exact λC i h z=>absurd (cf z ((lL i).symm▸ae h.le (o9 G h))) (kv _)
 | succ f Q=>
  intro C i h z
  cases e:C[i]? with
  | none=>erw[Af e];exact eD h.le (eC.mp e)▸h
  | some q=>erw[Ag e];exact Q _ (i+1) (wA G h e) (hN z (iv f i))
theorem dZ(G:GoodR R):Stt R (CC R) (CC R).length:=Ec G _ _ _ MC (dq _)
theorem ye(G:GoodR R):(CC R).length<=109602:=ae (o9 G (dZ G)) (mH G)
theorem Ed{C:Ch}:rR R f C C.length=C:=by
 cases f with
 | zero=>rfl
 | succ f=>exact Af (fi (cr _))
theorem jb{q:BM}{p:Pl}(h:p∈clo R q):p∈q∨p.2=0/\1<=p.1:=(jZ (R:=R) q).elim λz e=>(dC.mp (e.1▸h)).imp_right λh=>⟨(e.2.1 p h).1,(e.2.1 p h).2.1⟩
theorem wB{q:BM}(h:(0,0)∈clo R (moves R q x)):False:=(jb h).elim (λh=>(cR.mp h).elim λd h=>absurd h.1.symm (ml d)) λh=>absurd h.2 (lj 0)
theorem GL(G:GoodR R){j:Nat}{q:BM}(h:(CC R)[j]?=some q)(Q:(0,0)∈q):j=0:=
 ((dZ G).rch j q h).casesOn id λi p x z z z z e=>(wB (e▸Q)).elim
theorem Ef{l:BM}{a:Pl}(z:l.Nodup)(Q:a∈l)(h:∀b∈l,b=a):l=[a]:=by
 cases l with
 | nil=>exact absurd Q cp
 | cons b t=>
  obtain rfl:=h b aM
  cases t with
  | nil=>rfl
  | cons c t=>exact absurd ((h c (bb _ aM)).symm▸aM) (ei.mp z).1
theorem JB(G:GoodR R){j:Nat}{q:BM}(h:(CC R)[j]?=some q)(V:(0,1)∈q):q=[(0,1)]:=by
 have k:∀p∈clo R [(0,0)],p.2=0:=λp Q=>(jb Q).elim (λh=>bc.mp h▸rfl) λh=>h.1
 cases(dZ G).rch j q h with
 | z e=>exact absurd (k _ (al ((e▸h).symm.trans (dZ G).hd)▸V)) Nat.one_ne_zero
 | s i p x _ J _ f e=>
  subst e
  have w:(0,1)∈moves R p x:=(jb V).resolve_right λh=>absurd h.1 Nat.one_ne_zero
  obtain⟨d,U,v,y⟩:=cR.mp w
  obtain rfl:=Nat.succ.inj U
  obtain rfl:=al ((GL G J v▸J).symm.trans (dZ G).hd)
  obtain rfl:sS=x:=al ((ab (·[0]?) (GJ G)).symm.trans y)
  have Y:moves R (clo R [(0,0)]) sS=[(0,1)]:=Ef (vW v9) w λp Q=>by
   obtain⟨d,U,o,y⟩:=cR.mp Q
   obtain rfl:d=0:=k _ o
   exact my (Nat.eq_zero_of_not_pos λO=>absurd (G.fst p.1 sS O y) (by decide)) U
  erw[Y]
  exact Ef (xZ D8 λp Q g=>bc.mp Q▸rfl) (mD aM) (uD (S:=λp=>p=(0,1)) (λp Q r y=>nos ((ab (·[1]?) (GJ G)).symm.trans (Q▸(dR.mp y).2.2))) λp Q=>bc.mp Q)
end
noncomputable def PE.heU(E:PE)(he:At):PE:={ E with he:=he }
noncomputable def Par.wh(P:Par)(M:PM)(he:At):Par:={ P with toPM:=M,toPE:=P.toPE.heU he }
structure fY(he:At)(C:Ch):Prop where
 at_:∀(j:Nat) (q:BM),C[j]?=some q->au he (ay q)=some (.int j)
 no:∀q,q∉C->au he (ay q)=none
 len:he.length<=C.length
theorem sY{g:BM}(h:fY he C)(Y:g∉C):fY (aW he (ay g) (.int C.length)) (C++[g]):=by
 refine⟨λj q Q=>?_,λq w=>?_,?_⟩
 ·rw[aQ]
  rcases mc j C.length with z | z
  ·rw[fA z] at Q
   rw[ca λe=>Y (by rw[gO e];exact be Q)]
   exact h.at_ j q Q
  ·have y:=(a6.mp Q).1
   rw[bp] at y
   obtain rfl:j=C.length:=eD (db y) z
   rw[getElem?_concat_length] at Q
   rw[al Q,ch rfl]
 ·rw[aQ,ca λe=>w (by rw[gO e];exact cq _ aM)]
  exact h.no q λU=>w (de _ U)
 ·rw[bp]
  exact ae mz (et h.len)
theorem jK{z:Bi}{s:Str}:aW (z.map λs=>(CV.str s,CV.none)) (.str s) .none=(if s∈z then z else z++[s]).map λs=>(CV.str s,CV.none):=by
 induction z with
 | nil=>rfl
 | cons a z Q=>
  show(if CV.str a=.str s then _ else _)=_
  by_cases e:a=s
  ·subst e;(erw[ch rfl];erw[ch aM]);rfl
  ·(erw[ca λq=>e (CV.str.inj q)];erw[Q])
   by_cases h:s∈z
   ·(erw[ch h];erw[ch (bb _ h)]);rfl
   ·(erw[ca h];erw[ca λq=>(bt.mp q).elim (λq=>e q.symm) h]);rfl
section
variable{P:Par}{w U z:TY}{H Y y:CH}{n c g t:Nat}{Q:DD}{q:BM}
theorem ia(T:Typed P w H)(o:w t=some .table):H.dct P.hash=some P.he:=(T.sat _ _ (T.tb o).a35.2).2 rfl
theorem wC{k v:CV}(N:Now y U P w H)(O:w t=some .table):Now y U (P.wh P.toPM (aW P.he k v)) w (H.bx P.hash (aW P.he k v)):=by
 refine N.bx (N.T.tb O).a35.2 (ak (ia N.T O)) (λa V o p s=>?_) ⟨cw _,λf=>rfl⟩
 cases V
 case kH=>exact⟨s.1,λe=>absurd (show P.hash=a from e).symm o⟩
 all_goals exact s
namespace W
variable{O:PT}{a:FB}{Q:Ap}{L:EN}{i j:Nat}
theorem JC(D:Ev L H B (.bool A))(E:A=true->aj O M a ⟨H,L⟩ (bf O M l Q X) X)(h:Evs L H p T)(s:A=false->O f T H λy Y=>wpE O M N ⟨Y,L⟩ (λz st=>∃r,bO st.H .isIn y z=some r/\∃q,truth st.H (.bool r)=some q/\if q then aj O M a st (bf O M l Q X) X else aj O M b st (bf O M l Q X) X) X):aj O M (.ite (.orr B (.cm .isIn (.fn f p) N)) a b::l) ⟨H,L⟩ Q X:=by
 cases A with
 | true=>exact D _ _ _ _ ⟨true,rfl,true,rfl,E rfl⟩
 | false=>exact D _ _ _ _ ⟨false,rfl,h _ _ _ _ (s rfl)⟩
theorem MD(D:Ev L H C v)(E:Ev L H o (.ref c))(h:Evs L H p T)(r:O f T H λy Y=>∃a A,CV.ref c=.ref a/\Y.dct a=some A/\y.keyOk=true/\A.length<szl/\aj O M l ⟨Y.bx a (aW A y v),L⟩ Q X):aj O M (.asg (.ix o (.fn f p)) C::l) ⟨H,L⟩ Q X:=
 D _ _ _ _ (E _ _ _ _ (h _ _ _ _ r))
end W
theorem Eg{L:EN}{l:Bz}{K:Ap}(N:Now y U P w H)(g:Gt P w t I q x)(hc:w c=some (.aq (l.map .ref)))(cF:y.free c)(k:dN (λa q=>w a=some (.stL q)) l C)(r:fY P.he C)(D:C.length<=109602)
(J:L 0=some (.ref t))(l1:L 1=some (.ref c))(l3:L 3=some (.ref I))(l7:L 7=some (.str x))
(u:∀M he l' z Y v f,P.m<=M.m->Now y U (P.wh M he) z Y->Kp c w z->z c=some (.aq (l'.map .ref))->dN (λa q=>z a=some (.stL q)) l' (gm P.R q C x)->fY he (gm P.R q C x)->(f=.next∨f=.cont)->K f ⟨Y,upd L 8 v⟩) :
  aj (calls fF mF (n+3)) mF cz ⟨H,L⟩ K FX:=by
 have F:=N.T.tb g.t
 refine W.me (.v J) F.cls rfl rfl (F.no 49 (by decide)) (.two (.v l3) (.v l7)) (Ea N g λM t1 H1 v hm N1 Q V=>?_)
 have skip:∀{R m},Now y U (P.wm M) R m->Ka t1 R->(clo P.R (moves P.R q x)=[]∨clo P.R (moves P.R q x)∈C)->K .cont ⟨m,upd L 8 v⟩:=λ{R m} o B h=>by
  have p:gm P.R q C x=C:=ch h
  rw[p] at u
  exact u M P.he l R m v .cont hm o (Q.t B).p (B _ _ (Q _ _ hc)) (k.mono λa q h=>B _ _ (Q _ _ h)) r (.inr rfl)
 refine W.JC (.nt (.v rfl) (V.truth N1.T)) (λe=>W.cont (skip N1 (λζ ζ h=>h) (.inl (eP.mp (by simpa using e))))) (.one (.v rfl)) λe=>mJ N1 V λR m o A=>?_
 have S:clo P.R (moves P.R q x)≠[]:=λh=>by rw[h] at e;cases e
 have B:=Q.t A
 have O:=B _ _ g.t
 have X:m.dct P.hash=some P.he:=ia (P:=P.wm M) o.T O
 have E:=i9 (clo P.R (moves P.R q x))
 refine(Ev.att (L:=upd L 8 v) (.v (i:=0) J) (o.T.tat O (o.T.tb O).a35.1)) _ _ _ _ ?_
 by_cases T:clo P.R (moves P.R q x)∈C
 ·obtain⟨j,hj⟩:=iq.mp T
  exact⟨true,A8 o.T X E (r.at_ j _ hj),true,rfl,W.cont (skip o A (.inr T))⟩
 refine⟨false,x7 o.T X E (r.no _ T),false,rfl,?_⟩
 have p:gm P.R q C x=C++[clo P.R (moves P.R q x)]:=ca λe=>e.elim S T
 have s:=B _ _ hc
 have Z:=k.len
 refine W.nil (W.MD (.uw (k:=C.length) (.v l1) (o.T.lc (o.T.L s)) (by(erw[vR (o.T.gL s)];erw[ba _];exact Eq.substr Z rfl)) (ae D (aw rfl))) (.att (.v J) (o.T.tat O (o.T.tb O).a35.1)) (.one (.v rfl)) (mJ o (V.ka A) λt3 H3 N3 i=>?_))
 have G:=i _ _ O
 have N4:=wC (k:=ay (clo P.R (moves P.R q x))) (v:=.int C.length) N3 G
 refine⟨_,_,rfl,ia N3.T G,E,ax (ae r.len D) (aw rfl),?_⟩
 have z0:∃b,v=.ref b/\t3 b=some (.stL (clo P.R (moves P.R q x))):=by
  rcases V with⟨_,h⟩ | ⟨b,e,h⟩
  ·exact absurd h S
  ·exact⟨b,e,i _ _ (A _ _ h)⟩
 obtain⟨b,rfl,hb⟩:=z0
 have d:=i _ _ s
 refine W.iI N4 cF d (.v l1) (.v rfl) (by(erw[ba _];erw[Z]);exact ax D (aw rfl)) λt5 H5 N5 z1 k5=>?_
 rw[p] at u
 exact u M _ (l++[b]) t5 H5 _ .next hm N5 ((B.t i).p.t k5) (by erw[ej];exact z1) ((k.mono λa q h=>k5 _ _ (br (i _ _ (B _ _ h)) rfl d rfl) (i _ _ (B _ _ h))).app (.cons (k5 _ _ (br hb rfl d rfl) hb) .nil)) (sY r T) (.inl rfl)
end
theorem Eh{l:Bi}{i:Nat}(h:l[i]?=some x):nub z (l.take (i+1))=if x∈nub z (l.take i) then nub z (l.take i) else nub z (l.take i)++[x]:=by
 (erw[eI];erw[h]);exact vS
theorem Ah{D l:Bi}:∀{acc:Bi},acc.Nodup->(∀y∈acc,y∈D)->(∀y∈l,y∈D)->(nub acc l).Nodup/\∀y∈nub acc l,y∈D:=by
 induction l with
 | nil=>exact λQ w j=>⟨Q,w⟩
 | cons y m U=>
  intro acc Q w v
  show(nub (if y∈acc then acc else acc++[y]) m).Nodup/\∀z∈nub (if y∈acc then acc else acc++[y]) m,z∈D
  have V:=λz k=>v z (bb _ k)
  by_cases Y:y∈acc
  ·erw[ch Y];exact U Q w V
  ·erw[ca Y];exact U (eO Q Y) (cO w (v y aM)) V
noncomputable def kN(ks:Bi):List (CV×CV):=ks.map λs=>(CV.str s,CV.none)
structure IL(t c i I c4:Nat)(L:EN):Prop where
 l0:L 0=some (.ref t)
 l1:L 1=some (.ref c)
 l2:L 2=some (.int (i+1:Nat))
 l3:L 3=some (.ref I)
 l4:L 4=some (.ref c4)
section
variable{P:Par}{ty t0 w ty':TY}{H H' H0:CH}{n c e g t I:Nat}{Q:DD}{z:Role}{q:BM}{x:Str}
inductive IT3(P:Par)(H0:CH)(t0 ty:TY)(t c i I c4:Nat)(ks:Bi)(H':CH)(L:EN):Prop
 | mk (ty':TY) (N:Now H0 t0 P ty' H') (k:Kp c4 ty ty') (h:ty' c4=some (.aJ (kN ks))) (m:IL t c i I c4 L)
theorem Ei{j a:Nat}{K:Ap}(N:Now H0 t0 P ty H)(F:Full P)(J:ty a=some (.item r d))(E:ty j=some (.aJ (kN ks)))(X:H0.free j)(T:∀x∈ks,x∈aH)(C:ks.Nodup)(m:IL t c i I j L)(Z:L 5=some (.ref a))
(G:∀ty' H' M,Now H0 t0 P ty' H'->Kp j ty ty'->ty' j=some (.aJ (kN (nub ks (nub [] (rhs P.R r)))))->IL t c i I j M->K .next ⟨H',M⟩) :
  aj (calls fF mF n) mF cu ⟨H,L⟩ K FX:=by
 obtain⟨b,u,o⟩:=(N.T.it J).a11
 have O:∀y∈nub [] (rhs P.R r),y∈aH:=λy B=>F.G.sym r y ((i8.mp B).resolve_left cp)
 refine frL (ys:=nub [] (rhs P.R r)) (f:=.str) (a:=b) (I:=λk=>IT3 P H0 t0 ty t c i I j (nub ks ((nub [] (rhs P.R r)).take k))) (.att (.v Z) (N.T.iat J u)) ⟨ty,N,.r,E,m⟩ (λk H' L h=>h.casesOn λA p f z z=>aD (p.T.sat _ _ (f _ _ (br o rfl E rfl) o))) ?_ λs R h=>h.casesOn λA p f U V=>G A s R p f (by rw[fI] at U;exact U) V
 rintro k x s R K S ⟨A,p,f,U,V⟩ Q
 obtain⟨w,Y⟩:=Ah C T λy B=>O y (mem_of_mem_take (i:=k) B)
 refine W.oG p X U .c (.v V.l4) (.v rfl) (aV _ (O x (be S))) (by(rewrite[kN];erw[ba _]);exact ax (cj w Y) (aw rfl)) λv q g D e=>Q.nxt ⟨v,g,f.t e,?_,V.l0,V.l1,V.l2,V.l3,V.l4⟩
 erw[Eh S]
 exact D.trans (ab (λl=>some (Role.aJ l)) jK)
theorem GN{a b:Bi}:nub [] (a++b)=nub (nub [] a) b:=by unfold nub;exact Eq.substr foldl_append rfl
theorem Full.wh{M:PM}(F:Full P)(U:P.m<=M.m):Full (P.wh M he):=⟨F.G,F.k,F.kq,F.kn,F.z,F.li,fa F.m0 U⟩
inductive IT5(P:Par)(H0:CH)(t0 ty:TY)(t c i I c4:Nat)(C:Ch)(H':CH)(L:EN):Prop
 | mk (M:PM) (he:At) (l:Bz) (ty':TY) (hm:P.m<=M.m) (N:Now H0 t0 (P.wh M he) ty' H') (k:Kp c ty ty') (h:ty' c=some (.aq (l.map .ref))) (ha:dN (λa q=>ty' a=some (.stL q)) l C) (hh:fY he C) (m:IL t c i I c4 L)
theorem Ej{i:Nat}{L:EN}{l:Bz}{K:Ap}(N:Now H0 t0 P ty H)(F:Full P)(X:P.qs=fX P.R)(ht:ty t=some .table)(b:ty c=some (.aq (l.map .ref)))(cF:H0.free c)(ha:dN (λa q=>ty a=some (.stL q)) l C)
(hS:Stt P.R C i)(hi:C[i]?=some q)(hH:fY P.he C)(l0:L 0=some (.ref t))(l1:L 1=some (.ref c))(e:L 2=some (.int i))
(hQ:∀M he r ty' H' L',P.m<=M.m->Now H0 t0 (P.wh M he) ty' H'->Kp c ty ty'->ty' c=some (.aq (r.map .ref))->dN (λa q=>ty' a=some (.stL q)) r ((usy P.R q).foldl (gm P.R q) C)->fY he ((usy P.R q).foldl (gm P.R q) C)->L' 0=some (.ref t)->L' 1=some (.ref c)->L' 2=some (.int (i+1:Nat))->K .next ⟨H',L'⟩) :
  aj (calls fF mF (n+3)) mF cA ⟨H,L⟩ K FX:=by
 have z0:=hS.sub q (be hi)
 obtain⟨I,z1,hI⟩:=ha.get' hi
 refine W.asg (.ix (.v l1) (.v e) (i7 (N.T.gL b) z1)) (W.ir e .c (.inl rfl) (W.newD N λZ t1 H1 N1 z2 dF k1=>?_))
 have G:=k1 _ _ hI
 have u:∀{J H2},Now H0 t0 P J H2->Kp Z t1 J->H2.lst I=some (q.map λp=>CV.ref (P.it p.1 p.2))/\∀p∈q,J (P.it p.1 p.2)=some (.item p.1 p.2):=λO A=>g9 O.T (A _ _ G.2 G.1)
 refine frL (ys:=q) (f:=λp=>.ref (P.it p.1 p.2)) (a:=I) (I:=λk=>IT3 P H0 t0 t1 t c i I Z (nub [] ((q.take k).flatMap λp=>nub [] (rhs P.R p.1)))) (.v rfl) ⟨t1,N1,.r,z2,l0,l1,rfl,rfl,rfl⟩ (λk H' L h=>h.casesOn λJ O A R R=>aD (u O A).1) ?_ ?_
 ·rintro k p H2 L2 K hp ⟨J,O,A,V,D⟩ hK
  obtain⟨w1,w2⟩:=Ah (D:=aH) (acc:=[]) (l:=(q.take k).flatMap λp=>nub [] (rhs P.R p.1)) dt aR λy hy=>(ii.mp hy).elim λp' h=>F.G.sym _ y ((i8.mp h.2).resolve_left cp)
  refine Ei (a:=P.it p.1 p.2) O F ((u O A).2 p (be hp)) V dF w2 w1 ⟨D.l0,D.l1,D.l2,D.l3,D.l4⟩ rfl λS H3 L3 d E j U=>hK.nxt ⟨S,d,A.t E,?_,U⟩
  (erw[eI];erw[hp];erw[flatMap_append];erw[GN])
  simpa using j
 rintro H2 L2 ⟨J,O,A,V,D⟩
 rw[fI] at V
 have Q:∀x∈usy P.R q,x∈aH:=λx hx=>(o8.mp hx).elim λp h=>F.G.sym _ _ h.2
 have m:(kN (usy P.R q)).map (·.1)=(usy P.R q).map .str:=by(rewrite[kN];erw[map_map]);rfl
 have w:=(k1 _ _ b).2
 have up:∀a z,ty a=some z->J a=some z:=λa z h=>A _ _ (k1 _ _ h).2 (k1 _ _ h).1
 refine frK (ks:=usy P.R q) (a:=Z) (I:=λk=>IT5 P H0 t0 J t c i I Z (((usy P.R q).take k).foldl (gm P.R q) C)) (.v D.l4) (O.T.dg (O.T.D V))
  ⟨P.toPM,P.he,l,J,mA _,O,.r,up _ _ b,ha.mono λa q h=>up _ _ h,hH,D⟩ (λk H' L h=>h.casesOn λM he r S R d E R R R R=>⟨_,d.T.D (E _ _ (en w) V),m⟩) ?_ λH3 L3 h=>h.casesOn λM he r S hm d E j T B U=>?_
 ·rintro k x H4 L4 K hx ⟨M,he,r,S,hm,d,E,j,T,B,U⟩ hK
  have Y:=(wz F.G (l:=(usy P.R q).take k) hS hi λy hy=>Q y (mem_of_mem_take hy)).1
  have kn:∀{a z},ty a=some z->z.own=false->S a=some z:=λh o=>E _ _ (br h o b rfl) (up _ _ h)
  refine Eg (t:=t) (I:=I) d (⟨F.wh hm,X,kn ht rfl,kn hI rfl,X▸z0,Q x (be hx)⟩) j cF T B (ae (o9 F.G Y) (mH F.G)) U.l0 U.l1 U.l3 rfl λM2 z3 e t4 H5 v f z4 N4 k4 z5 z6 z7 hf=>?_
  have s:gm P.R q (((usy P.R q).take k).foldl (gm P.R q) C) x=((usy P.R q).take (k+1)).foldl (gm P.R q) C:=by
   (erw[eI];erw[hx];erw[foldl_append]);rfl
  have g:IT5 P H0 t0 J t c i I Z (((usy P.R q).take (k+1)).foldl (gm P.R q) C) H5 (upd (upd L4 7 (.str x)) 8 v):=⟨M2,z3,e,t4,fa hm z4,N4,E.t k4,z5,s▸z6,s▸z7,U.l0,U.l1,U.l2,U.l3,U.l4⟩
  rcases hf with rfl | rfl
  ·exact hK.nxt g
  ·exact hK.con g
 ·rw[fI] at T B
  exact W.nil (hQ M he r S H3 L3 hm d (λa z h1 h2=>E _ _ h1 (up _ _ h2)) j T B U.l0 U.l1 U.l2)
namespace W
variable{U:PT}{M:MT}{a b:FB}{Q:Ap}{L:EN}{m d:Nat}
theorem JD(N:Now H0 t0 P ty H)(O:Ev L H o (.ref t))(p:H.cls t=some d)(T:bu d=true)(C:M d m=some f)(B:H.att m t=none)(he:Ev L H V v)(r:∀s j J,Now H0 t0 P j J->j s=some (.aq [v])->K1 s ty j->U f [.ref t,.ref s] J λv H'=>∀c,H'.free c->aj U M l ⟨H'.aA c [v],upd L i (.ref c)⟩ Q X):aj U M (.asg (.n i) (.li [.me o m [.li [V]]])::l) ⟨H,L⟩ Q X:=
 O _ _ _ _ ⟨t,d,f,rfl,p,T,C,B,he _ _ _ _ λs A=>N.nL (G:=λH=>U f [.ref t,.ref s] H λv H'=>∀c,H'.free c->aj U M l ⟨H'.aA c [v],upd L i (.ref c)⟩ Q X) A λj J D g E k=>r s j J D g k⟩
end W
inductive ITA(P:Par)(H0:CH)(t0 ty:TY)(t c:Nat)(ad:Nat->Int)(h1:At)(i:Nat)(H':CH)(L:EN):Prop
 | mk (l0:L 0=some (.ref t)) (l1:L 1=some (.ref c)) (l2:L 2=some (.int i)) (ty':TY) (N:Now H0 t0 (P.wh ⟨ad,P.m+1⟩ (if i=0 then P.he else h1)) ty' H') (k:Ka ty ty')
inductive ITW(P:Par)(H0:CH)(t0 ty:TY)(t c:Nat)(k:Nat)(H':CH)(L:EN):Prop
 | mk (M:PM) (he:At) (i f:Nat) (l:Bz) (C:Ch) (ty':TY) (e:k=(fX P.R).length+1 - i) (hm:P.m<=M.m) (N:Now H0 t0 (P.wh M he) ty' H') (h:Kp c ty ty') (hc:ty' c=some (.aq (l.map .ref))) (ha:dN (λa q=>ty' a=some (.stL q)) l C) (hh:fY he C) (hS:Stt P.R C i) (hn:rR P.R f C i=CC P.R) (hf:(fX P.R).length<f+i) (l0:L 0=some (.ref t)) (l1:L 1=some (.ref c)) (l2:L 2=some (.int (i:Nat)))
theorem Ek(N:Now H0 t0 P ty H)(F:Full P)(z4:P.qs=fX P.R)(Z:ty t=some .table)(G:P.he=[])
(hQ:∀M he c l ty' H',P.m<=M.m->Now H0 t0 (P.wh M he) ty' H'->Ka ty ty'->ty' c=some (.aq (l.map .ref))->H0.free c->dN (λa q=>ty' a=some (.stL q)) l (CC P.R)->fY he (CC P.R)->Q (.ref c) H'):calls fF mF (n+4) 354 [.ref t] H Q:=by
 refine cB [.ref t] (d:=bg) rfl rfl rfl rfl λFQ u D=>?_
 have V:=N.T.tb Z
 have O:=V.a29.2
 have zy:=F.G.len
 have w:=F.G.pos
 have m:0<P.k:=F.k.symm▸w
 obtain⟨p1,p2⟩:=fm N.T (N.T.gr O).a17.2 F.kq m F.z
 have r:=p2 0 m
 obtain⟨b0,Y,v⟩:=(N.T.pd r).a13 (.inl (by erw[F.li];exact w))
 refine W.JD N (.v rfl) V.cls rfl rfl (V.no 48 (by decide)) (.att (.ix (.att (.att (.v rfl) (N.T.tat Z V.a29.1)) (N.T.gat O (N.T.gr O).a17.1)) .c (i7 (i:=0) (aD p1) (getElem?_range m))) (N.T.pat r Y)) λs t1 H1 N1 gs g=>v5 (l:=[b0]) (q:=[(0,0)]) N1 F (g _ _ Z).1 gs (.cons (g _ _ v).1 .nil) (by decide) λc0 p t2 H2 N2 k2 x c hc=>?_
 have z5:P.m<=P.m+1:=Int.le_add_one (mA _)
 refine N2.nL (G:=λH=>aj (calls fF mF (n+3)) mF _ ⟨H,_⟩ FQ FX) hc λt3 H3 N3 R cF k3=>W.asg .c ?_
 have ka:Ka ty t3:=λa z h=>(k3 _ _ (k2 _ _ (g _ _ h).1)).1
 have kc:∀a z,ty a=some z->a≠c:=λa z h=>(k3 _ _ (k2 _ _ (g _ _ h).1)).2
 have E:=(k3 _ _ x).1
 clear N N1 N2 g k2 k3 p1 p2 r Y v V O gs x
 refine frL (ys:=[c0]) (f:=.ref) (a:=c) (I:=ITA P H0 t0 t3 t c p (aW P.he (ay (clo P.R [(0,0)])) (.int 0))) (.v rfl) ⟨rfl,rfl,rfl,t3,N3,λD D h=>h⟩ (λi H' L h=>h.casesOn λD D D b o U=>o.T.gL (U _ _ R)) ?_ ?_
 ·rintro i y H4 L4 K hy ⟨m0,m1,m2,b,o,U⟩ hK
  have hi:i=0:=by have:=(a6.mp hy).1;exact Nat.lt_one_iff.mp this
  subst hi
  obtain rfl:=al hy
  have T:=U _ _ (ka _ _ Z)
  refine W.MD (.v m2) (.att (.v m0) (o.T.tat T (o.T.tb T).a35.1)) (.one (.v rfl)) (o5 o (U _ _ E) λt5 H5 N5 k5=>?_)
  refine⟨_,_,rfl,ia N5.T (k5 _ _ T),i9 _,(by erw[show(P.wh ⟨p,P.m+1⟩ (if (0:Nat)=0 then P.he else _)).he=[] from G];exact aw rfl),W.ir m2 .c (.inl rfl) (hK.nxt ⟨m0,m1,rfl,t5,wC N5 (k5 _ _ T),U.t k5⟩)⟩
 rintro H4 L4 ⟨m0,m1,m2,b,o,U⟩
 have I:fY (aW P.he (ay (clo P.R [(0,0)])) (.int 0)) [clo P.R [(0,0)]]:=by
  erw[G]
  exact sY (he:=[]) (C:=[]) ⟨nix,λq D=>rfl,cr _⟩ cp
 have o:Now H0 t0 (P.wh ⟨p,P.m+1⟩ (aW P.he (ay (clo P.R [(0,0)])) (.int 0))) b H4:=o
 generalize aW P.he (ay (clo P.R [(0,0)])) (.int 0)=z6 at o I
 have z7:=mH F.G
 refine W.nil (W.asg .c (whl (J:=ITW P H0 t0 b t c) ((fX P.R).length+1)
  ⟨⟨p,P.m+1⟩,z6,0,(fX P.R).length+1,[c0],_,b,rfl,z5,o,.r,U _ _ R,.cons (U _ _ E) .nil,I,MC,rfl,dq _,m0,m1,rfl⟩ ?_))
 rintro k H6 L6 ⟨M,he,i,f,l,C,t6,rfl,hm,N6,k6,B,S,z0,A,j,z1,j0,j1,j2⟩
 have X:=S.len
 have z2:=o9 F.G A
 have d:Ev L6 H6 (.b1 .len (.v 1)) (.int l.length):=.uw (.v j1) (N6.T.lc (N6.T.L B)) ((vR (N6.T.gL B)).trans (by exact Eq.substr (ba _) rfl)) (by erw[X];exact ae (ae z2 z7) (aw rfl))
 by_cases J:i<C.length
 ·refine⟨_,true,.cm (.v j2) d (Ev.ltT (hV.mpr (X.symm▸J))),rfl,ntf,λD K hK=>?_⟩
  have hq:C[i]?=some C[i]:=bm J
  have z3:=ae (cy J) z2
  obtain⟨f',rfl⟩:=Nat.exists_eq_succ_of_ne_zero (n:=f) λe=>Nat.not_lt_of_le z3 (lL i▸e▸z1)
  refine Ej N6 (F.wh hm) z4 (k6 _ _ (br (U _ _ (ka _ _ Z)) rfl (U _ _ R) rfl) (U _ _ (ka _ _ Z))) B cF S A hq z0 j0 j1 j2 λM2 z8 l2 t7 H7 L7 z9 N7 k7 zz zq zw i0 i1 i2=>hK.nxt ⟨(fX P.R).length+1 - (i+1),Nat.sub_succ_lt_self _ _ (hX z3),M2,z8,i+1,f',l2,_,t7,rfl,fa hm z9,N7,k6.t k7,zz,zq,zw,wA F.G A hq,?_,hN z1 (iv f' i),i0,i1,i2⟩
  exact(Ag hq).symm.trans j
 ·refine⟨_,false,.cm (.v j2) d (Ev.ltF λq=>J (X▸hV.mp q)),rfl,λD=>?_,ff⟩
  obtain rfl:i=C.length:=eD A.le (Nat.le_of_not_lt J)
  rw[Ed] at j
  subst j
  exact W.ret (.v j1) (u (hQ M he c l t6 H6 hm N6 (λa z h=>k6 _ _ (kc _ _ h) (U _ _ (ka _ _ h))) B cF S z0))
end
noncomputable def Par.we(P:Par)(E:PE):Par:={ P with toPE:=E }
noncomputable def PE.scU(E:PE)(n:Nat):PE:={ E with sc:=n }
noncomputable def AV(R:List aI)(q m:BM)(x:Str)(i:Int):Prop:=
 (x∈dS/\moves R m x≠[]/\∃j:Nat,0<j/\(CC R)[j]?=some (clo R (moves R q x))/\i=j)∨
 ((x∈dS->moves R m x=[])/\∃r:Nat,1<=r/\r<R.length/\i=-(r:Int))∨(x=eS/\i=0/\q=[(0,1)])
structure fK(R:List aI)(ty:TY)(q m:BM)(es esp:At):Prop where
 ky:∀p∈es,∃x∈laS,p.1=.str x/\∃i,p.2=.int i/\AV R q m x i
 nd:(es.map (·.1)).Nodup
 sh:∀x∈dS,moves R m x≠[]->au es (.str x)≠none
 pk:∀x,au es (.str x)≠none->au esp (.str x)≠none
 pv:∀p∈esp,(∃x∈laS,p.1=.str x)/\∃b r d,p.2=.ref b/\ty b=some (.item r d)
 pnd:(esp.map (·.1)).Nodup
theorem oi{z:At}(h:∀p∈z,∃x∈laS,p.1=.str x)(Q:(z.map (·.1)).Nodup):z.length<szl:=by
 have:=cj Q (m:=laS.map .str) λk w=>by
  obtain⟨p,y,rfl⟩:=bo.mp w
  obtain⟨x,Y,e⟩:=h p y
  erw[e];exact dp Y
 rw[ba] at this
 exact ax this (aw rfl)
section
variable{Q w:TY}{q:BM}{z:At}
theorem fK.len(h:fK R Q q m es z):es.length<szl/\z.length<szl:=
 ⟨oi (λp y=>(h.ky p y).imp λx h=>⟨h.1,h.2.1⟩) h.nd,oi (λp y=>(h.pv p y).1) h.pnd⟩
theorem fK.keep(h:fK R Q q m es z)(k:∀b r d,Q b=some (.item r d)->w b=some (.item r d)):fK R w q m es z:=
 {h with pv:=λp y=>(h.pv p y).imp id λh=>h.imp λb h=>h.imp λr h=>h.imp λd h=>⟨h.1,k _ _ _ h.2⟩ }
theorem fK.get(h:fK R Q q m es z)(e:au es (.str x)=some v):x∈laS/\∃i,v=.int i/\AV R q m x i:=by
 obtain⟨y,Y,U,i,V,k⟩:=h.ky _ (fj e)
 obtain rfl:=CV.str.inj U
 exact⟨Y,i,V,k⟩
theorem fK.set(h:fK R Q q m es z){y:Str}{b:Nat}(V:y∈laS)(J:AV R q m' y i)(o:∀x i,x≠y->AV R q m x i->AV R q m' x i)
(O:∀x∈dS,x≠y->moves R m' x≠[]->moves R m x≠[])(f:Q b=some (.item r d)):fK R Q q m' (aW es (.str y) (.int i)) (aW z (.str y) (.ref b)) where
 ky:=λp U=>by
  by_cases e:p=(.str y,.int i)
  ·exact⟨y,V,by exact Eq.substr e rfl,i,by exact Eq.substr e rfl,J⟩
  ·obtain⟨x,Y,k,j,g,l⟩:=h.ky p ((bV U).resolve_right e)
   refine⟨x,Y,k,j,g,o x j (λv=>e ?_) l⟩
   subst v
   have L:au (aW es (.str x) (.int i)) (.str x)=some (.int i):=by(erw[aQ];exact Eq.substr (ch rfl) rfl)
   exact nK (dQ h.nd) U (fj L) k
 nd:=dQ h.nd
 sh:=λx Y t=>jJ ((Classical.em (x=y)).imp (ab _) λe=>h.sh x Y (O x Y e t))
 pk:=λx Y=>jJ ((Classical.em (CV.str x=.str y)).imp id λe=>h.pk x λq=>Y (by(erw[aQ];erw[ca (en e)];exact Eq.substr q rfl)))
 pv:=λp U=>(bV U).elim (h.pv p) λe=>e▸⟨⟨y,V,rfl⟩,b,r,d,rfl,f⟩
 pnd:=dQ h.pnd
end
noncomputable def E15(L z:EN):Prop:=∀j,j<15->z j=L j
theorem E15.u{k:Nat}(h:E15 L L')(Q:Nat.ble 15 k=true):E15 L (upd L' k v):=λj z=>(aZ (dr (cf z (aw Q)))).trans (h j z)
section
variable{P:Par}{z w Y:TY}{H:CH}{n b c g t:Nat}{Q:DD}{U:Role}{q:BM}
theorem rC{a:Nat}(T:Typed P z H)(h:z a=some (.prod r)):∃i,j5 H (.ref a) 0=some (.int i):=by
 have o:=T.pd h
 rcases o.a0 with O | ⟨i,O⟩
 ·exact⟨0,(zY o.cls rfl O).trans (ch ⟨rfl,.inl rfl⟩)⟩
 ·exact⟨i,fL o.cls rfl O⟩
theorem Now.reduced{a:Nat}(N:Now V k P z H)(h:z a=some (.prod r)):Now V k P z (H.bH 0 a (.int i)):=by
 have o:=N.T.pd h
 exact N.bH h (ak o.cls) (λO O O O h=>h) ⟨o.pr,o.rk,o.cls,o.a2,o.a3,o.a4,o.a8,o.a9,o.a11,.inr ⟨i,rfl⟩,o.a1,o.am,o.a13⟩
theorem Now.ME{a:Nat}{v:CV}(N:Now V k P z H)(o:z a=some .srL)(O:H.lst a=some l):Now V k (P.we (P.toPE.scU (P.sc+1))) z (H.aA a (l++[v])):=by
 obtain⟨p,f,L⟩:=N.T.sat _ _ o
 cases(show H.lst a=some p from f).symm.trans O
 refine N.aA o (ak O) (λb U C B s=>?_) ⟨_,rfl,by erw[bp];exact et L⟩
 cases U
 case srL=>exact s.imp λl h=>⟨h.1,Nat.le_succ_of_le h.2⟩
 all_goals exact s
theorem iL{r:Nat}(o:H.lst P.aP=some ((range P.k).map λi=>CV.ref (P.pr i)))(O:r<P.k):fS H (.ref P.aP) (.int r)=some (.ok (.ref (P.pr r))):=i7 (f:=λi=>CV.ref (P.pr i)) (aD o) (getElem?_range O)
theorem Ai:bO H .kh .none .none=some false:=Ev.nn0
theorem yf:bO H .eq (.str kU) (.str (u 159904300))=some false:=(eqS (asc (by decide)) (asc (by decide))).trans (ab some (dT (by decide)))
theorem Bg:bO H .eq (.str kU) (.str (u 0x2bbce4f9a895ee))=some false:=(eqS (asc (by decide)) (asc (by decide))).trans (ab some (dT (by decide)))
structure PTL(t aP aPr st c9 c10 a:Nat)(L:EN):Prop where
 l0:L 0=some (.ref t)
 l1:L 1=some (.ref aP)
 l2:L 2=some (.ref aPr)
 l7:L 7=some (.int st)
 l9:L 9=some (.ref c9)
 l10:L 10=some (.ref c10)
 l12:L 12=some (.ref a)
theorem MF{G O a st:Nat}{y:Str}{K:Ap}(N:Now V k P z H)(F:Full P)(ht:z t=some .table)(h9:z G=some (.aJ es))(f9:V.free G)(u:z O=some (.aJ z0))(z8:V.free O)(M:G≠O)
(D:z a=some (.item r d))(z9:1<=r)(hA:fK P.R z q m es z0)(hq:q≠[(0,1)])(hy:y∈laS)(z1:P.sc<10000000)(w:PTL t P.aP P.aPr st G O a L)(B:L 14=some (.str y))
(hQ:∀z2 z3 s Y J E,z2<=P.sc+1->Now V k (P.we (P.toPE.scU z2)) Y J->Y G=some (.aJ z3)->Y O=some (.aJ s)->fK P.R Y q m z3 s->(∀b U,b≠G->b≠O->z b=some U->Y b=some U)->E15 L E->K .next ⟨J,E⟩) :
  aj (calls fF mF n) mF bJ ⟨H,L⟩ K FX:=by
 have p:=N.T.tb ht
 have Q:=p.a29.2
 have hi:=N.T.it D
 have A:=DG y hy
 have zj:=F.G.len
 have z4:0<P.k:=by have:=F.k;lia
 obtain⟨p1,p2⟩:=fm N.T (N.T.gr Q).a17.2 F.kq z4 F.z
 have T:=p2 r hi.rk
 have z5:=N.T.pd T
 have er:E15 L L:=λR R=>rfl
 have o4:∀{E},E 12=some (.ref a)->Ev E H (.at (.v 12) 4) (.int r):=λzz=>.att (.v zz) (N.T.iat D hi.a4)
 cases C:au es (.str y) with
 | none=>
  refine W.asg (.geN (.v w.l9) (N.T.D h9) (.v B) A .c C) (W.fV (.cm (.v rfl) .c Ai) rfl ?_)
  refine W.oG N f9 h9 (.ng (o4 w.l12)) (.v w.l9) (.v B) A hA.len.1 λt1 H1 N1 zq k1=>?_
  refine W.oG N1 z8 (k1 _ _ (en M) u) (.v w.l12) (.v w.l10) (.v B) A hA.len.2 λt2 H2 g z6 k2=>?_
  have kp:∀b U,b≠G->b≠O->z b=some U->t2 b=some U:=λb U h1 h2 h3=>k2 _ _ h2 (k1 _ _ h1 h3)
  have kn:∀{b U},z b=some U->U.own=false->t2 b=some U:=λh o=>kp _ _ (br h o h9 rfl) (br h o u rfl) h
  have S:=kn D rfl
  have f:=kn T rfl
  obtain⟨i0,zw⟩:=rC g.T f
  obtain⟨zy,_⟩:=fm g.T (g.T.gr (kn Q rfl)).a17.2 F.kq z4 F.z
  refine W.iN (.ix (.v w.l1) (.att (.v w.l12) (g.T.iat S (g.T.it S).a4)) (iL zy hi.rk)) (g.T.pd f).cls zw .c (.inl rfl) (W.nil (hQ P.sc _ _ t2 _ _ (gN _) (g.reduced f) (k2 _ _ M zq) z6 ?_ kp (er.u rfl)))
  exact(hA.set (m':=m) (i:=-(r:Int)) (b:=a) (r:=r) (d:=d) hy (.inr (.inl ⟨λc=>Classical.not_not.mp λzu=>hA.sh y c zu C,r,z9,F.k▸hi.rk,rfl⟩)) (λx i R h=>h) (λx R R h=>h) D).keep λb r d hb=>kn hb rfl
 | some v=>
  obtain⟨_,i,rfl,hv⟩:=hA.get C
  refine W.asg (.geS (.v w.l9) (N.T.D h9) (.v B) A .c C) (W.gP (.cm (.v rfl) .c Ev.nnI) rfl ?_)
  have z7:∀{a':Nat} {ls:B2} {v:CV} {E},z a'=some .srL->H.lst a'=some ls->E15 L E->K .next ⟨H.aA a' (ls++[v]),E⟩:=λ{a' ls v E} ha l e=>hQ _ _ _ z _ _ (cr _) (N.ME ha l) h9 u hA (λR R R R h=>h) e
  rcases hv with⟨c,zo,j,zv,zp,rfl⟩ | ⟨c,r',zf,zk,rfl⟩ | ⟨_,_,h⟩
  ·obtain⟨ls,l,I⟩:=N.T.sat _ _ p.a40.2
   refine W.gP (.cm (.v rfl) .c (Ev.gtT (lv.mpr zv))) rfl ?_
   refine W.DB (.geN (.v w.l2) (N.T.sat _ _ (N.T.gr Q).a24.2) (.v B) A (.tu (.two .c .c)) rfl) (W.DB (.att (.ix (.v w.l1) (o4 w.l12) (iL p1 hi.rk)) (N.T.pat T z5.a9)) ?_)
   refine W.fV (.orF (.cm (.v rfl) (.v rfl) (Ev.ltF (by decide))) rfl (.anT (.cm (.v rfl) (.v rfl) eqI) rfl (.cm (.v rfl) .c yf))) rfl ?_
   refine W.fV (.anT (.cm (.v rfl) (.v rfl) eqI) rfl (.cm (.v rfl) .c Bg)) rfl ?_
   refine W.gP (.nt (b:=false) (.v rfl) rfl) rfl ?_
   exact W.ap (.att (.v w.l0) (N.T.tat ht p.a40.1)) l (.tu (.cons (.v w.l7) (.two (.v B) .c))) (ax (ae I (cy z1)) (aw rfl)) (W.nil (W.nil (W.nil (W.nil (W.nil (z7 p.a40.2 l (((((er.u rfl).u rfl).u rfl).u rfl).u rfl)))))))
  ·obtain⟨ls,l,I⟩:=N.T.sat _ _ p.a41.2
   have X:=F.k▸zk
   have Z:=p2 r' X
   refine W.fV (.cm (.v rfl) .c (Ev.gtF (by lia))) rfl (W.gP (.cm (.v rfl) .c (Ev.ltT (by lia))) rfl ?_)
   refine W.asg (.ix (.v w.l1) (.ng (.v rfl)) (by erw[Int.neg_neg _];exact iL p1 X)) (W.asg (.ix (.v w.l1) (o4 w.l12) (iL p1 hi.rk)) ?_)
   refine W.fV (.cm (.att (.v rfl) (N.T.pat Z (N.T.pd Z).a8)) (.att (.v rfl) (N.T.pat T z5.a8)) (Ev.gtF (by decide))) rfl (W.DB (.tu (.two (.v rfl) (.v rfl))) (W.nil ?_))
   exact W.ap (.att (.v w.l0) (N.T.tat ht p.a41.1)) l (.tu (.cons (.v w.l7) (.two (.v rfl) (.v rfl)))) (ax (ae I (cy z1)) (aw rfl)) (W.nil (W.nil (W.nil (z7 p.a41.2 l (((((er.u rfl).u rfl).u rfl).u rfl).u rfl)))))
  ·exact absurd h hq
end
section
variable{m q:BM}{d:Nat}{x:Str}
theorem Bh(h:(rhs R r)[d]?=none):moves R (m++[(r,d)]) x=moves R m x:=by
 rw[ja,ca (by rw[h];exact nsm),eR]
theorem mL(h:(rhs R r)[d]?=some y)(e:x≠y):moves R (m++[(r,d)]) x=moves R m x:=by
 rw[ja,ca (by rw[h];exact λq=>e (al q).symm),eR]
theorem rD(h:(rhs R r)[d]?=some x):moves R (m++[(r,d)]) x≠[]:=by
 (erw[ja];erw[ch h])
 exact append_ne_nil_of_right_ne_nil _ (cons_ne_nil _ _)
theorem Bj(h:(rhs R r)[d]?=some x)(z:(r,d)∈q):moves R q x≠[]:=λe=>by
 have:(r,d+1)∈moves R q x:=cR.mpr ⟨d,rfl,z,h⟩
 rw[e] at this;cases this
theorem fK.to(h:fK R U q m v Q)(Y:∀x∈dS,(moves R m' x=[]↔moves R m x=[])):fK R U q m' v Q:=
 {h with
  ky:=λp V=>(h.ky p V).imp λx h=>⟨h.1,h.2.1,h.2.2.imp λi h=>⟨h.1,h.2.imp (λ⟨z,w,k⟩=>⟨z,λe=>w ((Y x z).mp e),k⟩) (Or.imp (λ⟨z,w⟩=>⟨λe=>(Y x e).mpr (z e),w⟩) id)⟩⟩
  sh:=λx z w=>h.sh x z λe=>w ((Y x z).mpr e) }
theorem El(G:GoodR R){s:Nat}(Q:(CC R)[s]?=some q)(w:moves R q x≠[]):∃j:Nat,0<j/\(CC R)[j]?=some (clo R (moves R q x)):=by
 have h:=dZ G
 obtain⟨j,z⟩:=iq.mp (h.cls s q x (a6.mp Q).1 Q w)
 refine⟨j,mr λe=>?_,z⟩
 subst e
 rw[h.hd] at z
 exact wB (al z▸mD aM)
theorem Em(G:GoodR R){i j:Nat}(z:(CC R)[i]?=some q)(Q:(CC R)[j]?=some q):i=j:=
 (getElem?_inj (a6.mp z).1 (dZ G).nd).mp (z.trans Q.symm)
theorem wD{s:Nat}(G:GoodR R)(Q:fY z (CC R))(w:(CC R)[s]?=some q)(Y:moves R q x≠[]):∃j:Nat,0<j/\(CC R)[j]?=some (clo R (moves R q x))/\au z (ay (clo R (moves R q x)))=some (.int j):=
 (El G w Y).imp λj h=>⟨h.1,h.2,Q.at_ j _ h.2⟩
end
noncomputable def Par.wc(P:Par)(M:PM)(sc:Nat):Par:={ P with toPM:=M,toPE:=P.toPE.scU sc }
noncomputable def E12(L z:EN):Prop:=∀j,j<12->z j=L j
theorem E12.r:E12 L L:=λz z=>rfl
theorem E12.u{k:Nat}(h:E12 L L')(Q:Nat.ble 12 k=true):E12 L (upd L' k v):=λj z=>(aZ (dr (cf z (aw Q)))).trans (h j z)
section
variable{P:Par}{ty t0 z ty':TY}{H H' H0:CH}{n b c g t I:Nat}{Q:DD}{ρ w:Role}{q:BM}
theorem wF:bO H .eq (.str kU) (.str (u 15352600498))=some true:=(eqS (asc (by decide)) (asc (by decide))).trans (ab some (cn rfl))
theorem En(T:Typed P ty H)(V:ty g=some .b7){y:Str}(k:y∈aH):bO H .isIn (.str y) (.ref P.aT)=some (decide (y∈dS)):=by
 by_cases h:y∈dS
 ·obtain⟨j,b,Y,U,_⟩:=vX T (T.gr V).a20.2 h
  (erw[A8 T Y (aV y k) U];exact Eq.substr (cn h) rfl)
 ·obtain⟨j,Y,U⟩:=rm T (T.gr V).a20.2 h
  (erw[x7 T Y (aV y k) U];exact Eq.substr (dT h) rfl)
structure PtS(P:Par)(ty:TY)(t I s:Nat)(q:BM):Prop where
 F:Full P
 qs:P.qs=fX P.R
 fz:P.fz=true
 hH:fY P.he (CC P.R)
 t:ty t=some .table
 I:ty I=some (.stL q)
 Cq:(CC P.R)[s]?=some q
inductive P2A(P:Par)(H0:CH)(t0 ty:TY)(c9 c10 a i:Nat)(q m:BM)(L:EN)(H':CH)(L':EN):Prop
 | mk (sc:Nat) (es esp:At) (ty':TY) (hs:sc<=P.sc+i) (N:Now H0 t0 (P.wc P.toPM sc) ty' H') (h9:ty' c9=some (.aJ es)) (h10:ty' c10=some (.aJ esp)) (hA:fK P.R ty' q m es esp) (kp:∀b ρ,b≠c9->b≠c10->ty b=some ρ->ty' b=some ρ) (hL:E12 L L') (l12:L' 12=some (.ref a))
theorem JE{T V a st:Nat}{z:At}{K:Ap}(N:Now H0 t0 P ty H)(S:PtS P ty t I s q)(h9:ty T=some (.aJ z))(f9:H0.free T)(C:ty V=some (.aJ O))(v:H0.free V)(l:T≠V)
(k:ty a=some (.item r (rhs P.R r).length))(M:(r,(rhs P.R r).length)∈q)(hA:fK P.R ty q m z O)(zp:P.sc<9000000)(w:PTL t P.aP P.aPr st T V a L)
(hQ:∀sc p Y ty' H' L',sc<=P.sc+5->Now H0 t0 (P.wc P.toPM sc) ty' H'->ty' T=some (.aJ p)->ty' V=some (.aJ Y)->fK P.R ty' q (m++[(r,(rhs P.R r).length)]) p Y->(∀b ρ,b≠T->b≠V->ty b=some ρ->ty' b=some ρ)->E12 L L'->K .next ⟨H',L'⟩) :
  aj (calls fF mF (n+2)) mF aX ⟨H,L⟩ K FX:=by
 have F:=N.T.tb S.t
 have R:=F.a29.2
 have z4:=N.T.gr R
 have Q:=N.T.it k
 have z5:r<P.R.length:=S.F.k▸Q.rk
 have g:∀{ty z O},fK P.R ty q m z O->fK P.R ty q (m++[(r,(rhs P.R r).length)]) z O:=λh=>h.to λx U=>by rw[Bh (fi (cr _))]
 refine W.j9 (.cm (.att (.v w.l12) (N.T.iat k Q.a10)) (.add (.att (.v w.l12) (N.T.iat k Q.a15)) .c) eqI) (λU=>?_) λh=>absurd rfl h
 by_cases X:r=0
 ·subst X
  have z6:q=[(0,1)]:=JB S.F.G S.Cq (by rw[show(1:Nat)=(rhs P.R 0).length by rw[GJ S.F.G];rfl];exact M)
  have E:(CV.str eS).keyOk=true:=DG eS (by decide)
  refine W.j9 (.cm (.att (.v w.l12) (N.T.iat k Q.a2)) .c (eqS (by rw[fH S.F.G.r0];exact asc (by decide)) (asc (by decide)))) (λU=>?_) λh=>absurd (fH S.F.G.r0) h
  refine W.oG N f9 h9 .c (.v w.l9) .c E hA.len.1 λt1 H1 N1 z7 k1=>?_
  refine W.oG N1 v (k1 _ _ (en l) C) (.v w.l12) (.v w.l10) .c E hA.len.2 λB H2 Z J k2=>W.nil (W.nil ?_)
  have f:∀b ρ,b≠T->b≠V->ty b=some ρ->B b=some ρ:=λb ρ h1 h2 h3=>k2 _ _ h2 (k1 _ _ h1 h3)
  exact hQ P.sc _ _ B _ L (dE _ _) Z (k2 _ _ l z7) J (g ((hA.set (m':=m) (i:=0) (b:=a) (by decide) (.inr (.inr ⟨rfl,rfl,z6⟩)) (λx i U h=>h) (λx U U h=>h) k).keep λb r d hb=>f _ _ (br hb rfl h9 rfl) (br hb rfl C rfl) hb)) f (λU U=>rfl)
 ·have c:1<=r:=mr X
  have A:=S.F.G.nm r c z5
  refine W.j9 (.cm (.att (.v w.l12) (N.T.iat k Q.a2)) .c (eqS (aO (b6 A)) (asc (by decide)))) (λe=>absurd (e▸A) (by decide)) λU=>?_
  refine W.j9 (.cm (.att (.v w.l0) (N.T.tat S.t F.a30)) .c (eqS (asc (by decide)) (asc (by decide)))) (λe=>absurd e (by decide)) λU=>?_
  obtain⟨b,zf,z8,z9,zz,zq,zg,zw,z0⟩:=ya N.T R S.fz A
  have zl:=rq zw λy hy=>(z0 y hy).1
  refine W.asg (.ix (.att (.att (.v w.l0) (N.T.tat S.t F.a29.1)) (N.T.gat R z4.a23.1)) (.att (.v w.l12) (N.T.iat k Q.a2)) (getD N.T z8 (aV _ (b6 A)) z9)) (W.nil ?_)
  have kn:∀{B:TY} {b ρ},(∀b ρ,b≠T->b≠V->ty b=some ρ->B b=some ρ)->ty b=some ρ->ρ.own=false->B b=some ρ:=λf h o=>f _ _ (br h o h9 rfl) (br h o C rfl) h
  refine frL (ys:=P.fo (lhs P.R r)) (f:=.str) (a:=b) (I:=λi=>P2A P H0 t0 ty T V a i q m L) (.v rfl)
   ⟨P.sc,z,O,ty,cr _,N,h9,C,hA,λU U U U h=>h,E12.r.u rfl,w.l12⟩ (λi H' L' h=>h.casesOn λsc p Y B U Z U U U f U U=>aD ((Z.T.sat _ _ (kn f zz rfl)).2 zq).1) ?_ λH2 L2 h=>h.casesOn λsc p Y B hs Z G J u f D U=>W.nil (W.nil (W.nil (hQ sc p Y B H2 L2 (by lia) Z G J (g u) f D)))
  rintro i y H2 L2 K hy ⟨sc,p,Y,B,hs,Z,G,J,u,f,D,z1⟩ hK
  have zx:=(a6.mp hy).1
  refine MF (P:=P.wc P.toPM sc) (y:=y) Z ⟨S.F.G,S.F.k,S.F.kq,S.F.kn,S.F.z,S.F.li,S.F.m0⟩ (kn f S.t rfl) G f9 J v l (kn f k rfl) c u (λe=>?_) (z0 y (be hy)).1 (show sc<_ by lia) ⟨(D 0 (by decide)).trans w.l0,(D 1 (by decide)).trans w.l1,(D 2 (by decide)).trans w.l2,(D 7 (by decide)).trans w.l7,(D 9 (by decide)).trans w.l9,(D 10 (by decide)).trans w.l10,z1⟩ rfl λzy zu z2 t3 H3 L3 zv N3 zk z3 zj zo jL=>hK.nxt ⟨zy,zu,z2,t3,ae zv (et hs),N3,zk,z3,zj,λb ρ h1 h2 h3=>zo _ _ h1 h2 (f _ _ h1 h2 h3),λj hj=>(jL j (gd hj (by decide))).trans ((aZ (by lia)).trans (D j hj)),(jL 12 (by decide)).trans z1⟩
  rw[e,bc] at M
  exact X (Prod.mk.inj M).1
theorem JF{A U a st:Nat}{K:Ap}(N:Now H0 t0 P ty H)(S:PtS P ty t I s q)(h9:ty A=some (.aJ es))(f9:H0.free A)(zz:ty U=some (.aJ z9))(zf:H0.free U)(c:A≠U)
(p:ty a=some (.item r d))(hd:d<(rhs P.R r).length)(zg:(r,d)∈q)(hA:fK P.R ty q m es z9)(zl:P.sc<9000000)(w:PTL t P.aP P.aPr st A U a L)(l8:L 8=some (.ref I))
(hQ:∀M sc zq Y ty' H' L',P.m<=M.m->sc<=P.sc+5->Now H0 t0 (P.wc M sc) ty' H'->ty' A=some (.aJ zq)->ty' U=some (.aJ Y)->fK P.R ty' q (m++[(r,d)]) zq Y->(∀b ρ,b≠A->b≠U->ty b=some ρ->ty' b=some ρ)->E12 L L'->K .next ⟨H',L'⟩) :
  aj (calls fF mF (n+2)) mF aX ⟨H,L⟩ K FX:=by
 have G:=N.T.tb S.t
 have z3:=G.a29.2
 have zx:=N.T.gr z3
 have hi:=N.T.it p
 have zr:=S.F.G.len
 have q0:=S.F.G.ln r
 obtain⟨y,u⟩:∃y,(rhs P.R r)[d]?=some y:=⟨_,bm hd⟩
 have z4:y∈aH:=S.F.G.sym r y (be u)
 have f:=aV y z4
 refine W.j9 (.cm (.att (.v w.l12) (N.T.iat p hi.a10)) (.add (.att (.v w.l12) (N.T.iat p hi.a15)) .c) eqI) (λe=>absurd e (by lia)) λζ=>?_
 refine W.asg (.att (.v w.l12) (N.T.iat p hi.a15)) (W.asg (.ix (.att (.v w.l12) (N.T.iat p hi.a3)) (.add (.v rfl) .c) (oZ (i:=d+1) ((vY (cy hd)).trans (ab (Option.map CV.str) u)))) ?_)
 refine W.j9 (.cm (.v rfl) (.att (.att (.v w.l0) (N.T.tat S.t G.a29.1)) (N.T.gat z3 zx.a20.1)) (En N.T z3 z4)) (λD=>?_) λD=>W.nil (W.nil (hQ P.toPM P.sc _ _ ty _ _ (mA _) (dE _ _) N h9 zz (hA.to λx hx=>by rw[mL u (λe=>D (e▸hx))]) (λζ ζ ζ ζ h=>h) ((E12.r.u rfl).u rfl)))
 have zc:=Bj u zg
 obtain⟨j,zw,zy,zb⟩:=wD S.F.G S.hH S.Cq zc
 refine W.me (.v w.l0) G.cls rfl rfl (G.no 49 (by decide)) (.two (.v l8) (.v rfl)) (Ea N ⟨S.F,S.qs,S.t,S.I,S.qs▸(dZ S.F.G).sub q (be S.Cq),z4⟩ λM t1 H1 v hm N1 k1 hR=>?_)
 have z:=k1 _ _ S.t
 refine W.Ma (.att (.v w.l0) (N1.T.tat z (N1.T.tb z).a35.1)) (ia N1.T z) (.one (.v rfl)) (mJ N1 hR λt2 H2 V Z=>?_)
 replace Z:=k1.t Z
 clear N1 hR k1 z
 have z5:=Z _ _ S.t
 refine(Ev.ng (i:=1) (.c:Ev _ H2 (.c (.int 1)) (.int 1))) _ _ _ _ ?_
 refine⟨_,ia V.T z5,i9 _,?_⟩
 rw[show(au (P.wm M).he (ay (clo P.R (moves P.R q y)))).getD (.int (-1))=.int j by rw[show au (P.wm M).he _=_ from zb];rfl]
 have E:=Z _ _ h9
 have k:=Z _ _ zz
 have kn:∀{B:TY} {b ρ},(∀b ρ,b≠A->b≠U->t2 b=some ρ->B b=some ρ)->t2 b=some ρ->ρ.own=false->B b=some ρ:=λkp h o=>kp _ _ (br h o E rfl) (br h o k rfl) h
 have zu:=Z _ _ p
 have T:=hA.keep λb r d h=>Z _ _ h
 have z0:∀{H3 L5 l Q'},Now H0 t0 (P.wm M) t2 H3->PTL t P.aP P.aPr st A U a L5->L5 14=some (.str y)->L5 26=some (.int j)->
   (∀Y B H4,Now H0 t0 (P.wm M) B H4->B A=some (.aJ (aW es (.str y) (.int j)))->B U=some (.aJ Y)->fK P.R B q (m++[(r,d)]) (aW es (.str y) (.int j)) Y->(∀b ρ,b≠A->b≠U->t2 b=some ρ->B b=some ρ)->aj (calls fF mF (n+2)) mF l ⟨H4,L5⟩ Q' FX)->
   aj (calls fF mF (n+2)) mF (.asg (.ix (.v 9) (.v 14)) (.v 26)::.asg (.ix (.v 10) (.v 14)) (.v 12)::l) ⟨H3,L5⟩ Q' FX:=λ{H3 L5 l Q'} N3 w Q zn hq=>by
  refine W.oG N3 f9 E (.v zn) (.v w.l9) (.v Q) f T.len.1 λt4 H4 N4 F k4=>W.oG N4 zf (k4 _ _ (en c) k) (.v w.l12) (.v w.l10) (.v Q) f T.len.2 λt5 H5 N5 zv k5=>?_
  have kp:∀b ρ,b≠A->b≠U->t2 b=some ρ->t5 b=some ρ:=λb ρ h1 h2 h3=>k5 _ _ h2 (k4 _ _ h1 h3)
  refine hq _ t5 H5 N5 (k5 _ _ c F) zv ((T.set (m':=m++[(r,d)]) (i:=(j:Int)) (b:=a) (zX D) (.inl ⟨D,rD u,j,zw,zy,rfl⟩) (λx i C h=>?_) (λx ζ C h=>mL u C▸h) zu).keep λb r d hb=>kn kp hb rfl) kp
  unfold AV at h ⊢
  rw[mL u C];exact h
 refine W.gP (.cm (.v rfl) .c (Ev.geT (hO j))) rfl ?_
 have e4:E12 L (upd (upd (upd (upd L 24 (.int d)) 14 (.str y)) 25 v) 26 (.int j)):=(((E12.r.u rfl).u rfl).u rfl).u rfl
 cases J:au es (.str y) with
 | none=>
  refine W.asg (.geN (.v w.l9) (V.T.D E) (.v rfl) f .c J) (W.fV (.cm (.v rfl) .c Ai) rfl ?_)
  exact z0 V ⟨w.l0,w.l1,w.l2,w.l7,w.l9,w.l10,w.l12⟩ rfl rfl λY B H4 N4 F R z6 g=>W.nil (W.nil (W.nil (W.nil (hQ M P.sc _ Y B H4 _ hm (dE _ _) N4 F R z6 (λb ρ h1 h2 h3=>g _ _ h1 h2 (Z _ _ h3)) (e4.u rfl)))))
 | some w'=>
  obtain⟨_,i,rfl,hv⟩:=hA.get J
  refine W.asg (.geS (.v w.l9) (V.T.D E) (.v rfl) f .c J) (W.gP (.cm (.v rfl) .c Ev.nnI) rfl ?_)
  rcases hv with⟨_,za,j',zs,zk,rfl⟩ | ⟨zt,r',q3,q4,rfl⟩ | ⟨h,_,_⟩
  ·obtain rfl:=Em S.F.G zk zy
   refine W.gP (.cm (.v rfl) .c (Ev.gtT (lv.mpr zw))) rfl (W.ux (.cm (.v rfl) (.v rfl) (neV eqI)) (λh=>absurd rfl h) λζ=>W.nil (W.nil (W.nil (W.nil (W.nil (W.nil (hQ M P.sc _ _ t2 H2 _ hm (dE _ _) V E k (T.to λx hx=>?_) (λb ρ ζ ζ h=>Z _ _ h) (e4.u rfl))))))))
   by_cases C:x=y
   ·subst C
    exact⟨λe=>absurd e (rD u),λe=>absurd e za⟩
   ·rw[mL u C]
  ·refine W.fV (.cm (.v rfl) .c (Ev.gtF (by lia))) rfl (W.gP (.cm (.v rfl) .c (Ev.ltT (by lia))) rfl ?_)
   have z1:=(V.T.tb z5).a29.2
   obtain⟨w0,hw,ze⟩:=bh (T.pk y (by rw[J];exact cw _))
   obtain⟨_,b2,r2,d2,e2,z2⟩:=T.pv _ ze
   have hw:=hw.trans (ab some e2)
   have z7:=V.T.it z2
   obtain⟨zd,zh⟩:=fm V.T (V.T.gr z1).a17.2 S.F.kq (by have:=S.F.k;show 0<P.k;lia) S.F.z
   have O:=zh r2 z7.rk
   have zj:=V.T.pd O
   obtain⟨i0,zi⟩:=rC V.T O
   have op:∀{L'},L' 1=some (.ref P.aP)->L' 10=some (.ref U)->L' 14=some (.str y)->Ev L' H2 (.ix (.v 1) (.at (.ix (.v 10) (.v 14)) 4)) (.ref (P.pr r2)):=λl1 zm Q=>.ix (.v l1) (.att (.ix (.v zm) (.v Q) (getD V.T (V.T.D k) f hw)) (V.T.iat z2 z7.a4)) (iL (P:=P.wm M) zd z7.rk)
   refine W.DB (.geN (.v w.l2) (V.T.sat _ _ (V.T.gr z1).a24.2) (.v rfl) f (.tu (.two .c .c)) rfl) (W.DB (.att (op w.l1 w.l10 rfl) (V.T.pat O zj.a9)) ?_)
   refine W.gP (.orF (.cm (.v rfl) (.v rfl) (Ev.gtF (by decide))) rfl (.anT (.cm (.v rfl) (.v rfl) eqI) rfl (.cm (.v rfl) .c wF))) rfl ?_
   refine W.iN (op w.l1 w.l10 rfl) zj.cls zi .c (.inr rfl) ?_
   refine z0 (V.reduced O) ⟨w.l0,w.l1,w.l2,w.l7,w.l9,w.l10,w.l12⟩ rfl rfl λY B H4 N4 F R z6 g=>?_
   have zo:=kn g z5 rfl
   have X:=N4.T.tb zo
   obtain⟨ls,zp,z8⟩:=N4.T.sat _ _ X.a40.2
   have z8:ls.length<=P.sc:=z8
   refine W.gP (.nt (b:=false) (.v rfl) rfl) rfl ?_
   exact W.ap (.att (.v w.l0) (N4.T.tat zo X.a40.1)) zp (.tu (.cons (.v w.l7) (.two (.v rfl) .c))) (ax (ae z8 (cy zl)) (aw rfl)) (W.nil (W.nil (W.nil (W.nil (W.nil (W.nil (W.nil (W.nil (hQ M (P.sc+1) _ Y B _ _ hm (by lia) (N4.ME X.a40.2 zp) F R z6 (λb ρ h1 h2 h3=>g _ _ h1 h2 (Z _ _ h3)) (((((e4.u rfl).u rfl).u rfl).u rfl).u rfl))))))))))
  ·exact absurd h (qU D)
end
structure Eo(R:List aI)(q:BM)(es:At):Prop where
 sh:∀x∈dS,moves R q x≠[]->∃j:Nat,0<j/\(CC R)[j]?=some (clo R (moves R q x))/\au es (.str x)=some (.int j)
 re:∀x∈dS,moves R q x=[]->au es (.str x)=none∨∃i:Int,i<=0/\au es (.str x)=some (.int i)
 ky:∀p∈es,∃x∈laS,p.1=.str x/\∃i:Int,p.2=.int i
 nd:(es.map (·.1)).Nodup
structure GO(R:List aI)(q:BM)(es:At):Prop where
 go:∀x∈bz,moves R q x≠[]->∃j:Nat,(CC R)[j]?=some (clo R (moves R q x))/\au es (.str x)=some (.int j)
 no:∀x∈bz,moves R q x=[]->au es (.str x)=none
structure GoP(R:List aI)(q:BM)(dn:Bi)(es:At):Prop where
 ky:∀p∈es,∃x∈bz,p.1=.str x/\moves R q x≠[]/\∃j:Nat,(CC R)[j]?=some (clo R (moves R q x))/\p.2=.int j
 nd:(es.map (·.1)).Nodup
 has:∀x∈dn,moves R q x≠[]->au es (.str x)≠none
structure jM(R:List aI)(ty:TY)(s:Nat)(acE goE:At):Prop where
 la:acE.length=s
 lg:goE.length=s
 ka:∀p∈acE,∃j:Nat,j<s/\p.1=.int j
 kg:∀p∈goE,∃j:Nat,j<s/\p.1=.int j
 ac:∀j q,j<s->(CC R)[j]?=some q->∃b es,au acE (.int j)=some (.ref b)/\ty b=some (.aJ es)/\Eo R q es
 go:∀j q,j<s->(CC R)[j]?=some q->∃b es,au goE (.int j)=some (.ref b)/\ty b=some (.aJ es)/\GO R q es
section
variable{R:List aI}{Y z:TY}{q:BM}{Q:Bi}{es U w y:At}{s:Nat}
theorem fK.ok(h:fK R Y q q es U):Eo R q es:=by
 refine⟨λx k J=>?_,λx k J=>?_,λp hp=>(h.ky p hp).imp λx h=>⟨h.1,h.2.1,h.2.2.imp λi h=>h.1⟩,h.nd⟩
 ·obtain⟨v,o,_⟩:=bh (h.sh x k J)
  obtain⟨_,i,rfl,V⟩:=h.get o
  rcases V with⟨_,_,j,O,f,rfl⟩ | ⟨V,_⟩ | ⟨V,_⟩
  ·exact⟨j,O,f,o⟩
  ·exact absurd (V k) J
  ·exact absurd V (qU k)
 ·cases o:au es (.str x) with
  | none=>exact .inl rfl
  | some v=>
   obtain⟨_,i,rfl,V⟩:=h.get o
   rcases V with⟨_,V,_⟩ | ⟨_,r,_,_,rfl⟩ | ⟨V,_⟩
   ·exact absurd J V
   ·exact .inr ⟨_,by lia,rfl⟩
   ·exact absurd V (qU k)
theorem GoP.len(h:GoP R q Q es):es.length<szl:=by
 have:=cj h.nd (m:=bz.map .str) λk v=>by
  obtain⟨p,V,rfl⟩:=bo.mp v
  obtain⟨x,j,e,_⟩:=h.ky p V
  erw[e];exact dp j
 rw[ba] at this
 exact ax this (aw rfl)
theorem GoP.set(h:GoP R q Q es){y:Str}{j:Nat}(k:y∈bz)(J:moves R q y≠[])(o:(CC R)[j]?=some (clo R (moves R q y))):GoP R q (Q++[y]) (aW es (.str y) (.int j)) where
 ky:=λp O=>(bV O).elim (h.ky p) λe=>e▸⟨y,k,rfl,J,j,o,rfl⟩
 nd:=dQ h.nd
 has:=λx v V=>jJ ((dC.mp v).elim (λv=>.inr (h.has x v V)) λv=>.inl (ab _ (bc.mp v)))
theorem GoP.skip(h:GoP R q Q es){y:Str}(k:moves R q y=[]):GoP R q (Q++[y]) es:=
 ⟨h.ky,h.nd,λx v V=>(dC.mp v).elim (λv=>h.has x v V) λv=>absurd (bc.mp v▸k) V⟩
theorem GoP.ok(h:GoP R q Q es)(p:∀x∈bz,moves R q x≠[]->x∈Q):GO R q es:=by
 have k:∀{x v},au es (.str x)=some v->moves R q x≠[]/\∃j:Nat,(CC R)[j]?=some (clo R (moves R q x))/\v=.int j:=λ{x v} V=>by
  obtain⟨y,_,e,o,f⟩:=h.ky _ (fj V)
  obtain rfl:=CV.str.inj e
  exact⟨o,f⟩
 refine⟨λx O J=>?_,λx O J=>?_⟩
 ·obtain⟨v,V,_⟩:=bh (h.has x (p x O J) J)
  obtain⟨_,j,o,rfl⟩:=k V
  exact⟨j,o,V⟩
 ·cases V:au es (.str x) with
  | none=>rfl
  | some v=>exact absurd J (k V).1
theorem rE(h:au es k=none):(aW es k v).length=es.length+1:=by
 have V:=ab List.length (jX (es:=es) (k:=k) (v:=v))
 rw[ca (b9.mp h),ba,bp,ba] at V
 exact V
theorem jM.new(h:∀p∈es,∃j:Nat,j<s/\p.1=.int j):au es (.int s)=none:=by
 rw[b9]
 intro v
 obtain⟨p,V,e⟩:=bo.mp v
 obtain⟨j,k,J⟩:=h p V
 exact absurd (Int.ofNat.inj (CV.int.inj (J.symm.trans e))) (dr k)
theorem jM.step(h:jM R Y s w y)(L:∀b es,(∃j:Nat,au w (.int j)=some (.ref b)∨au y (.int j)=some (.ref b))->Y b=some (.aJ es)->z b=some (.aJ es)){J o:Nat}{O f:At}
(t:(CC R)[s]?=some q)(c:z J=some (.aJ O))(C:Eo R q O)(B:z o=some (.aJ f))(n:GO R q f):jM R z (s+1) (aW w (.int s) (.ref J)) (aW y (.int s) (.ref o)):=by
 have T:∀{es:At} {v:CV},(∀p∈es,∃j:Nat,j<s/\p.1=.int j)->∀p∈aW es (.int s) v,∃j:Nat,j<s+1/\p.1=.int j:=λh p V=>(bV V).elim (λV=>(h p V).imp λj h=>⟨im h.1,h.2⟩) λe=>e▸⟨s,dq s,rfl⟩
 have x:∀{es:At} {v:CV} {j:Nat},j≠s->au (aW es (.int s) v) (.int j)=au es (.int j):=λ{N N j} e=>by(erw[aQ];exact Eq.substr (ca λq:CV.int s=CV.int j=>e (Int.ofNat.inj (CV.int.inj q)).symm) rfl)
 refine⟨by(erw[rE (jM.new h.ka)];exact Eq.substr h.la rfl),by(erw[rE (jM.new h.kg)];exact Eq.substr h.lg rfl),T h.ka,T h.kg,λj p a V=>?_,λj p a V=>?_⟩
 ·by_cases e:j=s
  ·subst e
   cases t.symm.trans V
   exact⟨J,O,by(erw[aQ];exact Eq.substr (ch rfl) rfl),c,C⟩
  ·obtain⟨b,es,k,g,l⟩:=h.ac j p (by lia) V
   exact⟨b,es,(x e).trans k,L b es ⟨j,.inl k⟩ g,l⟩
 ·by_cases e:j=s
  ·subst e
   cases t.symm.trans V
   exact⟨o,f,by(erw[aQ];exact Eq.substr (ch rfl) rfl),B,n⟩
  ·obtain⟨b,es,k,g,l⟩:=h.go j p (by lia) V
   exact⟨b,es,(x e).trans k,L b es ⟨j,.inr k⟩ g,l⟩
end
noncomputable def E29(L z:EN):Prop:=∀j,j<29->z j=L j
structure NsP(ty:TY)(c:Nat)(ns:Bi):Prop where
 t:ty c=some (.aJ (kN ns))
 sub:∀x∈ns,x∈bz
 nd:ns.Nodup
section
variable{P Y:Par}{ty t0 z ty':TY}{H H' H0:CH}{n c g t:Nat}{Q:DD}{U w:Role}{q:BM}{x y:Str}
theorem Ep(T:Typed P ty H)(o:ty g=some .b7)(V:Nms P.nk ks)(k:y∈aH):bO H .isIn (.str y) (.ref P.aN)=some (decide (y∈bz)):=by
 obtain⟨O,j,J⟩:=fR T o V.nk
 by_cases h:y∈bz
 ·obtain⟨v,p,_⟩:=bh (mw.mpr (by erw[J];exact dp (V.all y h)):au O (.str y)≠none)
  (erw[A8 T j (aV y k) p];exact Eq.substr (cn h) rfl)
 ·(erw[x7 T j (aV y k) (b9.mpr λq=>by rw[J] at q;exact(bo.mp q).elim λz q=>h (CV.str.inj q.2▸V.sub z q.1))];exact Eq.substr (dT h) rfl)
inductive P4I(P:Par)(H0:CH)(t0 ty:TY)(c:Nat)(ns dn:Bi)(L:EN)(H':CH)(L':EN):Prop
 | mk (ns':Bi) (ty':TY) (N:Now H0 t0 P ty' H') (k:Kp c ty ty') (h:NsP ty' c ns') (hs:∀x∈ns,x∈ns') (hd:∀x∈dn,x∈bz->x∈ns') (hL:E29 L L')
theorem MG{a:Nat}{L:EN}{K:Ap}(N:Now H0 t0 P ty H)(F:Full P)(hk:Nms P.nk ks)(g:ty t=some .table)(m:ty a=some (.item r d))(u:NsP ty c Z)(cF:H0.free c)(l0:L 0=some (.ref t))(z:L 27=some (.ref c))(Q:L 28=some (.ref a))
(hQ:∀(V:Bi) ty' H' w,Now H0 t0 P ty' H'->Kp c ty ty'->NsP ty' c V->(∀x∈Z,x∈V)->(∀x∈rhs P.R r,x∈bz->x∈V)->E29 L w->K .next ⟨H',w⟩) :
  aj (calls fF mF n) mF bK ⟨H,L⟩ K FX:=by
 obtain⟨b,hb,R⟩:=(N.T.it m).a11
 refine frL (ys:=nub [] (rhs P.R r)) (f:=.str) (a:=b) (I:=λi=>P4I P H0 t0 ty c Z ((nub [] (rhs P.R r)).take i) L) (.att (.v Q) (N.T.iat m hb))
  ⟨Z,ty,N,.r,u,λI h=>h,aR,λI I=>rfl⟩ ?_ ?_ ?_
 ·rintro i H' w ⟨V,G,C,A,_⟩
  exact aD (C.T.sat _ _ (A _ _ (br R rfl u.t rfl) R))
 ·rintro i x s Y K D ⟨V,G,C,A,o,O,k,U⟩ e
  have S:x∈aH:=F.G.sym r x ((i8.mp (be D)).resolve_left cp)
  have X:=A _ _ (br g rfl u.t rfl) g
  have p:=C.T.tb X
  have E:(nub [] (rhs P.R r)).take (i+1)=(nub [] (rhs P.R r)).take i++[x]:=by(erw[eI];erw[D]);rfl
  have B:E29 L (upd Y 29 (.str x)):=λj q=>(aZ (dr q)).trans (U j q)
  refine W.j9 (.cm (.v rfl) (.att (.att (.v ((B 0 (by decide)).trans l0)) (C.T.tat X p.a29.1)) (C.T.gat p.a29.2 (C.T.gr p.a29.2).a21.1)) (Ep C.T p.a29.2 hk S)) (λD=>?_) λD=>W.nil (e.nxt ⟨V,G,C,A,o,O,λy J f=>?_,B⟩)
  ·refine W.oG C cF o.t .c (.v ((B 27 (by decide)).trans z)) (.v rfl) (aV _ S) (by(rewrite[kN];erw[ba _]);exact ax (cj o.nd o.sub) (aw rfl)) λv H3 N3 T k3=>W.nil (e.nxt ?_)
   have T:v c=some (.aJ (kN (if x∈V then V else V++[x]))):=T.trans (ab (λl=>some (Role.aJ l)) jK)
   by_cases M:x∈V
   ·rw[ch M] at T
    refine⟨V,v,N3,A.t k3,⟨T,o.sub,o.nd⟩,O,λy J f=>?_,B⟩
    rw[E] at J
    exact(dC.mp J).elim (λJ=>k y J f) λJ=>bc.mp J▸M
   ·rw[ca M] at T
    refine⟨V++[x],v,N3,A.t k3,⟨T,cO o.sub D,eO o.nd M⟩,λy J=>de _ (O y J),λy J f=>?_,B⟩
    rw[E] at J
    exact(dC.mp J).elim (λJ=>de _ (k y J f)) λJ=>cq _ J
  ·rw[E] at J
   exact(dC.mp J).elim (λJ=>k y J f) λJ=>absurd (bc.mp J▸f) D
 ·rintro s Y ⟨V,G,C,A,o,O,k,U⟩
  rw[fI] at k
  exact hQ V G s Y C A o O (λx D M=>k x (i8.mpr (.inr D)) M) U
theorem MH{V:Nat}{G:Bi}{L:EN}{K:Ap}(N:Now H0 t0 P ty H)(S:PtS P ty t I s q)(O:ty V=some (.aJ D))(E:H0.free V)(h:GoP P.R q G D)(u:y∈bz)
(z:L 0=some (.ref t))(l8:L 8=some (.ref I))(d:L 11=some (.ref V))(f:L 30=some (.str y))
(Q:∀M l ty' H' Y,P.m<=M.m->Now H0 t0 (P.wm M) ty' H'->ty' V=some (.aJ l)->GoP P.R q (G++[y]) l->Kp V ty ty'->(∀j,j<25->Y j=L j)->K .next ⟨H',Y⟩) :
  aj (calls fF mF (n+2)) mF bL ⟨H,L⟩ K FX:=by
 have T:=N.T.tb S.t
 have C:=b6 u
 refine W.me (.v z) T.cls rfl rfl (T.no 49 (by decide)) (.two (.v l8) (.v f)) (Ea N ⟨S.F,S.qs,S.t,S.I,S.qs▸(dZ S.F.G).sub q (be S.Cq),C⟩ λM t1 H1 v U A g hR=>?_)
 have J:=g _ _ S.t
 refine W.Ma (.att (.v z) (A.T.tat J (A.T.tb J).a35.1)) (ia A.T J) (.one (.v rfl)) (mJ A hR λt2 c m o=>?_)
 replace o:=g.t o
 have r:=o _ _ S.t
 refine(Ev.ng (i:=1) (.c:Ev _ c (.c (.int 1)) (.int 1))) _ _ _ _ ?_
 refine⟨_,ia m.T r,i9 _,?_⟩
 have b:∀v w j,j<25->upd (upd L 25 v) 26 w j=L j:=λv w j B=>(aZ (dr (im B))).trans (aZ (dr B))
 by_cases k:moves P.R q y=[]
 ·have F:au P.he (ay (clo P.R (moves P.R q y)))=none:=S.hH.no _ (by
   rw[k,mE]
   exact λR=>(iq.mp R).elim λj B=>((dZ S.F.G).rch j [] B).casesOn (λe=>absurd (uE.mp (al ((dZ S.F.G).hd.symm.trans (e▸B)))) (cons_ne_nil _ _)) λi p x ζ ζ ζ h1 h2=>h1 (uE.mp h2.symm))
  rw[show(au (P.wm M).he (ay (clo P.R (moves P.R q y)))).getD (.int (-1))=.int (-1) by rw[show au (P.wm M).he _=_ from F];rfl]
  exact W.fV (.cm (.v rfl) .c (Ev.geF (by decide))) rfl (W.nil (Q M D t2 c _ U m (o _ _ O) (h.skip k) o.p (b _ _)))
 ·obtain⟨j,z0,X,Z⟩:=wD S.F.G S.hH S.Cq k
  rw[show(au (P.wm M).he (ay (clo P.R (moves P.R q y)))).getD (.int (-1))=.int j by rw[show au (P.wm M).he _=_ from Z];rfl]
  exact W.gP (.cm (.v rfl) .c (Ev.geT (hO j))) rfl (W.oG m E (o _ _ O) (.v rfl) (.v d) (.v f) (aV y C) h.len λt4 H4 N4 a k4=>W.nil (Q M _ t4 H4 _ U N4 a (h.set u k X) (o.p.t k4) (b _ _)))
end
noncomputable def Par.wt(P:Par)(M:PM)(sc:Nat)(acE goE:At):Par:={ P with toPM:=M,toPE:={ P.toPE with sc:=sc,acE:=acE,goE:=goE } }
noncomputable abbrev AcG(z Q:At)(b:Nat):Prop:=∃j:Nat,au z (.int j)=some (.ref b)∨au Q (.int j)=some (.ref b)
section
variable{P:Par}{ty U w ty':TY}{H H':CH}{n b c g t I:Nat}{Q:DD}{z j:Role}{q:BM}{x:Str}{k:CV}
theorem lq(T:Typed P ty H)(J:ty t=some .table):H.dct P.vM=some P.acE/\H.dct P.n8=some P.goE:=⟨(T.sat _ _ (T.tb J).a31.2).2,(T.sat _ _ (T.tb J).a32.2).2⟩
theorem GQ(N:Now Y U P ty H)(o:ty t=some .table):Now Y U (P.wt P.toPM P.sc (aW P.acE k v) P.goE) ty (H.bx P.vM (aW P.acE k v)):=by
 refine N.bx (N.T.tb o).a31.2 (ak (lq N.T o).1) (λa z J O s=>?_) ⟨rfl,rfl⟩
 cases z
 case A2=>exact absurd s.1 J
 all_goals exact s
theorem JG(N:Now Y U P ty H)(o:ty t=some .table):Now Y U (P.wt P.toPM P.sc P.acE (aW P.goE k v)) ty (H.bx P.n8 (aW P.goE k v)):=by
 refine N.bx (N.T.tb o).a32.2 (ak (lq N.T o).2) (λa z J O s=>?_) ⟨rfl,rfl⟩
 cases z
 case sE=>exact absurd s.1 J
 all_goals exact s
theorem PtS.wc{M:PM}(S:PtS P ty t I s q)(J:P.m<=M.m)(k:Ka ty ty'):PtS (P.wc M sc) ty' t I s q:=
 {S with F:=⟨S.F.G,S.F.k,S.F.kq,S.F.kn,S.F.z,S.F.li,fa S.F.m0 J⟩,t:=k _ _ S.t,I:=k _ _ S.I }
structure B6L(P:Par)(t c5 st I c9 c10 c11:Nat)(L0 L:EN):Prop where
 l0:L 0=some (.ref t)
 l1:L 1=some (.ref P.aP)
 l2:L 2=some (.ref P.aPr)
 l3:L 3=some (.ref P.n8)
 l4:L 4=some (.ref P.vM)
 l5:L 5=some (.ref c5)
 l7:L 7=some (.int st)
 l8:L 8=some (.ref I)
 l9:L 9=some (.ref c9)
 l10:L 10=some (.ref c10)
 l11:L 11=some (.ref c11)
 lo:∀j,j<7->L j=L0 j
theorem B6L.go{P:Par}{t st I:Nat}(w:B6L P t O st I p J o f L)(h:E12 L l):B6L P t O st I p J o f l:=
 ⟨(h 0 (by decide)).trans w.l0,(h 1 (by decide)).trans w.l1,(h 2 (by decide)).trans w.l2,(h 3 (by decide)).trans w.l3,(h 4 (by decide)).trans w.l4,(h 5 (by decide)).trans w.l5,(h 7 (by decide)).trans w.l7,(h 8 (by decide)).trans w.l8,(h 9 (by decide)).trans w.l9,(h 10 (by decide)).trans w.l10,(h 11 (by decide)).trans w.l11,λj T=>(h j (gd T (by decide))).trans (w.lo j T)⟩
inductive B6A(P:Par)(ty:TY)(H:CH)(t c5 st I c9 c10 c11:Nat)(q:BM)(L:EN)(i:Nat)(H':CH)(L':EN):Prop
 | mk (M:PM) (sc:Nat) (es esp:At) (ty':TY) (hm:P.m<=M.m) (hs:sc<=P.sc+5 * i) (N:Now H ty (P.wc M sc) ty' H') (h9:ty' c9=some (.aJ es)) (h10:ty' c10=some (.aJ esp)) (h11:ty' c11=some (.aJ [])) (hA:fK P.R ty' q (q.take i) es esp) (w:B6L P t c5 st I c9 c10 c11 L L')
inductive B6B(P:Par)(ty:TY)(H:CH)(c27:Nat)(q:BM)(t5:TY)(L:EN)(i:Nat)(H':CH)(L':EN):Prop
 | mk (ns:Bi) (ty':TY) (N:Now H ty P ty' H') (k:Kp c27 t5 ty') (h:NsP ty' c27 ns) (hd:∀p∈q.take i,∀x∈rhs P.R p.1,x∈bz->x∈ns) (w:∀j,j<28->L' j=upd L 27 (.ref c27) j)
inductive B6C(P:Par)(ty:TY)(H:CH)(sc t c5 st I c9 c10 c11:Nat)(q:BM)(t6:TY)(ns:Bi)(L:EN)(k:Nat)(H':CH)(L':EN):Prop
 | mk (M:PM) (es:At) (ty':TY) (hm:P.m<=M.m) (N:Now H ty (P.wc M sc) ty' H') (h:Kp c11 t6 ty') (h11:ty' c11=some (.aJ es)) (hG:GoP P.R q (ns.take k) es) (w:B6L P t c5 st I c9 c10 c11 L L')
theorem MI{Q st:Nat}{L:EN}{K:Ap}(N:Now Y U P ty H)(S:PtS P ty t I st q)(hk:Nms P.nk ks)(h5:ty Q=some (.aJ e5))(f5:Y.free Q)(zj:e5.length<=st)(qz:st<=109602)(qh:P.sc+75<9000000)(hT:jM P.R ty st P.acE P.goE)(zw:∀b,AcG P.acE P.goE b->b≠Q)
(l0:L 0=some (.ref t))(l1:L 1=some (.ref P.aP))(l2:L 2=some (.ref P.aPr))(l3:L 3=some (.ref P.n8))(l4:L 4=some (.ref P.vM))(l5:L 5=some (.ref Q))(l7:L 7=some (.int st))(l8:L 8=some (.ref I))
(hQ:∀M f zy zu zo ty' H' X,P.m<=M.m->f<=P.sc+75->Now Y U (P.wt M f zy zu) ty' H'->ty' Q=some (.aJ zo)->zo.length<=st+1->jM P.R ty' (st+1) zy zu->(∀b,AcG zy zu b->b≠Q)->Kp Q ty ty'->(∀j,j<7->X j=L j)->X 7=some (.int (st+1:Nat))->K .next ⟨H',X⟩) :
  aj (calls fF mF (n+2)) mF bM ⟨H,L⟩ K FX:=by
 have qq:=(dZ S.F.G).sub q (be S.Cq)
 have qi:=iK S.F.G qq
 have ka:∀{V t' H'},Now H ty V t' H'->Ka ty t':=λN' a z h=>N'.get N.T h
 refine W.newD N.T.now λc9 t1 H1 N1 zp f9 k1=>W.newD N1 λB t2 H2 N2 z7 zf k2=>W.newD N2 λD t3 H3 N3 zg qw k3=>?_
 obtain⟨zl,z8⟩:=k2 _ _ zp
 obtain⟨qy,z9⟩:=k3 _ _ zl
 obtain⟨zx,y⟩:=k3 _ _ z7
 have n9:=(k1 _ _ h5).2
 have zc:=(k3 _ _ (k2 _ _ (k1 _ _ h5).1).1).2
 clear k1 k2 k3 zp zl z7 N1 N2
 refine W.gen (p:=B6L P t Q st I c9 B D L) ⟨l0,l1,l2,l3,l4,l5,l7,l8,rfl,rfl,rfl,λj T=>(aZ (by lia)).trans ((aZ (by lia)).trans (aZ (by lia)))⟩ λL1 w=>?_
 refine frL (ys:=q) (f:=λp=>.ref (P.it p.1 p.2)) (a:=I) (I:=B6A P ty H t Q st I c9 B D q L) (.v w.l8)
  ⟨P.toPM,P.sc,[],[],t3,mA _,cr _,N3,qy,zx,zg,⟨aR,dt,λx ζ h=>absurd rfl h,λζ h=>absurd rfl h,aR,dt⟩,w⟩ ?_ ?_ ?_
 ·rintro i H' X ⟨M,f,es,zb,t4,_,_,Z,_⟩
  exact aD (g9 Z.T (ka Z _ _ S.I)).1
 ·rintro i ⟨r,d⟩ H4 L4 K hp ⟨M,f,es,zb,t4,hm,hs,Z,z4,A,v,g,G⟩ hK
  have qm:=(a6.mp hp).1
  have z0:=(g9 Z.T (ka Z _ _ S.I)).2 (r,d) (be hp)
  have zn:=be hp
  have zz:(P.wc M f).sc<9000000:=show f<_ by lia
  have za:∀M2 E J o ty' H' X,M.m<=M2.m->E<=f+5->Now H ty (P.wc M2 E) ty' H'->ty' c9=some (.aJ J)->ty' B=some (.aJ o)->fK P.R ty' q (q.take i++[(r,d)]) J o->(∀b z,b≠c9->b≠B->t4 b=some z->ty' b=some z)->E12 (upd L4 12 (.ref (P.it r d))) X->K .next ⟨H',X⟩:=λM2 E J o ty' H' X s ze N' qu zd qv kp hL=>hK.nxt ⟨M2,E,J,o,ty',fa hm s,by lia,N',qu,zd,kp _ _ (en z9) (en y) v,by(erw[eI];erw[hp]);exact qv,G.go λj T=>(hL j T).trans (aZ (dr T))⟩
  have w5:PTL t P.aP P.aPr st c9 B (P.it r d) (upd L4 12 (.ref (P.it r d))):=⟨G.l0,G.l1,G.l2,G.l7,G.l9,G.l10,rfl⟩
  have qk:d<=(rhs P.R r).length:=(Z.T.it z0).dk
  rcases mc d (rhs P.R r).length with hd | hd
  ·exact JF (P:=P.wc M f) Z (S.wc hm (ka Z)) z4 f9 A zf z8 z0 hd zn g zz w5 G.l8 za
  ·obtain rfl:d=(rhs P.R r).length:=eD qk hd
   exact JE (P:=P.wc M f) Z (S.wc hm (ka Z)) z4 f9 A zf z8 z0 zn g zz w5 λE J o ty' H' X ze N' a b c d e=>za M E J o ty' H' X (mA _) ze N' a b c d e
 rintro H4 L4 ⟨M,f,es,zb,t4,hm,hs,Z,z4,A,v,g,G⟩
 rw[fI] at g
 have hR:(P.wc M f).R=P.R:=rfl
 refine W.nil (W.newD Z λzh t5 H5 N5 zi qj k5=>?_)
 obtain⟨qo,zm⟩:=k5 _ _ z4
 obtain⟨zr,zv⟩:=k5 _ _ A
 obtain⟨zs,z1⟩:=k5 _ _ v
 refine frL (ys:=q) (f:=λp=>.ref (P.it p.1 p.2)) (a:=I) (I:=B6B (P.wc M f) ty H zh q t5 L4) (.v G.l8)
  ⟨[],t5,N5,.r,⟨zi,aR,dt⟩,aR,λζ ζ=>rfl⟩ ?_ ?_ ?_
 ·rintro i H' X ⟨ns,t6,u,_⟩
  exact aD (g9 u.T (ka u _ _ S.I)).1
 ·rintro i ⟨r,d⟩ H6 L6 K hp ⟨ns,t6,u,k6,l,O,m⟩ hK
  have z0:=(g9 u.T (ka u _ _ S.I)).2 (r,d) (be hp)
  refine MG (P:=P.wc M f) (t:=t) u (S.wc (sc:=f) hm (ka u)).F hk (ka u _ _ S.t) z0 l qj ((m 0 (by decide)).trans G.l0) (m 27 (by decide)) rfl λqp t7 H7 L7 N7 k7 zt q0 q3 jL=>hK.nxt ⟨qp,t7,N7,k6.t k7,zt,λp' F x hx q4=>?_,λj T=>(jL j (im T)).trans ((aZ (dr T)).trans (m j T))⟩
  rw[eI,hp] at F
  rcases dC.mp F with F | F
  ·exact q0 x (O p' F x hx q4)
  ·exact q3 x (bc.mp F▸hx) q4
 rintro H6 L6 ⟨ns,t6,u,k6,l,O,m⟩
 rw[fI] at O
 have zk:(kN ns).map (·.1)=ns.map .str:=by(rewrite[kN];erw[map_map]);rfl
 have qf:=k6 _ _ zm qo
 have q5:=k6 _ _ zv zr
 have q6:=k6 _ _ z1 zs
 have w6:B6L P t Q st I c9 B D L L6:=G.go λj T=>(m j (gd T (by decide))).trans (aZ (dr (gd T (by decide))))
 refine W.nil (frK (ks:=ns) (a:=zh) (I:=B6C P ty H f t Q st I c9 B D q t6 ns L) (.v (m 27 (by decide))) (u.T.dg (u.T.D l.t))
  ⟨M,[],t6,hm,u,.r,q6,⟨aR,dt,aR⟩,w6⟩ ?_ ?_ ?_)
 ·rintro k H' X ⟨M2,J,t7,_,N7,k7,_⟩
  exact⟨_,N7.T.D (k7 _ _ (en z1) l.t),zk⟩
 ·rintro k x H7 L7 K hx ⟨M2,J,t7,s,N7,k7,z2,z5,C⟩ hK
  exact MH (P:=P.wc M2 f) N7 (S.wc s (ka N7)) z2 qw z5 (l.sub x (be hx)) C.l0 C.l8 C.l11 rfl λM3 qg t8 H8 L8 ql N8 q7 qx k8 jL=>hK.nxt ⟨M3,qg,t8,fa s ql,N8,k7.t k8,q7,by(erw[eI];erw[hx]);exact qx,C.go λj T=>(jL j (gd T (by decide))).trans (aZ (dr (gd T (by decide))))⟩
 rintro H7 L7 ⟨M2,J,t7,s,N7,k7,z2,z5,C⟩
 rw[fI] at z5
 have qc:GO P.R q J:=z5.ok λx hx hm=>(o8.mp (sX hm)).elim λp h=>O p h.1 x h.2 hx
 have qb:=k7 _ _ z9 qf
 have qd:=k7 _ _ y q5
 have kA:=ka N7
 have q8:=kA _ _ h5
 have z6:=kA _ _ S.t
 have hz:st<szl:=ax qz (aw rfl)
 have N8:=N.call N7
 refine W.nil (W.bx (.v C.l9) (.v C.l4) (.v C.l7) (lq (P:=P.wc M2 f) N8.T z6).1 rfl (ax (bv hT.la) hz) ?_)
 have N9:=GQ (k:=.int st) (v:=.ref c9) N8 z6
 refine W.oG N9 f5 q8 (.v C.l10) (.v C.l5) (.v C.l7) rfl (ax zj hz) λqn qr q9 qa z3=>?_
 have zq:=z3 _ _ (br z6 rfl q8 rfl) z6
 refine W.bx (.v C.l11) (.v C.l3) (.v C.l7) (lq q9.T zq).2 rfl (ax (bv hT.lg) hz) ?_
 have qe:=JG (k:=.int st) (v:=.ref D) q9 zq
 refine W.ir C.l7 .c (.inl rfl) (hQ M2 f (aW P.acE (.int st) (.ref c9)) (aW P.goE (.int st) (.ref D)) _ qn _ _ s (by lia) qe qa (ae mz (et zj)) (hT.step (λb es R h=>z3 _ _ (zw b R) (kA _ _ h)) S.Cq (z3 _ _ (en n9) qb) g.ok (z3 _ _ (en zc) z2) qc) (λb R=>?_) (λa z h1 h2=>z3 _ _ h1 (kA _ _ h2)) (λj T=>(aZ (dr T)).trans (C.lo j T)) rfl)
 obtain⟨j,R | R⟩:=R
 ·rw[aQ] at R
  split at R
  ·cases R;exact en n9
  ·exact zw b ⟨j,.inl R⟩
 ·rw[aQ] at R
  split at R
  ·cases R;exact en zc
  ·exact zw b ⟨j,.inr R⟩
end
noncomputable def Par.wx(P:Par)(M:PM)(E:PE):Par:={ P with toPM:=M,toPE:=E }
section
variable{P z:Par}{ty t0 w ty':TY}{H H' H0:CH}{n b c g t:Nat}{Q:DD}{ρ U:Role}{x y:Str}{k:CV}
structure PAL(t aP aPr aGo aAc c5:Nat)(L:EN):Prop where
 l0:L 0=some (.ref t)
 l1:L 1=some (.ref aP)
 l2:L 2=some (.ref aPr)
 l3:L 3=some (.ref aGo)
 l4:L 4=some (.ref aAc)
 l5:L 5=some (.ref c5)
inductive PaI(P:Par)(M:PM)(H0:CH)(t0 ty:TY)(t c5 i:Nat)(H':CH)(L':EN):Prop
 | mk (M3:PM) (sc:Nat) (acE goE e5:At) (ty':TY) (hm:M.m<=M3.m) (hs:sc<=75 * i) (N:Now H0 t0 (P.wt M3 sc acE goE) ty' H') (h5:ty' c5=some (.aJ e5)) (h:e5.length<=i) (hT:jM P.R ty' i acE goE) (hn:∀b,AcG acE goE b->b≠c5) (k:Kp c5 ty ty') (w:PAL t P.aP P.aPr P.n8 P.vM c5 L') (l7:L' 7=some (.int i))
theorem JH(N:Now H0 t0 P ty H)(F:Full P)(u:P.qs=fX P.R)(z6:P.fz=true)(hk:Nms P.nk Y)(p:ty t=some .table)(z7:P.he=[])(z:P.acE=[])(y:P.goE=[])(z8:P.sc=0)
(hQ:∀M E ty' H',P.m<=M.m->Now H0 t0 (P.wx M E) ty' H'->Ka ty ty'->jM P.R ty' (CC P.R).length E.acE E.goE->Q .none H'):calls fF mF (n+5) 424 [.ref t] H Q:=by
 refine cB [.ref t] (d:=aG) rfl rfl rfl rfl λFQ ζ s=>?_
 have f:=N.T.tb p
 have d:=f.a29.2
 have U:=N.T.gr d
 have og:∀{L':EN},L' 0=some (.ref t)->Ev L' H (.at (.v 0) 29) (.ref P.gr):=λl0=>.att (.v l0) (N.T.tat p f.a29.1)
 refine W.asg (.att (og rfl) (N.T.gat d U.a17.1)) (W.asg (.att (og rfl) (N.T.gat d U.a24.1)) (W.asg (.att (.v rfl) (N.T.tat p f.a32.1)) (W.asg (.att (.v rfl) (N.T.tat p f.a31.1)) (W.newD N λc5 t1 H1 N1 z9 f5 v=>?_))))
 refine W.gen (p:=PAL t P.aP P.aPr P.n8 P.vM c5) ⟨rfl,rfl,rfl,rfl,rfl,rfl⟩ λL1 w=>?_
 have C:=N1.T.tb (v _ _ p).1
 refine W.me (.v w.l0) C.cls rfl rfl (C.no 50 (by decide)) .nil (Ek N1 F u (v _ _ p).1 z7 λM he c l t2 H2 hm N2 k2 k cF g zz=>?_)
 have m:=k2 _ _ z9
 have x:c≠c5:=oV k m rfl
 have r:=k2 _ _ (v _ _ p).1
 have zo:=ye F.G
 have z0:=g.len
 have S:∀{R B V J A I i q},P.m<=R.m->A t=some .table->A I=some (.stL q)->(CC P.R)[i]?=some q->PtS ((P.wh M he).wt R B V J) A t I i q:=λh p hI hq=>⟨⟨F.G,F.k,F.kq,F.kn,F.z,F.li,fa F.m0 h⟩,u,z6,zz,p,hI,hq⟩
 refine W.j9 (.cm (.att (.v w.l0) (N2.T.tat r (N2.T.tb r).a30)) .c (eqS (asc (by decide)) (asc (by decide)))) (λe=>absurd e (by decide)) λζ=>W.nil (W.asg .c ?_)
 refine frL (ys:=l) (f:=.ref) (a:=c) (I:=PaI (P.wh M he) M H0 t0 t2 t c5) (.v rfl)
  ⟨M,P.sc,P.acE,P.goE,[],t2,mA _,bv z8,N2,m,cr _,?_,?_,.r,⟨w.l0,w.l1,w.l2,w.l3,w.l4,w.l5⟩,rfl⟩ ?_ ?_ ?_
 ·(erw[z];erw[y])
  exact⟨rfl,rfl,aR,aR,λj ζ h=>absurd h (ij _),λj ζ h=>absurd h (ij _)⟩
 ·(erw[z];erw[y])
  rintro b ⟨j,h | h⟩ <;> cases h
 ·rintro i H' L' ⟨R,B,V,J,e5,A,_,_,N3,_,_,_,_,Z,_⟩
  exact N3.T.gL (Z _ _ x k)
 ·rintro i I H3 L3 K hI ⟨R,B,V,J,e5,A,L,zq,N3,z1,z2,T,D,Z,O,l7⟩ hK
  obtain⟨q,hq,zw⟩:=g.get hI
  have zp:=(a6.mp hI).1
  have kn:∀{b ρ},t2 b=some ρ->ρ.own=false->A b=some ρ:=λh o=>Z _ _ (br h o m rfl) h
  exact MI (n:=n+2) (P:=(P.wh M he).wt R B V J) N3 (S (fa hm L) (kn r rfl) (kn zw rfl) hq) hk z1 f5 z2 (by lia) (show B+75<_ by lia) T D O.l0 O.l1 O.l2 O.l3 O.l4 O.l5 l7 rfl λM4 X z3 z4 e6 t4 H4 L4 zy zu N4 zv zk zj z5 k4 G j7=>hK.nxt ⟨M4,X,z3,z4,e6,t4,fa L zy,(show X<=75 * (i+1) by have:X<=B+75:=zu;lia),N4,zv,zk,zj,z5,Z.t k4,⟨(G 0 (by decide)).trans O.l0,(G 1 (by decide)).trans O.l1,(G 2 (by decide)).trans O.l2,(G 3 (by decide)).trans O.l3,(G 4 (by decide)).trans O.l4,(G 5 (by decide)).trans O.l5⟩,j7⟩
 ·rintro H3 L3 ⟨R,B,V,J,e5,A,L,zq,N3,z1,z2,T,D,Z,_⟩
  rw[z0] at T
  exact W.nil (s (hQ R ⟨P.hash,he,V,J,B⟩ A H3 (fa hm L) N3 (λa ρ h=>Z _ _ (v _ _ h).2 (k2 _ _ (v _ _ h).1)) T))
theorem Now.MJ{L':FM}{T:PQ}(N:Now H0 t0 P ty H)(J:∀a ρ,t0 a=some ρ->ρ.gr=true)(D:H0.free c)(M:ty c=some (.cK d f))(O:Mn H0 ty c L)(s:∀x∈L,x.2.own=true)(e:L'.map (·.1)=L.map (·.1))
(m:∀ty',(∀x∈(c,ρ)::L',ty' x.1=some x.2)->(∀a ρ,ty a=some ρ->ρ.own=false->ρ.gr=true->ty' a=some ρ)->∀x∈(c,ρ)::L',Sat { P with toPQ:=T,toPE:=E } ty' (view H x.1) x.1 x.2):∃ty',Now H0 t0 { P with toPQ:=T,toPE:=E } ty' H/\ty' c=some ρ:=by
 have C:=zZ (d:=mh ty) (O.nd' (ρ:=ρ) e)
 have B:∀a V,ty a=some V->V.own=false->V.gr=true->rol (mh ty) ((c,ρ)::L') a=some V:=λa V h o p=>(uA λx j q=>by
  rcases bt.mp j with rfl | j
  ·exact br h o M rfl q.symm
  ·obtain⟨y,A,r⟩:=bo.mp (e▸dp (f:=λz:Nat×Role=>z.1) j)
   exact br h o (O.r y A).t (s y A) (q.symm.trans r.symm)).trans (jG h p)
 refine⟨_,⟨⟨N.T.wf,N.T.f,N.T.s,λa V h=>?_⟩,N.live,λa l=>?_⟩,C _ aM⟩
 ·exact(uB h).elim (m _ C B _) λh=>Sat.upT (iH h).2 ((N.T.sat a V (iH h).1).mono λb V o p i=>B b V i o (p (iH h).2))
 ·refine(uA λx j (q:x.1=a)=>l (q▸O.fr e D j)).trans ?_
  cases e:t0 a with
  | none=>unfold mh;(erw[N.agree a l];erw[e]);rfl
  | some ρ=>exact jG ((N.agree a l).trans e) (J a ρ e)
namespace W
variable{a:FB}{Q:Ap}{L:EN}{xs:Bi}
theorem Er(N:Now H0 t0 P ty H)(B:Ev L H J (.str x))(A:Evs L H j (xs.map .str))(p:x∈xs)(T:∀y∈xs,cH y)(r:∀s o O,Now H0 t0 P o O->K1 s ty o->aj V M l ⟨O,L⟩ Q X):aj V M (.ite (.cm .d8 J (.li j)) a []::l) ⟨H,L⟩ Q X:=
 B _ _ _ _ (A _ _ _ _ λs D=>N.nL (G:=λH'=>∃r,bO H' .d8 (.str x) (.ref s)=some r/\∃q,truth H' (.bool r)=some q/\if q then aj V M a ⟨H',L⟩ (bf V M l Q X) X else aj V M [] ⟨H',L⟩ (bf V M l Q X) X) D λo O C g f k=>⟨false,(oH (fQ (C.T.gL g) T (T x p))).trans (ab (λb=>some (!b)) (cn p)),false,rfl,r s o O C k⟩)
end W
theorem wG(T:Typed P ty H)(v:∀a ρ,ty a=some ρ->ρ.gr=true)(G:GoodR P.R)(hc:H.free c)(r:ty g=some .b7)(X:P.k=P.R.length)(C:P.kq=P.k)(B:P.kn=P.R.length)(t:P.kt=P.R.length)(U:P.z=true)(b:P.li=0)(I:P.lx=0)(z0:P.ly=0)(hm:P.m=0)
(z1:P.fe=true)(z2:P.ff=false)(z3:P.ge=true)(z4:P.fz=false)
(hQ:∀z ty' H',z.R=P.R->Full z->z.qs=fX z.R->Now H ty z ty' H'->ty' c=some .table->jM P.R ty' (CC P.R).length z.acE z.goE->Q .none H'):calls fF mF (n+6) 333 [.ref c,.ref g,.str (u 1349811)] (H.setC c 427) Q:=by
 obtain rfl:g=P.gr:=(T.sat _ _ r).1
 refine T.now.nC (G:=λH=>calls fF mF (n+6) 333 _ H Q) hc λt1 H1 N p cF k1=>?_
 refine cB [.ref c,.ref P.gr,.str (u 1349811),.none] (d:=bC) rfl rfl rfl rfl λFQ V R=>?_
 clear k1
 refine W.Er (xs:=[u 1349811,u 129580172]) N (.v rfl) (.two .c .c) (by decide) (λy hy=>asc (by revert hy;revert y;decide)) λs t2 H2 N k=>?_
 replace p:=(k _ _ p).1
 clear k
 refine W.qW [(29,.v (.v 1) (.ref P.gr)),(30,.v (.v 2) (.str (u 1349811))),(31,.d),(32,.d),(33,.v (.at (.v 1) 17) (.ref P.aP)),(34,.d),(35,.d),(36,.v (.c (.int 0)) (.int 0)),(37,.v (.c (.int 0)) (.int 0)),(38,.v (.c (.int 0)) (.int 0)),(39,.l [] []),(40,.l [] []),(41,.l [] [])] rfl rfl cF N p .nil
  ⟨λV V V V=>.v rfl,λV V V V=>.v rfl,λV V=>⟨λV V N V=>.att (.v rfl) (N.T.gat (N.get T r) (N.T.gr (N.get T r)).a17.1),λV V=>⟨λV V V V=>.c,λV V V V=>.c,λV V V V=>.c,λV=>.nil,λV=>⟨λV=>.nil,λV=>⟨λV=>.nil,λV=>trivial⟩⟩⟩⟩⟩ λL o J O K D d z5 zg N p l=>?_
 obtain⟨f,p,m,z6,z7,z8,z9,zz,zq,zw,zy,zu⟩:∃f,z5 c=some (.cK 427 f)/\f 29=some (.ref P.gr)/\f 30=some (.str (u 1349811))/\f 31=some (.ref L)/\f 32=some (.ref o)/\f 34=some (.ref J)/\f 35=some (.ref O)/\f 36=some (.int 0)/\f 40=some (.ref D)/\f 41=some (.ref d)/\∀k,42<=k->f k=none:=
  ⟨_,p,rfl,rfl,rfl,rfl,rfl,rfl,rfl,rfl,rfl,hi1 (hi1 (hi1 (hi1 (hi1 (hi1 (hi1 (hi1 (hi1 (hi1 (hi1 (hi1 (hi1 (λV V=>rfl) rfl) rfl) rfl) rfl) rfl) rfl) rfl) rfl) rfl) rfl) rfl) rfl) rfl⟩
 have j:=N.get T r
 refine W.DC (.att (.v rfl) (N.T.oat p rfl m)) (N.T.gr j).cls rfl rfl ((N.T.gr j).no 47 (by decide)) .nil (DX N G j X C B U b I z0 λf2 zv zl N k=>?_)
 replace l:Mn H zv c _:=l.keep k.p
 replace p:=k _ _ p
 clear k j
 obtain⟨Y,N,S⟩:=freeze N G (N.get T r) t
 have j:=N.get T r
 refine W.DC (.att (.v rfl) (N.T.oat p rfl m)) (N.T.gr j).cls rfl rfl ((N.T.gr j).no 45 (by decide)) .nil (ru N G B j z1 z2 S λaf fc zk zx V N k=>?_)
 replace l:Mn H zk c _:=l.keep k.p
 replace p:=k _ _ p
 clear k j
 have j:=N.get T r
 refine W.DC (.att (.v rfl) (N.T.oat p rfl m)) (N.T.gr j).cls rfl rfl ((N.T.gr j).no 46 (by decide)) .nil (oJ N G j X C U rfl z3 z4 S λao fo zj zc V N k=>?_)
 replace l:Mn H zj c _:=l.keep k.p
 replace p:=k _ _ p
 clear k j
 have A:=N.T.A p
 obtain⟨zb,N2,ht⟩:=N.MJ (ρ:=.table) (L':=[(d,.srL),(D,.srL),(K,.aq []),(O,.kH),(J,.nG),(o,.sE),(L,.A2)]) (T:=⟨c,L,o,J,D,d,fX P.R⟩) (E:=⟨O,[],[],[],0⟩) v cF p l
  (Al.mem ⟨rfl,rfl,rfl,rfl,rfl,rfl,rfl,trivial⟩) rfl λty' q kk=>by
   have Z:=λi (x:Nat×Role) (e:[(c,Role.table),(d,.srL),(D,.srL),(K,.aq []),(O,.kH),(J,.nG),(o,.sE),(L,.A2)][i]?=some x)=>q x (be e)
   exact Al.mem ⟨⟨rfl,N.T.C p,⟨(A 29).trans m,kk _ _ (N.get T r) rfl rfl⟩,(A 30).trans z6,⟨(A 31).trans z7,Z 7 _ rfl⟩,⟨(A 32).trans z8,Z 6 _ rfl⟩,⟨(A 34).trans z9,Z 5 _ rfl⟩,⟨(A 35).trans zz,Z 4 _ rfl⟩,(A 36).trans (zq.trans (ab (λi=>some (CV.int i)) hm.symm)),⟨(A 40).trans zw,Z 2 _ rfl⟩,⟨(A 41).trans zy,Z 1 _ rfl⟩,λk X=>(A k).trans (zu k X)⟩,
    ⟨[],N.T.L (l.at 0 rfl).t,dd _⟩,⟨[],N.T.L (l.at 1 rfl).t,dd _⟩,N.T.L (l.at 2 rfl).t,⟨ak (N.T.D (l.at 3 rfl).t),λV=>N.T.D (l.at 3 rfl).t⟩,⟨[],N.T.D (l.at 4 rfl).t,aR,dt⟩,⟨rfl,N.T.D (l.at 5 rfl).t⟩,⟨rfl,N.T.D (l.at 6 rfl).t⟩,trivial⟩
 have w:=N2.T.tb ht
 have F:∀{M:PM},P.m<=M.m->0<=M.m:=λh=>by rw[hm] at h;exact h
 refine W.DC (.v rfl) w.cls rfl rfl (w.no 51 (by decide)) .nil (JH N2 ⟨G,X,C,B,U,rfl,show 0<=P.m from Int.le_of_eq hm.symm⟩ rfl rfl S ht rfl rfl rfl rfl λM E zo zp zf N3 k3 hT=>R (hQ _ zo zp (by exact rfl) (by exact⟨G,X,C,B,U,rfl,F (M:=M) zf⟩) (by exact rfl) N3 (k3 _ _ ht) hT))
end
section
variable{z:PT}{L:EN}{H:CH}{U y v:CE}{x:CV}{c:Nat}{w:B2}{Q:Da}{X:D1}
theorem NR(V:Ev L H U x)(g:truth H x=some p)(r:if p then wpE z M y ⟨H,L⟩ Q X else wpE z M v ⟨H,L⟩ Q X):wpE z M (.ife U y v) ⟨H,L⟩ Q X:=V _ _ _ _ ⟨p,g,r⟩
theorem poE(h:Ev L H o (.ref c))(g:H.lst c=some (x::m))(r:Q x ⟨H.aA c m,L⟩):wpE z M (.po o (.c (.int 0))) ⟨H,L⟩ Q X:=h _ _ _ _ ⟨c,_,rfl,g,x,m,rfl,g,r⟩
theorem ixE(h:Ev L H e x)(r:wpE z M U ⟨H,L⟩ (λy st=>∃r,fS st.H x y=some r/\match r with | .ok v=>Q v st | .error q=>X q st) X):wpE z M (.ix e U) ⟨H,L⟩ Q X:=h _ _ _ _ r
theorem MK(h:Evs L H Y w)(r:z f w H λr V=>wpE z M e ⟨V,L⟩ (λy st=>opV .mod r y st Q) X):wpE z M (.op .mod (.fn f Y) e) ⟨H,L⟩ Q X:=h _ _ _ _ r
theorem ixF(h:Evs L H Y w)(r:z f w H λx V=>wpE z M e ⟨V,L⟩ (λy st=>∃r,fS st.H x y=some r/\match r with | .ok v=>Q v st | .error q=>X q st) X):wpE z M (.ix (.fn f Y) e) ⟨H,L⟩ Q X:=h _ _ _ _ r
theorem liF{as:FV}{Q:Fk}(h:Evs L H Y w)(r:z f w H λr V=>mU z M as ⟨V,L⟩ (λk st=>Q (r::k) st) X):mU z M (.fn f Y::as) ⟨H,L⟩ Q X:=h _ _ _ _ r
theorem W.Cb{as:FV}{Q:Ap}(r:mU z M as ⟨H,L⟩ (λw st=>∀c,st.H.free c->aj z M l ⟨st.H.aA c w,upd st.L i (.ref c)⟩ Q X) X):aj z M (.asg (.n i) (.li as)::l) ⟨H,L⟩ Q X:=r
theorem W.JI{Q:Ap}(r:wpE z M e ⟨H,L⟩ (λv st=>aj z M l ⟨st.H,upd st.L i v⟩ Q X) X):aj z M (.asg (.n i) e::l) ⟨H,L⟩ Q X:=r
theorem W.apE{Q:Ap}(h:Ev L H o (.ref c))(g:H.lst c=some m)(r:wpE z M e ⟨H,L⟩ (λx st=>∃V,st.H.lst c=some V/\V.length<szl/\aj z M l { st with H:=st.H.aA c (V++[x]) } Q X) X):aj z M (.ex (.ap o e)::l) ⟨H,L⟩ Q X:=h _ _ _ _ ⟨c,m,rfl,g,r⟩
end
section
variable{z:Type}{f:z->CV}{l m:List z}{x:z}{H:CH}{a b:Nat}
noncomputable def okL(l:B2):Prop:=CV.bD l=true/\CV.dB l<=20
theorem okL.of{p:z->Prop}{d:Nat}(h:∀x,p x->(f x).pure=true/\(f x).depth<=d)(Q:d<=20):∀{l:List z},(∀x∈l,p x)->okL (l.map f)
 | [],_=>⟨rfl,dd _⟩
 | y::l,hl=>by
  obtain⟨w,Y⟩:=okL.of h Q (l:=l) λx U=>hl x (bb _ U)
  obtain⟨v,V⟩:=h y (hl y aM)
  exact⟨(Bool.and_eq_true _ _).mpr ⟨v,w⟩,Nat.max_le.mpr ⟨ae V Q,Y⟩⟩
theorem inL[Decidable (x∈l)](h:H.getL a=some (l.map f))(w:okL (l.map f))(Y:(f x).pure=true)(U:(f x).depth<=20)(Q:∀y∈l,f y=f x->y=x):bO H .isIn (f x) (.ref a)=some (decide (x∈l)):=
 (ab (Option.elim · _ (pn (f x))) h).trans ((ch ⟨Y,w.1,U,w.2⟩).trans (ab some (gk ⟨λh=>(bo.mp h).elim λy q=>Q y q.1 q.2▸q.1,dp⟩)))
theorem JJ[Decidable (l=m)](h:H.getL a=some (l.map f))(Y:H.getL b=some (m.map f))(w:okL (l.map f))(y:okL (m.map f))(Q:l.map f=m.map f->l=m):bO H .eq (.ref a) (.ref b)=some (decide (l=m)):=by
 have e:eqV H (.ref a) (.ref b)=eqX H (.ref a) (.ref b):=by unfold eqV;exact ca λq=>c6 q.1
 refine Eq.trans e ?_
 show(H.getL a).bind _=_
 erw[h]
 show(H.getL b).bind _=_
 erw[Y]
 exact(ch ⟨w.1,y.1,w.2,y.2⟩).trans (ab some (gk ⟨Q,ab _⟩))
end
theorem cP{a b:Nat}(h:a<=b)(z:Nat.ble b 1000000=true):a<szl:=ax (ae h (aw z)) (aw rfl)
section
variable{P:Par}{t0:TY}{H H0:CH}{n t:Nat}{Q:DD}{l:List Int}
theorem nN(N:Now H0 t0 P Y H)(g:Y t=some (.aq (l.map .int)))(f:H0.free t)(U:∀i (v:List Int) z y,Now H0 t0 P z y->z t=some (.aq (v.map .int))->Kp t Y z->Q (.int i) y):calls fF mF (n+1) 447 [.ref t] H Q:=by
 refine cB [.ref t] (d:=iX) rfl rfl rfl rfl λV w o=>W.DN ?_
 refine NR (.v rfl) (nH (N.T.gL g)) ?_
 cases l with
 | nil=>exact w (U 0 [] Y H N g .r)
 | cons x l=>exact poE (.v rfl) (N.T.L g) (N.oL (G:=λH=>V (.ret (.int x)) ⟨H,_⟩) f g λz y j J k=>w (U x l z y j J k))
theorem Aj{z:Type}{l:List z}{f:z->CV}(w:0<l.length)(i:Int):∃x∈l,atI (l.map f) (i % (l.length:Int))=some (f x):=by
 obtain⟨m,e⟩:=Int.eq_ofNat_of_zero_le (Int.emod_nonneg i (Int.ne_of_gt (lv.mpr w)))
 have y:=Int.emod_lt_of_pos i (lv.mpr w)
 rw[e] at y ⊢
 have U:m<l.length:=hV.mp y
 exact⟨l[m],fg U,(ch (hO m)).trans (by rw[lp,eM,bm U];rfl)⟩
theorem GR{b:Int}(h:-(2 ^ 20)<b/\b<2 ^ 20):kI [.int b]=some ((range b.toNat).map λ(i:Nat)=>.int i):=ch h
theorem sZ{m:Nat}(h:m<1000000):kI [.int m]=some ((range m).map λ(i:Nat)=>.int i):=
 (GR ⟨by lia,by lia⟩).trans (by exact Eq.substr (lp _) rfl)
structure RoL(t c:Nat)(nm:Str)(L:EN):Prop where
 l0:L 0=some (.ref t)
 l1:L 1=some (.str nm)
 l3:L 3=some (.ref c)
theorem JK{c p:Nat}{nm:Str}{y:Bi}{K:Ap}(N:Now H0 t0 P Y H)(g:Y t=some (.aq (l.map .int)))(f:H0.free t)(B:Y c=some (.aq (y.map .str)))(r:H0.free c)(A:c≠t)(F:y.length<=100)(w:RoL t c nm L)(D:L 4=some (.int p))
(R:∀(o:List Int) x z U E,Now H0 t0 P z U->z t=some (.aq (o.map .int))->z c=some (.aq ((y++[x]).map .str))->(∀a O,a≠t->a≠c->Y a=some O->z a=some O)->x∈aH->(p=0->x∈kW)->RoL t c nm E->K .next ⟨U,E⟩):aj (calls fF mF (n+1)) mF lU ⟨H,L⟩ K FX:=by
 have V:∀(k:Nat) (v:Bi),0<v.length->v.length<100->(∀{z U},Now H0 t0 P z U->U.getL k=some (v.map .str)/\U.cls k=none)->(∀x∈v,x∈aH)->(p=0->∀x∈v,x∈kW)->
   aj (calls fF mF (n+1)) mF [.ex (.ap (.v 3) (.ix (.v 5) (.op .mod (.fn 447 [.v 0]) (.b1 .len (.v 5)))))] ⟨H,upd L 5 (.ref k)⟩ K FX:=by
  intro k v J T S X Z
  refine W.apE (.v w.l3) (N.T.L B) (ixE (.v rfl) (MK (.one (.v w.l0)) (nN N g f λi o t1 H1 C G I=>?_)))
  obtain⟨M,u⟩:=S C
  have j:=I _ _ A B
  refine Ev.go (.uw (.v rfl) u (vR M) (by erw[ba _];exact cy (cP (cy T) rfl))) ⟨by erw[ba _];exact lv.mpr J,?_⟩
  obtain⟨x,s,e⟩:=Aj (f:=CV.str) J i
  refine⟨.ok (.str x),xU M (by erw[ba _];exact e),_,C.T.L j,by erw[ba _];exact cP F rfl,C.oL (G:=λH=>K .next ⟨H,_⟩) r j λq Q N2 g2 d=>R o x q Q _ N2 (d _ _ (en A) G) (by(erw[g2];erw[ej]);rfl) (λa O J T h=>d _ _ T (I _ _ J h)) (X x s) (λe=>Z e x s) ⟨w.l0,w.l1,w.l3⟩⟩
 by_cases b:p=0
 ·subst b
  exact W.asg (.ifF (.v D) rfl .c) (V 439 kW (by decide) (by decide) (λN=>⟨N.T.gf,(N.T.wf.ro _ (ak N.T.f)).2.2⟩) (by decide) λm m h=>h)
 ·exact W.asg (.ifT (.v D) (ab some (bne_iff_ne.mpr λe=>b (Int.ofNat.inj e))) .c) (V 440 aH (by decide) (by decide) (λN=>⟨N.T.gs,(N.T.wf.ro _ (ak N.T.s)).2.2⟩) (λm h=>h) λe=>absurd e b)
inductive NS(H0:CH)(t0:TY)(P:Par)(t c:Nat)(nm:Str)(t2:TY)(i:Nat)(H':CH)(L':EN):Prop
 | mk (acc:Bi) (l':List Int) (ty':TY) (N:Now H0 t0 P ty' H') (g:ty' t=some (.aq (l'.map .int))) (gc:ty' c=some (.aq (acc.map .str))) (k:∀a ρ,a≠t->a≠c->t2 a=some ρ->ty' a=some ρ) (hl:acc.length=i) (hs:∀x∈acc,x∈aH) (hf:∀x,acc[0]?=some x->x∈kW) (w:RoL t c nm L')
theorem NU{z:PT}{Q:Ap}(h:Evs L H w U)(r:z f U H λr k=>wpE z M e ⟨k,L⟩ (λy st=>opV .mod r y st λv st=>aj z M (.fr V (.rng [.c v]) b o::s) st Q X) X):aj z M (.fr V (.rng [.op .mod (.fn f w) e]) b o::s) ⟨H,L⟩ Q X:=h _ _ _ _ r
theorem mO{nm:Str}{most:Nat}(N:Now H0 t0 P Y H)(g:Y t=some (.aq (l.map .int)))(f:H0.free t)(Z:most<100)
(G:∀(u:List Int) rhs v s,Now H0 t0 P v s->v t=some (.aq (u.map .int))->Kp t Y v->fh most rhs->Q (dP (nm,rhs)) s):calls fF mF (n+2) 454 [.ref t,.str nm,.int most] H Q:=by
 refine cB [.ref t,.str nm,.int most] (d:=jW) rfl rfl rfl rfl λFQ k o=>?_
 refine W.newL N .nil λc t1 H1 q gc cF L=>?_
 have T:=L _ _ g
 refine NU (.one (.v rfl)) (nN q T.1 f λi l2 d H2 N2 g2 r=>?_)
 refine Ev.go (.add (.v rfl) .c) ⟨lv.mpr (ft most),?_⟩
 obtain⟨m,e⟩:=Int.eq_ofNat_of_zero_le (Int.emod_nonneg i (show(most:Int)+1≠0 by lia))
 have C:m<=most:=by have:=Int.emod_lt_of_pos i (show(0:Int)<most+1 by lia);lia
 erw[e]
 refine frR (ys:=range m) (f:=λ(i:Nat)=>.int i) (I:=NS H0 t0 P t c nm d) (.one .c) ?_
  ⟨[],l2,d,N2,g2,r _ _ (en T.2) gc,λo o o o h=>h,rfl,aR,(by intro i h;injection h),rfl,rfl,rfl⟩ ?_ ?_
 ·exact sZ (by lia)
 ·rintro i y F L3 K O ⟨U,R,S,p,b,V,B,j,A,D,w⟩ hK
  obtain⟨hi,rfl⟩:=a6.mp O
  erw[getElem_range _]
  rw[eh] at hi
  exact JK (p:=i) p b f V cF (en T.2) (by lia) ⟨w.l0,w.l1,w.l3⟩ rfl λl4 x t4 H4 L4 N4 g4 E k4 hx I M=>hK.nxt ⟨U++[x],l4,t4,N4,g4,E,λa ρ J X h=>k4 _ _ J X (B _ _ J X h),by(erw[bp];erw[j]);rfl,cO A hx,λy O=>(by
   cases U with
   | nil=>cases O;exact I j.symm
   | cons z U=>exact D y O),M.l0,M.l1,M.l3⟩
 ·rintro F L3 ⟨U,R,S,p,b,V,B,j,A,D,w⟩
  rw[eh] at j
  exact W.nil (W.ret (.tu (.two (.v w.l1) (.tuple (.v w.l3) (p.T.gL V) (by erw[ba _];exact cy (cP (ae (bv j) (ae C (cy Z))) rfl))))) (k (G R U S F p b (λa ρ J h=>B _ _ J (L _ _ h).2 (r _ _ J (L _ _ h).1)) ⟨by lia,A,D⟩)))
theorem lu(N:Now H0 t0 P Y H)(U:∀c z y,Now H0 t0 P z y->z c=some (.aq (bz.map .str))->K1 c Y z->Q (.ref c) y):calls fF mF (n+1) 438 [] H Q:=
 cB [] (d:=gV) rfl rfl rfl rfl λv w O=>W.DN λc V=>N.nL (G:=λH=>v (.ret (.ref c)) ⟨H,_⟩) V λj J o g f k=>w (U c j J o g k)
end
theorem GS{l:List aI}(h:∀r∈l,qS r):okL (l.map dP):=⟨A5 h,ae (xR _) (aw rfl)⟩
theorem ML(U:fh 2 Q)(v:fh 2 w)(Y:fh 1 y):Rows [(sS,Q),(sA,w),(sB,y)]:=by
 refine⟨⟨cr 3,gN 3⟩,⟨_,rfl⟩,⟨_,rfl⟩,⟨_,rfl,Y.1⟩,λr z=>?_,?_⟩
 ·rcases bt.mp z with rfl | z
  ·exact⟨show sS∈bz by decide,U⟩
  rcases bt.mp z with rfl | z
  ·exact⟨show sA∈bz by decide,v⟩
  ·erw[bc.mp z];exact⟨show sB∈bz by decide,Y.mono (by decide)⟩
 ·exact Pairwise.of_map (S:=(·≠·)) Prod.fst (λa b h e=>h (ab _ e)) (show [sS,sA,sB].Nodup by decide)
theorem Rows.snoc{r:aI}(h:Rows z)(w:z.length=3)(y:r∉z)(Y:r.1∈bz)(U:fh 2 r.2):Rows (z++[r]):=by
 have Q:∀{i:Nat} {x:aI},z[i]?=some x->(z++[r])[i]?=some x:=λe=>(fA (a6.mp e).1).trans e
 exact⟨by(erw[bp];erw[w]);exact⟨gN 3,cr 4⟩,h.r0.imp λx=>Q,h.r1.imp λx=>Q,h.r2.imp λx q=>⟨Q q.1,q.2⟩,cO h.good ⟨Y,U⟩,eO h.nd y⟩
section
variable{P:Par}{z:TY}{H w:CH}{n t:Nat}{Q:DD}{l:List Int}
theorem yg(N:Now w y P z H)(g:z t=some (.aq (l.map .int)))(f:w.free t)
(C:∀c Y V F,Now w y P V F->V c=some (.aq (Y.map dP))->Kp t z V->Rows Y->Q (.ref c) F):calls fF mF (n+3) 461 [.ref t] H Q:=by
 refine cB [.ref t] (d:=gX) rfl rfl rfl rfl λFQ U O=>?_
 refine W.Cb (liF (.cons (.v rfl) (.two .c .c)) (mO (most:=2) N g f (by decide) λl1 R t1 H1 S q1 X v=>?_))
 refine liF (.cons (.v rfl) (.two .c .c)) (mO (most:=2) S q1 f (by decide) λl2 Z t2 H2 K q2 G u=>?_)
 refine liF (.cons (.v rfl) (.two .c .c)) (mO (most:=1) K q2 f (by decide) λl3 q t3 H3 N3 q3 x h3 c hc=>?_)
 have x:=X.t (G.t x)
 have J:=ML v u h3
 clear v u h3 q1 q2 S K X G
 refine N3.nL (l:=[(sS,R),(sA,Z),(sB,q)].map dP) (G:=λH=>aj (calls fF mF (n+2)) mF _ ⟨H,upd _ 1 (.ref c)⟩ FQ FX) hc λb H4 B A cF k=>?_
 generalize p:[(sS,R),(sA,Z),(sB,q)]=Y at J A
 have hl:Y.length=3:=p▸rfl
 clear p
 have D:=k _ _ q3
 have kc:∀a L,a≠t->z a=some L->a≠c:=λa L v h=>(k _ _ (x _ _ v h)).2
 have k:Kp t z b:=x.t k.p
 have ct:=en D.2
 refine W.ite (.v rfl) (nH (B.T.gL D.1)) (λO=>?_) λO=>W.nil (W.ret (.v rfl) (U (C c Y b H4 B A k J)))
 refine W.JI (ixF .nil (lu B λc5 t5 H5 N5 g5 E=>?_))
 have q5:=E _ _ D.1
 refine MK (.one (.v rfl)) (nN N5 q5.1 f λi l6 t6 H6 N6 q6 o=>⟨by decide,?_⟩)
 obtain⟨nm,T,e⟩:=Aj (l:=bz) (f:=CV.str) (by decide) i
 refine⟨.ok (.str nm),xU (N6.T.gL (o _ _ (en q5.2) g5)) e,?_⟩
 have I:=o _ _ ct (E _ _ A).1
 have o:Kp t b t6:=λa L v h=>o _ _ v (E _ _ h).1
 show aj _ _ (_::_) ⟨H6,upd _ 2 (.str nm)⟩ _ _
 refine W.fn (.cons (.v rfl) (.two (.v rfl) .c)) (mO (most:=2) N6 q6 f (by decide) λl7 x4 t7 H7 M q7 s h4=>?_)
 have j:=s _ _ ct I
 have d:qS (nm,x4):=HE T h4
 refine W.ux (.cm (.v rfl) (.v rfl) (oH (inL (f:=dP) (M.T.gL j) (GS λr p=>HE (J.good r p).1 (J.good r p).2) (sO d) (by erw[qT _];decide) λO O=>DF))) (λhn=>?_) λO=>W.nil (W.nil (W.ret (.v rfl) (U (C c Y t7 H7 M j (k.t (o.t s)) J))))
 exact W.iI M cF j (.v rfl) (.v rfl) (by(erw[ba _];erw[hl]);exact cP (cr 3) rfl) λt8 H8 N8 m k8=>W.nil (W.nil (W.ret (.v rfl) (U (C c _ t8 H8 N8 (by erw[ej];exact m) (λa L v h=>k8 _ _ (kc a L v h) (s _ _ v (o _ _ v (k _ _ v h)))) (J.snoc hl hn T h4)))))
end
structure Es{α:Type}(f:α->CV)(lt:α->α->Prop):Prop where
 le:∀a b,leV (f a) (f b)=true↔(f a=f b∨lt a b)
 inj:∀a b,f a=f b->a=b
 NV:∀a b,lt a b->¬ lt b a
theorem GU(h:leV x y=true):oq x (y::l)=x::y::l:=ch h
theorem GV(h:¬ leV x y=true):oq x (y::l)=y::oq x l:=ca h
theorem JL{Q:Type}[DecidableEq Q]{f:Q->CV}{Y:Q->Q->Prop}(O:Es f Y){x:Q}{m:List Q}:m.Pairwise Y->x∈m->oq (f x) ((m.erase x).map f)=m.map f:=by
 induction m with
 | nil=>exact λV h=>absurd h cp
 | cons y t v=>
  intro w h
  have w:=pairwise_cons.mp w
  by_cases e:y=x
  ·subst e
   erw[erase_cons_head _ _]
   cases t with
   | nil=>rfl
   | cons z t=>exact GU ((O.le _ _).mpr (.inr (w.1 z aM)))
  ·have U:x∈t:=(bt.mp h).resolve_left λq=>e q.symm
   erw[erase_cons_tail (λq=>e (ey.mp q))]
   exact(GV λq=>((O.le _ _).mp q).elim (λq=>e (O.inj _ _ q).symm) λq=>O.NV _ _ q (w.1 x U)).trans (ab (f y::·) (v w.2 U))
theorem Ak{Q:Type}[DecidableEq Q]{f:Q->CV}{y:Q->Q->Prop}(O:Es f y){l:List Q}:∀{m:List Q},l.Nodup->m.Pairwise y->m.Nodup->(∀a,a∈l↔a∈m)->fN (l.map f)=m.map f:=by
 induction l with
 | nil=>
  intro m _ _ _ h
  obtain rfl:m=[]:=eq_nil_iff_forall_not_mem.mpr λa z=>cp ((h a).mpr z)
  rfl
 | cons x l v=>
  intro m w Y U h
  have w:=ei.mp w
  have q:fN (l.map f)=(m.erase x).map f:=v w.2 (Y.sublist erase_sublist) (U.erase x) λa=>Iff.trans ⟨λz=>⟨λe=>w.1 (e▸z),(h a).mp (bb _ z)⟩,λz=>(bt.mp ((h a).mpr z.2)).resolve_left z.1⟩ (Nodup.mem_erase_iff U).symm
  exact(ab (oq (f x)) q).trans (JL O Y ((h x).mp aM))
noncomputable def yh:List Nat->List Nat->Prop
 | a::l,b::m=>a<b∨a=b/\yh l m
 | _,_=>False
noncomputable def iT(l:Bz):CV:=.tup (l.map λ(n:Nat)=>.int n)
theorem ofN{a b:Nat}(h:CV.int (a:Int)=.int b):a=b:=Int.ofNat.inj (CV.int.inj h)
theorem Et{l m:Bz}(h:iT l=iT m):l=m:=(List.map_inj_right λz z h=>ofN h).mp (CV.tup.inj h)
theorem JM{l:Bz}:∀{m:Bz},l.length=m.length->(leV (iT l) (iT m)=true↔l=m∨yh l m):=by
 induction l with
 | nil=>
  intro m e
  obtain rfl:m=[]:=fw e.symm
  exact iff_of_true rfl (.inl rfl)
 | cons a l z=>
  intro m e
  cases m with
  | nil=>exact absurd e (ml _)
  | cons b m=>
   by_cases q:a=b
   ·subst q
    refine Iff.trans ?_ (((z (Nat.succ.inj e)).trans (or_congr ⟨ab _,λh=>(eF h).2⟩ ⟨λh=>.inr ⟨rfl,h⟩,λh=>(h.resolve_left (kv _)).2⟩)))
    exact iff_of_eq (ab (·=true) (ch rfl))
   ·have h:leV (iT (a::l)) (iT (b::m))=decide ((a:Int)<=b):=ca λh=>q (ofN h)
    erw[h]
    exact⟨λh=>.inr (.inl (Nat.lt_of_le_of_ne (Int.ofNat_le.mp (a7 h)) q)),λh=>cn (Int.ofNat_le.mpr (h.elim (λh=>absurd (eF h).1 q) λh=>cy (h.resolve_right λh=>q h.1)))⟩
theorem Eu:∀{m:Bz},yh l m->¬ yh m l:=by
 induction l with
 | nil=>exact λh=>h.elim
 | cons a l z=>
  intro m h
  cases m with
  | nil=>exact h.elim
  | cons b m=>exact λk=>h.elim (λh=>k.elim (Nat.lt_asymm h) λk=>dr h k.1.symm) λh=>k.elim (λk=>dr k h.1.symm) λk=>z h.2 k.2
theorem MM{Q:Type}{k:Nat}{t:Q->List Nat}(z:∀a,(t a).length=k)(w:∀a b,t a=t b->a=b):Es (λa=>iT (t a)) λa b=>yh (t a) (t b):=
 ⟨λa b=>(JM ((z a).trans (z b).symm)).trans (or_congr_left ⟨ab iT,Et⟩),λa b h=>w a b (Et h),λy y=>Eu⟩
noncomputable def ltP(p q:Pl):Prop:=yh [p.1,p.2] [q.1,q.2]
theorem NW:Es plC ltP:=MM (k:=2) (t:=λp=>[p.1,p.2]) (λz=>rfl) λz z h=>my (eF h).1 (eF (eF h).2).1
noncomputable abbrev Tr:=Pl×Nat
noncomputable def trC(t:Tr):CV:=.tup [.int t.1.1,.int t.1.2,.int t.2]
noncomputable def ltT(p q:Tr):Prop:=yh [p.1.1,p.1.2,p.2] [q.1.1,q.1.2,q.2]
theorem NX:Es trC ltT:=MM (k:=3) (t:=λp=>[p.1.1,p.1.2,p.2]) (λz=>rfl) λz z h=>my (my (eF h).1 (eF (eF h).2).1) (eF (eF (eF h).2).2).1
theorem wH(R:List aI):(items R).Pairwise ltP:=by
 unfold items
 refine pairwise_flatMap.mpr ⟨λr Y=>?_,?_⟩
 ·exact Pairwise.map _ (λa b z=>.inr ⟨rfl,.inl z⟩) pairwise_lt_range
 ·refine Pairwise.imp ?_ pairwise_lt_range
  intro a b z x Q y w
  obtain⟨d,_,rfl⟩:=bo.mp Q
  obtain⟨e,_,rfl⟩:=bo.mp w
  exact .inl z
open Classical in
noncomputable def canon(R:List aI)(S:Pl->Prop):List Pl:=(items R).filter λp=>decide (S p)
open Classical in
theorem eW{S:Pl->Prop}{p:Pl}:p∈canon R S↔p∈items R/\S p:=by
 unfold canon;rw[eJ]
 exact⟨λh=>⟨h.1,a7 h.2⟩,λh=>⟨h.1,cn h.2⟩⟩
theorem rF:(canon R S).Nodup:=mG.filter _
theorem rG{S:Pl->Prop}{l:BM}(z:l.Nodup)(h:∀p,p∈l↔p∈items R/\S p):fN (l.map plC)=(canon R S).map plC:=
 Ak NW z ((wH R).sublist filter_sublist) rF λa=>by rw[h a,eW]
open Classical in
inductive Opn(R:List aI)(I:Pl->Prop):Pl->Prop
 | base {p}:I p->Opn R I p
 | step {r o pl}:Opn R I (r,0)->(rhs R o)[pl]?=some (lhs R r)->Opn R I (o,pl)
theorem Ew{d:Nat}(h:(rhs R r)[d]?=some x):r<R.length/\d<(rhs R r).length:=by
 exact⟨(mc r R.length).resolve_right λz=>nos ((ab (·[d]?) (DO z)).symm.trans h),(a6.mp h).1⟩
theorem jN{d:Nat}(h:(rhs R r)[d]?=some x):(r,d)∈items R/\(r,d+1)∈items R:=by
 obtain⟨z,Q⟩:=Ew h
 exact⟨aY.mpr ⟨z,cy Q⟩,aY.mpr ⟨z,Q⟩⟩
theorem Ex(G:GoodR R){q I:Pl->Prop}(Y:Fwd R q):(∃p,q p/\Opn R I p)↔∃p,q p/\I p:=by
 constructor
 ·rintro⟨p,z,Q⟩
  revert z
  induction Q with
  | base h=>exact λz=>⟨_,z,h⟩
  | @step r o V h e U=>
   intro z
   refine U (Y _ z r (dR.mpr ?_))
   have w:=G.sym _ _ (be e)
   have y:r<R.length:=(mc r R.length).resolve_right λQ=>absurd ((show lhs R r=u 1 from ab (λo=>(Option.map (λx:aI=>x.1) o).getD (u 1)) (fi Q))▸w) (by decide)
   refine⟨y,mr λv=>?_,e⟩
   subst v
   rw[fH G.r0] at w
   exact absurd w (by decide)
 ·rintro⟨p,z,Q⟩;exact⟨p,z,.base Q⟩
noncomputable def s6(R:List aI)(x:Str)(p:Pl):Bool:=decide (0<p.2/\(rhs R p.1)[p.2 - 1]?=some x)
noncomputable def back(R:List aI)(S:BM)(x:Str):List Pl:=(S.filter (s6 R x)).map λp=>(p.1,p.2 - 1)
theorem iM{p:Pl}:p∈back R S x↔(p.1,p.2+1)∈S/\(rhs R p.1)[p.2]?=some x:=by
 unfold back
 rw[bo]
 constructor
 ·rintro⟨a,Q,rfl⟩
  obtain⟨w,z⟩:=eJ.mp Q
  obtain⟨z,y⟩:=a7 z
  refine⟨?_,y⟩
  show(a.1,a.2 - 1+1)∈S
  erw[hY z];exact w
 ·exact λh=>⟨(p.1,p.2+1),eJ.mpr ⟨h.1,cn ⟨ft _,h.2⟩⟩,rfl⟩
theorem GW{S:BM}(h:S.Nodup):(back R S x).Nodup:=
 pairwise_map.mpr ((h.filter _).imp_of_mem λ{a b} Q w z e=>z (my (Prod.mk.inj e).1 ((hY (a7 (eJ.mp Q).2).1).symm.trans ((ab (·+1) (Prod.mk.inj e).2).trans (hY (a7 (eJ.mp w).2).1)))))
theorem yi:∀p∈back R S x,p∈items R:=λp z=>(jN (iM.mp z).2).1
noncomputable def subs:List Pl->List (List Pl)
 | []=>[[]]
 | a::l=>subs l++(subs l).map (a::·)
theorem Ey(l:BM):(subs l).length=2 ^ l.length:=by
 induction l with
 | nil=>rfl
 | cons a l z=>exact bp.trans ((ab ((subs l).length+·) (ba _)).trans ((Nat.mul_two _).symm.trans (ab (· * 2) z)))
theorem Ez(p:Pl->Bool)(l:BM):l.filter p∈subs l:=by
 induction l with
 | nil=>exact bc.mpr rfl
 | cons a l z=>
  cases h:p a with
  | true=>exact(ll (p:=p) (l:=l) h).symm▸cq _ (dp z)
  | false=>exact(lm (p:=p) (l:=l) (Bool.eq_false_iff.mp h)).symm▸de _ z
theorem yj{S:Pl->Prop}:canon R S∈subs (items R):=Ez _ _
theorem yk(G:GoodR R):(subs (items R)).length<=32768:=by
 erw[Ey _]
 exact ae (Nat.pow_le_pow_right (by decide) (fJ G)) (by decide)
noncomputable abbrev EQ:=Nat->Str->Option Nat
structure BW(R:List aI)(F:Ch)(way:EQ):Prop where
 hd:∀r,r<R.length->F[r]?=some (canon R (Opn R (·=(r,(rhs R r).length))))
 cl:∀S∈F,∃I:Pl->Prop,S=canon R (Opn R I)
 no:∀i S x,F[i]?=some S->x∈aH->back R S x=[]->way i x=none
 ws:∀i S x,F[i]?=some S->x∈aH->back R S x≠[]->∃j,way i x=some j/\F[j]?=some (canon R (Opn R (·∈back R S x)))
open Classical in
noncomputable def Fr(F:Ch)(q:BM):List Nat:=(range F.length).filter λi=>decide (∃S,F[i]?=some S/\∃p,p∈q/\p∈S)
theorem uI{q:BM}{i:Nat}:i∈Fr F q↔∃S,F[i]?=some S/\∃p,p∈q/\p∈S:=
 eJ.trans ⟨λh=>a7 h.2,λh=>⟨du.mpr (h.elim λS h=>(a6.mp h.1).1),cn h⟩⟩
theorem wI{z:Type}{l:List z}{b:z->Bool}{S:z->Prop}[DecidablePred S](h:∀a∈l,(b a=true↔S a)):l.filter b=l.filter λa=>decide (S a):=filter_congr λa Q=>Bool.eq_iff_iff.mpr ((h a Q).trans lf.symm)
open Classical in
theorem EA{S:Pl->Prop}{b:Pl->Bool}(h:∀p,p∈items R->(b p=true↔S p)):(items R).filter b=canon R S:=wI h
section
variable{R:List aI}{F:Ch}{z:EQ}{q K:BM}{x:Str}{I:Pl->Prop}
open Classical in
theorem HJ{b:Nat->Bool}(h:∀i S,F[i]?=some S->(b i=true↔∃p,p∈q/\p∈S)):(range F.length).filter b=Fr F q:=
 wI λi Q=>have e:=bm (du.mp Q)
  (h i _ e).trans ⟨λk=>⟨_,e,k⟩,λk=>k.elim λS k=>al (e.symm.trans k.1)▸k.2⟩
theorem jc(G:GoodR R)(Q:Fwd R (·∈q))(w:∀p∈q,p∈items R):(∃p,p∈q/\p∈canon R (Opn R I))↔∃p,p∈q/\I p:=
 (exists_congr λp=>and_congr_right λy=>eW.trans (and_iff_right (w p y))).trans (Ex G Q)
theorem wJ:(∃p,p∈clo R K/\p∈canon R (Opn R I))↔∃p,p∈K/\p∈canon R (Opn R I):=
 ⟨λh=>h.elim λp h=>uD (S:=λp=>p∈canon R (Opn R I)->∃p,p∈K/\p∈canon R (Opn R I)) (λp Q r w h=>Q (eW.mpr ⟨(jN (dR.mp w).2.2).1,.step (eW.mp h).2 (dR.mp w).2.2⟩)) (λp Q h=>⟨p,Q,h⟩) p h.1 h.2,λh=>h.imp λp h=>⟨mD h.1,h.2⟩⟩
theorem Bk(h:∀p∈K,p∈items R):∀p∈clo R K,p∈items R:=uD (S:=(·∈items R)) (λp w r Q=>aY.mpr ⟨(dR.mp Q).1,dd _⟩) h
theorem oj:∀p∈moves R q x,p∈items R:=λp Q=>(cR.mp Q).elim λd h=>(h.1.symm▸(jN h.2.2).2:(p.1,p.2)∈items R)
theorem rH{S:BM}:(∃p,p∈moves R q x/\p∈S)↔∃p,p∈q/\p∈back R S x:=
 ⟨λh=>h.elim λp h=>(cR.mp h.1).elim λd k=>⟨(p.1,d),k.2.1,iM.mpr ⟨(k.1▸(h.2:(p.1,p.2)∈S):(p.1,d+1)∈S),k.2.2⟩⟩,
  λh=>h.elim λp h=>⟨(p.1,p.2+1),cR.mpr ⟨p.2,rfl,h.1,(iM.mp h.2).2⟩,(iM.mp h.2).1⟩⟩
noncomputable def EB(z:EQ)(F:Ch)(q:BM)(x:Str)(i:Nat):Bool:=(z i x).elim false λj=>decide (j∈Fr F q)
theorem EC(G:GoodR R)(B:BW R F z)(y:x∈aH)(Y:Fwd R (·∈q))(U:∀p∈q,p∈items R) :
  (range F.length).filter (EB z F q x)=Fr F (clo R (moves R q x)):=by
 refine HJ λi S Q=>?_
 obtain⟨I,rfl⟩:=B.cl S (be Q)
 refine Iff.trans ?_ (wJ.trans rH).symm
 by_cases w:back R (canon R (Opn R I)) x=[]
 ·exact iff_of_false (λh=>Bool.noConfusion ((ab (Option.elim · false λj=>decide (j∈Fr F q)) (B.no i _ x Q y w)).symm.trans h)) λh=>h.elim λp h=>cp (w▸h.2)
 ·obtain⟨j,V,v⟩:=B.ws i _ x Q y w
  (rewrite[EB];erw[V])
  exact lf.trans (uI.trans ⟨λh=>h.elim λk h=>(jc G Y U).mp (al (h.1.symm.trans v)▸h.2),λh=>⟨_,v,(jc G Y U).mpr h⟩⟩)
theorem ED(G:GoodR R)(B:BW R F z){b:Nat->Bool}(h:∀i S,F[i]?=some S->(b i=true↔(0,0)∈S)):(range F.length).filter b=Fr F (clo R [(0,0)]):=by
 refine HJ λi S Q=>(h i S Q).trans ?_
 obtain⟨I,rfl⟩:=B.cl S (be Q)
 exact Iff.trans ⟨λh=>⟨_,aM,h⟩,λh=>h.elim λp h=>bc.mp h.1▸h.2⟩ wJ.symm
noncomputable def pla(R:List aI)(z:EQ)(r:Nat)(k:Nat):Option Nat:=
 k.rec (some r) λk o=>o.bind λi=>(rhs R r)[(rhs R r).length - (k+1)]?.bind λx=>z i x
theorem HK{k:Nat}(h:pla R z r k=some i)(Q:(rhs R r)[(rhs R r).length - (k+1)]?=some x):pla R z r (k+1)=z i x:=
 (ab (Option.bind · λi=>(rhs R r)[(rhs R r).length - (k+1)]?.bind λx=>z i x) h).trans (ab (Option.bind · λx=>z i x) Q)
inductive MN(R:List aI)(F:Ch)(i:Nat)(p:Pl):Prop
 | mk (S:BM) (h1:F[i]?=some S) (h2:p∈S) (h3:∀q:List Pl,Fwd R (·∈q)->(∀p∈q,p∈items R)->(∃p,p∈q/\p∈S)->p∈q)
theorem EE(G:GoodR R)(B:BW R F z){r:Nat}(Y:r<R.length)(k:Nat):∀d,k+d=(rhs R r).length->∃i,pla R z r k=some i/\MN R F i (r,d):=by
 induction k with
 | zero=>
  intro d h
  obtain rfl:=(lL d).symm.trans h
  exact⟨r,rfl,_,B.hd r Y,eW.mpr ⟨aY.mpr ⟨Y,cr _⟩,.base rfl⟩,λq w y h=>((jc G w y).mp h).elim λp h=>h.2▸h.1⟩
 | succ k v=>
  intro d h
  obtain⟨i,V,S,J,o,O⟩:=v (d+1) ((Nat.succ_add k d).symm.trans h)
  obtain⟨x,Q⟩:∃x,(rhs R r)[d]?=some x:=⟨_,bm (hN (Nat.lt_add_of_pos_left (ft k)) h)⟩
  have U:(r,d)∈back R S x:=iM.mpr ⟨o,Q⟩
  obtain⟨j,f,g⟩:=B.ws i S x J (G.sym r x (be Q)) (ne_nil_of_mem U)
  refine⟨j,(HK V (Nat.sub_eq_of_eq_add (h.symm.trans (kb _ _))▸Q)).trans f,_,g,eW.mpr ⟨(jN Q).1,.base U⟩,λq w y h=>(rH.mpr ((jc G w y).mp h)).elim λp h=>?_⟩
  exact(jb (O _ (uC _) (Bk oj) ⟨p,mD h.1,h.2⟩)).elim (λh=>(cR.mp h).elim λl h=>Nat.succ.inj h.1▸h.2.1) λh=>absurd h.1 (ml d)
noncomputable def yl(R:List aI)(z:EQ)(p:Pl):Nat:=(pla R z p.1 ((rhs R p.1).length - p.2)).getD 0
theorem Am(G:GoodR R)(B:BW R F z){p:Pl}(Q:p∈items R):MN R F (yl R z p) p:=
 have h:=aY.mp Q
 (EE G B h.1 ((rhs R p.1).length - p.2) p.2 (hY h.2)).elim λi e=>(show yl R z p=i from ab (Option.getD · 0) e.1)▸e.2
theorem JN(G:GoodR R)(B:BW R F z)(w:Fwd R (·∈q))(y:∀p∈q,p∈items R):((items R).filter λp=>decide (yl R z p∈Fr F q))=canon R (·∈q):=
 EA λp Y=>lf.trans (uI.trans ((Am G B Y).casesOn λS Q U v=>⟨λh=>h.elim λV h=>v q w y (al (h.1.symm.trans Q)▸h.2),λh=>⟨S,Q,p,h,U⟩⟩))
theorem ym(G:GoodR R)(B:BW R F z):Fr F (clo R (moves R q x))=[]↔moves R q x=[]:=by
 refine⟨λh=>eq_nil_iff_forall_not_mem.mpr λp w=>?_,λh=>eq_nil_iff_forall_not_mem.mpr λi y=>?_⟩
 ·exact(Am G B (oj p w)).casesOn λS Y U v=>cp (h▸uI.mpr ⟨S,Y,p,mD w,U⟩)
 ·exact(uI.mp y).elim λS Q=>Q.2.elim λp Q=>cp ((uE.mpr h)▸Q.1)
end
theorem JO(p:Pl)(_:True):(plC p).pure=true/\(plC p).depth<=1:=⟨rfl,aw rfl⟩
theorem jO(q:BM):okL (q.map plC):=okL.of JO (by decide) λz z=>trivial
theorem Bl(G:GoodR R){r:Nat}(h:r<R.length):cH (lhs R r):=by
 cases r with
 | zero=>erw[fH G.r0];exact asc (by decide)
 | succ r=>exact aO (b6 (G.nm _ (ft r) h))
structure Fs(R:List aI)(I:BM)(l:BM):Prop where
 nd:l.Nodup
 sub:∀p∈l,p∈items R/\Opn R (·∈I) p
 base:∀p∈I,p∈l
theorem Fs.len(G:GoodR R)(h:Fs R I l):l.length<=15:=ae (cj h.nd λp z=>(h.sub p z).1) (fJ G)
theorem Fs.add(h:Fs R I l){z:Nat}(Q:(r,0)∈l)(e:(rhs R o)[z]?=some (lhs R r))(w:(o,z)∉l):Fs R I (l++[(o,z)]):=
 ⟨eO h.nd w,cO h.sub ⟨(jN e).1,.step (h.sub _ Q).2 e⟩,λp y=>de _ (h.base p y)⟩
noncomputable def DnR(R:List aI)(r o w:Nat)(l:BM):Prop:=∀z Q,(z<o∨z=o/\Q<w)->(rhs R z)[Q]?=some (lhs R r)->(z,Q)∈l
theorem DnR.next(h:DnR R r o z l)(U:l <+: Q)(v:(rhs R o)[z]?=some (lhs R r)->(o,z)∈Q):DnR R r o (z+1) Q:=λw y V Y=>
 if e:w=o/\y=z then e.1▸e.2▸v (e.1▸e.2▸Y) else U.subset (h w y (V.imp id λq=>⟨q.1,Nat.lt_of_le_of_ne (db q.2) λe2=>e ⟨q.1,e2⟩⟩) Y)
theorem DnR.row(h:DnR R r o (rhs R o).length l):DnR R r (o+1) 0 l:=λQ w y z=>
 h Q w ((hZ (db (y.elim id λq=>absurd q.2 (ij _)))).imp id λe=>⟨e,e▸(a6.mp z).1⟩) z
theorem yo{Q:Type}{l z:List Q}(h:l <+: z){k:Nat}(w:k<l.length):z[k]?=l[k]?:=h.elim λy e=>e▸fA w
theorem DnR.step{R:List aI}{l Q:BM}{i:Nat}{p:Pl}(z:l <+: Q)(y:l[i]?=some p)(U:∀k r,k<i->l[k]?=some (r,0)->DnR R r R.length 0 l)(v:p.2=0->DnR R p.1 R.length 0 Q):∀k r,k<i+1->Q[k]?=some (r,0)->DnR R r R.length 0 Q:=λk r Y w=>by
 rw[yo z (ax (db Y) (a6.mp y).1)] at w
 rcases hZ (db Y) with h | rfl
 ·exact λV j J o=>z.subset (U k r h w V j J o)
 ·cases y.symm.trans w;exact v rfl
section
variable{P:Par}{ty t0 t1:TY}{H H0:CH}{n rl c:Nat}{Q:DD}{I l l1:BM}
theorem An{r:Nat}{R:List aI}(h:H.getL rl=some (R.map dP))(z:r<R.length):fS H (.ref rl) (.int r)=some (.ok (.tup [.str (lhs R r),.tup ((rhs R r).map .str)])):=by
 rw[fH (bm z),ig (bm z)]
 exact i7 (f:=dP) h (bm z)
theorem EF{i:Nat}{R:List aI}(h:R[i]?=some z):fS H (dP z) (.int 1)=some (.ok (.tup ((rhs R i).map .str))):=ig h▸rfl
inductive OpJ(H0:CH)(t0:TY)(P:Par)(rl c:Nat)(I:BM)(t1:TY)(l1:BM)(r o pl:Nat)(H:CH)(L:EN):Prop
 | mk (l:BM) (ty:TY) (N:Now H0 t0 P ty H) (hc:ty c=some (.aq (l.map plC))) (k:Kp c t1 ty) (F:Fs P.R I l) (pre:l1 <+: l) (hd:DnR P.R r o pl l) (l0:L 0=some (.ref rl)) (l2:L 2=some (.ref c)) (l3:L 3=some (.int r))
inductive OpI(H0:CH)(t0:TY)(P:Par)(rl c:Nat)(I:BM)(t1:TY)(i:Nat)(H:CH)(L:EN):Prop
 | mk (l:BM) (ty:TY) (N:Now H0 t0 P ty H) (hc:ty c=some (.aq (l.map plC))) (k:Kp c t1 ty) (F:Fs P.R I l) (hi:i<=l.length) (hd:∀k r,k<i->l[k]?=some (r,0)->DnR P.R r P.R.length 0 l) (l0:L 0=some (.ref rl)) (l2:L 2=some (.ref c))
theorem MO{o z:Nat}{K:Ap}(G:GoodR P.R)(E:H0.free c)(M:t1 rl=some (.aq (P.R.map dP)))(s:rl≠c)(V:(r,0)∈l1)(j:(rhs P.R o)[z]?=some x)(J:OpJ H0 t0 P rl c I t1 l1 r o z H L)(U:L 5=some (.int o))
(a:∀{O p},OpJ H0 t0 P rl c I t1 l1 r o (z+1) O p/\p 5=some (.int o)->K .next ⟨O,p⟩):aj (calls fF mF n) mF jk ⟨H,upd (upd L 7 (.int z)) 8 (.str x)⟩ K FX:=by
 obtain⟨l,ty,N,f,k,F,w,A,g,v,t⟩:=J
 have y:=w.subset V
 have Y:=(aY.mp (F.sub _ y).1).1
 refine W.ite (.an (.cm (.v rfl) (.ix (.ix (.v g) (.v t) (An (N.T.gL (k _ _ s M)) Y)) .c rfl) (eqS (aO (G.sym o x (be j))) (Bl G Y))) λT=>.cm (.tu (.two (.v U) (.v rfl))) (.v v) (oH (inL (f:=plC) (x:=(o,z)) (N.T.gL f) (jO l) rfl (aw rfl) λT T=>o7))) rfl (λh=>?_) λh=>W.nil (a ⟨⟨l,ty,N,f,k,F,w,A.next (prefix_refl l) λe=>?_,g,v,t⟩,U⟩)
 ·obtain⟨d,D⟩:=bn.mp h
  have e:=a7 d
  have C:(o,z)∉l:=λm=>by rw[cn m] at D;cases D
  exact W.iI N E f (.v v) (.tu (.two (.v U) (.v rfl))) (by erw[ba _];exact cP (F.len G) rfl) λb O i B R=>W.nil (a ⟨⟨l++[(o,z)],b,i,by erw[ej];exact B,k.t R,F.add y (e▸j) C,w.trans (prefix_append _ _),A.next (prefix_append _ _) λT=>cq _ aM,g,v,t⟩,U⟩)
 ·rw[cn (al (j.symm.trans e)),Bool.true_and] at h
  exact Classical.not_not.mp λC=>by rw[dT C] at h;cases h
theorem Ao{O:Nat}(N:Now H0 t0 P ty H)(G:GoodR P.R)(hr:ty rl=some (.aq (P.R.map dP)))(z:ty O=some (.aq (I.map plC)))(hI:I.Nodup)(s:∀p∈I,p∈items P.R)
(hQ:∀t m,Now H0 t0 P t m->Ka ty t->Q (ay (canon P.R (Opn P.R (·∈I)))) m):calls fF mF (n+1) 468 [.ref rl,.ref O] H Q:=by
 refine cB [.ref rl,.ref O] (d:=gj) rfl rfl rfl rfl λFQ T E=>?_
 have F0:Fs P.R I I:=⟨hI,λp z=>⟨s p z,.base z⟩,λE h=>h⟩
 refine W.listOf N (.v rfl) (N.T.gL z) (by erw[ba _];exact cy (cP (F0.len G) rfl)) λc t1 H1 N1 F cF R=>?_
 obtain⟨C,rc⟩:=R _ _ hr
 refine NB (α:=Pl) 15 (f1:=λp=>.int p.1) (f2:=λp=>.int p.2) (I:=OpI H0 t0 P rl c I t1) (.v rfl) ⟨I,t1,N1,F,.r,F0,dd _,λk E h=>absurd h (ij k),rfl,rfl⟩ ?_
 rintro i H2 L2 ⟨l,t2,b,w,S,f,B,X,Z,u⟩
 have q:=f.len G
 refine⟨ae B q,l,b.T.gL w,λhi=>W.nil ?_,B,λp z K hK=>?_⟩
 ·refine W.DN (DA (zW (Ev.go (.v u) ⟨c,_,[.int,.int],rfl,b.T.gL w,by erw[ba _];lia,rfl,λy hy=>(bo.mp hy).elim λp h=>h.2▸rfl,λc3 h3=>?_⟩)))
  have A:∀p,p∈l↔p∈items P.R/\Opn P.R (·∈I) p:=λp=>⟨f.sub p,λh=>by
   replace h:=h.2
   induction h with
   | base h=>exact f.base _ h
   | step h e ih=>exact(iq.mp ih).elim λk hk=>X k _ (hi▸(a6.mp hk).1) hk _ _ (.inl (Ew e).1) e⟩
  erw[rG f.nd A]
  refine b.nL (G:=λH=>∃l,pq H (.ref c3)=some l/\l.length<=szl/\FQ (.ret (.tup l)) ⟨H,_⟩) h3 λg H3 U z0 E v=>⟨_,U.T.gL z0,by erw[ba _];exact cy (cP (ae (cj rF λp z=>(eW.mp z).1) (fJ G)) rfl),T (hQ g H3 U λa ρ h=>(v _ _ (S _ _ (R _ _ h).2 (R _ _ h).1)).1)⟩
 obtain⟨r,d⟩:=p
 have z1:=be z
 refine W.j9 (.cm (.v rfl) .c eqI) (λe=>?_) λe=>W.nil (hK.nxt ⟨l,t2,b,w,S,f,(a6.mp z).1,DnR.step (prefix_refl l) z X λh=>absurd (ab Int.ofNat h) e,Z,u⟩)
 ·obtain rfl:d=0:=Int.ofNat.inj e
  refine frE (ys:=P.R) (f:=dP) (I:=λo=>OpJ H0 t0 P rl c I t1 l r o 0) (.v Z) ⟨l,t2,b,w,S,f,prefix_refl l,λo' p' h=>by lia,Z,u,rfl⟩ ?_ ?_ ?_
  ·rintro o m L' ⟨M,g,U,_,v,_⟩
   exact U.T.gL (v _ _ rc C)
  ·rintro o z7 H3 L3 K' ho ⟨M,g,U,V,v,F3,Y,j,m0,m2,m3⟩ z2
   refine Mc (ys:=rhs P.R o) (f:=.str) (I:=λO H L=>OpJ H0 t0 P rl c I t1 l r o O H L/\L 5=some (.int o)) (.ix (.v rfl) .c (EF ho)) ⟨⟨M,g,U,V,v,F3,Y,j,m0,m2,m3⟩,rfl⟩ ?_ ?_
   ·intro O x H4 L4 K4 hx J z3
    exact MO G cF C rc z1 hx J.1 J.2 z3.nxt
   ·rintro H4 L4 ⟨⟨z4,t4,N4,z5,k4,F4,D,z6,i0,i2,i3⟩,_⟩
    exact W.nil (z2.nxt ⟨z4,t4,N4,z5,k4,F4,D,z6.row,i0,i2,i3⟩)
  ·rintro H3 L3 ⟨M,g,U,V,v,F3,Y,j,m0,m2,m3⟩
   refine W.nil (W.nil (hK.nxt ⟨M,g,U,V,v,F3,cf (a6.mp z).1 Y.length_le,DnR.step Y z X λE=>j,m0,m2⟩))
end
theorem rI(q:BM)(_:True):(ay q).pure=true/\(ay q).depth<=20+1 - 1:=⟨(jO q).1,ae (et (ry q).2) (by decide)⟩
theorem s7(F:Ch):okL (F.map ay):=okL.of rI (by decide) λz z=>trivial
noncomputable def nO(i:Nat)(x:Str):CV:=.tup [.int i,.str x]
theorem mP(h:nO i x=nO j y):i=j/\x=y:=
 have h:=eF (CV.tup.inj h)
 ⟨Int.ofNat.inj (CV.int.inj h.1),CV.str.inj (eF h.2).1⟩
theorem mQ(i:Nat){x:Str}(z:x∈aH):(nO i x).keyOk=true:=bn.mpr ⟨bn.mpr ⟨aO z,rfl⟩,rfl⟩
noncomputable def Vis(i:Nat)(z:Bi)(a:Nat)(x:Str):Prop:=a<i∨a=i/\x∈z
theorem Vis.snoc{z:Bi}{x:Str}(h:Vis i (z++[x]) a y):Vis i z a y∨a=i/\y=x:=h.elim (λh=>.inl (.inl h)) λh=>(dC.mp h.2).elim (λq=>.inl (.inr ⟨h.1,q⟩)) λq=>.inr ⟨h.1,bc.mp q⟩
theorem Vis.no{z:Bi}{x:Str}(Q:x∉z)(h:Vis i z i x):False:=h.elim (kv i) λh=>Q h.2
inductive Way(R:List aI)(F:Ch)(wes:At)(a:Nat)(S:BM)(x:Str):Prop
 | no (h:back R S x=[]) (h2:au wes (nO a x)=none)
 | ws (h:back R S x≠[]) (j:Nat) (h2:au wes (nO a x)=some (.int j)) (h3:F[j]?=some (canon R (Opn R (·∈back R S x))))
structure BWI(R:List aI)(F:Ch)(wes:At)(i:Nat)(ks:Bi):Prop where
 hd:∀r,r<R.length->F[r]?=some (canon R (Opn R (·=(r,(rhs R r).length))))
 cl:∀S∈F,∃I:Pl->Prop,S=canon R (Opn R I)
 nd:(F.drop R.length).Nodup
 un:∀a x,au wes (nO a x)≠none->Vis i ks a x
 w:∀a S x,Vis i ks a x->F[a]?=some S->x∈aH->Way R F wes a S x
section
variable{z:At}
theorem BWI.len(G:GoodR R)(h:BWI R F z i ks):F.length<=32773:=by
 have Q:=cj h.nd (m:=subs (items R)) λS y=>(h.cl S (mem_of_mem_drop y)).elim λI e=>e▸yj
 have Y:=yk G
 have U:=G.len.2
 rw[ki] at Q
 lia
theorem BWI.sub(h:BWI R F z i ks){S:BM}(Q:S∈F):S.Nodup/\∀p∈S,p∈items R:=(h.cl S Q).elim λI e=>e▸⟨rF,λp y=>(eW.mp y).1⟩
theorem BWI.skip(h:BWI R F z i ks)(U:F[i]?=some S)(v:back R S x=[])(V:x∉ks):BWI R F z i (ks++[x]):=
 {h with
  un:=λa y q=>(h.un a y q).imp id λq=>⟨q.1,de _ q.2⟩
  w:=λa k y q Q j=>q.snoc.elim (λq=>h.w a k y q Q j) λ⟨e1,e2⟩=>by
   subst e1;subst e2
   cases U.symm.trans Q
   exact .no v (Classical.not_not.mp λY=>(h.un _ _ Y).no V) }
set_option tactic.hygienic true in
theorem BWI.put(h:BWI R F z i ks){j:Nat}(V:F[i]?=some S)(k:back R S x≠[])(J:F[j]?=some (canon R (Opn R (·∈back R S x))))(o:x∉ks):BWI R F (aW z (nO i x) (.int j)) i (ks++[x]):=
 have v:∀{a y},Vis i ks a y->au (aW z (nO i x) (.int j)) (nO a y)=au z (nO a y):=λq=>aQ.trans (ca λe=>Vis.no o ((mP e).1▸(mP e).2▸q))
 {h with
  un:=λa y q=>by
   rw[aQ] at q
   split at q
   ·rename_i e;exact .inr ⟨(mP e).1.symm,(mP e).2▸cq _ aM⟩
   ·exact(h.un a y q).imp id λq=>⟨q.1,de _ q.2⟩
  w:=λa O y q Q p=>q.snoc.elim (λq=>match h.w a O y q Q p with
   | .no Y U=>.no Y ((v q).trans U)
   | .ws Y j U f=>.ws Y j ((v q).trans U) f) λ⟨e1,e2⟩=>by
   subst e1;subst e2
   cases V.symm.trans Q
   exact .ws k j (aQ.trans (ch rfl)) J }
theorem BWI.grow(h:BWI R F z i ks)(Y:i<F.length)(V:R.length<=F.length)(k:canon R (Opn R I)∉F):BWI R (F++[canon R (Opn R I)]) z i ks:=by
 have U:∀{a:Nat} {S:BM},F[a]?=some S->(F++[canon R (Opn R I)])[a]?=some S:=λe=>(fA (a6.mp e).1).trans e
 refine⟨λr J=>U (h.hd r J),cO h.cl ⟨I,rfl⟩,?_,h.un,λa S x q v o=>?_⟩
 ·erw[drop_append_of_le_length V]
  exact eO h.nd λO=>k (mem_of_mem_drop O)
 ·rw[fA (q.elim (λq=>gd q Y) λq=>q.1▸Y)] at v
  cases h.w a S x q v o with
  | no Q y=>exact .no Q y
  | ws Q j y p=>exact .ws Q j y (U p)
theorem BWI.row(h:BWI R F z i aH):BWI R F z (i+1) []:=
 {h with
  un:=λa x q=>.inl (hX ((h.un a x q).elim cy λq=>bv q.1))
  w:=λa S x q y Q=>h.w a S x ((hZ (db (q.elim id λq=>absurd q.2 cp))).imp id λe=>⟨e,Q⟩) y Q }
end
section
variable{P:Par}{ty t0 t1:TY}{H H0:CH}{n rl cF cW i c:Nat}{Q:DD}{S:BM}{F:Ch}{wes:At}{ks:Bi}{x:Str}{L:EN}
theorem Bm{r d:Nat}(T:Typed P ty H)(G:GoodR P.R)(U:ty rl=some (.aq (P.R.map dP)))(z:r<P.R.length)(Y:d<=(rhs P.R r).length)(v:x∈aH)(V:L 0=some (.ref rl))(k:L 2=some (.int r))(j:L 7=some (.str x))(w:L 9=some (.int d)) :
  Ev L H (.an (.cm .gt (.v 9) (.c (.int 0))) (.cm .eq (.ix (.ix (.ix (.v 0) (.v 2)) (.c (.int 1))) (.op .sub (.v 9) (.c (.int 1)))) (.v 7))) (.bool (s6 P.R x (r,d))):=by
 cases d with
 | zero=>
  erw[show s6 P.R x (r,0)=false from dT λh=>absurd h.1 (kv 0)]
  exact .anF (.cm (.v w) .c (Ev.gtF (Int.lt_irrefl 0))) rfl
 | succ d=>
  have y:=bm (l:=rhs P.R r) Y
  erw[show s6 P.R x (r,d+1)=decide ((rhs P.R r)[d]=x) from gk ⟨λh=>al (y.symm.trans h.2),λh=>⟨ft d,y.trans (ab some h)⟩⟩]
  exact .anT (.cm (.v w) .c (Ev.gtT (lv.mpr (ft d)))) rfl (.cm (.ix (.ix (.ix (.v V) (.v k) (An (T.gL U) z)) .c rfl) (.sub (.v w) .c) (by
   erw[show((d+1:Nat):Int) - 1=(d:Nat) from(Int.add_sub_cancel (d:Int) 1:(d:Int)+1 - 1=d)]
   exact oZ (by rw[eM,y];rfl))) (.v j) (eqS (aO (G.sym r _ (fg Y))) (aO v)))
theorem comp_back{Q:Da}(T:Typed P ty H)(G:GoodR P.R)(k:ty rl=some (.aq (P.R.map dP)))(U:∀p∈S,p∈items P.R)(y:S.length<=15)(j:x∈aH)(J:L 0=some (.ref rl))(o:L 6=some (ay S))(O:L 7=some (.str x))
(f:∀c,H.free c->Q (.ref c) ⟨H.aA c ((back P.R S x).map plC),L⟩) :
  wpE V mF (.co (.tu [.v 2,.op .sub (.v 9) (.c (.int 1))]) (.t [2,9]) (.val (.v 6)) [.an (.cm .gt (.v 9) (.c (.int 0))) (.cm .eq (.ix (.ix (.ix (.v 0) (.v 2)) (.c (.int 1))) (.op .sub (.v 9) (.c (.int 1)))) (.v 7))]) ⟨H,L⟩ Q X:=by
 refine coP (ys:=S) (λi=>.items ((S.map plC).drop i)) (λz p=>plC p) (λz p L=>upd (upd L 2 (.int p.1)) 9 (.int p.2)) (λz z z=>rfl) (λz r=>Ev.go (.v o) r) (λi=>eV) (cP y rfl) (λz p=>s6 P.R x p) (λz p=>plC (p.1,p.2 - 1)) (λY=>Y 0=some (.ref rl)/\Y 7=some (.str x)) ⟨J,O⟩
  (λi p Y v w=>⟨w,Gw (Bm T G k (aY.mp (U p (be v))).1 (aY.mp (U p (be v))).2 j w.1 rfl w.2 rfl),λg=>?_⟩) λc l=>?_
 ·rw[show plC (p.1,p.2 - 1)=.tup [.int p.1,.int ((p.2:Int) - 1)] by rw[plC,Int.ofNat_sub (a7 g).1];rfl]
  exact .tu (.two (.v rfl) (.sub (.v rfl) .c))
 ·rw[mj (p:=s6 P.R x) (g:=λp:Pl=>plC (p.1,p.2 - 1))]
  have:=f c l
  rw[back,map_map] at this
  exact this
theorem Ev.NY{w:Type}{f:w->CV}{l:List w}{x:w}(o:Ev L H e1 (.ref c))(g:H.lst c=some (l.map f))(O:Ev L H e2 (f x))(V:okL (l.map f))(p:(f x).pure=true)(t:(f x).depth<=20)(T:x∈l)(Y:∀y∈l,f y=f x->y=x):∃j:Nat,l[j]?=some x/\Ev L H (.ind e1 e2) (.int j):=by
 have k:f x∈l.map f:=dp T
 have z:(l.map f).findIdx (λy=>decide (y=f x))<(l.map f).length:=findIdx_lt_length_of_exists ⟨_,k,cn rfl⟩
 refine⟨(l.map f).findIdx λy=>decide (y=f x),?_,λU U U U h=>o _ _ _ _ ⟨c,_,rfl,g,O _ _ _ _ ⟨_,g,p,V.1,t,V.2,k,h⟩⟩⟩
 have J:=a7 (findIdx_getElem (w:=z))
 rw[getElem_map] at J
 rw[ba] at z
 rw[bm z]
 exact ab some (Y _ (fg z) J)
theorem W.JP{Q:Ap}(N:Now H0 t0 P ty H)(h:∀V:CV->St->Prop,(∀c,H.free c->V (.ref c) ⟨H.aA c vs,L⟩)->wpE w M (.co y t U Y) ⟨H,L⟩ V X)
(r:∀c z k,Now H0 t0 P z k->z c=some (.aq vs)->H0.free c->K1 c ty z->aj w M l ⟨k,upd L j (.ref c)⟩ Q X):aj w M (.asg (.n j) (.co y t U Y)::l) ⟨H,L⟩ Q X:=
 h (λv st=>aj w M l ⟨st.H,upd st.L j v⟩ Q X) λc J=>N.nL (G:=λH=>aj w M l ⟨H,_⟩ Q X) J (r c)
inductive BwI(H0:CH)(t0:TY)(P:Par)(rl cF cW:Nat)(t1:TY)(i:Nat)(ks:Bi)(pF:List (List Pl)->Prop)(H:CH)(L:EN):Prop
 | mk (F:Ch) (wes:At) (ty:TY) (N:Now H0 t0 P ty H) (hF:ty cF=some (.aq (F.map ay))) (hW:ty cW=some (.aJ wes)) (k:∀a ρ,a≠cF->a≠cW->t1 a=some ρ->ty a=some ρ) (B:BWI P.R F wes i ks) (hp:pF F) (hR:P.R.length<=F.length) (hw:wes.length<=6 * i+ks.length) (l0:L 0=some (.ref rl)) (l1:L 1=some (.ref cF)) (l4:L 4=some (.ref cW))
theorem MP{K:Ap}(G:GoodR P.R)(gF:H0.free cF)(fW:H0.free cW)(l:cF≠cW)(hr:t1 rl=some (.aq (P.R.map dP)))(nF:rl≠cF)(nW:rl≠cW)(hx:x∈aH)(t:x∉ks)(z5:ks.length<=6)(J:BwI H0 t0 P rl cF cW t1 i ks (λF=>F[i]?=some S) H L)(c:L 5=some (.int i))(l6:L 6=some (ay S))
(hK:∀{H' s},BwI H0 t0 P rl cF cW t1 i (ks++[x]) (λF=>F[i]?=some S) H' s->s 5=some (.int i)/\s 6=some (ay S)->K .next ⟨H',s⟩):aj (calls fF mF (n+1)) mF gK ⟨H,upd L 7 (.str x)⟩ K FX:=by
 obtain⟨F,wes,ty,N,hF,hW,k,B,f,d,hw,m,T,l4⟩:=J
 obtain⟨C,b⟩:=B.sub (be f)
 have A:=(a6.mp f).1
 have z0:=B.len G
 have D:(ks++[x]).length=ks.length+1:=bp
 refine W.JP N (λQ'=>comp_back N.T G (k _ _ nF nW hr) b (ae (cj C b) (fJ G)) hx m l6 rfl) λc8 t2 H2 r h8 R y=>?_
 refine W.ite (.v rfl) (nH (r.T.gL h8)) (λE=>?_) λE=>W.nil (hK ⟨F,wes,t2,r,(y _ _ hF).1,(y _ _ hW).1,λa z Y U h=>(y _ _ (k _ _ Y U h)).1,B.skip f ?_ t,f,d,D▸Nat.le_succ_of_le hw,m,T,l4⟩ ⟨c,l6⟩)
 ·have z1:back P.R S x≠[]:=λe=>by rw[e] at E;cases E
  refine W.fn (.two (.v m) (.v rfl)) (Ao r G (y _ _ (k _ _ nF nW hr)).1 h8 (GW C) yi λt3 H3 N3 X=>?_)
  have V:=X _ _ (y _ _ hF).1
  have I:=X _ _ (y _ _ hW).1
  have kk:∀a z,a≠cF->a≠cW->t1 a=some z->t3 a=some z:=λa z Y U h=>X _ _ (y _ _ (k _ _ Y U h)).1
  obtain⟨O,Z⟩:∃O,canon P.R (Opn P.R (·∈back P.R S x))=O:=⟨_,rfl⟩
  rw[Z]
  clear y X h8 r hF hW
  have M:∀{v g u},Now H0 t0 P g u->g cF=some (.aq (v.map ay))->g cW=some (.aJ wes)->(∀a z,a≠cF->a≠cW->t1 a=some z->g a=some z)->BWI P.R v wes i ks->v[i]?=some S->P.R.length<=v.length->O∈v->aj (calls fF mF (n+1)) mF [.asg (.ix (.v 4) (.tu [.v 5,.v 7])) (.ind (.v 1) (.v 10))] ⟨u,upd (upd (upd L 7 (.str x)) 8 (.ref c8)) 10 (ay O)⟩ K FX:=λ{v g u} q w z2 Q B4 o z3 p=>by
   obtain⟨j,hj,ev⟩:=Ev.NY (e1:=.v 1) (e2:=.v 10) (L:=upd (upd (upd L 7 (.str x)) 8 (.ref c8)) 10 (ay O)) (.v T) (q.T.L w) (.v rfl) (s7 v) (jO O).1 (rI O trivial).2 p λR R=>gO
   exact W.oG q fW z2 ev (.v l4) (.tu (.two (.v c) (.v rfl))) (mQ i hx) (cP (ae hw (by have:=(a6.mp o).1;lia)) (b:=300000) rfl) λt5 H5 N5 z4 k5=>hK ⟨v,_,t5,N5,k5 _ _ l w,z4,λa z Y U h=>k5 _ _ U (Q _ _ Y U h),B4.put o z1 (Z▸hj) t,o,z3,D▸ae mz (et hw),m,T,l4⟩ ⟨c,l6⟩
  refine W.ux (.cm (.v rfl) (.v T) (oH (inL (f:=ay) (N3.T.gL V) (s7 F) (jO O).1 (rI O trivial).2 λR R=>gO))) (λhn=>?_) λp=>W.nil (M N3 V I kk B f d p)
  exact W.iI N3 gF V (.v T) (.v rfl) (by rw[ba];exact cP z0 rfl) λg u q w Q=>W.nil (M q (by rw[ej];exact w) (Q _ _ (en l) I) (λa z Y U h=>Q _ _ Y (kk _ _ Y U h)) (Z▸B.grow A d (Z▸hn)) ((fA A).trans f) (by rw[bp];exact Nat.le_add_right_of_le d) (cq _ aM))
 ·cases h:back P.R S x with
  | nil=>rfl
  | cons=>rw[h] at E;cases E
end
theorem coS{α:Type}{H:CH}{Q:Da}{ys:List α}(l:Nat->It)(w:Nat->α->CV)(n:Nat->α->EN->EN)(C:∀i y L,gu L t (w i y)=some (n i y L))(A:∀p:It->St->Prop,p (l 0) ⟨H,L⟩->wpI g M B ⟨H,L⟩ p X)(N:ys.length<szl)
(I:Nat->List CV->CH->EN->Prop)(D:I 0 [] H L)(a:∀i z H L,I i z H L->(l i).next H=some (ys[i]?.map λy=>(w i y,l (i+1))))
(E:∀i y z H L,ys[i]?=some y->I i z H L->∀p:CV->St->Prop,(∀{v Y J},I (i+1) (z++[v]) Y J->p v ⟨Y,J⟩)->wpE g M U ⟨H,n i y L⟩ p FX)
(r:∀z Y J,I ys.length z Y J->∀c,Y.free c->Q (.ref c) ⟨Y.aA c z,L⟩):wpE g M (.co U t B []) ⟨H,L⟩ Q X:=by
 have b:∀(k i:Nat) (O:CH) (V:EN) (z:B2),k+i=ys.length->z.length=i->I i z O V->gv (λv s K=>∃L,gu s.L t v=some L/\wpE g M U { s with L:=L } (λr s=>K (some r) s) FX) (λz s=>z.length<=szl/\∀c,s.H.free c->Q (.ref c) ⟨s.H.aA c z,L⟩) (k+1) (l i) z ⟨O,V⟩:=by
  intro k
  induction k with
  | zero=>
   intro i O V z T x f
   obtain rfl:i=ys.length:=(lL i).symm.trans T
   exact sJ ((a _ _ _ _ f).trans (ab (λo=>some (Option.map _ o)) (fi (cr _)))) ⟨x▸cy N,r z O V f⟩
  | succ k d=>
   intro i O V z T x f
   have j:i<ys.length:=T▸Nat.lt_add_of_pos_left (ft k)
   exact vP ((a _ _ _ _ f).trans (ab (λo=>some (Option.map _ o)) (bm j))) ⟨_,C i _ V,E i _ z O V (bm j) f _ λ{v Y J} h=>⟨x▸gd j N,d (i+1) Y J _ ((iv k i).symm.trans T) (bp.trans (ab (·+1) x)) h⟩⟩
 exact A _ ⟨ys.length+1,b ys.length 0 H L [] rfl rfl D⟩
section
variable{P:Par}{ty t0 z:TY}{H H0:CH}{n rl:Nat}{Q:DD}
noncomputable def ends(R:List aI)(i:Nat):List (List Pl):=(range i).map λr=>canon R (Opn R (·=(r,(rhs R r).length)))
theorem EG(R:List aI):BWI R (ends R R.length) [] 0 []:=
 ⟨λr w=>by rw[ends,eM,getElem?_range w];rfl,λS y=>(bo.mp y).elim λr h=>⟨_,h.2.symm⟩,by
  rw[drop_eq_nil_iff.mpr (by rw[ends,ba,eh];exact cr _)];exact dt,λa x h=>absurd rfl h,λa S x q=>(q.elim (ij a) λq=>cp q.2).elim⟩
inductive NZ(H0:CH)(t0:TY)(P:Par)(rl:Nat)(ty:TY)(i:Nat)(acc:B2)(H:CH)(L:EN):Prop
 | mk (ty':TY) (N:Now H0 t0 P ty' H) (k:Ka ty ty') (e:acc=(ends P.R i).map ay) (l0:L 0=some (.ref rl))
theorem liE{Y:PT}{f:Nat}{Q:Da}(N:Now H0 t0 P ty H)(V:Ev L H U x)(h:Ev L H e v)(r:∀c w y,Now H0 t0 P w y->w c=some (.aq [v])->K1 c ty w->Y f [x,.ref c] y λr y=>Q r ⟨y,L⟩):wpE Y M (.fn f [U,.li [e]]) ⟨H,L⟩ Q X:=
 V _ _ _ _ (h _ _ _ _ λc j=>N.nL (G:=λH=>Y f [x,.ref c] H λr y=>Q r ⟨y,L⟩) j λw y J g o k=>r c w y J g k)
theorem Ev.yp{L:EN}{k i:Nat}(G:GoodR R)(h:L k=some (dP w))(y:R[i]?=some w):Ev L H (.b1 .len (.ix (.v k) (.c (.int 1)))) (.int (rhs R i).length):=by
 have:=Ev.Dz (Ev.ix (.v h) .c (EF (H:=H) y)) (jI (ae (G.ln i) (by decide)))
 rwa [ba] at this
theorem yq(N:Now H0 t0 P ty H)(G:GoodR P.R)(s:ty rl=some (.aq (P.R.map dP)))
(hQ:∀(F:Ch) (w:At) U k y o,Now H0 t0 P y o->y U=some (.aq (F.map ay))->y k=some (.aJ w)->Ka ty y->BWI P.R F w F.length []->Q (.tup [.ref U,.ref k]) o):calls fF mF (n+2) 473 [.ref rl] H Q:=by
 refine cB [.ref rl] (d:=eN) rfl rfl rfl rfl λFQ O Y=>?_
 have f:=G.len.2
 refine W.JI (coS (ys:=P.R) (λi=>.enum i (.list rl i)) (λi r=>.tup [.int i,dP r]) (λi r L=>upd (upd L 2 (.int i)) 3 (dP r)) (λY Y Y=>rfl) (oW (.v rfl) (N.T.gL s)) (cP f rfl) (NZ H0 t0 P rl ty) ⟨ty,N,λY Y h=>h,rfl,rfl⟩ ?_ ?_ ?_)
 ·rintro i g o e ⟨t2,t,v,_⟩
  exact iJ (w:=dP) (bU (t.T.gL (v _ _ s)))
 ·rintro i zw g H2 L2 ho ⟨t2,t,v,rfl,T⟩ Q' R
  refine liE (v:=plC (i,(rhs P.R i).length)) t (.v T) (.tu (.two (.v rfl) (.yp G rfl ho))) λc t3 H3 X d C=>Ao (I:=[(i,(rhs P.R i).length)]) X G (C _ _ (v _ _ s)).1 d (fb _ _) (λp m=>bc.mp m▸aY.mpr ⟨(a6.mp ho).1,cr _⟩) λb H4 Z B=>R ⟨b,Z,v.t (C.aa.t B),?_,T⟩
  rw[ends,ends,range_succ,ej,ej,show(λq=>q∈[(i,(rhs P.R i).length)])=λq=>q=(i,(rhs P.R i).length) from funext λq=>propext bc]
  rfl
 rintro g H2 L2 ⟨t2,t,v,rfl,T⟩ U u
 refine t.nL (G:=λH=>aj (calls fF mF (n+1)) mF _ ⟨H,upd _ 1 (.ref U)⟩ FQ FX) u λt3 H3 X z gF C=>?_
 refine W.newD X λk b H4 Z z0 gW B=>?_
 obtain⟨z1,z2⟩:=B _ _ z
 have A:=C _ _ (v _ _ s)
 have D:=B _ _ A.1
 refine NC (α:=List Pl) (f:=ay) 32773 (I:=λi=>BwI H0 t0 P rl U k b i [] λF=>i<=F.length) (.v rfl) ⟨_,[],b,Z,z1,z0,λY Y Y Y h=>h,EG P.R,dd _,by rw[ends,ba,eh];exact cr _,dd _,rfl,rfl,rfl⟩ ?_
 rintro i H5 L5 ⟨F,w,t5,N5,V,E,k5,B5,m,z3,z4,T,l1,l4⟩
 refine⟨ae m (B5.len G),F,N5.T.gL V,λhi=>W.nil (W.ret (.tu (.two (.v l1) (.v l4))) (O (hQ F w U k t5 H5 N5 V E (λa ρ h=>?_) (hi▸B5)))),m,λS hS K hK=>?_⟩
 ·have d:=C _ _ (v _ _ h)
  have h4:=B _ _ d.1
  exact k5 _ _ d.2 h4.2 h4.1
 have zy:=(a6.mp hS).1
 refine frL (ys:=aH) (f:=.str) (a:=440) (I:=λj H L=>BwI H0 t0 P rl U k b i (aH.take j) (λF=>F[i]?=some S) H L/\L 5=some (.int i)/\L 6=some (ay S)) .c ⟨⟨F,w,t5,N5,V,E,k5,B5,hS,z3,z4,T,l1,l4⟩,rfl,rfl⟩ ?_ ?_ ?_
 ·rintro j o e ⟨⟨_,_,_,N,_⟩,_⟩
  exact N.T.gs
 ·rintro j x o e K' hx ⟨J,l5,l6⟩ z5
  have I:aH.take (j+1)=aH.take j++[x]:=by rw[eI,hx];rfl
  have z6:(aH.take j++[x]).Nodup:=I▸(show aH.Nodup by decide).sublist (take_sublist _ _)
  exact MP G gF gW z2 D.1 (A.2) D.2 (be hx) (λh=>(kO.mp z6).2.2 x h x aM rfl) (length_take_le' _ _) J l5 l6 λJ' l=>z5.nxt ⟨I▸J',l⟩
 ·rintro o e ⟨⟨F',M,t6,N6,z7,z8,k6,B6,z9,zz,zq,i0,i1,i4⟩,_⟩
  exact W.nil (hK.nxt ⟨F',M,t6,N6,z7,z8,k6,B6.row,(a6.mp z9).1,zz,zq,i0,i1,i4⟩)
end
noncomputable def ez(z:At)(i:Nat)(x:Str):Option Nat:=match au z (nO i x) with
 | some (.int j)=>some j.toNat
 | _=>none
theorem yr{z:At}{i j:Nat}{x:Str}(h:au z (nO i x)=some (.int j)):ez z i x=some j:=by
 unfold ez;rw[h];rfl
theorem BWI.bw{F:Ch}(h:BWI R F z F.length []):BW R F (ez z) where
 hd:=h.hd
 cl:=h.cl
 no:=λi S x Q y Y=>match h.w i S x (.inl (a6.mp Q).1) Q y with
  | .no _ U=>by unfold ez;rw[U]
  | .ws v _ _ _=>absurd Y v
 ws:=λi S x Q y Y=>match h.w i S x (.inl (a6.mp Q).1) Q y with
  | .no v _=>absurd v Y
  | .ws _ j U V=>⟨j,yr U,V⟩
noncomputable def om(R:List aI)(z:EQ):List Tr:=(items R).map λp=>(p,yl R z p)
noncomputable def jP(R:List aI)(z:EQ)(r k:Nat):List Tr:=(range k).map λj=>((r,(rhs R r).length - j),yl R z (r,(rhs R r).length - j))
noncomputable def mR(R:List aI)(z:EQ)(i:Nat):List Tr:=(range i).flatMap λr=>jP R z r ((rhs R r).length+1)
section
variable{R:List aI}{z:EQ}
theorem Bo:fN ((mR R z R.length).map trC)=(om R z).map trC:=by
 refine Ak NX (pairwise_flatMap.mpr ⟨λr O=>pairwise_map.mpr (mo.imp_of_mem ?_),mo.imp ?_⟩) (pairwise_map.mpr ((wH R).imp λh=>h.imp id λh=>⟨h.1,.inl (h.2.resolve_right λh=>h.2)⟩)) (pairwise_map.mpr (mG.imp λQ q=>Q (Prod.mk.inj q).1)) λt=>?_
 ·intro a b w Y Q q
  exact Q ((mn (db (du.mp w))).symm.trans ((ab (λt:Tr=>(rhs R r).length - t.1.2) q).trans (mn (db (du.mp Y)))))
 ·intro a b Q x U y v q
  obtain⟨d,_,rfl⟩:=bo.mp U
  obtain⟨e,_,rfl⟩:=bo.mp v
  exact Q (ab (λt:Tr=>t.1.1) q)
 ·unfold mR om
  rw[ii,bo]
  constructor
  ·rintro⟨r,V,h⟩
   obtain⟨j,_,rfl⟩:=bo.mp h
   exact⟨_,aY.mpr ⟨du.mp V,Nat.sub_le _ _⟩,rfl⟩
  ·rintro⟨⟨r,d⟩,k,rfl⟩
   obtain⟨J,o⟩:=aY.mp k
   exact⟨r,du.mpr J,bo.mpr ⟨(rhs R r).length - d,du.mpr (hX (Nat.sub_le _ _)),by rw[mn o]⟩⟩
theorem s8(r j:Nat):jP R z r (j+1)=jP R z r j++[((r,(rhs R r).length - j),yl R z (r,(rhs R r).length - j))]:=by
 unfold jP;rw[range_succ,ej];rfl
theorem rJ(i:Nat):mR R z (i+1)=mR R z i++jP R z i ((rhs R i).length+1):=by
 unfold mR;rw[range_succ,flatMap_append,flatMap_singleton]
theorem Aq{j:Nat}(Q:j<=(rhs R r).length):yl R z (r,(rhs R r).length - j)=(pla R z r j).getD 0:=ab (λk=>(pla R z r k).getD 0) (mn Q)
end
section
variable{P:Par}{ty t0 t1:TY}{H H0:CH}{n rl cW:Nat}{Q:DD}{F:Ch}{z:At}
theorem uJ{n i:Nat}(w:n<=3 * i)(y:i<=5):n<=15:=ae w (Nat.mul_le_mul_left 3 y)
inductive TdI(H0:CH)(t0:TY)(P:Par)(rl cW c:Nat)(t1:TY)(way:EQ)(i j:Nat)(H:CH)(L:EN):Prop
 | mk (ty:TY) (N:Now H0 t0 P ty H) (k:Kp c t1 ty) (hc:ty c=some (.aq ((mR P.R way i++jP P.R way i j).map trC))) (hl:(mR P.R way i).length<=3 * i) (l0:L 0=some (.ref rl)) (l1:L 1=some (.ref cW)) (l2:L 2=some (.ref c))
theorem GX{i j p:Nat}{K:Ap}(G:GoodR P.R)(B:BWI P.R F z F.length [])(m:H0.free c)(e:t1 cW=some (.aJ z))(r:cW≠c)(T:P.R[i]?=some w)(y:j<(rhs P.R i).length)(J:TdI H0 t0 P rl cW c t1 (ez z) i (j+1) H L)(C:pla P.R (ez z) i j=some p)(b:L 3=some (.int i))(a:L 4=some (dP w))(R:L 5=some (.int p))(A:L 6=some (.int ((rhs P.R i).length - (j+1):Nat)))
(X:∀{f D Y},TdI H0 t0 P rl cW c t1 (ez z) i (j+2) D Y->pla P.R (ez z) i (j+1)=some f->Y 3=some (.int i)->Y 4=some (dP w)->Y 5=some (.int f)->K .next ⟨D,Y⟩):aj (calls fF mF n) mF kE ⟨H,L⟩ K FX:=by
 obtain⟨ty,N,k,Z,E,u,I,M⟩:=J
 have U:=(a6.mp T).1
 have v:=G.len.2
 have g:=G.ln i
 obtain⟨q,Q,S,s,h3,_⟩:=EE G B.bw U j ((rhs P.R i).length - j) (kS (cy y))
 obtain rfl:p=q:=al (C.symm.trans Q)
 obtain⟨x,O⟩:∃x,(rhs P.R i)[(rhs P.R i).length - (j+1)]?=some x:=⟨_,bm (Nat.sub_lt_of_pos_le (ft j) y)⟩
 have V:=G.sym i x (be O)
 have l:(i,(rhs P.R i).length - (j+1))∈back P.R S x:=iM.mpr ⟨(ab (λk=>(i,k)∈S) (Nat.succ_pred_eq_of_pos (Nat.sub_pos_of_lt y))).mpr h3,O⟩
 cases B.w p S x (.inl (a6.mp s).1) s V with
 | no h=>exact absurd (h▸l) cp
 | ws h f d=>
  have o:=(HK C O).trans (yr d)
  refine W.asg (.ix (.v I) (.tu (.two (.v R) (.ix (.ix (.v a) .c (EF T)) (.v A) (oZ (eM.trans (ab (Option.map CV.str) O)))))) (getD N.T (N.T.D (k _ _ r e)) (mQ p V) d)) ?_
  refine W.iI N m Z (.v M) (.tu (.cons (.v b) (.two (.v A) (.v rfl)))) (by rw[ba,bp,jP,ba,eh];exact cP (b:=15+2) (h7 (uJ E (ae (cy U) v)) (ae y g)) rfl) λt5 H5 N5 t k5=>X ⟨t5,N5,k.t k5,?_,E,u,I,M⟩ o b a rfl
  rw[t,s8 i (j+1),Aq y,o,← io,ej (l₁:=mR P.R (ez z) i++jP P.R (ez z) i (j+1))]
  rfl
inductive TdJ(H0:CH)(t0:TY)(P:Par)(rl cW c:Nat)(t1:TY)(way:EQ)(i:Nat)(row:aI)(j:Nat)(H:CH)(L:EN):Prop
 | mk (p:Nat) (J:TdI H0 t0 P rl cW c t1 way i (j+1) H L) (hp:pla P.R way i j=some p) (l3:L 3=some (.int i)) (l4:L 4=some (dP row)) (l5:L 5=some (.int p))
theorem yt(k:Nat)(w:k<1000):kI [.int ((k:Int) - 1),.int (-1),.int (-1)]=some ((range k).map λ(j:Nat)=>.int ((k:Int) - 1 - j)):=by
 refine(ch (⟨⟨rfl,rfl⟩,by decide,Int.lt_of_lt_of_le (by decide) (Int.sub_le_sub_right (hO k) 1),Int.lt_of_le_of_lt (Int.sub_le_self _ (by decide)) (Int.lt_trans (hV.mpr w) (by decide))⟩:(([]:B2).isEmpty=true/\(-1:Int)=-1)/\(-(2 ^ 20)<(-1:Int)/\(-1:Int)<2 ^ 20)/\-(2 ^ 20)<(k:Int) - 1/\(k:Int) - 1<2 ^ 20)).trans ?_
 rw[show((k:Int) - 1 - -1).toNat=k from(ab Int.toNat ((Int.sub_neg _ 1).trans (Int.sub_add_cancel _ 1))).trans (lp k)]
theorem MQ(N:Now H0 t0 P ty H)(G:GoodR P.R)(hr:ty rl=some (.aq (P.R.map dP)))(hW:ty cW=some (.aJ z))(B:BWI P.R F z F.length [])
(hQ:∀c v x,Now H0 t0 P v x->v c=some (.aq ((om P.R (ez z)).map trC))->Ka ty v->Q (.ref c) x):calls fF mF (n+1) 480 [.ref rl,.ref cW] H Q:=by
 refine cB [.ref rl,.ref cW] (d:=iY) rfl rfl rfl rfl λFQ o ζ=>?_
 have U:=G.len.2
 refine W.newL N .nil λc t1 H1 N1 C q L=>?_
 obtain⟨b,nr⟩:=L _ _ hr
 obtain⟨A,nW⟩:=L _ _ hW
 refine frE (ys:=P.R) (f:=dP) (I:=λi=>TdI H0 t0 P rl cW c t1 (ez z) i 0) (.v rfl) ⟨t1,N1,.r,C,dd _,rfl,rfl,rfl⟩ ?_ ?_ ?_
 ·rintro i x L' ⟨t2,k,O,_⟩
  exact k.T.gL (O _ _ nr b)
 ·rintro i D H2 L2 K t ⟨t2,k,O,w,f,l0,l1,T⟩ hK
  have hi:=(a6.mp t).1
  have g:=G.ln i
  refine W.asg (.v rfl) (W.iI k q w (.v T) (.tu (.cons (.v rfl) (.two (.yp G rfl t) (.v rfl)))) (by rw[ba,bp];exact cP (b:=15) (uJ f (ae (cy hi) U)) rfl) λE H3 I M s=>?_)
  refine frR (ys:=range (rhs P.R i).length) (f:=λ(j:Nat)=>.int ((rhs P.R i).length - 1 - (j:Int))) (I:=TdJ H0 t0 P rl cW c t1 (ez z) i D) (.cons (.sub (.yp G rfl t) .c) (.two (.ng .c) (.ng .c))) (yt _ (ax g (aw rfl))) ⟨i,⟨E,I,O.t s,?_,f,l0,l1,T⟩,rfl,rfl,rfl,rfl⟩ ?_ ?_
  ·rw[M,s8 i 0,Aq (dd _),← io,ej (l₁:=mR P.R (ez z) i++_)]
   rfl
  ·rintro j j' H4 L4 K' hj ⟨p,⟨d,m,e,Y,l,r,R,S⟩,hp,m3,m4,m5⟩ X
   obtain⟨V,rfl⟩:=a6.mp hj
   rw[eh] at V
   rw[getElem_range]
   exact GX G B q A nW t V ⟨d,m,e,Y,l,r,R,S⟩ hp m3 m4 m5 (cT.trans (ab (λi=>some (CV.int i)) ((Int.sub_sub _ 1 _).trans ((ab (((rhs P.R i).length:Int) - ·) (Int.add_comm 1 _)).trans (Int.ofNat_sub V).symm)))) λJ Z i3 i4 i5=>X.nxt ⟨_,J,Z,i3,i4,i5⟩
  ·rintro H4 L4 ⟨p,⟨d,m,e,Y,l,r,R,S⟩,_⟩
   rw[eh,← rJ] at Y
   refine W.nil (hK.nxt ⟨d,m,e,Y.trans (by rw[jP,range_zero,map_nil,eR]),?_,r,R,S⟩)
   rw[rJ,bp,jP,ba,eh];exact h7 f (et g)
 ·rintro H2 L2 ⟨t2,k,O,w,f,l0,l1,T⟩
  rw[jP,range_zero,map_nil,eR] at w
  refine W.nil (W.DN (zW (Ev.go (.v T) ⟨c,_,[.int,.int,.int],rfl,k.T.gL w,by rw[ba];exact ax (uJ f U) (aw rfl),rfl,λy hy=>(bo.mp hy).elim λp h=>h.2▸rfl,λc3 h3=>?_⟩)))
  rw[Bo]
  exact k.nL (G:=λH=>FQ (.ret (.ref c3)) ⟨H,_⟩) h3 λE H3 I u ζ s=>o (hQ c3 E H3 I u λa ρ h=>(s _ _ (O _ _ (L _ _ h).2 (L _ _ h).1)).1)
end
inductive EH(R:List aI)(q:BM)(x:Str):CV->Prop
 | no (h:moves R q x=[]):EH R q x .none
 | go (h:moves R q x≠[]) (k:Nat) (hk:(CC R)[k]?=some (clo R (moves R q x))):EH R q x (.int k)
theorem jM.keep(h:jM R U s Q w)(k:Ka U z):jM R z s Q w:=
 {h with ac:=λj q y Y=>(h.ac j q y Y).imp λb h=>h.imp λv h=>⟨h.1,k _ _ h.2.1,h.2.2⟩,go:=λj q y Y=>(h.go j q y Y).imp λb h=>h.imp λv h=>⟨h.1,k _ _ h.2.1,h.2.2⟩ }
section
variable{P:Par}{w z:TY}{H U:CH}{n t j:Nat}{Q:DD}{x:Str}{q:BM}
theorem W.EI{v:PT}{x:CV}{Q:Ap}(O:Ev L H k x)(h:Evs L H J o)(r:v f o H λy V=>∃r,bO V .isIn x y=some r/\∃q,truth V (.bool r)=some q/\if q then aj v M a ⟨V,L⟩ (bf v M l Q X) X else aj v M b ⟨V,L⟩ (bf v M l Q X) X):aj v M (.ite (.cm .isIn k (.fn f J)) a b::l) ⟨H,L⟩ Q X:=O _ _ _ _ (h _ _ _ _ r)
theorem JQ(N:Now U Y P w H)(R:w t=some .table)(l:jM P.R w s P.acE P.goE)(a:j<s)(S:(CC P.R)[j]?=some q)(h:x∈aH)
(A:∀v D X,Now U Y P D X->Ka w D->EH P.R q x v->Q v X):calls fF mF (n+2) 487 [.ref t,.int j,.str x] H Q:=by
 refine cB [.ref t,.int j,.str x] (d:=gY) rfl rfl rfl rfl λG J u=>?_
 have O:=aV x h
 by_cases E:x∈bz
 ·refine W.EI (.v rfl) .nil (lu N λc z L V g p=>⟨true,(fQ (V.T.gL g) (λy d=>aO (b6 d)) (aO h)).trans (ab some (cn E)),true,rfl,?_⟩)
  have o:=(p _ _ R).1
  obtain⟨b,Z,m,e,I⟩:=l.go j q a S
  have C:Ev (locs 0 [.ref t,.int j,.str x]) L (.ix (.at (.v 0) 32) (.v 1)) (.ref b):=.ix (.att (.v rfl) (V.T.tat o (V.T.tb o).a32.1)) (.v rfl) (getD V.T (lq V.T o).2 rfl m)
  have B:=V.T.D (p _ _ e).1
  by_cases f:moves P.R q x=[]
  ·exact W.ret (.geN C B (.v rfl) O .c (I.no x E f)) (J (A _ z L V p.aa (.no f)))
  ·obtain⟨k,T,r⟩:=I.go x E f
   exact W.ret (.geS C B (.v rfl) O .c r) (J (A _ z L V p.aa (.go f k T)))
 ·refine W.EI (.v rfl) .nil (lu N λc z L V g p=>⟨false,(fQ (V.T.gL g) (λy d=>aO (b6 d)) (aO h)).trans (ab some (dT E)),false,rfl,W.nil ?_⟩)
  have o:=(p _ _ R).1
  have M:=(xT h).resolve_right E
  obtain⟨b,Z,m,e,I⟩:=l.ac j q a S
  have C:Ev (locs 0 [.ref t,.int j,.str x]) L (.ix (.at (.v 0) 31) (.v 1)) (.ref b):=.ix (.att (.v rfl) (V.T.tat o (V.T.tb o).a31.1)) (.v rfl) (getD V.T (lq V.T o).1 rfl m)
  have B:=V.T.D (p _ _ e).1
  by_cases f:moves P.R q x=[]
  ·rcases I.re x M f with T | ⟨i,K,T⟩
   ·exact W.asg (.geN C B (.v rfl) O .c T) (W.ret (.ifF (.anF (.cm (.v rfl) .c Ev.nn0) rfl) rfl .c) (J (A _ z L V p.aa (.no f))))
   ·exact W.asg (.geS C B (.v rfl) O .c T) (W.ret (.ifF (.anT (.cm (.v rfl) .c Ev.nnI) rfl (.cm (.v rfl) .c (Ev.gtF (Int.not_lt.mpr K)))) rfl .c) (J (A _ z L V p.aa (.no f))))
  ·obtain⟨k,F,T,r⟩:=I.sh x M f
   exact W.asg (.geS C B (.v rfl) O .c r) (W.ret (.ifT (.anT (.cm (.v rfl) .c Ev.nnI) rfl (.cm (.v rfl) .c (Ev.gtT (lv.mpr F)))) rfl (.v rfl)) (J (A _ z L V p.aa (.go f k T))))
end
noncomputable def iC(i:Nat):CV:=.int i
theorem rK{i:Nat}(h:iC i=iC j):i=j:=Int.ofNat.inj (CV.int.inj h)
theorem jd(l:Bz):okL (l.map iC):=okL.of (f:=iC) (p:=λz=>True) (d:=0) (λz z=>⟨rfl,cr 0⟩) (dd _) λz z=>trivial
theorem map_inj{z:Type}{f:z->CV}(h:∀a b,f a=f b->a=b):∀{l m:List z},l.map f=m.map f->l=m
 | [],[],_=>rfl
 | a::l,b::m,e=>by
  obtain⟨Q,w⟩:=eF e
  rw[h _ _ Q,map_inj h w]
 | [],_::_,e=>nomatch e
 | _::_,[],e=>nomatch e
section
variable{P:Par}{ty Y:TY}{H U:CH}{n c t b cF cW:Nat}{Q:Da}{x:Str}{q:BM}{F:Ch}{wes fes:At}{w:Bz}{L:EN}{z:PT}
theorem inI{a i:Nat}{l:Bz}(h:H.getL a=some (l.map iC)):bO H .isIn (.int i) (.ref a)=some (decide (i∈l)):=inL (f:=iC) h (jd l) rfl (dd _) λv v=>rK
theorem inN{a:Nat}{l:Bz}(h:H.getL a=some (l.map iC)):bO H .isIn .none (.ref a)=some false:=
 (ab (Option.elim · _ (pn .none)) h).trans ((ch ⟨rfl,(jd l).1,dd _,(jd l).2⟩).trans (ab some (dT λh=>(bo.mp h).elim λv h=>nomatch h.2)))
theorem JR(h:Evs L H v V)(g:kI V=some l)(k:It->St->Prop)(r:k (.items l) ⟨H,L⟩):wpI z M (.rng v) ⟨H,L⟩ k X:=h _ _ _ _ ⟨_,g,r⟩
structure WI(R:List aI)(F:Ch)(ty:TY)(c15:Nat)(fes:At)(w:Bz):Prop where
 nd:w.Nodup
 lt:∀j∈w,j<(CC R).length
 ks:∀p∈fes,∃j∈w,p.1=.int (j:Nat)
 le:fes.length<=w.length
 fr:∀j∈w,∀q,(CC R)[j]?=some q->∃b,au fes (.int j)=some (.ref b)/\ty b=some (.aq ((Fr F q).map iC))/\b≠c15
section
variable{V:TY}
theorem WI.len(h:WI R F ty v fes w):w.length<=(CC R).length:=ae (cj h.nd λj k=>du.mpr (h.lt j k)) (bv eh)
theorem WI.keep(h:WI R F ty v fes w)(k:∀b l,b≠v->ty b=some (.aq l)->V b=some (.aq l)):WI R F V v fes w:=
 {h with fr:=λj J q o=>(h.fr j J q o).imp λb h=>⟨h.1,k _ _ h.2.2 h.2.1,h.2.2⟩ }
theorem WI.new(h:WI R F ty v fes w){k:Nat}(O:k∉w):au fes (.int k)=none:=b9.mpr λf=>(bo.mp f).elim λp J=>(h.ks p J.1).elim λj o=>O (rK (o.2.symm.trans J.2)▸o.1)
theorem WI.add(h:WI R F ty v fes w){k c:Nat}(O:k∉w)(f:(CC R)[k]?=some g)(C:∀b l,b≠v->ty b=some (.aq l)->V b=some (.aq l))(B:V c=some (.aq ((Fr F g).map iC)))(J:c≠v):WI R F V v (aW fes (.int k) (.ref c)) (w++[k]) where
 nd:=eO h.nd O
 lt:=cO h.lt (a6.mp f).1
 ks:=λp o=>(bV o).elim (λo=>(h.ks p o).imp λj h=>⟨de _ h.1,h.2⟩) λe=>e▸⟨k,cq _ aM,rfl⟩
 le:=by
  rw[rE (h.new O),bp]
  exact et h.le
 fr:=λj N q T=>by
  by_cases e:j=k
  ·subst e
   cases f.symm.trans T
   exact⟨c,aQ.trans (ch rfl),B,J⟩
  ·exact((h.keep C).fr j ((dC.mp N).resolve_right λq=>e (bc.mp q)) q T).imp λb h=>⟨aQ.trans ((ca λq=>e (rK q).symm).trans h.1),h.2⟩
end
structure Std(P:Par)(ty:TY)(F:Ch)(wes:At)(l8:Bz)(t c8 cF cW c11:Nat):Prop where
 G:GoodR P.R
 t:ty t=some .table
 tab:jM P.R ty (CC P.R).length P.acE P.goE
 hF:ty cF=some (.aq (F.map ay))
 W:ty cW=some (.aJ wes)
 B:BWI P.R F wes F.length []
 s:ty c8=some (.aq (l8.map .ref))
 a:dN (λa q=>ty a=some (.stL q)) l8 (CC P.R)
 T:ty c11=some (.aq ((om P.R (ez wes)).map trC))
theorem yu{j:Nat}(T:Typed P ty H)(G:GoodR P.R)(C:ty cF=some (.aq (F.map ay)))(N:ty cW=some (.aJ wes))(B:BWI P.R F wes F.length [])(D:q∈fX P.R)(a:ty b=some (.aq ((Fr F q).map iC)))(o:x∈aH)
(E:L 9=some (.ref cF))(O:L 10=some (.ref cW))(p:L 17=some (.ref b))(f:L 22=some (.str x))(I:∀c,H.free c->Q (.ref c) ⟨H.aA c ((Fr F (clo P.R (moves P.R q x))).map iC),L⟩) :
  wpE z mF (.co (.v 13) (.n 13) (.rng [.b1 .len (.v 9)]) [.cm .isIn (.ge (.v 10) (.tu [.v 13,.v 22]) (.c .none)) (.v 17)]) ⟨H,L⟩ Q X:=by
 have k:=B.len G
 obtain⟨_,g,v⟩:=j4 G D
 refine coP (ys:=range F.length) (λi=>.items (((range F.length).map iC).drop i)) (λV i=>iC i) (λV i L=>upd L 13 (iC i)) (λV V V=>rfl) (JR (.one (.uw (.v E) (T.lc (T.L C)) (vR (T.gL C)) (by rw[ba];exact cy (cP k rfl)))) (by rw[ba];exact sZ (by lia))) (λi=>eV) (by rw[eh];exact cP k rfl) (λV i=>EB (ez wes) F q x i) (λV i=>iC i) (λJ=>J 10=some (.ref cW)/\J 17=some (.ref b)/\J 22=some (.str x)) ⟨O,p,f⟩ (λi y J M w=>⟨w,Gw ?_,λV=>.v rfl⟩) λc h=>?_
 ·obtain⟨l,rfl⟩:=a6.mp M
  rw[getElem_range]
  rw[eh] at l
  unfold EB
  have A:Ev (upd J 13 (iC i)) H (.tu [.v 13,.v 22]) (nO i x):=.tu (.two (.v rfl) (.v w.2.2))
  cases B.w i _ x (.inl l) (bm l) o with
  | no g v=>
   rw[show ez wes i x=none by unfold ez;rw[v]]
   exact .cm (.geN (.v w.1) (T.D N) A (mQ i o) .c v) (.v w.2.1) (inN (T.gL a))
  | ws g j v s=>
   rw[yr v]
   exact .cm (.geS (.v w.1) (T.D N) A (mQ i o) .c v) (.v w.2.1) (inI (T.gL a))
 ·rw[mj (p:=EB (ez wes) F q x) (g:=iC),EC G B.bw o v g]
  exact I c h
theorem yv{v V:Type}(p:v->Bool)(g:Nat->V)(d:v)(l:List v):((l.zipIdx.filter λq=>p q.1).map λq=>g q.2)=((range l.length).filter λi=>p (l[i]?.getD d)).map g:=by
 have k:l.zipIdx.filter (λq=>p q.1)=l.zipIdx.filter ((λi=>p (l[i]?.getD d))∘Prod.snd):=filter_congr λq j=>by
  rw[Function.comp,mem_zipIdx_iff_getElem?.mp j,Option.getD_some]
 rw[k,show(λq:v×Nat=>g q.2)=g∘Prod.snd from rfl,← map_map,← filter_map,zipIdx_map_snd,range_eq_range']
theorem inT:bO H .isIn (plC p) (ay l)=some (decide (p∈l)):=
 Eq.trans (show bO H .isIn (plC p) (ay l)=pn (plC p) (l.map plC) from rfl) ((ch ⟨rfl,(jO l).1,aw rfl,(jO l).2⟩).trans (ab some (gk ⟨λh=>(bo.mp h).elim λy q=>o7 q.2▸q.1,dp⟩)))
theorem yw(T:Typed P ty H)(G:GoodR P.R)(V:ty cF=some (.aq (F.map ay)))(B:BWI P.R F wes F.length [])(j:L 9=some (.ref cF))(J:∀c,H.free c->Q (.ref c) ⟨H.aA c ((Fr F (clo P.R [(0,0)])).map iC),L⟩) :
  wpE z mF (.co (.v 13) (.t [13,14]) (.enum (.v 9)) [.cm .isIn (.tu [.c (.int 0),.c (.int 0)]) (.v 14)]) ⟨H,L⟩ Q X:=by
 refine coP (ys:=F) (λi=>.enum i (.list cF i)) (λi S=>.tup [.int i,ay S]) (λi S L=>upd (upd L 13 (.int i)) 14 (ay S)) (λv v v=>rfl) (oW (.v j) (T.gL V)) (λi=>iJ (w:=ay) (bU (T.gL V))) (cP (B.len G) rfl) (λv S=>decide ((0,0)∈S)) (λi v=>iC i) (λv=>True) trivial (λi S O k v=>⟨trivial,Gw (.cm (.tu (.two .c .c)) (.v rfl) (inT (p:=(0,0)))),λv=>.v rfl⟩) λc o=>?_
 rw[yv (λS=>decide ((0,0)∈S)) iC [] F,ED G B.bw λi S k=>by rw[k];exact lf]
 exact J c o
theorem EJ{V:Nat}(T:Typed P ty H)(G:GoodR P.R)(B:BWI P.R F wes F.length [])(O:q∈fX P.R)(k:ty V=some (.aq ((om P.R (ez wes)).map trC)))(p:ty b=some (.aq ((Fr F q).map iC)))(j:L 11=some (.ref V))(J:L 17=some (.ref b))
(f:∀c,H.free c->Q (.ref c) ⟨H.aA c ((canon P.R (·∈q)).map plC),L⟩):wpE z mF (.co (.tu [.v 19,.v 20]) (.t [19,20,13]) (.val (.v 11)) [.cm .isIn (.v 13) (.v 17)]) ⟨H,L⟩ Q X:=by
 obtain⟨_,g,l⟩:=j4 G O
 refine coP (ys:=om P.R (ez wes)) (λi=>.list V i) (λv y=>trC y) (λv y L=>upd (upd (upd L 19 (.int y.1.1)) 20 (.int y.1.2)) 13 (.int y.2)) (λv v v=>rfl) (gZ (.v j) (T.gL k)) (λi=>bU (T.gL k)) (by rw[om,ba];exact cP (fJ G) rfl) (λv y=>decide (y.2∈Fr F q)) (λv y=>plC y.1) (λo=>o 17=some (.ref b)) J (λi y o v w=>⟨w,Gw (.cm (.v rfl) (.v w) (inI (T.gL p))),λv=>.tu (.two (.v rfl) (.v rfl))⟩) λc C=>?_
 rw[mj (p:=λy:Tr=>decide (y.2∈Fr F q)) (g:=λy:Tr=>plC y.1),om,filter_map,map_map,← JN G B.bw l g] at *
 exact f c C
end
structure LwL(t c8 cF cW c11 c12 c15:Nat)(L:EN):Prop where
 l7:L 7=some (.ref t)
 l8:L 8=some (.ref c8)
 l9:L 9=some (.ref cF)
 l10:L 10=some (.ref cW)
 l11:L 11=some (.ref c11)
 l12:L 12=some (.ref c12)
 l15:L 15=some (.ref c15)
inductive LwS(H0:CH)(t0:TY)(P:Par)(F:Ch)(c12 c15:Nat)(pt:TY->Prop)(pw:List Nat->Prop)(H:CH):Prop
 | mk (fes:At) (w:Bz) (ty:TY) (N:Now H0 t0 P ty H) (h12:ty c12=some (.aJ fes)) (h15:ty c15=some (.aq (w.map iC))) (hw:WI P.R F ty c15 fes w) (hp:pt ty) (hq:pw w)
noncomputable def Mvd(R:List aI)(q:BM)(x:Str)(w:Bz):Prop:=moves R q x≠[]->∃k,(CC R)[k]?=some (clo R (moves R q x))/\k∈w
section
variable{P:Par}{U T:TY}{H:CH}{n c j V Q:Nat}{x:Str}{q:BM}{L:EN}{K:Ap}
namespace W
variable{w:PT}{a:FB}{y:CE}{Q:Ap}
theorem GY(N:Now O f P U H)(m:Ev L H y (.bool p))(i:Ev L H J (.ref c))(r:∀s T v,Now O f P T v->T s=some (.aq [])->K1 s U T->bO v .eq (.ref c) (.ref s)=some p/\aj w M l ⟨v,L⟩ Q X):aj w M (.ite (.cm .ne y (.cm .eq J (.li []))) a []::l) ⟨H,L⟩ Q X:=
 m _ _ _ _ (i _ _ _ _ λs e=>N.nL (G:=λI=>∃r,bO I .eq (.ref c) (.ref s)=some r/\∃d,bO I .ne (.bool p) (.bool r)=some d/\∃q,truth I (.bool d)=some q/\if q then aj w M a ⟨I,L⟩ (bf w M l Q X) X else aj w M [] ⟨I,L⟩ (bf w M l Q X) X) e λT v R g S k=>have h:=r s T v R g k;⟨p,h.1,false,ab (λz=>some (!z)) (mi p),false,rfl,h.2⟩)
theorem wK{t:LT}(z:List Knd)(N:Now O f P U H)(m:∀S:CV->St->Prop,(∀c,H.free c->S (.ref c) ⟨H.aA c vs,L⟩)->wpE w M (.co g t R I) ⟨H,L⟩ S X)(G:vs.length<64)(u:pA z=true)(i:∀y∈vs,y.is (.tup z)=true)(Y:fN vs=p)(V:∀j,Ev L j J v)
(r:∀s T e,Now O f P T e->T s=some (.aq p)->Ka U T->bO e .ne (.ref s) v=some false/\aj w M l ⟨e,L⟩ Q X):aj w M (.ite (.cm .ne (.b1 .sorted (.co g t R I)) J) a []::l) ⟨H,L⟩ Q X:=
 m (λx st=>∃d k z,x=.ref d/\st.H.getL d=some k/\k.length<64/\pA z=true/\(∀y∈k,y.is (.tup z)=true)/\∀c,st.H.free c->wpE w M J ⟨st.H.aA c (fN k),st.L⟩ (λy st=>∃r,bO st.H .ne (.ref c) y=some r/\∃q,truth st.H (.bool r)=some q/\if q then aj w M a st (bf w M l Q X) X else aj w M [] st (bf w M l Q X) X) X) λc o=>
  N.nL (G:=λH=>∃d k z,CV.ref c=.ref d/\H.getL d=some k/\k.length<64/\pA z=true/\(∀y∈k,y.is (.tup z)=true)/\∀c,H.free c->wpE w M J ⟨H.aA c (fN k),L⟩ (λy st=>∃r,bO st.H .ne (.ref c) y=some r/\∃q,truth st.H (.bool r)=some q/\if q then aj w M a st (bf w M l Q X) X else aj w M [] st (bf w M l Q X) X) X) o λK H2 W C b B=>⟨c,_,z,rfl,W.T.gL C,G,u,i,λs n=>
   W.nL (G:=λH=>wpE w M J ⟨H,L⟩ (λy st=>∃r,bO st.H .ne (.ref s) y=some r/\∃q,truth st.H (.bool r)=some q/\if q then aj w M a st (bf w M l Q X) X else aj w M [] st (bf w M l Q X) X) X) n λA Z D E b F=>have h:=r s A Z D (Y▸E) (B.aa.t F.aa);V Z _ _ _ _ ⟨false,h.1,false,rfl,h.2⟩⟩
end W
theorem GZ{pw:List Nat->Prop}(z3:∀w r,w <+: r->pw w->pw r)(T0:Typed P f O)(S:Std P f F B M t A D E C)(zy:O.free Y)(zu:O.free Q)(zv:V≠Q)(hq:(CC P.R)[j]?=some q)(hx:x∈aH)(J:LwS O f P F Y Q (λU=>U V=some (.aq ((Fr F q).map iC))) pw H)(m:LwL t A D E C Y Q L)(zk:L 16=some (.int j))(zj:L 17=some (.ref V))
(hK:∀{H' L'},LwS O f P F Y Q (λU=>U V=some (.aq ((Fr F q).map iC))) (λw=>pw w/\Mvd P.R q x w) H'->(∀k,k<22->L' k=L k)->K .next ⟨H',L'⟩):aj (calls fF mF (n+3)) mF vF ⟨H,upd L 22 (.str x)⟩ K FX:=by
 obtain⟨o,w,U,N,z,y,R,I,hp⟩:=J
 have z4:=ye S.G
 have z5:=R.len
 refine W.JP N (λQ'=>yu (j:=j) N.T S.G (N.get T0 S.hF) (N.get T0 S.W) S.B ((dZ S.G).sub q (be hq)) I hx m.l9 m.l10 zj rfl) λi T H1 N1 d X k1=>?_
 refine W.fn (.cons (.v m.l7) (.two (.v zk) (.v rfl))) (JQ N1 (N1.get T0 S.t) (S.tab.keep λa ρ h=>N1.get T0 h) (a6.mp hq).1 hq hx λv t2 H2 N2 k2 hv=>?_)
 have hL:∀k,k<22->upd (upd (upd L 22 (.str x)) 23 (.ref i)) 24 v k=L k:=λk c=>(xO c (by decide)).trans ((xO c (by decide)).trans (xO c (by decide)))
 have e1:Ev (upd (upd (upd L 22 (.str x)) 23 (.ref i)) 24 v) H2 (.cm .is (.v 24) (.c .none)) (.bool (decide (moves P.R q x=[]))):=.cm (.v rfl) .c (ab some (gk (by
  cases hv with
  | no h=>exact⟨λX=>h,λX=>rfl⟩
  | go h=>exact⟨λe=>(nomatch e),λe=>absurd e h⟩)))
 refine W.GY N2 e1 (.v rfl) λs t3 H3 Z hs k3=>⟨(JJ (f:=iC) (m:=[]) (Z.T.gL ((k3 _ _ (k2 _ _ d)).1)) (Z.T.gL hs) (jd _) (jd []) (map_inj λX X=>rK)).trans (ab some (gk (ym S.G S.B.bw))),?_⟩
 have kk:∀a ρ,U a=some ρ->t3 a=some ρ/\a≠i:=λa ρ h=>⟨(k3 _ _ (k2 _ _ (k1 _ _ h).1)).1,(k1 _ _ h).2⟩
 have d:=(k3 _ _ (k2 _ _ d)).1
 have z:=(kk _ _ z).1
 have I:=(kk _ _ I).1
 have z1:=en (kk _ _ y).2
 have y:=(kk _ _ y).1
 have R:=R.keep λb l X h=>(kk _ _ h).1
 clear e1 k1 k2 k3 kk N N1 N2
 cases hv with
 | no hm=>exact W.fV (.cm (.v rfl) .c Ev.nn0) rfl (W.nil (hK ⟨o,w,t3,Z,z,y,R,I,hp,λh=>absurd hm h⟩ hL))
 | go hm k c=>
  refine W.gP (.cm (.v rfl) .c Ev.nnI) rfl ?_
  have z6:∀{g r t' H'},Now O f P t' H'->t' Y=some (.aJ g)->t' Q=some (.aq (r.map iC))->WI P.R F t' Q g r->pw r->k∈r->t' V=some (.aq ((Fr F q).map iC))->t' i=some (.aq ((Fr F (clo P.R (moves P.R q x))).map iC))->
    aj (calls fF mF (n+3)) mF [.ite (.cm .ne (.ix (.v 12) (.v 24)) (.v 23)) [.ret (.c (.bool false))] []] ⟨H',upd (upd (upd L 22 (.str x)) 23 (.ref i)) 24 (.int k)⟩ (bf (calls fF mF (n+3)) mF [] K FX) FX:=λ{g r t' H'} N' z0 z7 z8 zo p z9 zz=>by
   obtain⟨b,g1,g2,_⟩:=z8.fr k p _ c
   exact W.ux (.cm (.ix (.v m.l12) (.v rfl) (getD N'.T (N'.T.D z0) rfl g1)) (.v rfl) (neV (JJ (f:=iC) (N'.T.gL g2) (N'.T.gL zz) (jd _) (jd _) (map_inj λX X=>rK)))) (λh=>absurd rfl h) λX=>W.nil (W.nil (hK ⟨g,r,t',N',z0,z7,z8,z9,zo,λX=>⟨k,c,p⟩⟩ hL))
  by_cases p:k∈w
  ·obtain⟨b,g1,_⟩:=R.fr k p _ c
   exact W.fV (.cm (.v rfl) (.v m.l12) (oH (A8 Z.T (Z.T.D z) rfl g1))) rfl (W.nil (z6 Z z y R hp p I d))
  ·refine W.gP (.cm (.v rfl) (.v m.l12) (oH (x7 Z.T (Z.T.D z) rfl (R.new p)))) rfl ?_
   refine W.oG Z zy z (.v rfl) (.v m.l12) (.v rfl) rfl (cP (ae R.le (ae z5 z4)) rfl) λt4 H4 N4 zq k4=>?_
   have z2:=oV z y rfl
   have kl:∀b l,t3 b=some (.aq l)->t4 b=some (.aq l):=λb l h=>k4 _ _ (oV h z rfl) h
   refine W.iI N4 zu (kl _ _ y) (.v m.l15) (.v rfl) (by rw[ba];exact cP (ae z5 z4) rfl) λt5 H5 N5 zw k5=>W.nil ?_
   have kp:∀b l,b≠Q->t3 b=some (.aq l)->t5 b=some (.aq l):=λb l h1 h2=>k5 _ _ h1 (kl _ _ h2)
   exact z6 N5 (k5 _ _ z2 zq) (by rw[ej];exact zw) (R.add p c kp (kp _ _ z1 d) z1) (z3 _ _ (prefix_append _ _) hp) (cq _ aM) (kp _ _ zv I) (kp _ _ z1 d)
theorem G0{pw:List Nat->Prop}(z0:∀w G,w <+: G->pw w->pw G)(T0:Typed P f O)(S:Std P f F B M t A D E C)(z1:O.free Y)(z2:O.free Q)(hq:(CC P.R)[j]?=some q)(hj:∀w,pw w->j∈w)(J:LwS O f P F Y Q (λd=>True) pw H)(m:LwL t A D E C Y Q L)
(hK:∀{H' u},LwS O f P F Y Q (λd=>True) (λw=>pw w/\∀x∈aH,Mvd P.R q x w) H'->(∀k,k<16->u k=L k)->K .next ⟨H',u⟩):aj (calls fF mF (n+3)) mF vG ⟨H,upd L 16 (.int j)⟩ K FX:=by
 obtain⟨o,w,U,N,v,r,c,_,hp⟩:=J
 have R:=(dZ S.G).sub q (be hq)
 obtain⟨z3,z4,_⟩:=j4 S.G R
 obtain⟨V,g1,X,z5⟩:=c.fr j (hj w hp) q hq
 refine W.asg (.ix (.v m.l12) (.v rfl) (getD N.T (N.T.D v) rfl g1)) ?_
 refine W.JP N (λQ'=>EJ N.T S.G S.B R (N.get T0 S.T) X m.l11 rfl) λz6 T H1 Z z7 d k1=>?_
 obtain⟨I,hI,z8⟩:=S.a.get' hq
 obtain⟨e1,e2⟩:=g9 Z.T (Z.get T0 z8)
 have z9:(q.map plC).length<64:=by rw[ba];exact ax (iK S.G R) (by decide)
 refine W.wK (vs:=q.map plC) [.int,.int] Z (λQ' zz=>coM (ys:=q) (λi=>.list I i) (λd p=>.ref (P.it p.1 p.2)) (λd p L=>upd L 21 (.ref (P.it p.1 p.2))) (λd d d=>rfl) (gZ (.ix (.v m.l8) (.v rfl) (i7 (f:=.ref) (Z.T.gL (Z.get T0 S.s)) hI)) (aD e1)) (λi=>bU (aD e1)) (cP (iK S.G R) rfl) plC (λi p u zq=>have hm:=e2 p (be zq);.tu (.two (.att (.v rfl) (Z.T.iat hm (Z.T.it hm).a4)) (.att (.v rfl) (Z.T.iat hm (Z.T.it hm).a15)))) zz)
  z9 rfl (λy hy=>(bo.mp hy).elim λp h=>h.2▸rfl) (rG (R:=P.R) (S:=λp=>p∈q) z3 λp=>⟨λh=>⟨z4 p h,h⟩,λh=>h.2⟩) (λH'=>.v rfl) λs t3 H3 N3 zw k3=>⟨(neV (JJ (f:=plC) (N3.T.gL zw) (N3.T.gL (k3 _ _ z7)) (jO _) (jO _) oh)).trans (ab (λz=>some (!z)) (cn rfl)),?_⟩
 refine frL (ys:=aH) (f:=.str) (a:=440) (I:=λi H u=>LwS O f P F Y Q (λU=>U V=some (.aq ((Fr F q).map iC))) (λw=>pw w/\∀x∈aH.take i,Mvd P.R q x w) H/\∀k,k<22->u k=upd (upd (upd L 16 (.int j)) 17 (.ref V)) 18 (.ref z6) k) .c ⟨⟨o,w,t3,N3,k3 _ _ (k1 _ _ v).1,k3 _ _ (k1 _ _ r).1,c.keep λb l d h=>k3 _ _ (k1 _ _ h).1,k3 _ _ (k1 _ _ X).1,hp,λd h=>absurd h cp⟩,λd d=>rfl⟩ ?_ ?_ ?_
 ·rintro i H' u ⟨⟨_,_,_,N,_⟩,_⟩
  exact N.T.gs
 ·rintro i x H4 L4 K' hx ⟨J,a⟩ zy
  have mv:∀{x w G},w <+: G->Mvd P.R q x w->Mvd P.R q x G:=λh g e=>(g e).imp λk h'=>⟨h'.1,h.subset h'.2⟩
  refine GZ (pw:=λw=>pw w/\∀x∈aH.take i,Mvd P.R q x w) (λw G h g=>⟨z0 w G h g.1,λx hx=>mv h (g.2 x hx)⟩) T0 S z1 z2 z5 hq (be hx) J ⟨(a 7 (by decide)).trans m.l7,(a 8 (by decide)).trans m.l8,(a 9 (by decide)).trans m.l9,(a 10 (by decide)).trans m.l10,(a 11 (by decide)).trans m.l11,(a 12 (by decide)).trans m.l12,(a 15 (by decide)).trans m.l15⟩ (a 16 (by decide)) (a 17 (by decide)) λ{H5 L5} J5 zu=>zy.nxt ⟨?_,λk hk=>(zu k hk).trans (a k hk)⟩
  obtain⟨o,w,U,N,v,r,c,X,⟨hp,hd⟩,hn⟩:=J5
  exact⟨o,w,U,N,v,r,c,X,hp,λy hy=>by
   rw[eI,hx] at hy
   exact(dC.mp hy).elim (hd y) λhy=>bc.mp hy▸hn⟩
 ·rintro H4 L4 ⟨⟨o,w,U,N,v,r,c,_,hp⟩,a⟩
  exact W.nil (hK ⟨o,w,U,N,v,r,c,trivial,hp⟩ λk hk=>(a k (gd hk (by decide))).trans ((aZ (by lia)).trans ((aZ (by lia)).trans (aZ (by lia)))))
end
structure WkP(R:List aI)(i:Nat)(w:Bz):Prop where
 le:i<=w.length
 z:0∈w
 dn:∀k j q x,k<i->w[k]?=some j->(CC R)[j]?=some q->x∈aH->Mvd R q x w
theorem Mvd.mono{q:BM}{w:Bz}(h:w <+: z)(g:Mvd R q x w):Mvd R q x z:=λe=>(g e).imp λk Q=>⟨Q.1,h.subset Q.2⟩
theorem EK{α:Type}{l z:List α}(h:l <+: z){k:Nat}{a:α}(e:l[k]?=some a):z[k]?=some a:=(yo h (a6.mp e).1).trans e
section
variable{w Q:Bz}
theorem WkP.mono(h:w <+: Q)(g:WkP R i w):WkP R i Q:=⟨ae g.le h.length_le,h.subset g.z,λk j q x y Y U v=>(g.dn k j q x y ((yo h (cf y g.le)).symm.trans Y) U v).mono h⟩
theorem WkP.next{q:BM}(g:WkP R i w)(v:w[i]?=some j)(J:(CC R)[j]?=some q)(h:∀x∈aH,Mvd R q x w):WkP R (i+1) w:=
 ⟨(a6.mp v).1,g.z,λk o O x U y Y V=>(hZ (db U)).elim (λU=>g.dn k o O x U y Y V) λe=>by
  subst e
  cases v.symm.trans y
  cases J.symm.trans Y
  exact h x V⟩
theorem WkP.all(G:GoodR R)(h:WkP R w.length w):(CC R).length<=w.length:=by
 have key:∀j,j<(CC R).length->j∈w:=by
  intro j
  induction j using Nat.strongRecOn with
  | ind j v=>
   intro y
   rcases(dZ G).rch j _ (bm y) with rfl | ⟨i,p,x,Y,V,J,o,e⟩
   ·exact h.z
   ·obtain⟨k,U⟩:=iq.mp (v i Y (gd Y y))
    obtain⟨m,O,f⟩:=h.dn k i p x (a6.mp U).1 U V J o
    exact Em G (bm y) (e▸O)▸f
 have:=cj mo λj y=>key j (du.mp y)
 rwa [eh] at this
end
section
variable{P:Par}{w U:TY}{H z:CH}{n c t v Q:Nat}{y:Bz}{L:EN}
theorem W.Oa{Q:Ap}{k:CV}(N:Now z w P Y H)(o:∀T:CV->St->Prop,(∀c,H.free c->T (.ref c) ⟨H.aA c p,L⟩)->wpE V M (.co j f g J) ⟨H,L⟩ T X)(C:k.keyOk=true)
(r:∀b c U O,Now z w P U O->U b=some (.aq p)->U c=some (.aJ [(k,.ref b)])->z.free c->Ka Y U->aj V M l ⟨O,upd L i (.ref c)⟩ Q X):aj V M (.asg (.n i) (.d1 (.c k) (.co j f g J))::l) ⟨H,L⟩ Q X:=
 o (λy st=>k.keyOk=true/\∀c,st.H.free c->aj V M l ⟨st.H.bx c [(k,y)],upd st.L i (.ref c)⟩ Q X) λb B=>N.nL (G:=λH=>k.keyOk=true/\∀c,H.free c->aj V M l ⟨H.bx c [(k,.ref b)],upd L i (.ref c)⟩ Q X) B λU O a A e D=>⟨C,λc E=>a.nD (G:=λH=>aj V M l ⟨H,upd L i (.ref c)⟩ Q X) E λI h s d m x=>r b c I h s (x _ _ A).1 d m (D.aa.t x.aa)⟩
theorem MR{FQ:Ap}(T:Typed P Y H)(G:GoodR P.R)(hr:Y v=some (.aq (P.R.map dP)))(A:Y t=some .table)(r:jM P.R Y (CC P.R).length P.acE P.goE)(D:Y Q=some (.aq (y.map .ref)))(ha:dN (λa q=>Y a=some (.stL q)) y (CC P.R))
(l3:L 3=some (.ref v))(l7:L 7=some (.ref t))(c:L 8=some (.ref Q))(z0:∀{H' L'},FQ (.ret (.bool true)) ⟨H',L'⟩):aj (calls fF mF (n+3)) mF (kF.body.drop 8) ⟨H,L⟩ FQ FX:=by
 have E:=ye G
 have z3:=ha.len
 have e8:∀{Y H L},Typed P Y H->Y Q=some (.aq (y.map .ref))->L 8=some (.ref Q)->Ev L H (.b1 .len (.v 8)) (.int (CC P.R).length):=λT D c=>.uw (.v c) (T.lc (T.L D)) ((vR (T.gL D)).trans (by rw[ba,z3])) (cy (cP E rfl))
 have O:=lq T A
 have ne:∀{R:At},R.length=(CC P.R).length->bO H .ne (.int R.length) (.int (CC P.R).length)=some false:=λh=>(neV eqI).trans (ab (λz=>some (!z)) (cn (ab Int.ofNat h)))
 have len:∀{e a} {R:At},Ev L H e (.ref a)->H.dct a=some R->R.length=(CC P.R).length->Ev L H (.b1 .len e) (.int R.length):=λh1 h2 h3=>.uw h1 (T.dc h2) (NF T h2) (cy (cP (h3▸E) rfl))
 refine W.fV (.orF (.cm (len (.att (.v l7) (T.tat A (T.tb A).a32.1)) O.2 r.lg) (e8 T D c) (ne r.lg)) rfl (.cm (len (.att (.v l7) (T.tat A (T.tb A).a31.1)) O.1 r.la) (e8 T D c) (ne r.la))) rfl (W.nil ?_)
 refine W.fn2 (.one (.v l3)) (yq T.now G hr λF z4 cF cW U H1 N1 hF hW k1 B=>⟨_,_,rfl,rfl,?_⟩)
 refine W.fn (.two (.v l3) (.v rfl)) (MQ N1 G (k1 _ _ hr) hW B λf t2 H2 N2 z1 k2=>?_)
 have l:=k1.t k2
 have S:Std P t2 F z4 y t Q cF cW f:=⟨G,l _ _ A,r.keep l,k2 _ _ hF,k2 _ _ hW,B,l _ _ D,ha.mono λa q=>l _ _,z1⟩
 have T2:=N2.T
 clear hF hW k1 k2 l z1 N1 N2 ne len O ha r D A hr
 refine W.Oa T2.now (λQ'=>yw T2 G S.hF B rfl) rfl λcb x t3 H3 N3 hb I z5 k3=>?_
 refine W.newL N3 (.one .c) λo t4 H4 N4 M z6 k4=>?_
 have C:=(dZ G).hd
 obtain⟨z7,nb⟩:=k4 _ _ hb
 have W0:WI P.R F t4 o [(.int 0,.ref cb)] [0]:=⟨fb _ _,λj X=>bc.mp X▸(a6.mp C).1,λp Z=>⟨0,bc.mpr rfl,bc.mp Z▸rfl⟩,cr _,λj X q hq=>by
  rw[bc.mp X] at hq ⊢
  cases C.symm.trans hq
  exact⟨cb,ch rfl,z7,nb⟩⟩
 obtain⟨Lx,eL,s⟩:∃Lx,upd (upd (upd (upd (upd L 9 (.ref cF)) 10 (.ref cW)) 11 (.ref f)) 12 (.ref x)) 15 (.ref o)=Lx/\LwL t Q cF cW f x o Lx:=⟨_,rfl,l7,c,rfl,rfl,rfl,rfl,rfl⟩
 have z8:∀j,j<16->(upd (upd (upd (upd (upd L 9 (.ref cF)) 10 (.ref cW)) 11 (.ref f)) 12 (.ref x)) 15 (.ref o)) j=Lx j:=λj ζ=>eL▸rfl
 refine frW (α:=Nat) (f:=iC) (CC P.R).length (I:=λi H' L'=>LwS H2 t2 P F x o (λζ=>True) (WkP P.R i) H'/\∀k,k<16->L' k=Lx k) (.v rfl) ⟨⟨_,[0],t4,N4,(k4 _ _ I).1,M,W0,trivial,dd _,bc.mpr rfl,λk ζ ζ ζ h=>absurd h (ij k)⟩,z8⟩ ?_
 ·rintro i H5 L5 ⟨⟨d,w,t5,m,z2,V,u,_,Z⟩,b⟩
  have m5:LwL t Q cF cW f x o L5:=⟨(b 7 (by decide)).trans s.l7,(b 8 (by decide)).trans s.l8,(b 9 (by decide)).trans s.l9,(b 10 (by decide)).trans s.l10,(b 11 (by decide)).trans s.l11,(b 12 (by decide)).trans s.l12,(b 15 (by decide)).trans s.l15⟩
  refine⟨ae Z.le u.len,w,m.T.gL V,λhi=>W.nil ?_,Z.le,λj X K hK=>?_⟩
  ·subst hi
   have z9:=eD u.len (Z.all G)
   exact W.ret (.cm (.uw (.v m5.l15) (m.T.lc (m.T.L V)) ((vR (m.T.gL V)).trans (by rw[ba,z9])) (cy (cP E rfl))) (e8 m.T (m.get T2 S.s) m5.l8) (eqI.trans (ab some (cn rfl)))) z0
  ·have hq:=bm (u.lt j (be X))
   exact G0 (pw:=λw=>w[i]?=some j/\WkP P.R i w) (λw w' h g=>⟨EK h g.1,g.2.mono h⟩) T2 S z5 z6 hq (λw h=>be h.1) ⟨d,w,t5,m,z2,V,u,trivial,X,Z⟩ m5 λ{H6 L6} J zz=>hK.nxt ⟨by
    obtain⟨d,w,Y,N,I,M,u,_,⟨h1,h2⟩,h3⟩:=J
    exact⟨d,w,Y,N,I,M,u,trivial,h2.next h1 hq h3⟩,λk hk=>(zz k hk).trans (b k hk)⟩
end
noncomputable def Par.hw(P:Par)(z:Nat):Par:={ P with hash:=z,he:=[] }
section
variable{P:Par}{z Q U:TY}{H w:CH}{n c t g y:Nat}{L:EN}
theorem EL{V:Nat}(N:Now w Q P z H)(o:z t=some .table)(J:z V=some .kH)(O:H.dct V=some []):Now w Q (P.hw V) z (H.bH 35 t (.ref V)):=by
 obtain⟨j,v⟩:=N.T.sat _ _ o
 refine N.bH o (ak v.cls) (λb p f T h=>?_) ⟨j,v.cls,v.a29,v.a30,v.a31,v.a32,v.a34,⟨rfl,J⟩,v.a36,v.a40,v.a41,λk l=>(ca (by lia)).trans (v.no k l)⟩
 cases p
 case kH=>exact⟨h.1,λe=>by have e:V=b:=e;subst e;exact O⟩
 case table=>exact absurd (h.1.trans j.symm) f
 all_goals exact h
theorem MS{x:Ap}(T:Typed P z H)(C:∀a b,z a=some b->b.gr=true)(G:GoodR P.R)(hr:z y=some (.aq (P.R.map dP)))(hg:z g=some .b7)(hk:P.k=P.R.length)(B:P.kq=P.k)(N:P.kn=P.R.length)(A:P.kt=P.R.length)(hz:P.z=true)(D:P.li=0)(E:P.lx=0)(I:P.ly=0)(hm:P.m=0)
(s:P.fe=true)(d:P.ff=false)(m:P.ge=true)(i:P.fz=false)(l3:L 3=some (.ref y))(l4:L 4=some (.ref g))(o:∀{H' L'},x (.ret (.bool true)) ⟨H',L'⟩):aj (calls fF mF (n+6)) mF (kF.body.drop 5) ⟨H,L⟩ x FX:=by
 refine W.nw (.two (.v l4) .c) rfl λt ht=>wG T C G ht hg hk B N A hz D E I hm s d m i λP4 t4 H4 hR V r F k j=>⟨rfl,?_⟩
 have J:=F.get T hr
 rw[← hR] at J j
 have Q:=F.T
 clear F
 show aj _ _ (.asg (.at (.v 7) 35) .d0::kF.body.drop 7) _ _ _
 intro R S
 refine Q.now.nD (G:=λH=>tn (calls fF mF (n+6)) mF (.at (.v 7) 35) (.ref R) ⟨H,upd L 7 (.ref t)⟩ (λst=>aj (calls fF mF (n+6)) mF (kF.body.drop 7) st x FX) FX) S λt5 H5 O f f5 p=>⟨_,rfl,t,427,rfl,(O.T.tb (p _ _ k).1).cls,rfl,?_⟩
 obtain⟨w,U,c⟩:=O.pro .kH f5 f ⟨ak (O.T.D f),λe=>absurd e (p _ _ (Q.tb k).a35.2).2⟩
 have l:Ka t4 (upd t5 R .kH):=λa b h=>c _ _ (p _ _ h).2 (p _ _ h).1
 have v:=l _ _ k
 have X:=(EL w v U (O.T.D f)).T
 have Z:=j.keep l
 have K:=l _ _ J
 clear O w p c f U j J l
 refine W.me (.v rfl) (X.tb v).cls rfl rfl ((X.tb v).no 50 (by decide)) .nil (Ek X.now (P:=P4.hw R) ⟨V.G,V.k,V.kq,V.kn,V.z,V.li,V.m0⟩ r v rfl λM he Y l8 t8 H8 ζ N8 u h8 ζ q ζ=>?_)
 exact MR (n:=n+3) N8.T V.G (u _ _ K) (u _ _ v) (Z.keep u) h8 q l3 rfl rfl o
end
structure GP(R:List aI)(P:Par)(i:Nat):Prop where
 R:P.R=R
 k:P.k=i+1
 kq:P.kq=P.k
 kn:P.kn=P.k
 kt:P.kt=P.k
 km:P.km=P.k
 z:P.z=false
 c:P.c<=2 * i
 li:P.li=0
 lx:P.lx=0
 ly:P.ly=0
 m:P.m=0
 ad:∀r,P.ad r=0
 nk:P.nk=none
 fe:P.fe=true
 ff:P.ff=false
 ge:P.ge=true
 fz:P.fz=false
theorem GP.nx{R:List aI}{j:Nat}(h:GP R P i)(Q:j<=2):GP R (P.wk (P.toPK.nx p b j)) (i+1):=
 ⟨h.R,ab (·+1) h.k,rfl,rfl,rfl,rfl,h.z,h7 h.c Q,h.li,h.lx,h.ly,h.m,h.ad,h.nk,h.fe,h.ff,h.ge,h.fz⟩
section
variable{P:Par}{ty t0 w:TY}{H H0:CH}{n c g c5 z:Nat}{L:EN}
theorem JS:∀{Q:Role},Q.own=true->Q.gr=true:=λ{Q} o=>by cases Q <;> first | rfl | cases o
theorem Typed.owns(T:Typed P ty H):Typed P' (λa=>(ty a).filter Role.own) H:=
 ⟨T.wf,T.f,T.s,λa Q e=>have h:=k0.mp e;(T.sat a Q h.1).Mf h.2⟩
section
variable{Y:PT}{M:MT}{b:FB}{y z:CV}{a:Nat}{U:B2}{Q:Ap}{d k:Nat}
theorem Oc{Q:Da}(N:Now H0 t0 P ty H)(D:Ev L H J (.ref a))(E:Ev L H O y)(I:Ev L H p z)(g:H.getL a=some m)(h:cut m y z=some m')(r:∀c B A,Now H0 t0 P B A->B c=some (.aq m')->K1 c ty B->wpE Y M (.co V T (.val (.c (.ref c))) j) ⟨A,L⟩ Q X):wpE Y M (.co V T (.val (.sl J O p)) j) ⟨H,L⟩ Q X:=
 D _ _ _ _ (E _ _ _ _ (I _ _ _ _ ⟨m,m',g,h,λc s=>N.nL (G:=λH=>wpE Y M (.co V T (.val (.c (.ref c))) j) ⟨H,L⟩ Q X) s λB A F R S k=>r c B A F R k⟩))
theorem Jv(N:Now H0 t0 P ty H)(D:Ev L H J (.ref a))(E:Ev L H O y)(I:Ev L H p z)(g:H.getL a=some m)(h:cut m y z=some m')(r:∀c B A,Now H0 t0 P B A->B c=some (.aq m')->K1 c ty B->aj Y M (.fr T (.val (.c (.ref c))) b o::l) ⟨A,L⟩ Q X):aj Y M (.fr T (.val (.sl J O p)) b o::l) ⟨H,L⟩ Q X:=
 D _ _ _ _ (E _ _ _ _ (I _ _ _ _ ⟨m,m',g,h,λc s=>N.nL (G:=λH=>aj Y M (.fr T (.val (.c (.ref c))) b o::l) ⟨H,L⟩ Q X) s λB A F R S k=>r c B A F R k⟩))
theorem MU{l:List Int}:cut (l.map .int) .none (.int 12)=some ((l.take 12).map .int):=(rfl:_=some ((l.map CV.int).take 12)).trans (ab some (map_take (f:=CV.int)).symm)
theorem Od{st:St}{Q:Da}{b:Nat}(h:st.H.getL a=some m)(B:st.H.getL b=some m')(N:m.length+m'.length<=szl)(r:∀c,st.H.free c->Q (.ref c) { st with H:=st.H.aA c (m++m') }):opV .add (.ref a) (.ref b) st Q:=⟨_,_,h,B,N,r⟩
namespace W
theorem JT(N:Now H0 t0 P ty H)(A:Ev L H e v)(h:∀D,Evs L D C U)(r:∀c w B,Now H0 t0 P w B->w c=some (.aq [v])->K1 c ty w->Y f U B λy E=>opV .add (.ref c) y ⟨E,L⟩ λv st=>aj Y M l ⟨st.H,upd st.L i v⟩ Q X):aj Y M (.asg (.n i) (.op .add (.li [e]) (.fn f C))::l) ⟨H,L⟩ Q X:=
 A _ _ _ _ λc I=>N.nL (G:=λB=>wpE Y M (.fn f C) ⟨B,L⟩ (λy st=>opV .add (.ref c) y st λv st=>aj Y M l ⟨st.H,upd st.L i v⟩ Q X) X) I λw B s g F k=>h B _ _ _ _ (r c w B s g k)
theorem Oe(N:Now H0 t0 P ty H)(h:Evs L H C U)(D:bu d=true)(r:∀c w B,Now H0 t0 P w B->w c=some (.aq U)->K1 c ty w->∀b,B.free b->Y (iO d) [.ref b,.ref c] (B.setC b d) λr A=>r=.none/\aj Y M l ⟨A,upd L i (.ref b)⟩ Q X):aj Y M (.asg (.n i) (.nw d [.li C])::l) ⟨H,L⟩ Q X:=
 h _ _ _ _ λc E=>N.nL (G:=λB=>bu d=true/\∀b,B.free b->Y (iO d) [.ref b,.ref c] (B.setC b d) λr A=>r=.none/\aj Y M l ⟨A,upd L i (.ref b)⟩ Q X) E λw B I g s k=>⟨D,r c w B I g k⟩
theorem MV(N:Now H0 t0 P ty H)(E:Ev L H J (.ref c))(I:H.cls c=some d)(h:bu d=true)(F:M d k=some f)(R:H.att k c=none)(S:Ev L H O x)(W:Ev L H p (.tup U))(Z:U.length<=szl)(r:∀s w B,Now H0 t0 P w B->w s=some (.aq U)->K1 s ty w->Y f [.ref c,x,.ref s] B λD A=>aj Y M l ⟨A,L⟩ Q X):aj Y M (.ex (.me J k [O,.b1 .list p])::l) ⟨H,L⟩ Q X:=
 E _ _ _ _ ⟨c,d,f,rfl,I,h,F,R,S _ _ _ _ (W _ _ _ _ ⟨U,rfl,Z,λs K=>N.nL (G:=λB=>Y f [.ref c,x,.ref s] B λD A=>aj Y M l ⟨A,L⟩ Q X) K λw B G g D k=>r s w B G g k⟩)⟩
end W
end
inductive GrI(H0:CH)(t0:TY)(R:List aI)(g c5 c7:Nat)(t8:TY)(i:Nat)(H:CH)(L:EN):Prop
 | mk (P:Par) (ty:TY) (N:Now H0 t0 P ty H) (k:Ka t8 ty) (q:GP R P i) (l3:L 3=some (.ref c5)) (l4:L 4=some (.ref g))
theorem Of{V:Nat}{j:List Int}(h1:V≠439)(h2:V≠440)(zw:j.length<=63):calls fF mF (n+8) 492 [.ref V] (nE V j) (λv Q=>v=.bool true):=by
 refine cB [.ref V] (d:=kF) rfl rfl rfl rfl λFQ C Q=>?_
 have T0:Typed { R:=[] } (λQ=>none) (nE V j):=⟨⟨λa Q=>⟨rfl,rfl,rfl⟩,λa h=>absurd rfl h,λa h=>absurd rfl h,λa h=>absurd rfl h,λa Q n=>rfl⟩,rfl,rfl,nix⟩
 have g0:(nE V j).getL V=some (j.map .int):=(ca h1).trans ((ca h2).trans (ch rfl))
 have hz:(j.take 12).length<=12:=length_take_le _ _
 refine W.JI (Oc T0.now (.v rfl) .c .c g0 MU λc1 w H1 Z g1 k1=>coM (ys:=j.take 12) (λi=>.list c1 i) (λQ z=>.int z) (λQ z L=>upd L 2 (.int z)) (λQ Q Q=>rfl) (gZ .c (Z.T.gL g1)) (λi=>bU (Z.T.gL g1)) (cP hz rfl) (λz=>.int (z % 720720)) (λi z L' Q=>.mod (.v rfl) .c (by decide)) λu t=>?_)
 refine Z.nL (l:=(j.take 12).map λz=>.int (z % 720720)) (G:=λH=>aj (calls fF mF (n+7)) mF (kF.body.drop 1) ⟨H,upd (locs 0 [.ref V]) 1 (.ref u)⟩ FQ FX) t λt2 H2 N2 b f2 k2=>?_
 have b:t2 u=some (.aq (((j.take 12).map (· % 720720)).map .int)):=b.trans (by rw[map_map];rfl)
 refine W.JT N2 (.tu (.two .c (.tu (.one .c)))) (λQ=>.one (.v rfl)) λc3 t3 H3 N3 g3 c=>yg N3 (c _ _ b).1 f2 λc4 y t4 H4 S g4 k4 Y=>?_
 have B:=k4 _ _ (en (c _ _ b).2) g3
 have G:GoodR ((sP,[sS])::y):=GA Y
 refine Od (S.T.gL B) (S.T.gL g4) (by rw[ba];exact cy (cP (b:=10) (by have:=Y.len.2;show 1+_<=10;lia) rfl)) λc5 D=>?_
 refine S.nL (l:=((sP,[sS])::y).map dP) (G:=λH=>aj (calls fF mF (n+7)) mF (kF.body.drop 2) ⟨H,upd (upd (locs 0 [.ref V]) 1 (.ref u)) 3 (.ref c5)⟩ FQ FX) D λt5 H5 N5 g5 Q Q=>?_
 generalize (sP,[sS])::y=R at g5 G
 have T5:=N5.T
 clear N5 S B g4 k4 g3 c b k2 D
 refine W.Oe T5.now (.two .c .c) rfl λc6 t6 H6 N6 g6 k6 g hg=>?_
 have z0:=(k6 _ _ g5).1
 have zq:=G.len.2
 refine xY (R:=R) (P:={ R:=R }) N6.T.owns (λa O e=>(k0.mp e).2) hg (k0.mpr ⟨g6,rfl⟩) λt7 H7 A N7 hA z1 z2=>⟨rfl,?_⟩
 have E:=N7.get (P':={ R:=R }) N6.T.owns (k0.mpr ⟨z0,rfl⟩)
 refine Jv N7 (.v rfl) .c .c (N7.T.gL E) (rfl:_=some ((R.map dP).drop 1)) λc7 t8 H8 N8 g8 k8=>?_
 have z3:=(k8 _ _ E).1
 have U:=(k8 _ _ z2).1
 refine frP (ys:=R.drop 1) (f1:=λr=>.str r.1) (f2:=λr=>.tup (r.2.map .str)) (a:=c7) (I:=GrI _ _ R g c5 c7 t8) .c ⟨_,t8,N8,λQ Q h=>h,⟨rfl,rfl,rfl,rfl,rfl,rfl,rfl,dd _,rfl,rfl,rfl,rfl,λQ=>rfl,z1,rfl,rfl,rfl,rfl⟩,rfl,rfl⟩ ?_ ?_ ?_
 ·rintro i H' L' ⟨P,ty,N,k,_⟩
  rw[map_drop]
  exact N.T.gL (k _ _ g8)
 ·rintro i zy H9 L9 K I ⟨P,t9,M,l,q,l3,d⟩ hK
  rw[getElem?_drop,kb] at I
  have z4:=(a6.mp I).1
  have m:=M.T.gr (l _ _ U)
  have T:=G.ln (i+1)
  rw[ig I] at T
  refine W.MV M (.v d) m.cls rfl rfl (m.no 42 (by decide)) (.v rfl) (.v rfl) (jI (ae T (by decide))) λs F z5 x z6 J=>?_
  exact A9 x ⟨q.R▸G,⟨q.k▸ft i,q.k▸q.R.symm▸z4⟩,q.kq,q.kn,q.kt,q.km,q.li,q.lx,Int.le_of_eq q.m.symm,q.ad,q.nk⟩ (J _ _ (l _ _ U)).1 (ae q.c (by lia)) (q.R▸q.k▸fH I) (q.R▸q.k▸ig I) z6 λz7 zu p f z8 z9=>hK.nxt ⟨_,z7,z8,l.t (J.aa.t z9),q.nx T,l3,d⟩
 rintro H9 L9 ⟨P,t9,M,l,q,l3,d⟩
 rw[ki] at q
 have X:P.k=P.R.length:=by rw[q.k,q.R];have:=G.len.1;lia
 have m:=M.T.gr (l _ _ U)
 refine W.nil (W.DC (.v d) m.cls rfl rfl (m.no 43 (by decide)) (.one .c) (x8 M (q.R▸G) (l _ _ U) X q.kq q.kn q.kt q.z q.li q.lx (ae q.c (by lia)) (q.ad 0) (Int.le_of_eq q.m.symm) λF z5 p x J=>?_))
 have zz:=(x.only λa O e=>JS (k0.mp e).2).T
 have kk:∀a O,O.gr=true->t8 a=some O->mh F a=some O:=λa O o h=>jG (J _ _ (l _ _ h)) o
 exact MS (n:=n+1) zz (λa O e=>(iH e).2) (q.R▸G) (q.R▸kk _ _ rfl z3) (kk _ _ rfl U) X q.kq (q.kn.trans X) (q.kt.trans X) rfl q.li q.lx q.ly q.m q.fe q.ff q.ge q.fz l3 d (C rfl)
end
end Mine.Internal
theorem PySem.Challenge.cw_rp0002_01_holds : PySem.Challenge.rw_rp0002_01.Holds :=
 Mine.Internal.holds_of λL ns h1 h2 h3=>Mine.Internal.Of (n:=22) h1 h2 h3
