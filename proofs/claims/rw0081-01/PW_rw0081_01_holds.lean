import PyProof.Rows.All
import Wide.All
import OpenK.AllK
import Wide.FinOn
import PySem.Challenge.RW_rw0081_01
set_option Elab.async false
set_option genInjectivity false
set_option genSizeOf false
set_option genSizeOfSpec false
set_option genCtorIdx false
set_option linter.all false
set_option maxRecDepth 100000
set_option maxHeartbeats 8000000
open PySem PySem.W PyProof.Rows
namespace Mine
abbrev aM:=@List.getElem?_append_right
abbrev b8:=@List.isPrefixOf_iff_prefix
abbrev aZ:=@List.getD_eq_getElem?_getD
abbrev aa:=@Classical.byContradiction
abbrev a_:=@List.getElem?_append_left
abbrev aS:=@List.getElem?_eq_some_iff
abbrev cH:=@List.drop_eq_getElem_cons
abbrev aQ:=@List.getElem?_eq_getElem
abbrev c5:=@Nat.add_sub_cancel_left
abbrev b9:=@wpAny_callSpecial?_slot
abbrev aC:=@Heap.get?_push_of_some
abbrev aH:=@Option.map_eq_some_iff
abbrev aA:=@Nat.le_of_ble_eq_true
abbrev dG:=@Nat.le_sub_of_add_le'
abbrev aT:=@List.mem_append_right
abbrev dF:=@Nat.le_of_sub_eq_zero
abbrev bz:=@Nat.add_le_of_le_sub'
abbrev cX:=@Heap.get?_update_self
abbrev aj:=@List.mem_cons_of_mem
abbrev bd:=@Nat.add_le_of_le_sub
abbrev bl:=@List.mem_append_left
abbrev aW:=@List.mem_of_getElem?
abbrev aL:=@List.forall_mem_cons
abbrev cg:=@Bool.and_eq_true_iff
abbrev aI:=@Heap.get?_push_size
abbrev aD:=@Array.length_toList
abbrev b7:=@beq_eq_false_iff_ne
abbrev cw:=@Nat.add_sub_cancel'
abbrev bT:=@List.getElem?_range
abbrev ae:=@Nat.lt_of_lt_of_le
abbrev au:=@Nat.lt_of_le_of_lt
abbrev al:=@List.mem_cons_self
abbrev aK:=@Int.natCast_nonneg
abbrev aG:=@List.length_append
abbrev aq:=@List.mem_singleton
abbrev dz:=@Obj.data_mapFields
abbrev az:=@List.getElem?_map
abbrev ar:=@decide_eq_true_eq
abbrev bu:=@List.append_assoc
abbrev bp:=@Nat.le_of_lt_succ
abbrev cK:=@Nat.lt_succ_of_le
abbrev aR:=@Int.toNat_natCast
abbrev cy:=@List.length_range
abbrev bF:=@wpAny_newObj_type
abbrev ay:=@Nat.le_add_right
abbrev ag:=@Bool.and_eq_true
abbrev aV:=@wpAny_execs_cons
abbrev aU:=@List.length_cons
abbrev aY:=@List.length_drop
abbrev bx:=@List.length_take
abbrev dc:=@Nat.succ_le_succ
abbrev be:=@Nat.le_of_not_lt
abbrev bB:=@Option.bind_some
abbrev bO:=@Nat.lt_succ_self
abbrev ap:=@List.all_eq_true
abbrev cF:=@wpAny_call_entry
abbrev am:=@Option.some.inj
abbrev ao:=@Nat.le_add_left
abbrev af:=@List.length_map
abbrev ba:=@decide_eq_false
abbrev c4:=@List.nil_append
abbrev bE:=@List.append_nil
abbrev bM:=@List.map_append
abbrev aP:=@List.mem_append
abbrev dD:=@Int.natCast_add
abbrev aO:=@decide_eq_true
abbrev bS:=@List.mem_range
abbrev bP:=@wpAny_standAt
abbrev aX:=@wpAny_holding
abbrev bj:=@List.map_cons
abbrev ah:=@List.mem_cons
abbrev ab:=@Nat.le_trans
abbrev aw:=@Nat.le_of_eq
abbrev aE:=@Nat.le_of_lt
abbrev bQ:=@Nat.ne_of_lt
abbrev bV:=@Nat.ne_of_gt
abbrev bL:=@Heap.lt_size
abbrev cC:=@Int.ofNat_le
abbrev cR:=@Int.ofNat_lt
abbrev bn:=@Int.le_of_lt
abbrev aF:=@Nat.le_refl
abbrev bY:=@wpAny_field
abbrev bo:=@Nat.zero_le
abbrev ac:=@wpAny_bind
abbrev aB:=@wpAny_pure
abbrev bA:=@wpAny_mono
abbrev cz:=@bne_iff_ne
abbrev cO:=@Nat.sub_le
abbrev bH:=@eq_of_beq
theorem c8{p:Prop}[Decidable p](h:decide p=true):p:=of_decide_eq_true h
set_option tactic.hygienic false
set_option backward.match.sparseCases false
variable{depth fu i j k kk n tk:Nat}{x y z:Str}{m mb mg:Str→Option Value}{C I L' a ad cD cI it:Addr}{b:Int}{d:PyData}{s s' s₀ s₁ s₂:Shared}{acc cd doc v:Value}{α β:Type}{o:Obj}{ds total xs ys:List PyData}{lt:Value→Value→Bool}{apos p pos pt px py q:Pos}{test tm:PyData→Option Bool}{elt iter iter2 slice target tgt value:Expr}{op:Operator}{t:Tok}{st:Stmt}{elts ifs ifs2:List Expr}{A:Around}{h h':Heap}{items vs:Array Value}{E Q:Value→Shared→Prop}{is l pl sep u:List Nat}{K env:Env}{P:Nat→Value→Prop}{M M' M₀ M₁ N Nn fp:List Addr}{isc scope:Scope}{G:Value→Prop}{g:Comprehension}{T mid us ws:List (List Nat)}{ls:List (List Int)}{vals:List Value}{gens rest:List Comprehension}{cl:Str→Option Addr}{names:List (Str×NameKind)}{fm:PyData→Option PyData}{R:Result→Shared→Prop}{X:Addr→Shared→Prop}{St:Nat→Heap→Prop}{RR:Value→Addr→Result→Shared→Prop}{body orelse sts:List Stmt}{ps:List (List (List Nat)×Nat)}{fd:FuncData}{gs:GenState}{params:Arguments}{clos:List (Str×Addr)}{loose:List Str}{mean:ExcName→Option Value}
section
theorem iy{z:Int}(h:n≤k)(h2:(k:Int)<z):(n:Int)<z:=Int.lt_of_le_of_lt (cC.mpr h) h2
theorem vo{z:Int}(h:n≤k)(h2:(k:Int)≤z):(n:Int)≤z:=Int.le_trans (cC.mpr h) h2
theorem xZ(h:0<n):(n:Int)≠0:=λz=>bV h (Int.natCast_eq_zero.mp z)
theorem sr(m:Nat):m=m / 2+(m-m / 2):=(cw (Nat.div_le_self m 2)).symm
theorem ua(l m:Nat):l+m=l+m / 2+(m-m / 2):=by rw[Nat.add_assoc,cw (Nat.div_le_self m 2)]
theorem xx{m:Nat}(h:1≤m):1≤m-m / 2:=Nat.sub_pos_of_lt (Nat.div_lt_self h (by decide))
theorem wJ{m:Nat}(h:1≤m)(h1:¬m=1):1≤m / 2:=Nat.div_pos (Nat.lt_of_le_of_ne h (Ne.symm h1)) (by decide)
theorem w9{m:Nat}(h:m≤2*k):m-m / 2≤k:=by
 refine Nat.sub_le_of_le_add ?_
 rcases Nat.lt_or_ge (m / 2) k with q | q
 ·have:=Nat.div_add_mod m 2
  refine ab (aw this.symm) ?_
  rw[Nat.two_mul,Nat.add_assoc,Nat.add_comm k]
  exact Nat.add_le_add_left (ab (Nat.add_le_add_left (bp (Nat.mod_lt m (by decide))) _) q) _
 ·exact ab h (Nat.two_mul k▸Nat.add_le_add_left q k)
theorem Gm{a b c d:Nat}(e:b=a)(h:b≤c)(h2:d≤a)(q:c<d):False:=absurd (ab h2 (ab (aw e.symm) h)) (Nat.not_le_of_lt q)
theorem oF{s m:Nat}(h:s+(m+1)≤n):s+1+m≤n:=ab (aw (Nat.succ_add_eq_add_succ s m)) h
set_option genCtorIdx true in
inductive V where
 |d (x:PyData)
 |r (a b c:Int)
 |o (xs:List PyData)
set_option genCtorIdx true in
inductive Slot where
 |un
 |sh (v:V)
 |ow (xs:List PyData)
 |mx (k n:Nat)
noncomputable abbrev Ev:=List Slot
noncomputable def IV:Slot→Option V
 |.un=>none
 |.sh v=>some v
 |.ow xs=>some (.o xs)
 |.mx _ _=>none
noncomputable def Il:Slot→Option (List PyData)
 |.ow xs=>some xs
 |_=>none
noncomputable def rd(ρ:Ev)(i:Nat):Option V:=ρ[i]?.bind IV
noncomputable def za(ρ:Ev)(i:Nat):Option (List PyData):=ρ[i]?.bind Il
noncomputable def V.fz:V→V
 |.o xs=>.d (.list xs)
 |v=>v
noncomputable def V.own:V→Bool
 |.o _=>true
 |_=>false
noncomputable def iz(i:Int):Bool:=decide (i.natAbs<2^3000)
noncomputable def c0(n:Nat):Bool:=decide (n≤2^20)
noncomputable def kq:V→Option PyData
 |.d x=>some x
 |_=>none
noncomputable def BM:PyData→Option Str
 |.str x=>some x
 |_=>none
noncomputable def t9:PyData→Option Int
 |.int x=>some x
 |_=>none
noncomputable def Bx:PyData→Option (List PyData)
 |.list x=>some x
 |_=>none
noncomputable def jh(v:V):Option Str:=(kq v).bind BM
noncomputable def dM(v:V):Option Int:=(kq v).bind t9
noncomputable def g8(v:V):Option (List PyData):=(kq v).bind Bx
theorem vp{x y:PyData}(h:V.d x=V.d y):x=y:=am (congrArg kq h)
theorem kl{x:Str}(h:BM d=some x):d=.str x:=by cases d<;>first | (cases h;rfl) | cases h
theorem gL{x:Int}(h:t9 d=some x):d=.int x:=by cases d<;>first | (cases h;rfl) | cases h
theorem nQ{x:List PyData}(h:Bx d=some x):d=.list x:=by cases d<;>first | (cases h;rfl) | cases h
theorem eO{v:V}(h:kq v=some d):v=.d d:=by cases v<;>first | (cases h;rfl) | cases h
theorem aJ{o:Option α}{f:α→Option β}{b:β}(h:o.bind f=some b):∃a,o=some a∧f a=some b:=Option.bind_eq_some_iff.mp h
theorem bc{o:Option α}{f:α→Option β}{a:α}{r:Option β}(h:o=some a)(k:f a=r):o.bind f=r:=by rw[h];exact k
theorem cq{c:Prop}[Decidable c]{x r:α}(h:(if c then some x else none)=some r):c∧x=r:=by
 by_cases q:c
 ·replace h:=if_pos q▸h;cases h;exact⟨q,rfl⟩
 ·replace h:=if_neg q▸h;cases h
theorem dn{c:Prop}[Decidable c]{o:Option α}{b:α}(h:(if c then o else none)=some b):c∧o=some b:=by
 by_cases q:c
 ·rw[if_pos q] at h;exact⟨q,h⟩
 ·rw[if_neg q] at h;cases h
theorem mW{ρ:Ev}{i:Nat}(h:za ρ i=some xs):ρ[i]?=some (.ow xs):=by
 obtain⟨a,h1,h2⟩:=aJ h
 rw[h1];cases a<;>cases h2;rfl
theorem nk{ρ:Ev}{i:Nat}(h:ρ[i]?=some (.ow xs)):za ρ i=some xs:=bc h rfl
theorem fH{v:V}{x:Str}(h:jh v=some x):v=.d (.str x):=by
 obtain⟨d,h1,h2⟩:=Option.bind_eq_some_iff.mp h
 rw[eO h1,kl h2]
theorem dk{v:V}{x:Int}(h:dM v=some x):v=.d (.int x):=by
 obtain⟨d,h1,h2⟩:=Option.bind_eq_some_iff.mp h
 rw[eO h1,gL h2]
theorem fF{v:V}{x:List PyData}(h:g8 v=some x):v=.d (.list x):=by
 obtain⟨d,h1,h2⟩:=Option.bind_eq_some_iff.mp h
 rw[eO h1,nQ h2]
noncomputable def Hw:PyData→Option Bool
 |.none=>some false
 |.bool b=>some b
 |.int i=>some (i != 0)
 |.str x=>if c0 x.length then some (x.length != 0) else none
 |.list xs=>if c0 xs.length then some (!xs.isEmpty) else none
 |_=>none
noncomputable def dC(v:V):Option Bool:=(kq v).bind Hw
noncomputable def i_:Operator→Int→Int→Option Int
 |.Add,a,b=>some (a+b)
 |.Sub,a,b=>some (a-b)
 |.Mult,a,b=>if iz a&&iz b then some (a*b) else none
 |.FloorDiv,a,b=>if b != 0&&iz b then some (a.fdiv b) else none
 |.Mod,a,b=>if b != 0&&iz b then some (a.fmod b) else none
 |.Pow,a,n=>if iz a&&decide (0≤n)&&decide (n≤1000) then some (a^n.toNat) else none
 |.LShift,a,n=>if iz a&&decide (0≤n)&&decide (n≤8000) then some (a*2^n.toNat) else none
 |.RShift,a,n=>if decide (0≤n) then some (a.fdiv (2^n.toNat)) else none
 |.BitAnd,a,b=>some (Builtin.bitAnd a b)
 |.BitOr,a,b=>some (Builtin.bitOr a b)
 |.BitXor,a,b=>some (Builtin.bitXor a b)
 |_,_,_=>none
noncomputable def GK(op:Operator)(a b:Str):Option V:=match op with
 |.Add=>if c0 (a.length+b.length) then some (.d (.str (a++b))) else none
 |_=>none
noncomputable def GS(op:Operator)(a:List PyData)(y:PyData):Option V:=match op with
 |.Add=>(Bx y).bind λb=>if c0 (a.length+b.length) then some (.d (.list (a++b))) else none
 |.Mult=>(t9 y).bind λn=>if decide (0≤n)&&c0 n.toNat&&c0 (a.length*n.toNat) then some (.d (.list (List.replicate n.toNat a).flatten)) else none
 |_=>none
noncomputable def I6(op:Operator)(x y:PyData):Option V:=match x with
 |.int a=>(t9 y).bind λb=>(i_ op a b).bind λc=>some (.d (.int c))
 |.str a=>(BM y).bind λb=>GK op a b
 |.list a=>GS op a y
 |_=>none
noncomputable def k7(op:Operator)(x y:V):Option V:=(kq x).bind λa=>(kq y).bind λb=>I6 op a b
noncomputable def Ks:UnaryOp→V→Option V
 |.USub,v=>(dM v).bind λa=>some (.d (.int (-a)))
 |.Invert,v=>(dM v).bind λa=>some (.d (.int (Builtin.bitNot a)))
 |.Not,v=>(dC v).bind λb=>some (.d (.bool (!b)))
 |.UAdd,_=>none
noncomputable def IE:PyData→Bool
 |.none=>true
 |.bool _=>true
 |_=>false
noncomputable def fY(d:PyData):Bool:=SeqAt.shaped d
noncomputable def xn(y x:Str):Bool:=!(Builtin.Str.occurrences x y 0 x.length 1).isEmpty
noncomputable def Bh(x y:PyData)(f:Int→Int→Bool):Option Bool:=(t9 x).bind λa=>(t9 y).bind λb=>some (f a b)
noncomputable def Je:PyData→Option Bool
 |.bool b=>some b
 |_=>none
noncomputable def HS:PyData→Bool
 |.none=>true
 |_=>false
noncomputable def nS(x y:PyData):Bool:=match x with
 |.none=>HS y
 |.bool a=>Je y==some a
 |_=>false
noncomputable def Gp(x y:PyData):Option Bool:=if IE y then some (nS x y) else none
noncomputable def KK(x y:PyData):Option Bool:=match y with
 |.str t=>(BM x).bind λp=>some (xn p t)
 |.list ys=>if fY x&&ys.all fY then some (ys.any λz=>PyData.eqv z x) else none
 |_=>none
noncomputable def vT(op:CmpOp)(x y:PyData):Option Bool:=match op with
 |.Eq=>if fY x&&fY y then some (PyData.eqv x y) else none
 |.NotEq=>if fY x&&fY y then some (!PyData.eqv x y) else none
 |.Is=>Gp x y
 |.IsNot=>(Gp x y).bind λb=>some (!b)
 |.In=>KK x y
 |.NotIn=>(KK x y).bind λb=>some (!b)
 |.Lt=>Bh x y λa b=>decide (a<b)
 |.LtE=>Bh x y λa b=>decide (a≤b)
 |.Gt=>Bh x y λa b=>decide (a>b)
 |.GtE=>Bh x y λa b=>decide (a≥b)
noncomputable def vS(op:CmpOp)(x y:V):Option V:=(kq x).bind λa=>(kq y).bind λb=>(vT op a b).bind λk=>some (.d (.bool k))
noncomputable def lB(a b c:Int):Nat:=(Builtin.Range.rangeSize a b c).toNat
noncomputable def jy(a b c:Int):List PyData:=(List.range (lB a b c)).map λ(i:Nat)=>.int (a+(i:Int)*c)
noncomputable def mJ(a b c:Int):Bool:=Builtin.Range.small a b c&&decide (0≤Builtin.Range.rangeSize a b c)&&c0 (lB a b c)
noncomputable def Gl:PyData→Option (List PyData)
 |.list xs=>if c0 xs.length then some xs else none
 |.tuple xs=>if c0 xs.length then some xs else none
 |_=>none
noncomputable def fB:V→Option (List PyData)
 |.d x=>Gl x
 |.r a b c=>if mJ a b c then some (jy a b c) else none
 |.o _=>none
noncomputable def iT(xs:List PyData)(i:Int):Option PyData :=
 if 0≤i∧i<2^62 then xs[i.toNat]?
 else if i<0∧-(xs.length:Int)≤i∧xs.length<2^62 then xs[(xs.length+i).toNat]? else none
noncomputable def K3:V→Option (List PyData)
 |.d (.list xs)=>some xs
 |.o xs=>some xs
 |_=>none
noncomputable def IA(x:PyData)(i:Int):Option V:=match x with
 |.list xs=>(iT xs i).bind λd=>some (.d d)
 |.tuple xs=>if 0≤i∧i<2^62 then(xs[i.toNat]?).bind λd=>some (.d d) else none
 |_=>none
noncomputable def wR(x y:V):Option V:=(dM y).bind λi=>match x with
 |.d d=>IA d i
 |.o xs=>(iT xs i).bind λd=>some (.d d)
 |.r _ _ _=>none
noncomputable def fy{α:Type}(xs:List α)(lo hi st:Option Int):List α :=
 (sliceRange (sliceBounds lo hi st xs.length).1 (sliceBounds lo hi st xs.length).2.1 (sliceBounds lo hi st xs.length).2.2).filterMap (xs[·]?)
noncomputable def io(xs:List PyData)(lo hi st:Option Int):Option V:=if c0 xs.length&&st != some 0 then some (.d (.list (fy xs lo hi st))) else none
noncomputable def G3(x:PyData)(lo hi st:Option Int):Option V:=match x with
 |.list xs=>io xs lo hi st
 |.str x=>if c0 x.length&&st==none then some (.d (.str (Txt.slice x lo hi))) else none
 |_=>none
noncomputable def kc(v:V)(lo hi st:Option Int):Option V:=match v with
 |.d x=>G3 x lo hi st
 |.o xs=>io xs lo hi st
 |.r _ _ _=>none
set_option genCtorIdx true in
inductive Pf where
 |len | range1 | range3 | sum | chr | listOf | isInt | divmod | sorted
set_option genCtorIdx true in
inductive Pm where
 |join | split | startswith | endswith | find | count | index | bitLength
noncomputable def gA:List PyData→Option (List Int)
 |[]=>some []
 |x::r=>(t9 x).bind λi=>(gA r).map (i::·)
noncomputable def iZ:List PyData→Option (List Str)
 |[]=>some []
 |x::r=>(BM x).bind λi=>(iZ r).map (i::·)
noncomputable def oX:List PyData→Option (List (List Int))
 |[]=>some []
 |x::r=>(Bx x).bind λl=>(gA l).bind λns=>(oX r).map (ns::·)
noncomputable def p9:List Int→List Int→Bool
 |x::xs,y::ys=>if x=y then p9 xs ys else decide (x<y)
 |[],_::_=>true
 |_,[]=>false
noncomputable def wj{α:Type}(lt:α→α→Bool)(x:α):List α→List α
 |[]=>[x]
 |y::r=>if lt x y then x::y::r else y::wj lt x r
theorem uI{x y:Int}{xs ys:List Int}:p9 (x::xs) (y::ys)=if x=y then p9 xs ys else decide (x<y):=rfl
theorem vw{lt:α→α→Bool}{x y:α}{r:List α}:wj lt x (y::r)=if lt x y then x::y::r else y::wj lt x r:=rfl
noncomputable def f_{α:Type}(lt:α→α→Bool):List α→List α
 |[]=>[]
 |x::r=>wj lt x (f_ lt r)
noncomputable def ro(xs:List PyData):Option V:=(gA xs).bind λns=>some (.d (.list ((f_ (λa b=>decide (a<b)) ns).map .int)))
noncomputable def lO:List (List Int)→Bool
 |[]=>true
 |l::r=>r.all λm=>m.length==l.length
noncomputable def og(xs:List PyData):Option V:=(oX xs).bind λls=>if decide (2≤ls.length)&&lO ls&&decide ls.Nodup then some (.d (.list ((f_ p9 ls).map λl=>.list (l.map .int)))) else none
noncomputable def u0(ns:List Int):Bool:=c0 ns.length&&ns.all λi=>decide (i.natAbs≤2^40)
noncomputable def jv:List V→Option V
 |[a]=>some a
 |_=>none
noncomputable def zA:List V→Option (V×V)
 |[a,b]=>some (a,b)
 |_=>none
noncomputable def DQ:List V→Option (V×V×V)
 |[a,b,c]=>some (a,b,c)
 |_=>none
theorem xq{as:List V}{a:V}(h:jv as=some a):as=[a]:=by
 rcases as with _ | ⟨x,_ | ⟨y,r⟩⟩<;>cases h;rfl
theorem sF{as:List V}{p:V×V}(h:zA as=some p):as=[p.1,p.2]:=by
 rcases as with _ | ⟨x,_ | ⟨y,_ | ⟨z,r⟩⟩⟩<;>cases h;rfl
theorem E6{as:List V}{p:V×V×V}(h:DQ as=some p):as=[p.1,p.2.1,p.2.2]:=by
 rcases as with _ | ⟨x,_ | ⟨y,_ | ⟨z,_ | ⟨u,r⟩⟩⟩⟩<;>cases h;rfl
noncomputable def Kg:PyData→Option Nat
 |.list xs=>some xs.length
 |.tuple xs=>some xs.length
 |.str x=>some x.length
 |_=>none
noncomputable def xr:V→Option Nat
 |.d x=>Kg x
 |.o xs=>some xs.length
 |.r _ _ _=>none
noncomputable def gQ:Pf→List V→Option V
 |.len,as=>(jv as).bind λv=>(xr v).bind λn=>if n<2^62 then some (.d (.int n)) else none
 |.range1,as=>(jv as).bind λa=>(dM a).bind λn=>some (.r 0 n 1)
 |.range3,as=>(DQ as).bind λp=>(dM p.1).bind λa=>(dM p.2.1).bind λb=>(dM p.2.2).bind λc=>if c != 0&&iz c then some (.r a b c) else none
 |.sum,as=>(jv as).bind λv=>(g8 v).bind λxs=>(gA xs).bind λns=>if u0 ns then some (.d (.int ns.sum)) else none
 |.chr,as=>(jv as).bind λv=>(dM v).bind λn=>if 0≤n∧n<55296 then some (.d (.str ⟨#[n.toNat]⟩)) else none
 |.listOf,as=>(jv as).bind λv=>(jh v).bind λx=>if c0 x.length then some (.d (.list (x.cps.toList.map λc=>.str ⟨#[c]⟩))) else none
 |.isInt,as=>(jv as).bind λv=>(dM v).bind λ_=>some (.d (.bool true))
 |.sorted,as=>(jv as).bind λv=>(g8 v).bind λxs=>if decide (xs.length<64) then(ro xs).or (og xs) else none
 |.divmod,as=>(zA as).bind λp=>(dM p.1).bind λa=>(dM p.2).bind λb=>if b != 0&&iz b then some (.d (.tuple [.int (a.fdiv b),.int (a.fmod b)])) else none
noncomputable def oz(x y:Str)(a b:Nat):Int:=match Builtin.Str.occurrences x y a b 1 with
 |i::_=>(i:Int)
 |[]=>-1
noncomputable def k6(x:PyData):List PyData→Option Nat
 |[]=>none
 |y::r=>if PyData.eqv y x then some 0 else(k6 x r).map (·+1)
noncomputable def ee(a:Int):Int:=if a=0 then 0 else(a.natAbs.log2+1:Nat)
noncomputable def J3(xs:List PyData)(y:PyData):Option V:=if fY y&&xs.all fY&&c0 xs.length then some (.d (.int (xs.countP λz=>PyData.eqv z y))) else none
noncomputable def iw:Pm→V→List V→Option V
 |.join,v,as=>(jh v).bind λx=>(jv as).bind λa=>(g8 a).bind λys=>(iZ ys).bind λts=>if c0 ts.length&&c0 (ts.length*x.length+(ts.map Str.length).sum) then some (.d (.str (Txt.join x ts))) else none
 |.split,v,as=>(jh v).bind λx=>(jv as).bind λa=>(jh a).bind λy=>if c0 x.length&&y.length != 0 then some (.d (.list ((Txt.split x y).map .str))) else none
 |.startswith,v,as=>(jh v).bind λx=>(jv as).bind λa=>(jh a).bind λy=>some (.d (.bool (Txt.startswith x y)))
 |.endswith,v,as=>(jh v).bind λx=>(jv as).bind λa=>(jh a).bind λy=>some (.d (.bool (Txt.endswith x y)))
 |.find,v,as=>(jh v).bind λx=>(DQ as).bind λp=>(jh p.1).bind λy=>(dM p.2.1).bind λa=>(dM p.2.2).bind λb =>
  if 0≤a∧a≤b∧b≤x.length∧x.length<2^62 then some (.d (.int (oz x y a.toNat b.toNat))) else none
 |.count,v,as=>(g8 v).bind λxs=>(jv as).bind λa=>(kq a).bind λy=>J3 xs y
 |.index,v,as=>(g8 v).bind λxs=>(jv as).bind λa=>(kq a).bind λy=>if fY y&&xs.all fY&&c0 xs.length then(k6 y xs).bind λ(k:Nat)=>some (.d (.int k)) else none
 |.bitLength,v,as=>(dM v).bind λa=>if as.isEmpty then some (.d (.int (ee a))) else none
inductive CE where
 |lit (x:PyData)
 |var (i:Nat)
 |bin (op:Operator) (a b:CE)
 |un (op:UnaryOp) (a:CE)
 |cmp (op:CmpOp) (a b:CE)
 |cmp2 (o1 o2:CmpOp) (a b c:CE)
 |boolop (op:BoolOp) (a b:CE)
 |ite (t a b:CE)
 |list (es:List CE)
 |tup (es:List CE)
 |item (a i:CE)
 |slice (a:CE) (lo hi st:Option CE)
 |call (f:Nat) (es:List CE)
 |prim (f:Pf) (es:List CE)
 |meth (m:Pm) (o:CE) (es:List CE)
 |comp (k:Nat) (elt it:CE) (ifs:List CE)
 |compT (elt it:CE)
 |comp2 (elt a b:CE)
noncomputable abbrev jU:=Nat→List V→Option V
noncomputable def fx(test:PyData→Option Bool)(elt:PyData→Option PyData):List PyData→Option (List PyData)
 |[]=>some []
 |x::r=>(test x).bind λt=>if t then(elt x).bind λy=>(fx test elt r).map (y::·) else fx test elt r
theorem Dy{elt:PyData→Option PyData}{x:PyData}{r:List PyData}:fx test elt (x::r)=(test x).bind λt=>if t then(elt x).bind λy=>(fx test elt r).map (y::·) else fx test elt r:=rfl
noncomputable def lu(f:PyData→Option (List PyData)):List PyData→Option (List PyData)
 |[]=>some []
 |x::r=>(f x).bind λa=>(lu f r).map (a++·)
noncomputable def fj(k:Nat)(x:PyData):Option Ev :=
 if k=0 then some [.sh (.d x)] else match x with
  |.tuple xs=>if xs.length=k then some (xs.map λy=>.sh (.d y)) else none
  |.list xs=>if xs.length=k then some (xs.map λy=>.sh (.d y)) else none
  |_=>none
mutual
noncomputable def ak(Φ:jU):CE→Ev→Option V
 |.lit x,_=>some (.d x)
 |.var i,ρ=>rd ρ i
 |.bin op a b,ρ=>(ak Φ a ρ).bind λx=>(ak Φ b ρ).bind λy=>k7 op x y
 |.un op a,ρ=>(ak Φ a ρ).bind λx=>Ks op x
 |.cmp op a b,ρ=>(ak Φ a ρ).bind λx=>(ak Φ b ρ).bind λy=>vS op x y
 |.cmp2 o1 o2 a b c,ρ=>(ak Φ a ρ).bind λx=>(ak Φ b ρ).bind λy=>(vS o1 x y).bind λt =>
  (dC t).bind λk=>if k then(ak Φ c ρ).bind λz=>vS o2 y z else some t
 |.boolop op a b,ρ=>(ak Φ a ρ).bind λx=>(dC x).bind λk=>match op with
  |.And=>if k then ak Φ b ρ else some x
  |.Or=>if k then some x else ak Φ b ρ
 |.ite t a b,ρ=>(ak Φ t ρ).bind λx=>(dC x).bind λk=>if k then ak Φ a ρ else ak Φ b ρ
 |.list es,ρ=>(cevalsD Φ es ρ).bind λxs=>if c0 xs.length then some (.d (.list xs)) else none
 |.tup es,ρ=>(cevalsD Φ es ρ).bind λxs=>if c0 xs.length then some (.d (.tuple xs)) else none
 |.item a i,ρ=>(ak Φ a ρ).bind λx=>(ak Φ i ρ).bind λy=>wR x y
 |.slice a lo hi st,ρ=>(ak Φ a ρ).bind λx=>(cpart Φ lo ρ).bind λl=>(cpart Φ hi ρ).bind λh=>(cpart Φ st ρ).bind λk=>kc x l h k
 |.call f es,ρ=>(cevals Φ es ρ).bind λxs=>if xs.all λv=>!v.own then Φ f xs else none
 |.prim f es,ρ=>(cevals Φ es ρ).bind λxs=>gQ f xs
 |.meth m o es,ρ=>(ak Φ o ρ).bind λx=>(cevals Φ es ρ).bind λxs=>iw m x xs
 |.comp k elt it ifs,ρ=>(ak Φ it ρ).bind λv=>(fB v).bind λxs =>
  (fx (λx=>(fj k x).bind λt=>ctests Φ ifs (ρ++t)) (λx=>(fj k x).bind λt=>(ak Φ elt (ρ++t)).bind kq) xs).map λys=>.d (.list ys)
 |.compT elt it,ρ=>(ak Φ it ρ).bind λv=>(g8 v).bind λxs=>if c0 xs.length then
  (fx (λx=>(fj 2 x).bind λ_=>some true) (λx=>(fj 2 x).bind λt=>(ak Φ elt (ρ++t)).bind kq) xs).map λys=>.d (.list ys) else none
 |.comp2 elt a b,ρ=>(ak Φ a ρ).bind λv=>(g8 v).bind λxs=>if c0 xs.length then
  (lu (λx=>(ak Φ b (ρ++[.sh (.d x)])).bind λw=>(g8 w).bind λys=>if c0 ys.length then fx (λ_=>some true) (λy=>(ak Φ elt (ρ++[.sh (.d x),.sh (.d y)])).bind kq) ys else none) xs).bind
   λzs=>if c0 zs.length then some (.d (.list zs)) else none else none
noncomputable def cevals(Φ:jU):List CE→Ev→Option (List V)
 |[],_=>some []
 |e::r,ρ=>(ak Φ e ρ).bind λx=>(cevals Φ r ρ).map (x::·)
noncomputable def cevalsD(Φ:jU):List CE→Ev→Option (List PyData)
 |[],_=>some []
 |e::r,ρ=>(ak Φ e ρ).bind λx=>(kq x).bind λy=>(cevalsD Φ r ρ).map (y::·)
noncomputable def cpart(Φ:jU):Option CE→Ev→Option (Option Int)
 |none,_=>some none
 |some e,ρ=>(ak Φ e ρ).bind λv=>(dM v).bind λi=>some (some i)
noncomputable def ctests(Φ:jU):List CE→Ev→Option Bool
 |[],_=>some true
 |e::r,ρ=>(ak Φ e ρ).bind λx=>(dC x).bind λk=>if k then ctests Φ r ρ else some false
end
section
variable{Φ:jU}{ρ:Ev}
theorem JI{x:PyData}:ak Φ (.lit x) ρ=some (.d x):=rfl
theorem J_{i:Nat}:ak Φ (.var i) ρ=rd ρ i:=rfl
theorem JD{a b:CE}:ak Φ (.bin op a b) ρ=(ak Φ a ρ).bind λx=>(ak Φ b ρ).bind λy=>k7 op x y:=rfl
theorem KD{op:UnaryOp}{a:CE}:ak Φ (.un op a) ρ=(ak Φ a ρ).bind λx=>Ks op x:=rfl
theorem J9{op:CmpOp}{a b:CE}:ak Φ (.cmp op a b) ρ=(ak Φ a ρ).bind λx=>(ak Φ b ρ).bind λy=>vS op x y:=rfl
theorem Kc{a b:CE}:ak Φ (.boolop .And a b) ρ=(ak Φ a ρ).bind λx=>(dC x).bind λk=>if k then ak Φ b ρ else some x:=rfl
theorem KI{a b:CE}:ak Φ (.boolop .Or a b) ρ=(ak Φ a ρ).bind λx=>(dC x).bind λk=>if k then some x else ak Φ b ρ:=rfl
theorem Kl{t a b:CE}:ak Φ (.ite t a b) ρ=(ak Φ t ρ).bind λx=>(dC x).bind λk=>if k then ak Φ a ρ else ak Φ b ρ:=rfl
theorem Jx{es:List CE}:ak Φ (.list es) ρ=(cevalsD Φ es ρ).bind λxs=>if c0 xs.length then some (.d (.list xs)) else none:=rfl
theorem Kk{es:List CE}:ak Φ (.tup es) ρ=(cevalsD Φ es ρ).bind λxs=>if c0 xs.length then some (.d (.tuple xs)) else none:=rfl
theorem Ey{a i:CE}:ak Φ (.item a i) ρ=(ak Φ a ρ).bind λx=>(ak Φ i ρ).bind λy=>wR x y:=rfl
theorem iC{a:CE}{lo hi st:Option CE}:ak Φ (.slice a lo hi st) ρ=(ak Φ a ρ).bind λx=>(cpart Φ lo ρ).bind λl=>(cpart Φ hi ρ).bind λh=>(cpart Φ st ρ).bind λk=>kc x l h k:=rfl
theorem Jr{f:Nat}{es:List CE}:ak Φ (.call f es) ρ=(cevals Φ es ρ).bind λxs=>if xs.all λv=>!v.own then Φ f xs else none:=rfl
theorem Jn{f:Pf}{es:List CE}:ak Φ (.prim f es) ρ=(cevals Φ es ρ).bind λxs=>gQ f xs:=rfl
theorem Jq{m:Pm}{o:CE}{es:List CE}:ak Φ (.meth m o es) ρ=(ak Φ o ρ).bind λx=>(cevals Φ es ρ).bind λxs=>iw m x xs:=rfl
theorem Ej{elt it:CE}{ifs:List CE}:ak Φ (.comp k elt it ifs) ρ=(ak Φ it ρ).bind λv=>(fB v).bind λxs=>(fx (λx=>(fj k x).bind λt=>ctests Φ ifs (ρ++t)) (λx=>(fj k x).bind λt=>(ak Φ elt (ρ++t)).bind kq) xs).map λys=>.d (.list ys):=rfl
theorem Js:cevals Φ [] ρ=some []:=rfl
theorem Ic{e:CE}{r:List CE}:cevals Φ (e::r) ρ=(ak Φ e ρ).bind λx=>(cevals Φ r ρ).map (x::·):=rfl
theorem Jo:cevalsD Φ [] ρ=some []:=rfl
theorem Ih{e:CE}{r:List CE}:cevalsD Φ (e::r) ρ=(ak Φ e ρ).bind λx=>(kq x).bind λy=>(cevalsD Φ r ρ).map (y::·):=rfl
theorem KR:cpart Φ none ρ=some none:=rfl
theorem K4{e:CE}:cpart Φ (some e) ρ=(ak Φ e ρ).bind λv=>(dM v).bind λi=>some (some i):=rfl
theorem JV:ctests Φ [] ρ=some true:=rfl
theorem Jw{e:CE}{r:List CE}:ctests Φ (e::r) ρ=(ak Φ e ρ).bind λx=>(dC x).bind λk=>if k then ctests Φ r ρ else some false:=rfl
variable{a b i:CE}{v x y:V}{p q:PyData}
theorem bi{i:Nat}(h:ρ[i]?=some (.sh v)):ak Φ (.var i) ρ=some v:=bc h rfl
theorem Eo{i:Nat}(h:ρ[i]?=some (.ow xs)):ak Φ (.var i) ρ=some (.o xs):=bc h rfl
theorem cu:ak Φ (.lit p) ρ=some (.d p):=rfl
theorem du{op:CmpOp}{k:Bool}(h1:ak Φ a ρ=some (.d p))(h2:ak Φ b ρ=some (.d q))(h:vT op p q=some k):ak Φ (.cmp op a b) ρ=some (.d (.bool k)):=bc h1 (bc h2 (bc rfl (bc rfl (bc h rfl))))
theorem dh(h1:ak Φ a ρ=some x)(h2:ak Φ b ρ=some y):ak Φ (.bin op a b) ρ=k7 op x y:=bc h1 (bc h2 rfl)
theorem jm{i j k:Int}(h:i_ op i j=some k):k7 op (.d (.int i)) (.d (.int j))=some (.d (.int k)):=by show(i_ op i j).bind (λc=>some (V.d (.int c)))=_;rw[h];rfl
theorem gZ{i j k:Int}(h1:ak Φ a ρ=some (.d (.int i)))(h2:ak Φ b ρ=some (.d (.int j)))(h:i_ op i j=some k):ak Φ (.bin op a b) ρ=some (.d (.int k)):=(dh h1 h2).trans (jm h)
theorem sZ{j:Int}(h1:ak Φ a ρ=some (.d (.list xs)))(h2:ak Φ i ρ=some (.d (.int j)))(h3:iT xs j=some d):ak Φ (.item a i) ρ=some (.d d):=bc h1 (bc h2 (bc rfl (bc h3 rfl)))
end
end
set_option backward.match.sparseCases true
variable{c ca ce celt cit cr ct e:CE}{f:Pf}{ρ:Ev}{args as:List V}{Φ:jU}{cifs cs:List CE}{take:PyData→Ev→Option Ev}{x8:Slot}{φ:List V→Option V}
noncomputable def fA(A:Around)(h:Heap):Prop:=A.handled=none∨∃e₀ o vs,A.handled=some (.ref e₀)∧h.get? e₀=some o∧o.data=.fields vs∧vs[2]?=some .none
theorem fA.mono(x:fA A h)(k:∀b o,h.get? b=some o→(∃vs:Array Value,o.data=.fields vs∧vs[2]?=some .none)→h'.get? b=some o):fA A h' :=
 x.imp id λh=>h.imp λ_ h=>h.imp λ_ h=>h.imp λvs h=>⟨h.1,k _ _ h.2.1 ⟨vs,h.2.2⟩,h.2.2⟩
theorem qi:entryFor table "proto.unchain"=some Builtin.«proto.unchain»:=entryFor_of_tree (by kernel_rfl)
section
variable{prog:Program}{w:World}
theorem kt{Q:α→Shared→Prop}(x:fA A s.heap)(ha:s.heap.get? a=some o)(hd:o.data=.fields vs)(hsz:vs.size=6)(hne:∀e₀,A.handled=some (.ref e₀)→a≠e₀)
  (h:∀h',(∀b o,b≠a→s.heap.get? b=some o→h'.get? b=some o)→(∃o',h'.get? a=some o'∧o'.cls=o.cls)→E (.ref a) {s with heap:=h'}):wpAny (model prog w) A (raiseNew (.ref a)) Q E s:=by
 unfold raiseNew
 refine ac (wpAny_handled ?_)
 rcases x with hh | ⟨e₀,o₀,vs₀,hh,h0,d0,v2⟩
 ·rw[hh]
  exact ac (aB (wpAny_throw (h s.heap (λ_ _ _ e=>e) ⟨o,ha,rfl⟩)))
 ·rw[hh]
  have ne:(Value.ref e₀ != Value.ref a)=true:=by
   have:e₀≠a:=Ne.symm (hne _ hh)
   simpa using this
  dsimp only
  rw[if_pos ne]
  refine ac (aX (wpAny_runValue (codeAny_builtin qi ?_)))
  rw[Around.under_plain (show(Code.builtin "proto.unchain" ⟨[.ref a,.ref e₀,.ref e₀,.bool false],[]⟩).weight=0 from rfl) rfl]
  unfold Builtin.«proto.unchain»
  refine ac (bY h0 d0 v2 ?_)
  rw[if_pos (show(Value.none==Value.none)=true from rfl)]
  refine ac (aB (aB ?_))
  unfold updateField
  refine ac (ac (wpAny_load ha ?_))
  rw[hd]
  dsimp only
  rw[if_pos (show 2<vs.size by rw[hsz];decide)]
  refine wpAny_update ha (wpAny_throw (h _ (λb o hb e=>?_) ⟨_,cX _ ha (Obj.isFreed_of_fields (dz hd _)),Obj.cls_mapFields ..⟩))
  rw[Heap.get?_update_other _ _ (Ne.symm hb)];exact e
theorem D1{l:Addr}{Q:Option Value→Shared→Prop}(x:fA A s.heap)(hit:s.heap.IsRevIter it l (-1))
  (hQ:∀h',Heap.ExtBut it s.heap h'→Q none {s with heap:=h'}):wpAny (model prog w) A (pyNext (.ref it)) Q E s:=by
 obtain⟨o,ho,hc,hd⟩:=id hit
 unfold pyNext
 refine ac (wpAny_attempt (b9 (name:=Str.ofString "__next__") hit.typeIs F.slot_lri_next
  (cF F.slot_lri_next hit.typeIs F.entry_lri_next ?_ (F.args_lri_next_1 _))))
 unfold Builtin.«list_reverseiterator.__next__»
 refine ac (wpAny_of_eq (a:=(Value.ref it,[])) rfl ?_)
 try dsimp only
 refine ac (bY ho hd (x:=rawInt (-1)) rfl ?_)
 show wpAny _ _ (if(-1:Int)<0 then _ else _) _ _ s
 rw[if_pos (by decide)]
 refine ac (wpAny_rule ?_)
 first
 |show wpAny _ _ (newExc (.type "StopIteration") []>>=_) _ _ _
 |(refine ac ?_;show wpAny _ _ (newExc (.type "StopIteration") []>>=_) _ _ _)
 refine ac ?_
 rw[newExc,newTuple]
 refine ac (bF ?_ (by size_fits))
 refine ac (m:=firstArgMember _ _) (wpAny_of_eq (a:=Value.none) (by first | rfl | (simp only[firstArgMember];rfl)) ?_)
 refine bF ?_ (by size_fits)
 refine kt (A:=A.in1) (o:={cls:=.type "StopIteration",data:=.fields #[.ref s.heap.objs.size,.none,.none,.none,.bool false,.none]}) (fA.mono x λb o e hv=>?_) (aI _ rfl) rfl rfl (λe₀ he q=>?_) λh' hk hx=>?_
 ·exact aC _ (aC _ e)
 ·rcases x with x | ⟨e₁,o₁,v₁,h1,h2,_⟩
  ·exact Option.some_ne_none _ (he.symm.trans x)
  ·cases he.symm.trans h1
   have lt:=bL h2
   rw[←q] at lt
   simp only[Heap.size_push,Heap.size_update] at lt
   exact absurd lt (Nat.not_lt.mpr (Nat.le_succ _))
 ·obtain⟨o',h1,h2⟩:=hx
  refine ac (wpAny_isInstance (T:="StopIteration") (b:=true) ⟨o',h1,h2⟩ isSubtype_stop ?_)
  refine aB (hQ h' λb o hb e=>hk b o (λq=>?_) ((((Heap.ExtBut.refl it s.heap).push _).push _) b o hb e))
  have lt:=bL e
  simp only[q] at lt
  simp only[Heap.size_push,Heap.size_update] at lt
  exact absurd lt (Nat.not_lt.mpr (Nat.le_succ _))
theorem yk{y left step:Int}{Q:Option Value→Shared→Prop}(x:fA A s.heap)(hit:IsRangeIter s.heap it y left step)(hleft:left≤0)
  (hQ:∀h',Heap.ExtBut it s.heap h'→Q none {s with heap:=h'}):wpAny (model prog w) A (pyNext (.ref it)) Q E s:=by
 have hT:s.TypeIs (.ref it) "range_iterator":=⟨_,hit,rfl⟩
 unfold pyNext
 refine ac (wpAny_attempt (b9 (name:=Str.ofString "__next__") hT F.slot_range_iterator_next
  (cF F.slot_range_iterator_next hT F.entry_range_iterator_next ?_ (F.args_range_iterator_next_1 _))))
 show wpAny _ _ (field (.ref it) 0>>=_) _ _ s
 refine ac (bY hit rfl (x:=rawInt y) rfl ?_)
 show wpAny _ _ (field (.ref it) 1>>=_) _ _ s
 refine ac (bY hit rfl (x:=rawInt left) rfl ?_)
 show wpAny _ _ (field (.ref it) 2>>=_) _ _ s
 refine ac (bY hit rfl (x:=rawInt step) rfl ?_)
 show wpAny _ _ (if left≤0 then _ else _) _ _ s
 rw[if_pos hleft]
 refine ac (wpAny_rule ?_)
 refine ac ?_
 show wpAny _ _ (newExc (.type "StopIteration") []>>=_) _ _ _
 refine ac ?_
 simp only[newExc,newTuple]
 refine ac (bF ?_ (by size_fits))
 refine ac (m:=firstArgMember _ _) (wpAny_of_eq (a:=Value.none) (by first | rfl | (simp only[firstArgMember];rfl)) ?_)
 refine bF ?_ (by size_fits)
 refine kt (A:=A.in1) (o:={cls:=.type "StopIteration",data:=.fields #[.ref s.heap.objs.size,.none,.none,.none,.bool false,.none]}) (fA.mono x λb o e hv=>?_) (aI _ rfl) rfl rfl (λe₀ he q=>?_) λh' hk hx=>?_
 ·exact aC _ (aC _ e)
 ·rcases x with x | ⟨e₁,o₁,v₁,h1,h2,_⟩
  ·exact Option.some_ne_none _ (he.symm.trans x)
  ·cases he.symm.trans h1
   have lt:=bL h2
   rw[←q] at lt
   simp only[Heap.size_push,Heap.size_update] at lt
   exact absurd lt (Nat.not_lt.mpr (Nat.le_succ _))
 ·obtain⟨o',h1,h2⟩:=hx
  refine ac (wpAny_isInstance (T:="StopIteration") (b:=true) ⟨o',h1,h2⟩ isSubtype_stop ?_)
  refine aB (hQ h' λb o hb e=>hk b o (λq=>?_) ((((Heap.ExtBut.refl it s.heap).push _).push _) b o hb e))
  have lt:=bL e
  rw[q] at lt
  simp only[Heap.size_push,Heap.size_update] at lt
  exact absurd lt (Nat.not_lt.mpr (Nat.le_succ _))
theorem qK{t:Addr}{Q:Option Value→Shared→Prop}(x:fA A s.heap)
  (hit:s.heap.IsTupleIter it t i) (ht:s.heap.IsTuple t items) (hx:items[i]?=none)
  (hQ:∀h',Heap.ExtBut it s.heap h'→Q none {s with heap:=h'}):wpAny (model prog w) A (pyNext (.ref it)) Q E s:=by
 obtain⟨o,ho,hc,hd⟩:=id hit
 obtain⟨ol,hol,_,nl,hdl⟩:=ht
 unfold pyNext
 refine ac (wpAny_attempt (b9 (name:=Str.ofString "__next__") hit.typeIs F.slot_tuple_iterator_next
  (cF F.slot_tuple_iterator_next hit.typeIs F.entry_tuple_iterator_next ?_ (F.args_tuple_iterator_next_1 _))))
 show wpAny _ _ (field (.ref it) 0>>=_) _ _ s
 refine ac (bY ho hd (x:=.ref t) rfl ?_)
 show wpAny _ _ (if(Value.ref t==Value.none)=true then _ else _) _ _ s
 rw[if_neg (show¬((Value.ref t==Value.none)=true) from Bool.false_ne_true)]
 show wpAny _ _ (field (.ref it) 1>>=_) _ _ s
 refine ac (bY ho hd (x:=.int i 0) rfl ?_)
 show wpAny _ _ (seqItems? (.ref t)>>=_) _ _ s
 refine ac (wpAny_seqItems hol hdl ?_)
 simp only[aR,hx]
 refine ac (wpAny_rule (ac (wpAny_setField ho hd (by simp) ?_)))
 show wpAny _ _ (newExc (.type "StopIteration") []>>=_) _ _ _
 have up:∀b o,b≠it→s.heap.get? b=some o→(s.heap.update it (Obj.mapFields (·.setIfInBounds 0 Value.none))).get? b=some o:=λb o hb e=>by
  rw[Heap.get?_update_other _ _ (Ne.symm hb)];exact e
 refine ac ?_
 simp only[newExc,newTuple]
 refine ac (bF ?_ (by size_fits))
 refine ac (m:=firstArgMember _ _) (wpAny_of_eq (a:=Value.none) (by first | rfl | (simp only[firstArgMember];rfl)) ?_)
 refine bF ?_ (by size_fits)
 refine kt (A:=A.in1) (o:={cls:=.type "StopIteration",data:=.fields #[.ref (s.heap.update it (Obj.mapFields (·.setIfInBounds 0 Value.none))).objs.size,.none,.none,.none,.bool false,.none]}) (fA.mono x λb o e hv=>?_) (aI _ rfl) rfl rfl (λe₀ he q=>?_) λh' hk hx=>?_
 ·refine aC _ (aC _ (up b o (λq=>?_) e))
  obtain⟨vs,h1,h2⟩:=hv
  rw[q,ho] at e
  cases e
  rw[hd] at h1
  cases h1
  cases h2
 ·rcases x with x | ⟨e₁,o₁,v₁,h1,h2,_⟩
  ·exact Option.some_ne_none _ (he.symm.trans x)
  ·cases he.symm.trans h1
   have lt:=bL h2
   rw[←q] at lt
   simp only[Heap.size_push,Heap.size_update] at lt
   exact absurd lt (Nat.not_lt.mpr (Nat.le_succ _))
 ·obtain⟨o',h1,h2⟩:=hx
  refine ac (wpAny_isInstance (T:="StopIteration") (b:=true) ⟨o',h1,h2⟩ isSubtype_stop ?_)
  refine aB (hQ h' λb o hb e=>hk b o (λq=>?_) (((((Heap.SameBut.update ..).extBut).push _).push _) b o hb e))
  have lt:=bL e
  rw[q] at lt
  simp only[Heap.size_push,Heap.size_update] at lt
  exact absurd lt (Nat.not_lt.mpr (Nat.le_succ _))
theorem pR{t:Addr}{Q:Option Value→Shared→Prop}(x:fA A s.heap)
  (hit:s.heap.IsListIter it t i) (ht:s.heap.IsList t items) (hx:items[i]?=none)
  (hQ:∀h',Heap.ExtBut it s.heap h'→Q none {s with heap:=h'}):wpAny (model prog w) A (pyNext (.ref it)) Q E s:=by
 obtain⟨o,ho,hc,hd⟩:=id hit
 obtain⟨ol,hol,_,nl,hdl⟩:=ht
 unfold pyNext
 refine ac (wpAny_attempt (b9 (name:=Str.ofString "__next__") hit.typeIs slot_listiter_next
  (cF slot_listiter_next hit.typeIs entry_listiter_next ?_ (args_listiter_next _))))
 show wpAny _ _ (field (.ref it) 0>>=_) _ _ s
 refine ac (bY ho hd (x:=.ref t) rfl ?_)
 show wpAny _ _ (if(Value.ref t==Value.none)=true then _ else _) _ _ s
 rw[if_neg (show¬((Value.ref t==Value.none)=true) from Bool.false_ne_true)]
 show wpAny _ _ (field (.ref it) 1>>=_) _ _ s
 refine ac (bY ho hd (x:=.int i 0) rfl ?_)
 show wpAny _ _ (seqItems? (.ref t)>>=_) _ _ s
 refine ac (wpAny_seqItems hol hdl ?_)
 simp only[aR,hx]
 refine ac (wpAny_rule (ac (wpAny_setField ho hd (by simp) ?_)))
 show wpAny _ _ (newExc (.type "StopIteration") []>>=_) _ _ _
 have up:∀b o,b≠it→s.heap.get? b=some o→(s.heap.update it (Obj.mapFields (·.setIfInBounds 0 Value.none))).get? b=some o:=λb o hb e=>by
  rw[Heap.get?_update_other _ _ (Ne.symm hb)];exact e
 refine ac ?_
 simp only[newExc,newTuple]
 refine ac (bF ?_ (by size_fits))
 refine ac (m:=firstArgMember _ _) (wpAny_of_eq (a:=Value.none) (by first | rfl | (simp only[firstArgMember];rfl)) ?_)
 refine bF ?_ (by size_fits)
 refine kt (A:=A.in1) (o:={cls:=.type "StopIteration",data:=.fields #[.ref (s.heap.update it (Obj.mapFields (·.setIfInBounds 0 Value.none))).objs.size,.none,.none,.none,.bool false,.none]}) (fA.mono x λb o e hv=>?_) (aI _ rfl) rfl rfl (λe₀ he q=>?_) λh' hk hx=>?_
 ·refine aC _ (aC _ (up b o (λq=>?_) e))
  obtain⟨vs,h1,h2⟩:=hv
  rw[q,ho] at e
  cases e
  rw[hd] at h1
  cases h1
  cases h2
 ·rcases x with x | ⟨e₁,o₁,v₁,h1,h2,_⟩
  ·exact Option.some_ne_none _ (he.symm.trans x)
  ·cases he.symm.trans h1
   have lt:=bL h2
   rw[←q] at lt
   simp only[Heap.size_push,Heap.size_update] at lt
   exact absurd lt (Nat.not_lt.mpr (Nat.le_succ _))
 ·obtain⟨o',h1,h2⟩:=hx
  refine ac (wpAny_isInstance (T:="StopIteration") (b:=true) ⟨o',h1,h2⟩ isSubtype_stop ?_)
  refine aB (hQ h' λb o hb e=>hk b o (λq=>?_) (((((Heap.SameBut.update ..).extBut).push _).push _) b o hb e))
  have lt:=bL e
  rw[q] at lt
  simp only[Heap.size_push,Heap.size_update] at lt
  exact absurd lt (Nat.not_lt.mpr (Nat.le_succ _))
theorem ld{t:Addr}{Q:List Value→Shared→Prop}(x:fA A s.heap)(ht:s.heap.IsTuple t items)
  (hQ:∀h',Heap.ExtBut s.heap.objs.size s.heap h'→Q items.toList {s with heap:=h'}):wpAny (model prog w) A (unpackItems (.ref t) items.size none) Q E s:=by
 have hlt:t≠s.heap.objs.size:=by obtain⟨o,ho,_⟩:=ht;exact bQ (bL ho)
 unfold unpackItems
 refine ac ?_
 unfold notIterableAtAll
 refine ac (wpAny_specialOf ht.typeIs F.slot_tuple_iter.lookup ?_)
 refine aB ?_
 simp only[Bool.false_eq_true,if_false]
 refine ac (aX (wpAny_pyIter_tuple ht ?_))
 refine ac (aX (wpAny_draw_tuple hlt items.size 0 _ _ ⟨_,aI _ rfl,rfl,rfl⟩ (ht.push _) (bd (aF (Array.size items)) (bo (Array.size items-Array.size items))) λh₁ hit₁ hs₁=>?_))
 rw[show List.take items.size (List.drop 0 items.toList)=items.toList by rw[List.drop_zero];exact List.take_of_length_le (by simp),if_neg (by simp)]
 refine ac (aX (qK (x.mono λb o e _=>hs₁.extBut b o (bQ (bL e)) (aC _ e)) hit₁ ((ht.push _).extBut hs₁.extBut hlt) (by simp) λh₂ he₂=>?_))
 simp only[Option.isSome_none,Bool.false_eq_true,if_false]
 exact aB (hQ h₂ λb o hb e=>he₂ b o hb (hs₁.extBut b o hb (aC _ e)))
theorem l4{x1:Nat}{t:Addr}{Q:Unit→Shared→Prop}(x:fA A s.heap)(ht:s.heap.IsTuple t items)
  (hn:(assignEach elts env).length=items.size) (hstar:(assignEach elts env).findIdx? (·.1)=none)
  (h:∀h',Heap.ExtBut s.heap.objs.size s.heap h'→wpAny (model prog w) A (assignInOrder ((assignEach elts env).map (·.2)) items.toList) Q E {s with heap:=h'}) :
  wpAny (model prog w) A (assign (.Tuple elts x1 pos) env (.ref t)) Q E s:=by
 simp only[arm_assign_Tuple]
 refine ac (bP ?_)
 unfold unpack
 rw[hn,hstar]
 exact ac (aX (ld x ht h))
end
structure fS(prog:Program)(w:World)(A:Around)(I:Addr)(fp wr:List Addr)(n:Nat)(P:Nat→Value→Prop)(St:Nat→Heap→Prop):Prop where
 frame:∀i h h',St i h→(∀b∈fp,∀o,h.get? b=some o→h'.get? b=some o)→St i h'
 item:∀i (s:Shared) (Q:Option Value→Shared→Prop) (E:Value→Shared→Prop),i<n→St i s.heap →
  (∀v h' tk,P i v→St (i+1) h'→(∀b o,b∉wr→s.heap.get? b=some o→h'.get? b=some o)→Q (some v) {s with heap:=h',toks:=tk})→wpAny (model prog w) A (pyNext (.ref I)) Q E s
 done:∀(s:Shared) (Q:Option Value→Shared→Prop) (E:Value→Shared→Prop),fA A s.heap→St n s.heap →
  (∀h' tk,(∀b o,b∉wr→s.heap.get? b=some o→h'.get? b=some o)→Q none {s with heap:=h',toks:=tk})→wpAny (model prog w) A (pyNext (.ref I)) Q E s
 self:∀i (s:Shared) (Q:Value→Shared→Prop) (E:Value→Shared→Prop),St i s.heap→Q (.ref I) s→wpAny (model prog w) A (pyIter (.ref I)) Q E s
section
variable{prog:Program}{w:World}
noncomputable def xp(A:Around):Around:={A with handled:=none}
theorem fS.list(I ax:Addr)(hne:ax≠I)(items:Array Value):fS prog w A I [I,ax] [I] items.size (λi v=>items[i]?=some v) (λi h=>h.IsListIter I ax i∧h.IsList ax items) where
 frame:=(Walks.list (prog:=prog) (w:=w) (A:=xp A) rfl I ax hne items).frame
 item:=λi s Q E hi st hQ=>by
  refine wpAny_pyNext_list_item st.1 st.2 (x:=items[i]) (by simp[hi]) λh' hit' hs'=>?_
  exact hQ _ h' s.toks (by simp[hi]) ⟨hit',st.2.extBut hs'.extBut hne⟩ λb o hb e=>hs'.extBut b o (λh=>hb (by simp[h])) e
 done:=λs Q E x st hQ=>pR x st.1 st.2 (by simp) λh' he'=>hQ h' s.toks λb o hb e=>he' b o (λh=>hb (by simp[h])) e
 self:=λ_ _ _ _ st hQ=>wpAny_pyIter_listiter st.1 hQ
theorem fS.tuple(I ax:Addr)(hne:ax≠I)(items:Array Value):fS prog w A I [I,ax] [I] items.size (λi v=>items[i]?=some v) (λi h=>h.IsTupleIter I ax i∧h.IsTuple ax items) where
 frame:=(Walks.tuple (prog:=prog) (w:=w) (A:=xp A) rfl I ax hne items).frame
 item:=λi s Q E hi st hQ=>by
  refine wpAny_pyNext_tuple_item st.1 st.2 (x:=items[i]) (by simp[hi]) λh' hit' hs'=>?_
  exact hQ _ h' s.toks (by simp[hi]) ⟨hit',st.2.extBut hs'.extBut hne⟩ λb o hb e=>hs'.extBut b o (λh=>hb (by simp[h])) e
 done:=λs Q E x st hQ=>qK x st.1 st.2 (by simp) λh' he'=>hQ h' s.toks λb o hb e=>he' b o (λh=>hb (by simp[h])) e
 self:=λ_ _ _ _ st hQ=>wpAny_pyIter_tupleiter st.1 hQ
theorem fS.range(I:Addr)(a c:Int)(n:Nat):fS prog w A I [I] [I] n (λi v=>∃t,v=.int (a+i*c) t) (λi h=>IsRangeIter h I (a+(i:Nat)*c) ((n:Int)-(i:Nat)) c) where
 frame:=(Walks.range (prog:=prog) (w:=w) (A:=xp A) rfl I a c n).frame
 item:=λi s Q E hi st hQ=>by
  refine wpAny_pyNext_range_item st (by lia) λh' hit' hs'=>?_
  refine hQ _ h' _ ⟨_,rfl⟩ ?_ λb o hb e=>hs'.extBut b o (λh=>hb (by simp[h])) e
  have e1:a+((i+1:Nat):Int)*c=a+(i:Int)*c+c:=by push_cast;simp only[Int.add_mul,Int.one_mul,Int.add_assoc]
  have e2:(n:Int)-((i+1:Nat):Int)=(n:Int)-(i:Int)-1:=by push_cast;lia
  simp only[e1,e2];exact hit'
 done:=λs Q E x st hQ=>yk x st (Int.sub_left_le_of_le_add (Int.le_add_of_nonneg_right (c8 rfl))) λh' he'=>hQ h' s.toks λb o hb e=>he' b o (λh=>hb (by simp[h])) e
 self:=λ_ _ _ _ st hQ=>wpAny_pyIter_rangeiter st hQ
theorem fS.listRev(I l:Addr)(hne:l≠I)(items:Array Value) :
  fS prog w A I [I,l] [I] items.size (λi v=>items[items.size-1-i]?=some v) (λi h=>i≤items.size∧h.IsRevIter I l ((items.size:Int)-1-(i:Int))∧h.IsList l items) where
 frame:=(Walks.listRev (prog:=prog) (w:=w) (A:=xp A) rfl I l hne items).frame
 item:=λi s Q E hi x hQ=>by
  have e:(items.size:Int)-1-(i:Int)=((items.size-1-i:Nat):Int):=by omega
  have hit:=x.2.1
  simp only[e] at hit
  refine wpAny_pyNext_rev_item hit x.2.2 (Array.getElem?_eq_getElem (au (cO (Array.size items-1) i) (Nat.sub_one_lt_of_lt hi))) λh' hit' hs'=>?_
  have e2:((items.size-1-i:Nat):Int)-1=(items.size:Int)-1-((i+1:Nat):Int):=by lia
  simp only[e2] at hit'
  exact hQ _ h' s.toks (Array.getElem?_eq_getElem (au (cO (Array.size items-1) i) (Nat.sub_one_lt_of_lt hi))) ⟨hi,hit',x.2.2.at λo eo=>(hs'.2 l hne).trans eo⟩ λb o hb eo=>hs'.extBut b o (λh=>hb (by simp[h])) eo
 done:=λs Q E y x hQ=>by
  have hit:=x.2.1
  simp only[show(items.size:Int)-1-(items.size:Int)=-1 by omega] at hit
  exact D1 y hit λh' he'=>hQ h' s.toks λb o hb eo=>he' b o (λh=>hb (by simp[h])) eo
 self:=λ_ _ _ _ x hQ=>wpAny_pyIter_revIter x.2.1 hQ
end
section
noncomputable def b_(o:Obj):Prop:=o.cls=.none∧∃fs,o.data=.fields fs∧∀q t,fs[1]?≠some (.str q t)
noncomputable def eW(o:Obj):Prop:=¬b_ o∧∀vs q t,o.data=.fields vs→vs[1]?≠some (.str q t)
structure Wd where
 prog:Program
 w:World
 mg:Str→Option Value
 mb:Str→Option Value
 stat:Addr→Prop
 ok:Heap→Prop
 g:∀{h},ok h→h.Ns mainGlobals mg
 b:∀{h},ok h→h.Ns builtinsNs mb
 lim:∀{h},ok h→h.NoLimit
 mono:∀{h h'},ok h→(∀b o,(stat b∨¬eW o)→h.get? b=some o→h'.get? b=some o)→ok h'
 occ:∀{h a},ok h→stat a→∃o,h.get? a=some o
 csts:List (Str×PyData)
 cstG:∀p∈csts,∃v,mg p.1=some v∧∀d,p.2=d→((∃i t,v=.int i t∧d=.int i)∨(∃x t,v=.str x t∧d=.str x))
 blts:List (Str×Value)
 bltG:∀p∈blts,mg p.1=none∧mb p.1=some p.2
 fns:List (Str×Addr)
 fnG:∀p∈fns,mg p.1=some (.ref p.2)
 fnO:∀{h},ok h→∀p∈fns,∃o fd,h.get? p.2=some o∧o.data=.func fd
 exc:Option Addr
 excO:∀{h e},exc=some e→ok h→∃o vs,h.get? e=some o∧o.data=.fields vs∧vs[2]?=some .none
structure cU(W:Wd)(s:Shared):Prop where
 ok:W.ok s.heap
 bare:AllBare s.gens
structure SX(W:Wd)(s s':Shared):Prop where
 keep:∀b o,s.heap.get? b=some o→¬b_ o→s'.heap.get? b=some o
 occ:∀b o,s.heap.get? b=some o→∃o',s'.heap.get? b=some o'
 os:s'.os=s.os
 gens:∀(i:Nat) g,s.gens[i]?=some g→s'.gens[i]?=some g
 good:cU W s'
section
variable{W:Wd}{s'':Shared}
theorem SX.refl(g:cU W s):SX W s s:=⟨λ_ _ e _=>e,λ_ o e=>⟨o,e⟩,rfl,λ_ _ e=>e,g⟩
theorem SX.trans(x:SX W s s')(y:SX W s' s''):SX W s s'' :=
 ⟨λb o e n=>y.keep b o (x.keep b o e n) n,λb o e=>let⟨o',e'⟩:=x.occ b o e;y.occ b o' e',y.os.trans x.os,λi g e=>y.gens i g (x.gens i g e),y.good⟩
theorem Wd.keep(k:W.ok h)(hk:∀b o,h.get? b=some o→h'.get? b=some o):W.ok h':=W.mono k λb o _ e=>hk b o e
theorem SX.of_keep(g:cU W s)(hk:∀b o,s.heap.get? b=some o→h'.get? b=some o):SX W s {s with heap:=h',toks:=tk} :=
 ⟨λb o e _=>hk b o e,λb o e=>⟨o,hk b o e⟩,rfl,λ_ _ e=>e,⟨W.keep g.ok hk,g.bare⟩⟩
theorem SX.toks(g:cU W s):SX W s {s with toks:=tk}:=SX.of_keep (h':=s.heap) g λ_ _ e=>e
theorem SX.heap(g:cU W s)(hk:∀b o,s.heap.get? b=some o→h'.get? b=some o):SX W s {s with heap:=h'}:=SX.of_keep (tk:=s.toks) g hk
theorem SX.push(g:cU W s):SX W s {s with heap:=s.heap.push o,toks:=tk}:=SX.of_keep g λ_ _ e=>aC o e
theorem SX.of_inCall{L:Addr}(g:cU W s)(x:InCall s L m s'):SX W s s':=by
 obtain⟨h',tk,e⟩:=x.same
 subst e
 exact SX.of_keep g x.keep
end
noncomputable abbrev bU(vs:Array Value)(n:Nat):Obj:={cls:=.type "list",data:=.seq vs n}
noncomputable abbrev ik(vs:Array Value)(n:Nat):Obj:={cls:=.type "tuple",data:=.seq vs n}
theorem cV{vs:Array Value}:¬b_ (bU vs n):=λh=>by cases h.1
theorem uu{vs:Array Value}:¬b_ (ik vs n):=λh=>by cases h.1
mutual
inductive Rep(h:Heap)(M:List Addr):Value→PyData→Prop
 |none:Rep h M .none .none
 |bool (b:Bool):Rep h M (.bool b) (.bool b)
 |int (i:Int) (t:Tok):Rep h M (.int i t) (.int i)
 |str (x:Str) (t:Tok):Rep h M (.str x t) (.str x)
 |list {a:Addr} {vs:Array Value} {n:Nat} {xs:List PyData}:a∉M→h.get? a=some (bU vs n)→Reps h M vs.toList xs→Rep h M (.ref a) (.list xs)
 |tuple {a:Addr} {vs:Array Value} {n:Nat} {xs:List PyData}:a∉M→h.get? a=some (ik vs n)→Reps h M vs.toList xs→Rep h M (.ref a) (.tuple xs)
inductive Reps(h:Heap)(M:List Addr):List Value→List PyData→Prop
 |nil:Reps h M [] []
 |cons {v:Value} {vs:List Value} {d:PyData} {ds:List PyData}:Rep h M v d→Reps h M vs ds→Reps h M (v::vs) (d::ds)
end
section
theorem Reps.ind{P:List Value→List PyData→Prop}(h0:P [] [])(h1:∀v vs d ds,Rep h M v d→Reps h M vs ds→P vs ds→P (v::vs) (d::ds)){vs:List Value}(r:Reps h M vs ds):P vs ds :=
 @Reps.rec h M (λ_ _ _=>True) (λvs ds _=>P vs ds) trivial (λ_=>trivial) (λ_ _=>trivial) (λ_ _=>trivial) (λ_ _ _ _=>trivial) (λ_ _ _ _=>trivial) h0 (λa t _ ih=>h1 _ _ _ _ a t ih) _ _ r
theorem Rep.mono(k:∀b o,b∉M→h.get? b=some o→¬b_ o→h'.get? b=some o)(m:∀a∈M',a∈M∨h.get? a=Option.none)(r:Rep h M v d):Rep h' M' v d :=
 have nm:∀{a o},a∉M→h.get? a=some o→a∉M':=λha e q=>(m _ q).elim ha λz=>Option.some_ne_none _ (e.symm.trans z)
 @Rep.rec h M (λv d _=>Rep h' M' v d) (λvs ds _=>Reps h' M' vs ds) .none .bool .int .str (λha e _ ih=>.list (nm ha e) (k _ _ ha e cV) ih) (λha e _ ih=>.tuple (nm ha e) (k _ _ ha e uu) ih) .nil (λ_ _ a t=>.cons a t) _ _ r
theorem Reps.mono(k:∀b o,b∉M→h.get? b=some o→¬b_ o→h'.get? b=some o)(m:∀a∈M',a∈M∨h.get? a=Option.none){vs:List Value}(r:Reps h M vs ds):Reps h' M' vs ds :=
 Reps.ind (P:=Reps h' M') .nil (λ_ _ _ _ a _ ih=>.cons (a.mono k m) ih) r
end
theorem Rep.ext{W:Wd}(x:SX W s s')(r:Rep s.heap M v d):Rep s'.heap M v d :=
 r.mono (λb o _ e n=>x.keep b o e n) λ_ h=>.inl h
theorem Reps.ext{W:Wd}(x:SX W s s'){v:List Value}{d:List PyData}(r:Reps s.heap M v d):Reps s'.heap M v d :=
 r.mono (λb o _ e n=>x.keep b o e n) λ_ h=>.inl h
theorem Rep.sub(m:∀a∈M',a∈M)(r:Rep h M v d):Rep h M' v d:=r.mono (λ_ _ _ e _=>e) λa ha=>.inl (m a ha)
theorem Reps.sub(m:∀a∈M',a∈M){v:List Value}{d:List PyData}(r:Reps h M v d):Reps h M' v d:=r.mono (λ_ _ _ e _=>e) λa ha=>.inl (m a ha)
section
variable{vs ws:List Value}{es:List PyData}
theorem Reps.length(r:Reps h M vs ds):vs.length=ds.length:=Reps.ind (P:=λvs ds=>vs.length=ds.length) rfl (λ_ _ _ _ _ _ ih=>congrArg (·+1) ih) r
theorem Reps.append(r:Reps h M vs ds)(q:Reps h M ws es):Reps h M (vs++ws) (ds++es):=Reps.ind (P:=λvs ds=>Reps h M (vs++ws) (ds++es)) q (λ_ _ _ _ a _ ih=>.cons a ih) r
theorem Reps.get(r:Reps h M vs ds):∀(i:Nat) d,ds[i]?=some d→∃v,vs[i]?=some v∧Rep h M v d :=
 Reps.ind (P:=λvs ds=>∀(i:Nat) d,ds[i]?=some d→∃v,vs[i]?=some v∧Rep h M v d) (λ_ _ e=>nomatch e)
  (λv _ _ _ a _ ih i d e=>by
   cases i with
   |zero=>exact⟨v,rfl,am e▸a⟩
   |succ i=>exact ih i d e) r
theorem Reps.at(r:Reps h M vs ds):∀(i:Nat) v,vs[i]?=some v→∃d,ds[i]?=some d∧Rep h M v d :=
 Reps.ind (P:=λvs ds=>∀(i:Nat) v,vs[i]?=some v→∃d,ds[i]?=some d∧Rep h M v d) (λ_ _ e=>nomatch e)
  (λ_ _ d _ a _ ih i v e=>by
   cases i with
   |zero=>exact⟨d,rfl,am e▸a⟩
   |succ i=>exact ih i v e) r
theorem Reps.of_get:∀{vs:List Value} {ds:List PyData},vs.length=ds.length→(∀(i:Nat) v d,vs[i]?=some v→ds[i]?=some d→Rep h M v d)→Reps h M vs ds:=by
 intro vs
 induction vs with
 |nil=>intro ds e _;simp only[List.length_eq_zero_iff.mp e.symm];exact .nil
 |cons v vs ih =>
  intro ds e k
  cases ds with
  |nil=>cases e
  |cons d ds=>exact .cons (k 0 v d rfl rfl) (ih (Nat.succ.inj e) λi=>k (i+1))
theorem Reps.set(a:Rep h M v d)(r:Reps h M vs ds):∀i:Nat,Reps h M (vs.set i v) (ds.set i d) :=
 Reps.ind (P:=λvs ds=>∀i:Nat,Reps h M (vs.set i v) (ds.set i d)) (λ_=>.nil)
  (λ_ _ _ _ b t ih i=>by
   cases i with
   |zero=>exact .cons a t
   |succ i=>exact .cons b (ih i)) r
theorem Reps.reverse(r:Reps h M vs ds):Reps h M vs.reverse ds.reverse :=
 Reps.ind (P:=λvs ds=>Reps h M vs.reverse ds.reverse) .nil (λ_ _ _ _ a _ ih=>by simp only[List.reverse_cons,List.reverse_cons];exact Reps.append ih (.cons a .nil)) r
end
noncomputable def fU(h:Heap)(M:List Addr)(a:Addr)(xs:List PyData):Prop:=∃vs n,h.get? a=some (bU vs n)∧Reps h M vs.toList xs
noncomputable def cQ(h:Heap)(M:List Addr)(v:Value):V→Prop
 |.d x=>Rep h M v x
 |.r a b c=>∃p t u k,v=.ref p∧p∉M∧IsRange h p a b c t u k
 |.o xs=>∃a,v=.ref a∧fU h M a xs
theorem uM{a c:Int}{u v:Tok}:¬b_ {cls:=.type "range",dict:=none,data:=.fields #[.int a t,.int b u,.int c v],slots:=#[]}:=λh=>by cases h.1
theorem fU.ext{W:Wd}(x:SX W s s'){xs:List PyData}(r:fU s.heap M a xs):fU s'.heap M a xs:=by
 obtain⟨vs,n,e,r⟩:=r
 exact⟨vs,n,x.keep _ _ e cV,r.ext x⟩
theorem cQ.ext{W:Wd}(x:SX W s s'){d:V}(r:cQ s.heap M v d):cQ s'.heap M v d:=by
 cases d with
 |d y=>exact Rep.ext x r
 |r a b c=>obtain⟨p,t,u,k,e,hp,r⟩:=r;exact⟨p,t,u,k,e,hp,x.keep _ _ r uM⟩
 |o xs=>exact r.elim λa q=>⟨a,q.1,q.2.ext x⟩
theorem cQ.mono(k:∀b o,b∉M→h.get? b=some o→¬b_ o→h'.get? b=some o)(m:∀a∈M',a∈M∨h.get? a=none){d:V}(z:d.own=false)(r:cQ h M v d):cQ h' M' v d:=by
 cases d with
 |d y=>exact Rep.mono k m r
 |r a b c=>obtain⟨p,t,u,q,e,hp,r⟩:=r;exact⟨p,t,u,q,e,(λz=>(m _ z).elim hp (λz=>Option.some_ne_none _ (Eq.trans (show some _=h.get? p from Eq.symm r) z))),k _ _ hp r uM⟩
 |o xs=>cases z
inductive dN(h:Heap)(M:List Addr):List Value→List V→Prop
 |nil:dN h M [] []
 |cons {v:Value} {vs:List Value} {d:V} {ds:List V}:cQ h M v d→dN h M vs ds→dN h M (v::vs) (d::ds)
theorem dN.length{vs:List Value}{ds:List V}(r:dN h M vs ds):vs.length=ds.length :=
 dN.rec (motive:=λvs ds _=>vs.length=ds.length) rfl (λ_ _ ih=>congrArg (·+1) ih) r
structure j3(W:Wd)(A:Around)(_n:Nat):Prop where
 handled:A.handled=W.exc.map Value.ref
 depth:A.depth≤960
 units:A.units+150≤cLine
structure dA(W:Wd)(A:Around)(n:Nat):Prop where
 handled:A.handled=W.exc.map Value.ref
 depth:A.depth+n≤900
 units:A.units+4*n+200≤cLine
theorem dA.deeper{W:Wd}(r:dA W A (n+1)):dA W (A.deeper env) n:=⟨r.handled,oF r.depth,by have:=r.units;show A.units+3+4*n+200≤cLine;lia⟩
theorem dA.w{W:Wd}(r:dA W A n):j3 W A n:=⟨r.handled,by have:=r.depth;exact ab (ay (Around.depth A) n) (ab this (c8 rfl)),by have:=r.units;lia⟩
theorem j3.hn{W:Wd}(r:j3 W A n)(nx:W.exc=none):A.handled=none:=by rw[r.handled,nx];rfl
theorem B_{W:Wd}(h:A.handled=W.exc.map Value.ref)(g:cU W s):fA A s.heap:=by
 cases e:W.exc with
 |none=>rw[e] at h;exact .inl h
 |some e₀ =>
  rw[e] at h
  obtain⟨o,vs,h1,h2,h3⟩:=W.excO e g.ok
  exact .inr ⟨e₀,o,vs,h,h1,h2,h3⟩
theorem j3.hd{W:Wd}(r:j3 W A n)(g:cU W s):fA A s.heap:=B_ r.handled g
noncomputable def c_(h:Heap)(env:Env)(x:Str)(v:Value):Prop :=
 (env.kindOf x=some .local∧∃m,h.Ns env.locals m∧m x=some v) ∨
 ((env.kindOf x=some .cell∨env.kindOf x=some .free)∧∃c,env.cells.lookup x=some c∧h.IsCell c (some v))
theorem en(n:h.Ns a m):∃o,h.get? a=some o∧¬b_ o:=by
 obtain⟨o,es,ep,e,hd,_⟩:=n
 exact⟨o,e,λt=>t.2.elim λfs q=>by rw[hd] at q;cases q.1⟩
theorem Ns.ext{W:Wd}(x:SX W s s')(n:s.heap.Ns a m):s'.heap.Ns a m:=by
 obtain⟨o,es,ep,e,hd,r⟩:=n
 exact⟨o,es,ep,x.keep _ _ e (λt=>t.2.elim λfs q=>by rw[hd] at q;cases q.1),hd,r⟩
theorem Cell.ext{W:Wd}(x:SX W s s'){v:Option Value}(n:s.heap.IsCell a v):s'.heap.IsCell a v:=by
 obtain⟨o,e,hd⟩:=n
 exact⟨o,x.keep _ _ e (λt=>t.2.elim λfs q=>by replace q:=hd▸q;cases q.1),hd⟩
theorem CodeRec.ext{W:Wd}(x:SX W s s'){q:Str}(n:s.heap.CodeRec cd q):s'.heap.CodeRec cd q:=by
 refine aa λhQ=>?_
 obtain⟨c,o,vs,t,e1,e2,e3,e4⟩:=n
 (refine hQ ?_;clear hQ)
 exact⟨c,o,vs,t,e1,x.keep _ _ e2 (λz=>by(obtain⟨fs,f1,f2⟩:=z.2;rw[e3] at f1;cases f1;exact f2 _ _ e4)),e3,e4⟩
theorem c_.ext{W:Wd}(x:SX W s s'){y:Str}(r:c_ s.heap env y v):c_ s'.heap env y v :=
 r.imp (λq=>⟨q.1,q.2.elim λm q=>⟨m,Ns.ext x q.1,q.2⟩⟩) λq=>⟨q.1,q.2.elim λc q=>⟨c,q.1,Cell.ext x q.2⟩⟩
noncomputable def oQ(h:Heap)(env:Env)(M:List Addr)(x:Str):Slot→Prop
 |.un=>True
 |.sh v=>v.own=false∧∃val,c_ h env x val∧cQ h M val v
 |.ow xs=>∃a,c_ h env x (.ref a)∧fU h M a xs
 |.mx _ _=>True
theorem oQ.ext{W:Wd}(x:SX W s s'){y:Str}{sl:Slot}(r:oQ s.heap env M y sl):oQ s'.heap env M y sl:=by
 cases sl with
 |un=>trivial
 |sh v=>exact⟨r.1,r.2.elim λv q=>⟨v,q.1.ext x,q.2.ext x⟩⟩
 |ow xs=>exact r.elim λa q=>⟨a,q.1.ext x,q.2.ext x⟩
 |mx=>trivial
structure eX where
 vars:List (Str×Nat)
 size:Nat
noncomputable def Ip(Γ:eX)(env:Env)(M:List Addr)(h:Heap)(ρ:Ev):Prop:=∀x i,Γ.vars.lookup x=some i→∀sl,ρ[i]?=some sl→oQ h env M x sl
theorem Ip.ext{W:Wd}(x:SX W s s'){Γ:eX}(v:Ip Γ env M s.heap ρ):Ip Γ env M s'.heap ρ :=
 λy i e sl h=>(v y i e sl h).ext x
structure fD(env:Env)(sc:Scope):Prop where
 scope:env.scope=sc
 kind:sc.kind=ScopeKind.function
 globals:env.globals=mainGlobals
 builtins:env.builtins=builtinsNs
 cells:∀x,(sc.names.lookup x=some .cell∨sc.names.lookup x=some .free)→∃c,env.cells.lookup x=some c
 inj:∀x y c,env.cells.lookup x=some c→env.cells.lookup y=some c→x=y
 apart:∀x c,env.cells.lookup x=some c→c≠env.locals
structure rg(env:Env)(h:Heap):Prop where
 ns:∃m,h.Ns env.locals m
 cell:∀x c,env.cells.lookup x=some c→∃v,h.IsCell c v
theorem rg.ext{W:Wd}(x:SX W s s')(l:rg env s.heap):rg env s'.heap :=
 ⟨let⟨m,n⟩:=l.ns;⟨m,Ns.ext x n⟩,λy c e=>let⟨v,q⟩:=l.cell y c e;⟨v,Cell.ext x q⟩⟩
noncomputable def kQ(h:Heap)(M:List Addr):Prop:=∀a∈M,∃o,h.get? a=some o∧¬b_ o
theorem kQ.ext{W:Wd}(x:SX W s s')(m:kQ s.heap M):kQ s'.heap M:=λa ha=>let⟨o,e,n⟩:=m a ha;⟨o,x.keep _ _ e n,n⟩
theorem kQ.fresh(m:kQ h M)(e:h.get? a=none):a∉M:=λq=>by obtain⟨o,e',_⟩:=m a q;rw[e] at e';cases e'
noncomputable def zr(W:Wd)(n:Nat)(a:Addr)(φ:List V→Option V):Prop :=
 ∀(A:Around) (s:Shared) (M:List Addr) (vals:List Value) (vs:List V) (r:V) (E:Value→Shared→Prop) (Q:Value→Shared→Prop),
  dA W A n→cU W s→kQ s.heap M→dN s.heap M vals vs→(vs.all λv=>!v.own)=true→φ vs=some r →
  (∀x s',SX W s s'→r.own=false→cQ s'.heap M x r→Q x s')→wpAny (model W.prog W.w) A (call (.ref a) vals []) Q E s
noncomputable def i4(W:Wd)(n:Nat)(Φ:jU):Prop:=∀f p,W.fns[f]?=some p→zr W n p.2 (Φ f)
structure Cx(W:Wd)(Γ:eX)(scope:Scope)(n:Nat)(Φ:jU)(A:Around)(s:Shared)(ev:Env)(M:List Addr)(ρ:Ev):Prop where
 ctrs:∀f p vs r,W.fns[f]?=some p→Φ f vs=some r→dA W A n∧zr W n p.2 (Φ f)
 room:j3 W A n
 good:cU W s
 env:fD ev scope
 mok:kQ s.heap M
 vis:Ip Γ ev M s.heap ρ
 lay:rg ev s.heap
 len:ρ.length=Γ.size
 wf:∀y i,Γ.vars.lookup y=some i→i<Γ.size
theorem Cx.ext{W:Wd}{Γ:eX}(c:Cx W Γ scope n Φ A s env M ρ)(x:SX W s s'):Cx W Γ scope n Φ A s' env M ρ :=
 ⟨c.ctrs,c.room,x.good,c.env,c.mok.ext x,c.vis.ext x,c.lay.ext x,c.len,c.wf⟩
noncomputable def bJ(W:Wd)(Γ:eX)(scope:Scope)(e:Expr)(c:CE):Prop :=
 ∀(n:Nat) (Φ:jU) (A:Around) (s:Shared) (env:Env) (M:List Addr) (ρ:Ev) (v:V) (E:Value→Shared→Prop) (Q:Value→Shared→Prop),
  Cx W Γ scope n Φ A s env M ρ→ak Φ c ρ=some v→(∀x s',SX W s s'→cQ s'.heap M x v→Q x s')→wpAny (model W.prog W.w) A (eval e env) Q E s
noncomputable def gu(W:Wd)(Γ:eX)(scope:Scope)(e:Expr)(c:CE):Prop :=
 ∀(n:Nat) (Φ:jU) (A:Around) (s:Shared) (env:Env) (M:List Addr) (ρ:Ev) (v:V) (k:Bool) (E:Value→Shared→Prop) (Q:Bool→Shared→Prop),
  Cx W Γ scope n Φ A s env M ρ→ak Φ c ρ=some v→dC v=some k→(∀s',SX W s s'→Q k s')→wpAny (model W.prog W.w) A (isTrue e env (eval e env)) Q E s
section
variable{w w2 w3:Value}
theorem cG{i:Int}(r:cQ h M w (.d (.int i))):∃t,w=.int i t:=by cases r with | int i t=>exact⟨t,rfl⟩
theorem jb(r:cQ h M w (.d (.str x))):∃t,w=.str x t:=by cases r with | str x t=>exact⟨t,rfl⟩
theorem i8{xs:List PyData}(r:cQ h M w (.d (.list xs))):∃l vs n,w=.ref l∧l∉M∧h.get? l=some (bU vs n)∧Reps h M vs.toList xs:=by
 cases r with | list h1 h2 h3=>exact⟨_,_,_,rfl,h1,h2,h3⟩
theorem Bu{xs:List PyData}(r:cQ h M w (.d (.tuple xs))):∃l vs n,w=.ref l∧l∉M∧h.get? l=some (ik vs n)∧Reps h M vs.toList xs:=by
 cases r with | tuple h1 h2 h3=>exact⟨_,_,_,rfl,h1,h2,h3⟩
@[elab_as_elim] theorem iX{G:Value→Prop}{i:Int}(r:cQ h M w (.d (.int i)))(k:∀t,G (.int i t)):G w:=by obtain⟨t,rfl⟩:=cG r;exact k t
@[elab_as_elim] theorem jZ{G:Value→Prop}(r:cQ h M w (.d (.str x)))(k:∀t,G (.str x t)):G w:=by obtain⟨t,rfl⟩:=jb r;exact k t
@[elab_as_elim] theorem vO{G:Value→Prop}{xs:List PyData}(r:cQ h M w (.d (.list xs)))(k:∀l vs n,l∉M→h.get? l=some (bU vs n)→Reps h M vs.toList xs→G (.ref l)):G w:=by
 obtain⟨l,vs,n,rfl,h1,h2,h3⟩:=i8 r;exact k l vs n h1 h2 h3
@[elab_as_elim] theorem ze{G:Value→Prop}{xs:List PyData}(r:cQ h M w (.d (.tuple xs)))(k:∀l vs n,l∉M→h.get? l=some (ik vs n)→Reps h M vs.toList xs→G (.ref l)):G w:=by
 obtain⟨l,vs,n,rfl,h1,h2,h3⟩:=Bu r;exact k l vs n h1 h2 h3
@[elab_as_elim] theorem F_{G:Value→Prop}{xs:List PyData}(r:cQ h M w (.o xs))(k:∀l vs n,h.get? l=some (bU vs n)→Reps h M vs.toList xs→G (.ref l)):G w:=by
 obtain⟨l,rfl,vs,n,h2,h3⟩:=r;exact k l vs n h2 h3
variable{xs:List V}
theorem HF{v:V}(r:dN h M vals [v]):∃w,vals=[w]∧cQ h M w v:=by cases r with | cons a t=>cases t;exact⟨_,rfl,a⟩
theorem KG{v u:V}(r:dN h M vals [v,u]):∃w z,vals=[w,z]∧cQ h M w v∧cQ h M z u:=by
 cases r with | cons a t=>obtain⟨z,rfl,b⟩:=HF t;exact⟨_,_,rfl,a,b⟩
theorem La{v u p:V}(r:dN h M vals [v,u,p]):∃w z y,vals=[w,z,y]∧cQ h M w v∧cQ h M z u∧cQ h M y p:=by
 cases r with | cons a t=>obtain⟨z,y,rfl,b,c⟩:=KG t;exact⟨_,_,_,rfl,a,b,c⟩
variable{y:α}{G:List Value→Prop}
@[elab_as_elim] theorem p1{f:V→Option α}(e:(jv xs).bind f=some y)(r:dN h M vals xs)(k:∀w v,cQ h M w v→f v=some y→G [w]):G vals:=by
 obtain⟨a,h1,e⟩:=aJ e
 simp only[xq h1] at r
 obtain⟨w,rfl,q⟩:=HF r
 exact k w a q e
@[elab_as_elim] theorem JT{f:Int→Option α}(e:((jv xs).bind λv=>(dM v).bind f)=some y)(r:dN h M vals xs)(k:∀i t,f i=some y→G [.int i t]):G vals :=
 p1 e r λw v q e=>(aJ e).elim λi e=>by obtain⟨t,rfl⟩:=cG (dk e.1▸q);exact k i t e.2
@[elab_as_elim] theorem Jk{f:Str→Option α}(e:((jv xs).bind λv=>(jh v).bind f)=some y)(r:dN h M vals xs)(k:∀i t,f i=some y→G [.str i t]):G vals :=
 p1 e r λw v q e=>(aJ e).elim λi e=>by obtain⟨t,rfl⟩:=jb (fH e.1▸q);exact k i t e.2
@[elab_as_elim] theorem Km{f:List PyData→Option α}(e:((jv xs).bind λv=>(g8 v).bind f)=some y)(r:dN h M vals xs)(k:∀ds l vs n,h.get? l=some (bU vs n)→Reps h M vs.toList ds→f ds=some y→G [.ref l]):G vals :=
 p1 e r λw v q e=>(aJ e).elim λi e=>by obtain⟨l,vs,n,rfl,_,q2,q3⟩:=i8 (fF e.1▸q);exact k i l vs n q2 q3 e.2
@[elab_as_elim] theorem KB{f:PyData→Option α}(e:((jv xs).bind λv=>(kq v).bind f)=some y)(r:dN h M vals xs)(k:∀w d,Rep h M w d→f d=some y→G [w]):G vals :=
 p1 e r λw v q e=>(aJ e).elim λd e=>k w d (by simp only[eO e.1] at q;exact q) e.2
@[elab_as_elim] theorem p2{f:Int→Int→Option α}(e:((zA xs).bind λp=>(dM p.1).bind λa=>(dM p.2).bind λb=>f a b)=some y)(r:dN h M vals xs)(k:∀i t j u,f i j=some y→G [.int i t,.int j u]):G vals:=by
 obtain⟨a,h1,e⟩:=aJ e
 obtain⟨i,h2,e⟩:=aJ e
 obtain⟨j,h3,e⟩:=aJ e
 simp only[sF h1,dk h2,dk h3] at r
 obtain⟨w,z,rfl,q1,q2⟩:=KG r
 obtain⟨t,rfl⟩:=cG q1
 obtain⟨u,rfl⟩:=cG q2
 exact k i t j u e
@[elab_as_elim] theorem p3{g:V→Option β}{f:β→Int→Int→Option α}(e:((DQ xs).bind λp=>(g p.1).bind λx=>(dM p.2.1).bind λa=>(dM p.2.2).bind λb=>f x a b)=some y)(r:dN h M vals xs)
  (k:∀w v x i t j u,cQ h M w v→g v=some x→f x i j=some y→G [w,.int i t,.int j u]):G vals:=by
 obtain⟨a,h1,e⟩:=aJ e
 obtain⟨x,h0,e⟩:=aJ e
 obtain⟨i,h2,e⟩:=aJ e
 obtain⟨j,h3,e⟩:=aJ e
 simp only[E6 h1,dk h2,dk h3] at r
 obtain⟨w,z,p,rfl,q0,q1,q2⟩:=La r
 obtain⟨t,rfl⟩:=cG q1
 obtain⟨u,rfl⟩:=cG q2
 exact k w a.1 x i t j u q0 h0 e
end
end
variable{Γi:eX}
theorem cW(h:c0 n=true):n≤2^20:=of_decide_eq_true h
theorem pG{i:Int}(h:iz i=true):i.natAbs<2^3000:=of_decide_eq_true h
section
variable{W:Wd}{a b:Value}{x y v:V}
theorem gC{k:Bool}{Q:Bool→Shared→Prop}(g:cU W s)(ha:cQ s.heap M a x)(e:dC x=some k)(h:∀s',SX W s s'→Q k s'):wpAny (model W.prog W.w) A (truthy a) Q E s:=by
 obtain⟨d,hd,e⟩:=aJ e
 simp only[eO hd] at ha
 have h:∀{tk b},b=k→Q b {s with toks:=tk}:=λq=>q▸h _ (SX.toks g)
 have ha:Rep s.heap M a d:=ha
 cases ha with
 |none=>exact truthy_none (h (am e))
 |bool c=>exact wpAny_truthy_bool (h (am e))
 |int i t=>exact truthy_int (h (am e))
 |str z t =>
  obtain⟨hz,e⟩:=cq e
  have hz:=cW hz
  have e1:((z.length:Int) != 0)=(z.length != 0):=by
   rw[Bool.eq_iff_iff];simp
  exact PyProof.Rows.SBL.truthy (iy hz (c8 rfl)) (h (e1.trans e))
 |@list l vs m xs hm ho r =>
  obtain⟨hz,e⟩:=cq e
  have hl:=r.length
  simp only[aD] at hl
  have hz:=cW hz
  exact wpAny_truthy_list ⟨_,ho,rfl,_,rfl⟩ (iy (aw hl) (iy hz (c8 rfl))) (h ((congrArg (!·) (by rw[Array.isEmpty,hl,Bool.eq_iff_iff,ar,List.isEmpty_iff,List.length_eq_zero_iff])).trans e))
 |tuple=>cases e
theorem GH{op:UnaryOp}(g:cU W s)(ha:cQ s.heap M a x)(e:Ks op x=some v)(h:∀r s',SX W s s'→cQ s'.heap M r v→Q r s') :
  wpAny (model W.prog W.w) A (unaryOp op a) Q E s:=by
 have h:∀r s' u,u=v→SX W s s'→cQ s'.heap M r u→Q r s':=λr s' u q x y=>h r s' x (q▸y)
 cases op with
 |UAdd=>cases e
 |USub =>
  obtain⟨i,hi,e⟩:=aJ e
  rw[dk hi] at ha
  exact iX ha λt=>neg_int (h _ _ _ (am e) (SX.toks g) (.int _ _))
 |Invert =>
  obtain⟨i,hi,e⟩:=aJ e
  rw[dk hi] at ha
  exact iX ha λt=>invert_int (h _ _ _ (am e) (SX.toks g) (.int _ _))
 |Not=>exact(aJ e).elim λk e=>not_of (gC g ha e.1 λs' x=>h _ _ _ (am e.2) x (.bool _))
theorem HQ{a b:Int}(ha:iz a=true)(hb:iz b=true):IntMulOk a b:=by
 have h1:=intBits_le (pG ha)
 have h2:=intBits_le (pG hb)
 unfold IntMulOk Builtin.Int.intTooBig
 have:¬(((Builtin.Int.intBits a+Builtin.Int.intBits b:Nat):Int)>(bitsLine:Int)):=by unfold bitsLine;exact Int.not_lt_of_ge (vo (Nat.add_le_add h1 h2) (c8 rfl))
 rw[ag,ar,not_and]
 intro _ q
 apply this
 push_cast
 exact q
theorem G6{a b:Int}(hb:iz b=true):Builtin.divisionGoesByPylong a b=false:=by
 apply PyProof.noPylong_of_log2
 by_cases z:b.natAbs=0
 ·rw[z];decide
 ·exact Nat.lt_trans ((Nat.log2_lt z).mpr (pG hb)) (by decide)
section
variable{a b:Int}
theorem rC:i_ .Mult a b=if iz a&&iz b then some (a*b) else none:=rfl
theorem AQ:i_ .FloorDiv a b=if b != 0&&iz b then some (a.fdiv b) else none:=rfl
theorem Ct:i_ .Mod a b=if b != 0&&iz b then some (a.fmod b) else none:=rfl
theorem zI:i_ .Pow a b=if iz a&&decide (0≤b)&&decide (b≤1000) then some (a^b.toNat) else none:=rfl
theorem Hl:i_ .LShift a b=if iz a&&decide (0≤b)&&decide (b≤8000) then some (a*2^b.toNat) else none:=rfl
theorem Cl:i_ .RShift a b=if decide (0≤b) then some (a.fdiv (2^b.toNat)) else none:=rfl
end
theorem p7{i j k:Int}{u:Tok}(e:i_ op i j=some k)(h:∀tk tk',Q (.int k tk) {s with toks:=tk'}) :
  wpAny (model W.prog W.w) A (binaryOp op (.int i t) (.int j u)) Q E s:=by
 have h:∀{c},c=k→∀{tk tk'},Q (.int c tk) {s with toks:=tk'}:=λ{c} q {tk tk'}=>q▸h tk tk'
 cases op with
 |Add=>exact PyProof.Rows.add_int (h (am e))
 |Sub=>exact PyProof.Rows.sub_int (h (am e))
 |Mult =>
  simp only[rC] at e
  obtain⟨q,e⟩:=cq e
  simp only[ag] at q
  exact PyProof.Rows.mul_int (h e) (HQ q.1 q.2)
 |FloorDiv =>
  simp only[AQ] at e
  obtain⟨q,e⟩:=cq e
  rw[ag,cz] at q
  exact floordiv_int q.1 (h e) (.inl (G6 q.2))
 |Mod =>
  simp only[Ct] at e
  obtain⟨q,e⟩:=cq e
  rw[ag,cz] at q
  exact mod_int' q.1 (h e)
 |Pow =>
  simp only[zI] at e
  obtain⟨q,e⟩:=cq e
  simp only[ag,ag,ar,ar] at q
  refine pow_int q.1.2 ?_ (h e)
  have h1:=intBits_le (pG q.1.1)
  exact Int.le_trans (Int.mul_le_mul (cC.mpr h1) q.2 q.1.2 (by decide)) (by decide)
 |LShift =>
  simp only[Hl] at e
  obtain⟨q,e⟩:=cq e
  rw[ag,ag,ar,ar] at q
  have h1:=intBits_le (pG q.1.1)
  exact lshift_int q.1.2 (by have:=q.2;lia) (h e)
 |RShift =>
  simp only[Cl] at e
  obtain⟨q,e⟩:=cq e
  exact rshift_int (of_decide_eq_true q) (h e)
 |BitAnd=>exact and_int (h (am e))
 |BitOr=>exact PyProof.Rows.or_int (h (am e))
 |BitXor=>exact xor_int (h (am e))
 |Div=>cases e
 |MatMult=>cases e
theorem Cj{l b:Addr}{ws:Array Value}{m:Nat}(hl:s.heap.get? l=some (bU vs n))(hb:s.heap.get? b=some (bU ws m))
  (h:Q (.ref s.heap.objs.size) {s with heap:=s.heap.push (bU (vs++ws) 0)}) (hsz:vs.size+ws.size≤sizeLine) :
  wpAny (model W.prog W.w) A (binaryOp .Add (.ref l) (.ref b)) Q E s :=
 concat_meets ⟨_,hl,rfl⟩ ⟨_,hb,rfl⟩ noFill_list_add seq_list_add PySem.F.slot_list_add PySem.F.entry_list_add (PySem.F.args_list_add_2 _ _) (list_addW l b vs ws n m none none #[] #[] hsz) ⟨hl,hb,h⟩
theorem o7{l:Addr}{x:Int}{u:Tok}(hl:s.heap.get? l=some (bU items k))
  (hlo:-(2^63:Int)≤x) (hhi:x<2^63) (hsz:items.size*x.toNat≤2^24)
  (h:Q (.ref s.heap.objs.size) {s with heap:=s.heap.push (bU (List.foldl (λx1 x2=>x1++x2) #[] (List.replicate (if items.isEmpty=true then 0 else x.toNat) items)) 0)}) :
  wpAny (model W.prog W.w) A (binaryOp .Mult (.ref l) (.int x u)) Q E s :=
 wpAny_binaryOp_repeat_ref (T:="list") (U:="int") (by decide) ⟨_,hl,rfl⟩ (λs'=>typeIs_int s' x u) noFill_list_mul PySem.F.fills_int_mul PySem.F.slot_int_rmul repeat_list PySem.F.slot_int_index.lookup
  (call_meets PySem.F.slot_int_rmul (typeIs_int s x u) PySem.F.entry_int_rmul (PySem.F.args_int_rmul_2 _ _) (int___rmul___int_list x u l items k)
   ⟨hl,rfl,⟨_,hl,rfl⟩,call_meets PySem.F.slot_list_mul ⟨_,hl,rfl⟩ PySem.F.entry_list_mul (PySem.F.args_list_mul_2 _ _)
    (AutoListH.list___mul___list_int_3 l items k x u (by simp[Builtin.List.listFitsIndex];lia) (Gm (sr ((2^63-1) / 8)) (aF ((2^63-1) / 8))   (ab hsz (c8 rfl))) (by simp[Builtin.List.listTooLong,sizeLine];exact hsz))
    ⟨hl,h⟩⟩)
theorem bD(h:Heap):h.get? h.objs.size=none:=Heap.get?_none_of_le (aF _)
theorem Ap{tk:Nat}(g:cU W s)(mok:kQ s.heap M)(r:Reps s.heap M vs.toList xs) :
  Rep (s.heap.push (bU vs k)) M (.ref s.heap.objs.size) (.list xs) :=
 .list (mok.fresh (bD _)) (aI _ rfl) (Reps.ext (SX.push (tk:=tk) g) r)
theorem I0{tk:Nat}(g:cU W s)(mok:kQ s.heap M)(r:Reps s.heap M vs.toList xs) :
  Rep (s.heap.push (ik vs k)) M (.ref s.heap.objs.size) (.tuple xs) :=
 .tuple (mok.fresh (bD _)) (aI _ rfl) (Reps.ext (SX.push (tk:=tk) g) r)
theorem yF(l:List (Array α)):∀(acc:Array α),(l.foldl (λx y=>x++y) acc).toList=acc.toList++(l.map Array.toList).flatten:=by
 induction l with
 |nil =>
  intro acc
  simp
 |cons x l ih =>
  intro acc
  simp only[List.foldl_cons,ih];simp
theorem Reps.replicate{vs:List Value}(r:Reps h M vs xs):∀n:Nat,Reps h M (List.replicate n vs).flatten (List.replicate n xs).flatten
 |0=>.nil
 |n+1=>by simp only[List.replicate_succ,List.replicate_succ,List.flatten_cons,List.flatten_cons];exact Reps.append r (Reps.replicate r n)
theorem rH(vs:Array Value)(k:Nat):(List.foldl (λx y=>x++y) #[] (List.replicate (if vs.isEmpty=true then 0 else k) vs)).toList=(List.replicate k vs.toList).flatten:=by
 simp only[yF,show(#[]:Array Value).toList=[] from rfl,c4,List.map_replicate]
 by_cases z:vs.isEmpty=true
 ·have:vs.toList=[]:=by simpa using z
  rw[if_pos z,this];simp
 ·rw[if_neg z]
theorem EE(g:cU W s)(mok:kQ s.heap M)(ha:cQ s.heap M a x)(hb:cQ s.heap M b y)(e:k7 op x y=some v)
  (h:∀r s',SX W s s'→cQ s'.heap M r v→Q r s'):wpAny (model W.prog W.w) A (binaryOp op a b) Q E s:=by
 have h:∀r s' u,u=v→SX W s s'→cQ s'.heap M r u→Q r s':=λr s' u q x y=>h r s' x (q▸y)
 obtain⟨x,hx,e⟩:=aJ e
 obtain⟨y,hy,e⟩:=aJ e
 replace ha:=eO hx▸ha
 simp only[eO hy] at hb
 clear hx hy
 cases x with
 |int i =>
  obtain⟨j,hj,e⟩:=aJ e
  obtain⟨k,hk,e⟩:=aJ e
  rw[gL hj] at hb
  exact iX ha λ_=>iX hb λ_=>p7 hk λ_ _=>h _ _ _ (am e) (SX.toks g) (.int _ _)
 |str z =>
  obtain⟨w,hw,e⟩:=aJ e
  replace hb:=kl hw▸hb
  cases op with
  |Add =>
   obtain⟨q,e⟩:=cq e
   exact jZ ha λ_=>jZ hb λ_=>PyProof.Rows.add_str (λ_ _=>h _ _ _ e (SX.toks g) (.str _ _)) (ab (cW q) (by decide))
  |_=>cases e
 |list xs =>
  refine vO ha λl vs m _ ha2 ha3=>?_
  have l1:=ha3.length
  simp only[aD] at l1
  cases op with
  |Add =>
   obtain⟨ys,hy,e⟩:=aJ e
   obtain⟨q,e⟩:=cq e
   rw[nQ hy] at hb
   refine vO hb λl vs m _ hb2 hb3=>?_
   have l2:=hb3.length
   simp only[aD] at l2
   refine Cj ha2 hb2 (h _ _ _ e (SX.push (tk:=s.toks) g) (Ap (tk:=s.toks) g mok ?_)) (by simp only[l1,l2];exact ab (cW q) (by decide))
   rw[Array.toList_append]
   exact Reps.append ha3 hb3
  |Mult =>
   obtain⟨n,hn,e⟩:=aJ e
   obtain⟨q,e⟩:=cq e
   simp only[ag,ag,ar] at q
   have q1:=cW q.1.2
   replace hb:=gL hn▸hb
   have q0:=q.1.1
   refine iX hb λt=>o7 ha2 (by exact Int.le_trans (by decide) q0) (by(clear q0 e q hn hb l1 ha3 ha2 ha h mok g;lia)) (by rw[l1];exact ab (cW q.2) (by decide)) (h _ _ _ e (SX.push (tk:=s.toks) g) (Ap (tk:=s.toks) g mok ?_))
   rw[rH]
   exact Reps.replicate ha3 _
  |_=>cases e
 |_=>cases e
end
theorem Rep.reads{v:Value}(r:Rep h M v d):∃as,Reads h v d as :=
 @Rep.rec h M (λv d _=>∃as,Reads h v d as) (λvs ds _=>∃as,ReadsAll h vs ds as) ⟨_,.none⟩ (λb=>⟨_,.bool b⟩) (λi t=>⟨_,.int i t⟩) (λx t=>⟨_,.str x t⟩)
  (λ_ e _ ih=>ih.elim λ_ q=>⟨_,.list e rfl rfl q⟩) (λ_ e _ ih=>ih.elim λ_ q=>⟨_,.tuple e rfl rfl q⟩) ⟨_,.nil⟩ (λ_ _ a b=>a.elim λ_ q=>b.elim λ_ p=>⟨_,.cons q p⟩) _ _ r
theorem Reps.reads{vs:List Value}(r:Reps h M vs ds):∃as,ReadsAll h vs ds as :=
 Reps.ind (P:=λvs ds=>∃as,ReadsAll h vs ds as) ⟨_,.nil⟩ (λ_ _ _ _ a _ b=>a.reads.elim λ_ q=>b.elim λ_ p=>⟨_,.cons q p⟩) r
theorem sQ:xs.all fY=true→PyData.canLayAll0 xs=true:=by
 induction xs with
 |nil =>
  intro _
  exact rfl
 |cons x xs ih =>
  intro h
  simp only[List.all_cons,ag] at h
  simp[PyData.canLayAll0,(SeqAt.canLay_of_shaped h.1),(ih h.2)]
section
variable{W:Wd}{a b:Value}{x y v:V}
theorem pE{a b:Value}{x y:PyData}{k:Bool}(ha:Rep h M a x)(hb:Rep h M b y)(e:Gp x y=some k):plainIs a b=true∧(a==b)=k:=by
 obtain⟨q,e⟩:=cq e
 simp only[←e];clear e
 cases hb with
 |none=>cases ha<;>exact⟨rfl,rfl⟩
 |bool c =>
  cases ha with
  |bool d=>cases c<;>cases d<;>exact⟨rfl,rfl⟩
  |_=>exact⟨rfl,rfl⟩
 |_=>cases q
theorem lY{f:Int→Int→Bool}{x y:PyData}{k:Bool}{P:Value→Value→Prop}(ha:Rep s.heap M a x)(hb:Rep s.heap M b y)(e:Bh x y f=some k)(h:∀i t j u,f i j=k→P (.int i t) (.int j u)):P a b:=by
 obtain⟨i,hi,e⟩:=aJ e
 obtain⟨j,hj,e⟩:=aJ e
 simp only[gL hi] at ha
 simp only[gL hj] at hb
 obtain⟨t,rfl⟩:=cG ha
 obtain⟨u,rfl⟩:=cG hb
 exact h i t j u (am e)
theorem kB{op:CmpOp}(R:j3 W A n)(g:cU W s)(ha:cQ s.heap M a x)(hb:cQ s.heap M b y)(e:vS op x y=some v)
  (h:∀r s',SX W s s'→cQ s'.heap M r v→Q r s'):wpAny (model W.prog W.w) A (compareOp op a b) Q E s:=by
 obtain⟨x,hx,e⟩:=aJ e
 obtain⟨y,hy,e⟩:=aJ e
 obtain⟨k,hk,e⟩:=aJ e
 simp only[eO hx] at ha
 simp only[eO hy] at hb
 have f:∀{c},c=k→Q (.bool c) s:=λhc=>h _ _ (SX.refl g) (by simp only[←am e,←hc];exact .bool _)
 have ha:Rep s.heap M a x:=ha
 have hb:Rep s.heap M b y:=hb
 clear h hx hy e
 have hu:A.units+100<cLine:=by have:=R.units;exact Nat.add_lt_of_lt_sub (au (Nat.le_sub_of_add_le this) (c8 rfl))
 have hu2:A.units+30<cLine:=au (Nat.add_le_add_left (by decide) _) hu
 have rd:∃as bs,Reads s.heap a x as∧Reads s.heap b y bs:=ha.reads.elim λas p=>hb.reads.elim λbs q=>⟨as,bs,p,q⟩
 cases op with
 |Eq =>
  obtain⟨q,e⟩:=cq hk
  rw[ag] at q
  exact rd.elim λas r=>r.elim λbs r=>SeqAt.compareEq_shaped r.1 r.2 q.1 q.2 (Nat.add_lt_of_lt_sub (ae (Nat.lt_sub_of_add_lt hu) (c8 rfl))) (f e)
 |NotEq =>
  obtain⟨q,e⟩:=cq hk
  rw[ag] at q
  exact rd.elim λas r=>r.elim λbs r=>SeqAt.compareNe_shaped r.1 r.2 q.1 q.2 (Nat.add_lt_of_lt_sub (ae (Nat.lt_sub_of_add_lt hu) (c8 rfl))) (f e)
 |Is =>
  obtain⟨h1,h2⟩:=pE ha hb hk
  exact wpAny_is_plain h1 (f h2)
 |IsNot =>
  obtain⟨c,hc,e⟩:=aJ hk
  obtain⟨h1,h2⟩:=pE ha hb hc
  exact wpAny_isNot_plain h1 (f ((congrArg (!·) h2).trans (am e)))
 |In =>
  cases y with
  |str t =>
   obtain⟨p,hp,e⟩:=aJ hk
   simp only[kl hp] at ha
   exact jZ ha λ_=>jZ (show cQ s.heap M b (.d (.str t)) from hb) λ_=>PySem.P.in_str (f (am e))
  |list ys =>
   obtain⟨q,e⟩:=cq hk
   simp only[ag] at q
   exact rd.elim λas r=>r.elim λbs r=>SeqAt.in_list_reads r.2 r.1 (sQ q.2) (SeqAt.canLay_of_shaped q.1) (room_in_shaped q.1 (Nat.add_lt_of_lt_sub (ae (Nat.lt_sub_of_add_lt hu) (c8 rfl)))) (f e)
  |_=>cases hk
 |NotIn =>
  obtain⟨c,hc,e0⟩:=aJ hk
  cases y with
  |str t =>
   obtain⟨p,hp,e⟩:=aJ hc
   rw[kl hp] at ha
   exact jZ ha λ_=>jZ (show cQ s.heap M b (.d (.str t)) from hb) λ_=>PySem.P.notIn_str (f ((congrArg (!·) (am e)).trans (am e0)))
  |list ys =>
   obtain⟨q,e⟩:=cq hc
   rw[ag] at q
   exact rd.elim λas r=>r.elim λbs r=>SeqAt.notIn_list_reads r.2 r.1 (sQ q.2) (SeqAt.canLay_of_shaped q.1) (room_in_shaped q.1 (Nat.add_lt_of_lt_sub (ae (Nat.lt_sub_of_add_lt hu) (c8 rfl)))) (f ((congrArg (!·) e).trans (am e0)))
  |_=>cases hc
 |Lt=>exact lY (P:=λa b=>wpAny _ A (compareOp .Lt a b) Q E s) ha hb hk λ_ _ _ _ e=>PyProof.Rows.lt_int (f e)
 |LtE=>exact lY (P:=λa b=>wpAny _ A (compareOp .LtE a b) Q E s) ha hb hk λ_ _ _ _ e=>PyProof.Rows.le_int (f e)
 |Gt=>exact lY (P:=λa b=>wpAny _ A (compareOp .Gt a b) Q E s) ha hb hk λ_ _ _ _ e=>PyProof.Rows.gt_int (f e)
 |GtE=>exact lY (P:=λa b=>wpAny _ A (compareOp .GtE a b) Q E s) ha hb hk λ_ _ _ _ e=>PyProof.Rows.ge_int (f e)
theorem fM(slice:Expr)(o i:Value):∃ops,subscripted slice false o i=operate ops (getItem o i):=by
 cases slice with
 |Slice a b c p=>cases c<;>exact⟨_,rfl⟩
 |_=>exact⟨_,rfl⟩
theorem rh{i:Int}{l:Addr}{m:Nat}(ho:s.heap.get? l=some (bU vs m))(r:Reps s.heap M vs.toList xs)
  (e:iT xs i=some d) (h:∀u,Rep s.heap M u d→Q u s):wpAny (model W.prog W.w) A (getItem (.ref l) (.int i t)) Q E s:=by
 have hl:=r.length
 simp only[aD] at hl
 unfold iT at e
 split at e
 ·rename_i q
  refine aa λhQ=>?_
  obtain⟨u,h1,h2⟩:=r.get _ _ e
  (refine hQ ?_;clear hQ)
  exact wpAny_getItem_list ⟨_,ho,rfl,_,rfl⟩ q.1 (Int.lt_of_lt_of_le (And.right q) (c8 rfl)) (by simpa using h1) (h u h2)
 ·split at e
  ·rename_i q
   obtain⟨u,h1,h2⟩:=r.get _ _ e
   refine wpAny_getItem_list_neg ⟨_,ho,rfl,_,rfl⟩ q.1 ?_ ?_ ?_ (h u h2)
   all_goals (try rw[hl];try exact And.left (And.right q))
   all_goals first | exact bn   (Int.lt_of_lt_of_le     (Int.neg_lt_neg (iy (aE (And.right (And.right q))) (c8 rfl)))     (And.left (And.right q))) | (rw[←Array.getElem?_toList];rw[show i+(xs.length:Int)=xs.length+i from Int.add_comm _ _];exact h1) | skip
  ·cases e
theorem tu(g:cU W s)(ha:cQ s.heap M a x)(hb:cQ s.heap M b y)(e:wR x y=some v)
  (h:∀r s',SX W s s'→cQ s'.heap M r v→Q r s'):wpAny (model W.prog W.w) A (subscriptTail value slice a b) Q E s:=by
 obtain⟨ops,hs⟩:=fM slice a b
 have h:∀{u d},some (V.d d)=some v→Rep s.heap M u d→Q u s:=λ{u d} q r=>h u s (SX.refl g) (am q▸r)
 obtain⟨i,hi,e⟩:=aJ e
 simp only[dk hi] at hb
 clear hi
 cases x with
 |r=>cases e
 |o xs =>
  obtain⟨d,hd,e⟩:=aJ e
  revert hs
  exact F_ ha λl vs m h2 h3=>iX hb λt hs=>tail_any ⟨_,h2,rfl⟩ slot_list_getitem.lookup (rh h2 h3 hd λu hu=>h e hu) hs
 |d x =>
  cases x with
  |list xs =>
   obtain⟨d,hd,e⟩:=aJ e
   revert hs
   exact vO ha λl vs m _ h2 h3=>iX hb λt hs=>tail_any ⟨_,h2,rfl⟩ slot_list_getitem.lookup (rh h2 h3 hd λu hu=>h e hu) hs
  |tuple xs =>
   obtain⟨q,e⟩:=dn e
   obtain⟨d,hd,e⟩:=aJ e
   revert hs
   refine ze ha λl vs m _ h2 h3=>iX hb λt hs=>?_
   have hl:=h3.length
   simp only[aD] at hl
   obtain⟨u,k1,k2⟩:=h3.get _ _ hd
   have hlt:i.toNat<xs.length:=(aS.mp hd).1
   exact tail_any ⟨_,h2,rfl⟩ slot_tuple_getitem.lookup (PyProof.Rows.getItem_tuple ⟨_,h2,rfl,_,rfl⟩ (bn (Int.lt_of_lt_of_le (Int.neg_neg_of_pos (c8 rfl)) (And.left q))) (Int.lt_of_lt_of_le (And.right q) (c8 rfl)) (seqIndex_of q.1 (by rw[hl];(clear k2 k1 hl hs h3 h2 e hd q ha hb h g;lia))) (by simpa using k1) (h e k2)) hs
  |_=>cases e
end
theorem uW{vs:List Value}(r:Reps h M vs ds)(js:List Nat):Reps h M (js.filterMap (vs[·]?)) (js.filterMap (ds[·]?)):=by
 induction js with
 |nil =>
  exact .nil
 |cons j js ih =>
  cases hn:ds[j]? with
  |some d =>
   refine aa λhQ=>?_
   obtain⟨v,hv,hr⟩:=r.get j d hn
   (refine hQ ?_;clear hQ)
   simp only[List.filterMap_cons,hn,hv]
   exact .cons hr (ih)
  |none =>
   have hv:vs[j]?=none:=by
    rw[List.getElem?_eq_none_iff] at hn ⊢
    rw[r.length];exact hn
   simp only[List.filterMap_cons,hn,hv]
   exact(ih)
theorem yu(r:Reps h M vs.toList ds)(lo hi st:Option Int):Reps h M (slicePick vs lo hi st).toList (fy ds lo hi st):=by
 have hl:=r.length
 simp only[aD] at hl
 have e:(slicePick vs lo hi st).toList=(sliceRange (sliceBounds lo hi st ds.length).1 (sliceBounds lo hi st ds.length).2.1 (sliceBounds lo hi st ds.length).2.2).filterMap (vs.toList[·]?):=by
  unfold slicePick
  rw[hl]
  simp
 rw[e]
 exact uW r _
theorem ty(x y:Str)(a b:Int)(t u p q:Tok)(ha:0≤a)(hb:0≤b)(hbx:b≤x.length):PySem.Gives (Builtin.«str.find» ⟨[.str x t,.str y u,.int a p,.int b q],[]⟩) (.int (oz x y a.toNat b.toNat)):=by
 have e:PySem.Gives (match Builtin.Str.occurrences x y (fromIndex x.length a) (min (fromIndex x.length b) x.length) 1 with | k::_=>retInt k | []=>(do rule "str.find.not-found";retInt (-1))) (.int (oz x y a.toNat b.toNat)):=by
  have h1:fromIndex x.length a=a.toNat:=by unfold fromIndex;rw[if_neg (by exact Int.not_lt.mpr ha)];lia
  have h2:min (fromIndex x.length b) x.length=b.toNat:=by unfold fromIndex;rw[if_neg (by exact Int.not_lt.mpr hb)];lia
  rw[h1,h2]
  unfold oz
  cases Builtin.Str.occurrences x y a.toNat b.toNat 1 with
  |nil=>exact .rule (.of_eq rfl)
  |cons k _=>exact .of_eq rfl
 exact e
theorem qx{v:Value}{k:Option Int}(p:IsPart v k):∃q:Option (Int×Tok),v=partValue q∧q.map (·.1)=k:=by
 cases p with
 |none=>exact⟨none,rfl,rfl⟩
 |int i t=>exact⟨some (i,t),rfl,rfl⟩
theorem Reps.ints{vs:List Value}(r:Reps h M vs ds):∀{ns:List Int},gA ds=some ns→∃l:List (Int×Tok),vs=l.map (λp=>.int p.1 p.2)∧l.map (·.1)=ns :=
 Reps.ind (P:=λvs ds=>∀{ns:List Int},gA ds=some ns→∃l:List (Int×Tok),vs=l.map (λp=>.int p.1 p.2)∧l.map (·.1)=ns) (λe=>⟨[],rfl,am e⟩)
  (λv vs d ds a _ ih ns e=>by
   obtain⟨i,hi,e⟩:=aJ e
   obtain⟨ms,h1,rfl⟩:=aH.mp e
   rw[gL hi] at a
   obtain⟨t,rfl⟩:=cG a
   exact(ih h1).elim λl q=>⟨(i,t)::l,congrArg (.int i t::·) q.1,congrArg (i::·) q.2⟩) r
theorem Reps.strs{vs:List Value}(r:Reps h M vs ds):∀{ns:List Str},iZ ds=some ns→StrsAre vs ns :=
 Reps.ind (P:=λvs ds=>∀{ns:List Str},iZ ds=some ns→StrsAre vs ns) (λe=>by cases e;exact .nil)
  (λv vs d ds a _ ih ns e=>by
   obtain⟨i,hi,e⟩:=aJ e
   obtain⟨ms,h1,rfl⟩:=aH.mp e
   rw[kl hi] at a
   obtain⟨t,rfl⟩:=jb a
   exact .cons _ _ (ih h1)) r
theorem Reps.ofStrs(l:List (Str×Tok)):Reps h M (strValues l) (l.map λp=>.str p.1):=by
 induction l with
 |nil =>
  exact .nil
 |cons p l ih =>
  exact .cons (.str _ _) (ih)
noncomputable def IH:List Int→Int
 |[]=>0
 |a::r=>a+IH r
theorem nq(xs:List (Int×Tok))(j:Nat):j≤xs.length→preSum (numAt xs.toArray) j=((xs.map (·.1)).take j).sum:=by
 induction j with
 |zero =>
  intro _
  exact rfl
 |succ j ih =>
  intro h
  have hj:j<xs.length:=by assumption
  simp only[preSum,(ih (by exact aE h)),List.take_add_one,List.sum_append]
  congr 1
  unfold numAt
  simp[hj]
theorem u_(l:List Int):(∀i∈l,i.natAbs≤2^40)→l.sum.natAbs≤l.length*2^40:=by
 induction l with
 |nil =>
  intro _
  decide
 |cons a l ih =>
  intro h
  have h1:=ih λi hi=>h i (aj _ hi)
  have h2:=h a al
  rw[List.sum_cons,aU,Nat.succ_mul]
  exact ab (Int.natAbs_add_le _ _) (ab (Nat.add_le_add h2 h1) (aw (Nat.add_comm _ _)))
theorem Ff{x:Int}(h:x.natAbs≤2^62):-2^63≤x∧x<2^63:=⟨Int.neg_le_of_neg_le (Int.le_trans Int.le_natAbs (Int.le_trans (cC.mpr ((Int.natAbs_neg x).symm▸h)) (by decide))),Int.lt_of_le_of_lt Int.le_natAbs (Int.lt_of_le_of_lt (cC.mpr h) (by decide))⟩
theorem DG{xs:List (Int×Tok)}(ok:u0 (xs.map (·.1))=true)(j:Nat)(hj:j<xs.toArray.size):InLong (numAt xs.toArray j)∧InLong (preSum (numAt xs.toArray) (j+1)):=by
 unfold u0 at ok
 rw[ag,ap] at ok
 have l:=cW ok.1
 rw[af] at l
 have hj:j<xs.length:=by simpa using hj
 have b:∀i∈xs.map (·.1),i.natAbs≤2^40:=λi hi=>of_decide_eq_true (ok.2 i hi)
 constructor
 ·have e:numAt xs.toArray j=(xs[j]).1:=by unfold numAt;simp[hj]
  have:=b (xs[j]).1 (List.mem_map_of_mem (List.getElem_mem hj))
  unfold InLong;rw[e];exact Ff (ab this (by decide))
 ·rw[nq xs (j+1) (by assumption)]
  have:=u_ ((xs.map (·.1)).take (j+1)) λi hi=>b i (List.mem_of_mem_take hi)
  have l2:((xs.map (·.1)).take (j+1)).length≤2^20:=by rw[bx,af];exact ab (Nat.min_le_right (j+1) (List.length xs)) l
  have l3:=Nat.mul_le_mul_right (2^40) l2
  unfold InLong;exact Ff (ab this (ab l3 (by decide)))
section
variable{W:Wd}{a b:Value}{x y v:V}
theorem qd{sl:Addr}{vl vu:Value}{lo hi:Option Int}{ops:List Value}(g:cU W s)
  (hs:s.heap.get? sl=some {cls:=.type "slice",data:=.fields #[vl,vu,.none]}) (pl:IsPart vl lo) (pu:IsPart vu hi) (q1:z.length≤2^20)
  (ho:subscripted slice false (.str z t) (.ref sl)=operate ops (getItem (.str z t) (.ref sl)))
  (h:∀r s',SX W s s'→cQ s'.heap M r (.d (.str (Txt.slice z lo hi)))→Q r s'):wpAny (model W.prog W.w) A (subscriptTail value slice (.str z t) (.ref sl)) Q E s:=by
 refine aa λhQ=>?_
 obtain⟨l,el,fl⟩:=qx pl
 obtain⟨u,eu,fu⟩:=qx pu
 (refine hQ ?_;clear hQ)
 subst el eu fl fu
 refine tail_any (typeIs_str _ _ _) PySem.F.slot_str_getitem.lookup (wpAny_getItem_str_slice (l:=l) (u:=u) (st:=none) ⟨_,hs,rfl,rfl⟩ rfl ?_) ho
 refine post_val_or_str ⟨ab (Txt.slice_le z _ _) ?_,λt' k=>h _ _ (SX.toks g) (.str _ _)⟩
 unfold sizeLine;exact ab q1 (ao _ _)
theorem xV{sl:Addr}{vl vu vk:Value}{lo hi st:Option Int}(g:cU W s)(mok:kQ s.heap M)(ha:cQ s.heap M a x)
  (hs:s.heap.get? sl=some {cls:=.type "slice",data:=.fields #[vl,vu,vk]}) (pl:IsPart vl lo) (pu:IsPart vu hi) (pk:IsPart vk st) (e:kc x lo hi st=some v)
  (h:∀r s',SX W s s'→cQ s'.heap M r v→Q r s'):wpAny (model W.prog W.w) A (subscriptTail value slice a (.ref sl)) Q E s:=by
 have fin:∀{xs:List PyData} {l:Addr} {vs:Array Value} {m:Nat},s.heap.get? l=some (bU vs m)→Reps s.heap M vs.toList xs→io xs lo hi st=some v →
   wpAny (model W.prog W.w) A (subscriptTail value slice (.ref l) (.ref sl)) Q E s:=by
  intro xs l vs m h2 h3 e
  obtain⟨q,e⟩:=cq e
  rw[ag,cz] at q
  have hl:=h3.length
  simp only[aD] at hl
  exact(fM slice (.ref l) (.ref sl)).elim λops ho=>tail_any ⟨_,h2,rfl⟩ slot_list_getitem.lookup (wpAny_getItem_list_slice ⟨_,h2,rfl,_,rfl⟩ ⟨_,hs,rfl,rfl⟩ pl pu pk q.2
   (h _ _ (SX.push (tk:=s.toks) g) (e▸Ap (tk:=s.toks) g mok (yu h3 lo hi st))) (by rw[hl];exact ab (cW q.1) (by decide))) ho
 cases x with
 |r=>cases e
 |o xs=>exact F_ ha λl vs m h2 h3=>fin h2 h3 e
 |d x =>
  cases x with
  |list xs=>exact vO ha λl vs m _ h2 h3=>fin h2 h3 e
  |str z =>
   obtain⟨q,e⟩:=cq e
   rw[ag,beq_iff_eq] at q
   simp only[q.2] at pk
   have hk:vk=.none:=by cases pk;rfl
   replace hs:=hk▸hs
   refine jZ ha λt=>(fM slice (.str z t) (.ref sl)).elim λops ho=>qd g hs pl pu (cW q.1) ho λr s' x y=>h r s' x (e▸y)
  |_=>cases e
theorem qH{w:Str}{u:Tok}(g:cU W s)(mok:kQ s.heap M)(hz:c0 z.length=true)(hw:w.length≠0)
  (h:∀r s',SX W s s'→s.heap.get? r=none→(∃vs n,s'.heap.get? r=some (bU vs n))→Rep s'.heap M (.ref r) (.list ((Txt.split z w).map .str))→Q (.ref r) s') :
  wpAny (model W.prog W.w) A (call (.builtin "str.split") [.str z t,.str w u]) Q E s:=by
 have hz:=cW hz
 have fin:∀(l:List (Str×Tok)) tk,l.map (·.1)=Txt.split z w→Q (.ref s.heap.objs.size) {s with heap:=s.heap.push (bU (strValues l).toArray 0),toks:=tk}:=by
  intro l tk hl
  refine h _ _ (SX.push g) (bD _) ⟨_,_,aI _ rfl⟩ ?_
  refine Ap (tk:=tk) g mok ?_
  simp only[←hl,List.map_map]
  exact Reps.ofStrs l
 cases h1:(decide (z.length<w.length)||decide (Builtin.Str.strKind z<Builtin.Str.strKind w))
 ·cases hf:(Builtin.Str.occurrences z w 0 z.length (z.length+1)).isEmpty
  ·refine call_meets PySem.F.slot_str_split (typeIs_str _ _ _) PySem.F.entry_str_split (PySem.F.args_str_split_2 _ _) (meets_str_split_sep z w t u h1 (by simpa using hw) hf (by unfold sizeLine;exact ab hz (ao _ _)) ?_) ?_
   ·have e:Txt.split z w=Builtin.Str.partsBetween z (Builtin.Str.occurrences z w 0 z.length (z.length+1)) w.length:=(if_neg (ne_true_of_eq_false h1)).trans (if_neg (ne_true_of_eq_false hf))
    rw[←e]
    have:=split_le z w
    unfold sizeLine;lia
   ·show wants Q E _ {s with toks:=_,heap:=s.heap.push {cls:=.type "list",data:=.seq (strsFrom s.toks (Builtin.Str.partsBetween z (Builtin.Str.occurrences z w 0 z.length (z.length+1)) w.length)).toArray}}
    rw[strsFrom_eq]
    exact fin (numbered s.toks _) _ ((numbered_texts _ _).trans ((if_neg (ne_true_of_eq_false h1)).trans (if_neg (ne_true_of_eq_false hf))).symm)
  ·exact call_meets PySem.F.slot_str_split (typeIs_str _ _ _) PySem.F.entry_str_split (PySem.F.args_str_split_2 _ _) (meets_str_split_not_found z w t u h1 (by simpa using hw) hf)
    (fin [(z,t)] _ ((if_neg (ne_true_of_eq_false h1)).trans (if_pos hf)).symm)
 ·exact call_meets PySem.F.slot_str_split (typeIs_str _ _ _) PySem.F.entry_str_split (PySem.F.args_str_split_2 _ _) (meets_str_split_cannot_occur z w t u h1)
   (fin [(z,t)] _ (if_pos h1).symm)
end
noncomputable def n9:Pm→Str
 |.join=>Str.ofString "join"
 |.split=>Str.ofString "split"
 |.startswith=>Str.ofString "startswith"
 |.endswith=>Str.ofString "endswith"
 |.find=>Str.ofString "find"
 |.count=>Str.ofString "count"
 |.index=>Str.ofString "index"
 |.bitLength=>Str.ofString "bit_length"
noncomputable def vC(W:Wd)(m:Pm)(x:V)(xs:List V)(v:V):Prop :=
 ∃T id,PlainAttrs T∧PySem.Slot T (n9 m) id∧typeOf (.builtin id)=pure (.type "method_descriptor") ∧
  (∀(s:Shared) (a:Value) (M:List Addr),cQ s.heap M a x→s.TypeIs a T∧∀l,a=.ref l→∃ob,s.heap.get? l=some ob∧ob.dict=none) ∧
  (∀(A:Around) (n:Nat) (s:Shared) (M:List Addr) (a:Value) (vals:List Value) (E Q:Value→Shared→Prop),j3 W A n→cU W s→kQ s.heap M→cQ s.heap M a x→dN s.heap M vals xs →
   (∀r s',SX W s s'→cQ s'.heap M r v→Q r s')→wpAny (model W.prog W.w) A (call (.builtin id) (a::vals) []) Q E s)
theorem iu{a:Value}(r:cQ s.heap M a (.d (.str z))):s.TypeIs a "str"∧∀l,a=.ref l→∃ob,s.heap.get? l=some ob∧ob.dict=none:=by
 obtain⟨t,rfl⟩:=jb r
 exact⟨typeIs_str _ _ _,λ_ e=>by cases e⟩
theorem qD{a:Value}(r:cQ s.heap M a (.d (.list xs))):s.TypeIs a "list"∧∀l,a=.ref l→∃ob,s.heap.get? l=some ob∧ob.dict=none:=by
 refine aa λhQ=>?_
 obtain⟨l,vs,n,rfl,_,h2,_⟩:=i8 r
 (refine hQ ?_;clear hQ)
 exact⟨⟨_,h2,rfl⟩,λ_ e=>by cases e;exact⟨_,h2,rfl⟩⟩
theorem ur{b:Value}{y:PyData}(R:j3 W A n)(r:Reps s.heap M vs.toList xs)(rb:Rep s.heap M b y)
  (q1:fY y=true) (q2:xs.all fY=true):(∀z,z∈vs→SeqAt.EqAt A.in1 s z b (PyData.eqv (SeqAt.readOf s.heap z) y))∧vs.toList.map (SeqAt.readOf s.heap)=xs:=by
 obtain⟨_,rr⟩:=r.reads;obtain⟨_,rrb⟩:=rb.reads
 have hu:A.units+100<cLine:=by have:=R.units;exact Nat.add_lt_of_lt_sub (au (Nat.le_sub_of_add_le this) (c8 rfl))
 exact⟨SeqAt.items_eqAt rr rrb (sQ q2) (SeqAt.canLay_of_shaped q1) (room_in_shaped q1 (Nat.add_lt_of_lt_sub (ae (Nat.lt_sub_of_add_lt hu) (c8 rfl)))),SeqAt.readsAll_map _ _ _ (sQ q2) rr⟩
theorem zQ{f:Value→PyData}(i2:vs.toList.map f=xs)(m:Nat)(hm:m<vs.size)(hm':m<xs.length):f vs[m]=xs[m]:=by subst i2;simp
theorem ut{y:PyData}:∀{j:Nat},k6 y xs=some j→∃h:j<xs.length,PyData.eqv xs[j] y=true∧∀m (hm:m<xs.length),m<j→PyData.eqv xs[m] y=false:=by
 induction xs with
 |nil =>
  intro _ e
  cases e
 |cons x xs ih =>
  intro j e
  replace e:(if PyData.eqv x y=true then some 0 else(k6 y xs).map (·+1))=some j:=e
  cases hx:PyData.eqv x y with
  |true=>replace e:=if_pos hx▸e;cases e;exact⟨by simp,hx,λm _ hm=>by exact(Nat.not_lt_zero _ hm).elim⟩
  |false =>
   rw[if_neg (by rw[hx];exact Bool.false_ne_true)] at e
   refine aa λhQ=>?_
   obtain⟨k,hk,rfl⟩:=aH.mp e
   obtain⟨h1,h2,h3⟩:=ih hk
   (refine hQ ?_;clear hQ)
   refine⟨by simpa using h1,by simpa using h2,λm hm hlt=>?_⟩
   cases m with
   |zero=>exact hx
   |succ m=>simpa using h3 m (by simpa using hm) (by exact Nat.lt_of_succ_lt_succ hlt)
theorem wx{v r:V}(e:iw .split v as=some r):∃x y,v=.d (.str x)∧as=[.d (.str y)]∧c0 x.length=true∧y.length≠0∧V.d (.list ((Txt.split x y).map .str))=r:=by
 refine aa λhQ=>?_
 obtain⟨x,h1,e⟩:=aJ e
 obtain⟨a,h2,e⟩:=aJ e
 obtain⟨y,h3,e⟩:=aJ e
 obtain⟨q,e⟩:=cq e
 (refine hQ ?_;clear hQ)
 rw[ag,cz] at q
 exact⟨x,y,fH h1,by rw[xq h2,fH h3],q.1,q.2,e⟩
theorem vC.of{W:Wd}{m:Pm}{x:V}{xs:List V}{v:V}(T id:String)(h1:PlainAttrs T)(h2:PySem.Slot T (n9 m) id)(h3:typeOf (.builtin id)=pure (.type "method_descriptor"))
  (h4:∀(s:Shared) (a:Value) (M:List Addr),cQ s.heap M a x→s.TypeIs a T∧∀l,a=.ref l→∃ob,s.heap.get? l=some ob∧ob.dict=none)
  (h5:∀(A:Around) (n:Nat) (s:Shared) (M:List Addr) (a:Value) (vals:List Value) (E Q:Value→Shared→Prop),j3 W A n→cU W s→kQ s.heap M→cQ s.heap M a x→dN s.heap M vals xs →
   (∀r s' u,some u=some v→SX W s s'→cQ s'.heap M r u→Q r s')→wpAny (model W.prog W.w) A (call (.builtin id) (a::vals) []) Q E s):vC W m x xs v :=
 ⟨T,id,h1,h2,h3,h4,λA n s M a vals E Q R g mok ha hb h=>h5 A n s M a vals E Q R g mok ha hb λr s' u q x y=>h r s' x (am q▸y)⟩
theorem EU(W:Wd){m:Pm}{x:V}{xs:List V}{v:V}(e:iw m x xs=some v):vC W m x xs v:=by
 cases m with
 |join =>
  obtain⟨x,hx,e⟩:=aJ e
  rw[fH hx];clear hx
  refine .of "str" "str.join" PySem.F.plainAttrs_str PySem.F.slot_str_join PySem.F.type_str_join (λ_ _ _=>iu) λA n s M a vals E Q R g mok ha hb h=>?_
  refine jZ ha λt=>Km e hb λds l vs n h2 h3 e=>?_
  obtain⟨ts,h1,e⟩:=aJ e
  obtain⟨q,e⟩:=dn e
  exact join_list ⟨_,h2,rfl,_,rfl⟩ (h3.strs h1) (by have:=cW (cg.mp q).2;rw[show(List.map (λx=>x.length) ts)=ts.map Str.length from rfl];exact bd   (ab (ay (List.length ts*Str.length x) (List.sum (List.map Str.length ts)))     (ab this (c8 rfl)))   (dG (ab this (c8 rfl)))) λ_ _=>h _ _ _ e (SX.toks g) (.str _ _)
 |split =>
  obtain⟨x,hx,e⟩:=aJ e
  rw[fH hx];clear hx
  refine .of "str" "str.split" PySem.F.plainAttrs_str PySem.F.slot_str_split PySem.F.type_str_split (λ_ _ _=>iu) λA n s M a vals E Q R g mok ha hb h=>?_
  refine jZ ha λt=>Jk e hb λy u e=>?_
  obtain⟨q,e⟩:=dn e
  rw[ag,cz] at q
  exact qH g mok q.1 q.2 λr s' sx _ _ hr=>h _ _ _ e sx hr
 |startswith =>
  obtain⟨x,hx,e⟩:=aJ e
  rw[fH hx];clear hx
  exact .of "str" "str.startswith" PySem.F.plainAttrs_str PySem.F.slot_str_startswith PySem.F.type_str_startswith (λ_ _ _=>iu) λA n s M a vals E Q R g mok ha hb h =>
   jZ ha λt=>Jk e hb λy u e=>SC.startswith (h _ _ _ e (SX.refl g) (.bool _))
 |endswith =>
  obtain⟨x,hx,e⟩:=aJ e
  rw[fH hx];clear hx
  exact .of "str" "str.endswith" PySem.F.plainAttrs_str PySem.F.slot_str_endswith PySem.F.type_str_endswith (λ_ _ _=>iu) λA n s M a vals E Q R g mok ha hb h =>
   jZ ha λt=>Jk e hb λy u e=>SC.endswith (h _ _ _ e (SX.refl g) (.bool _))
 |find =>
  obtain⟨x,hx,e⟩:=aJ e
  rw[fH hx];clear hx
  refine .of "str" "str.find" PySem.F.plainAttrs_str PySem.F.slot_str_find PySem.F.type_str_find (λ_ _ _=>iu) λA n s M a vals E Q R g mok ha hb h=>?_
  refine jZ ha λt=>p3 e hb λw v y i t1 j t2 r q e=>?_
  simp only[fH q] at r
  obtain⟨q,e⟩:=dn e
  exact jZ r λu=>call_gives PySem.F.slot_str_find (typeIs_str _ _ _) PySem.F.entry_str_find (PySem.F.args_str_find_4 _ _ _ _) (ty _ _ _ _ _ _ _ _ q.1 (Int.le_trans q.1 q.2.1) q.2.2.1) (h _ _ _ e (SX.toks g) (.int _ _))
 |count =>
  obtain⟨xs,hx,e⟩:=aJ e
  rw[fF hx];clear hx
  refine .of "list" "list.count" PySem.F.plainAttrs_list PySem.F.slot_list_count PySem.F.type_list_count (λ_ _ _=>qD) λA n s M a vals E Q R g mok ha hb h=>?_
  refine vO ha λl vs k _ h2 h3=>KB e hb λw y r e=>?_
  obtain⟨q,e⟩:=dn e
  rw[ag,ag] at q
  obtain⟨i1,i2⟩:=ur R h3 r q.1.1 q.1.2
  refine call_meets PySem.F.slot_list_count ⟨_,h2,rfl⟩ PySem.F.entry_list_count (PySem.F.args_list_count_2 _ _) (SeqAt.list_countAt l vs k none #[] _ _) ⟨h2,i1,?_⟩
  rw[←i2,List.countP_map] at e
  exact h (.int ((_:Nat):Int) s.toks) {s with toks:=s.toks+1} _ e (SX.toks g) (.int _ _)
 |index =>
  obtain⟨xs,hx,e⟩:=aJ e
  rw[fF hx];clear hx
  refine .of "list" "list.index" PySem.F.plainAttrs_list PySem.F.slot_list_index PySem.F.type_list_index (λ_ _ _=>qD) λA n s M a vals E Q R g mok ha hb h=>?_
  refine vO ha λl vs k _ h2 h3=>KB e hb λw y r e=>?_
  have hl:=h3.length
  simp only[aD] at hl
  obtain⟨q,e⟩:=dn e
  simp only[ag,ag] at q
  obtain⟨j,hj,e⟩:=aJ e
  obtain⟨i1,i2⟩:=ur R h3 r q.1.1 q.1.2
  obtain⟨k1,k2,k3⟩:=ut hj
  have sz:=cW q.2
  refine call_meets PySem.F.slot_list_index ⟨_,h2,rfl⟩ PySem.F.entry_list_index (PySem.F.args_list_index_2 _ _)
   (SeqAt.list_indexAt l vs k none #[] _ (λz=>PyData.eqv (SeqAt.readOf s.heap z) _) j (hl▸k1) (iy (aE k1) (iy sz (c8 rfl))) ?_ ?_) ⟨h2,i1,h _ _ _ e (SX.toks g) (.int _ _)⟩
  ·show PyData.eqv (SeqAt.readOf s.heap vs[j]) _=true
   rw[zQ i2 j (hl▸k1) k1];exact k2
  ·intro m hm hlt
   show PyData.eqv (SeqAt.readOf s.heap vs[m]) _=false
   rw[zQ i2 m hm (hl▸hm)];exact k3 m (hl▸hm) hlt
 |bitLength =>
  obtain⟨i,hx,e⟩:=aJ e
  rw[dk hx];clear hx
  obtain⟨q,e⟩:=dn e
  rw[List.isEmpty_iff.mp q]
  refine .of "int" "int.bit_length" PySem.F.plainAttrs_int slot_int_bit_length type_int_bit_length (λs a M r=>iX r λt=>⟨typeIs_int _ _ _,λ_ e=>by cases e⟩) λA n s M a vals E Q R g mok ha hb h=>?_
  cases hb
  refine iX ha λt=>call_int_bit_length ?_
  have e1:((Builtin.Int.intBits i:Nat):Int)=ee i:=by
   unfold Builtin.Int.intBits ee
   by_cases z:i=0
   ·simp[z]
   ·simp[z]
  rw[←e1] at e
  exact h (.int _ s.toks) {s with toks:=s.toks+1} _ e (SX.toks g) (.int _ _)
structure Jm(M:Model)(A:Around)(s:Shared)(vs:List Value)(lt:Value→Value→Bool):Prop where
 ask:∀(E:Value→Shared→Prop) (x y:Value) (Q:Bool→Shared→Prop),x∈vs→y∈vs→Q (lt x y) s→wpAny M A (oneLt' true x y) Q E s
 tr:∀x y z,x∈vs→y∈vs→z∈vs→lt x y=true→lt y z=true→lt x z=true
 co:∀x y,x∈vs→y∈vs→x≠y→lt x y=!lt y x
 nd:vs.Nodup
noncomputable def kx(xs:Array Keyed)(i:Nat):Value:=match xs[i]? with
 |some p=>p.1
 |none=>.none
noncomputable def i6(lt:Value→Value→Bool)(xs:Array Keyed)(n:Nat):Prop:=∀i j,i<j→j<n→lt (kx xs i) (kx xs j)=true
noncomputable def zg(lt:Value→Value→Bool)(xs:Array Keyed)(n:Nat):Prop:=∀i j,i<j→j<n→lt (kx xs j) (kx xs i)=true
theorem uU{xs ys:Array Keyed}(h:xs[i]?=ys[j]?):kx xs i=kx ys j:=by unfold kx;rw[h]
theorem Cq{xs:Array Keyed}:i6 lt xs 1:=λi j h1 h2=>absurd (ae h1 (bp h2)) (Nat.not_lt_zero _)
section
variable{prog:Program}{w:World}{vs:List Value}{st:SortSt}
theorem rf(vs:List Value):(pairsOf vs).toList.map (·.1)=vs:=by
 unfold pairsOf
 rw[Array.toList_zip,List.map_fst_zip]
 ·exact aF _
theorem ma(hB:SBase (pairsOf vs) st):((arrOf st).toList.map (·.1)).Perm vs:=by
 have:=(Array.perm_iff_toList_perm.mp hB.perm).map (·.1)
 rwa [rf] at this
theorem oG{xs:Array Keyed}(h:i<xs.size):(xs.toList.map (·.1))[i]?=some (kx xs i):=by
 simp only[az,Array.getElem?_toList,kx,getElem?_pos xs i h];rfl
theorem dX(hB:SBase (pairsOf vs) st):(arrOf st).size=vs.length:=by
 have:=(ma hB).length_eq
 rwa [af,aD] at this
theorem k8(hB:SBase (pairsOf vs) st)(h:i<vs.length):kx (arrOf st) i∈vs :=
 (ma hB).mem_iff.mp (aW (oG (by simp -iota only[dX hB];exact h)))
theorem HV(hB:SBase (pairsOf vs) st)(nd:vs.Nodup)(hi:i<vs.length)(hj:j<vs.length)(hij:i≠j):kx (arrOf st) i≠kx (arrOf st) j:=λq=>by
 have e2:=oG (xs:=arrOf st) (i:=j) (by simp -iota only[dX hB];exact hj)
 simp -iota only[←q] at e2
 exact hij ((List.getElem?_inj (by simp -iota only[af,aD,dX hB];exact hi) ((ma hB).nodup_iff.mpr nd)).mp ((oG (xs:=arrOf st) (i:=i) (by simp -iota only[dX hB];exact hi)).trans e2.symm))
variable(O:Jm (model prog w) A s vs lt)
include O
theorem o_(hB:SBase (pairsOf vs) st){Q:Option Bool→SortSt→Prop}(hi:i<vs.length)(hj:j<vs.length)(h:Q (some (lt (kx (arrOf st) i) (kx (arrOf st) j))) st):wpS (model prog w) A E s (ltAt' i j) Q st:=by
 have k1:kx (arrOf st) i=((arrOf st)[i]'(by rw[dX hB];exact hi)).1:=by unfold kx;rw[(getElem?_pos (arrOf st) i (by rw[dX hB];exact hi))]
 have k2:kx (arrOf st) j=((arrOf st)[j]'(by rw[dX hB];exact hj)).1:=by unfold kx;(simp -iota only[(getElem?_pos (arrOf st) j (by rw[dX hB];exact hj))];dsimp only)
 have m1:=k8 hB hi
 have m2:=k8 hB hj
 rw[k1] at h m1
 rw[k2] at h m2
 simp -iota only[ltAt'_eq]
 refine wpS_bind (wpS_get ?_)
 show wpS _ _ _ _ (do let x ←elem' (arrOf st) i;let y ←elem' (arrOf st) j;lt' x y) Q st
 simp only[elem'_eq,elem'_eq,(getElem?_pos (arrOf st) i (by rw[dX hB];exact hi)),(getElem?_pos (arrOf st) j (by rw[dX hB];exact hj))]
 refine wpS_bind (wpS_pure (wpS_bind (wpS_pure ?_)))
 rw[lt'_eq]
 refine wpS_bind (wpS_get ?_)
 rw[hB.kind,keyLt'_oneType]
 exact wpS_bind (wpS_lift (wpAny_attempt (O.ask _ _ _ _ m1 m2 ⟨rfl,wpS_pure h⟩)))
theorem rA(hB:SBase (pairsOf vs) st)(hi:i<vs.length)(hj:j<vs.length)(hij:i≠j):lt (kx (arrOf st) i) (kx (arrOf st) j)=!lt (kx (arrOf st) j) (kx (arrOf st) i) :=
 O.co _ _ (k8 hB hi) (k8 hB hj) (HV hB O.nd hi hj hij)
theorem w_(hB:SBase (pairsOf vs) st)(hi:i<vs.length)(hj:j<vs.length)(hk:k<vs.length)(h1:lt (kx (arrOf st) i) (kx (arrOf st) j)=true)(h2:lt (kx (arrOf st) j) (kx (arrOf st) k)=true):lt (kx (arrOf st) i) (kx (arrOf st) k)=true :=
 O.tr _ _ _ (k8 hB hi) (k8 hB hj) (k8 hB hk) h1 h2
theorem xH(hB:SBase (pairsOf vs) st)(hn:n<vs.length)(h1:1≤n)(hs:i6 lt (arrOf st) n)(h:lt (kx (arrOf st) (n-1)) (kx (arrOf st) n)=true):i6 lt (arrOf st) (n+1):=λi j hij hj=>by
 by_cases q:j=n
 ·rw[q]
  by_cases q2:i=n-1
  ·rw[q2];exact h
  ·exact w_ O hB (ae (ae hij (aw q)) (aE hn)) (show n-1<vs.length by exact Nat.sub_lt_of_lt hn) hn (hs i (n-1) (Nat.lt_of_le_of_ne (Nat.le_sub_one_of_lt (ae hij (aw q))) q2) (by exact Nat.sub_one_lt_of_lt h1)) h
 ·exact hs i j hij (Nat.lt_of_le_of_ne (bp hj) q)
theorem qO(hB:SBase (pairsOf vs) st)(hn:n<vs.length)(h1:1≤n)(hs:zg lt (arrOf st) n)(h:lt (kx (arrOf st) n) (kx (arrOf st) (n-1))=true):zg lt (arrOf st) (n+1):=λi j hij hj=>by
 by_cases q:j=n
 ·rw[q]
  by_cases q2:i=n-1
  ·rw[q2];exact h
  ·exact w_ O hB hn (show n-1<vs.length by exact Nat.sub_lt_of_lt hn) (ae (ae hij (aw q)) (aE hn)) h (hs i (n-1) (Nat.lt_of_le_of_ne (Nat.le_sub_one_of_lt (ae hij (aw q))) q2) (by exact Nat.sub_one_lt_of_lt h1))
 ·exact hs i j hij (Nat.lt_of_le_of_ne (bp hj) q)
theorem w6{a:Nat}{Q:AscSt→SortSt→Prop}(ha:1≤a)(han:a≤vs.length)(hB:SBase (pairsOf vs) st)(hs:i6 lt (arrOf st) a)
  (h:∀n,a≤n→n≤vs.length→i6 lt (arrOf st) n→(n<vs.length→lt (kx (arrOf st) n) (kx (arrOf st) (n-1))=true)→Q (none,n) st):wpS (model prog w) A E s (ascLoop a vs.length) Q st:=by
 unfold ascLoop
 refine wpS_forRange (I:=λx c t=>t=st∧c=(none,x)∧i6 lt (arrOf st) x) (λx c t hx hxn hI=>?_) (λc t hI=>?_) ⟨rfl,rfl,hs⟩
 ·refine aa λhQ=>?_
  obtain⟨e1,e2,hr⟩:=hI
  (refine hQ ?_;clear hQ)
  rw[e1,e2]
  refine wpS_bind (o_ O hB hxn (by exact Nat.sub_lt_of_lt hxn) ?_)
  cases q:lt (kx (arrOf st) x) (kx (arrOf st) (x-1)) with
  |true=>exact wpS_pure (h x hx (aE hxn) hr λ_=>q)
  |false =>
   refine wpS_pure ⟨rfl,rfl,xH O hB hxn (by exact ae ha hx) hr ?_⟩
   rw[rA O hB (by exact Nat.sub_lt_of_lt hxn) hxn (bQ   (Nat.sub_lt_left_of_lt_add (ab ha hx) (Nat.lt_add_of_pos_left (c8 rfl)))),q];rfl
 ·refine aa λhQ=>?_
  obtain⟨e1,e2,hr⟩:=hI
  (refine hQ ?_;clear hQ)
  rw[Nat.max_eq_right han] at e2 hr
  rw[e1,e2]
  exact h _ han (aF _) hr λq=>absurd q (Nat.lt_irrefl _)
theorem AD{a:Nat}{Q:DescSt→SortSt→Prop}(ha:1≤a)(han:a≤vs.length)(hB:SBase (pairsOf vs) st)(hs:zg lt (arrOf st) a)
  (h:∀n,a≤n→n≤vs.length→zg lt (arrOf st) n→Q (none,n,0) st):wpS (model prog w) A E s (descLoop a vs.length) Q st:=by
 unfold descLoop
 refine wpS_forRange (I:=λx c t=>t=st∧c=(none,x,0)∧zg lt (arrOf st) x) (λx c t hx hxn hI=>?_) (λc t hI=>?_) ⟨rfl,rfl,hs⟩
 ·refine aa λhQ=>?_
  obtain⟨e1,e2,hr⟩:=hI
  (refine hQ ?_;clear hQ)
  rw[e1,e2]
  refine wpS_bind (o_ O hB hxn (by exact Nat.sub_lt_of_lt hxn) ?_)
  cases q:lt (kx (arrOf st) x) (kx (arrOf st) (x-1)) with
  |true=>exact wpS_pure ⟨rfl,rfl,qO O hB hxn (by exact ae ha hx) hr q⟩
  |false =>
   refine wpS_bind (o_ O hB (by exact Nat.sub_lt_of_lt hxn) hxn ?_)
   rw[rA O hB (by exact Nat.sub_lt_of_lt hxn) hxn (bQ   (Nat.sub_lt_left_of_lt_add (ab ha hx) (Nat.lt_add_of_pos_left (c8 rfl)))),q]
   exact wpS_pure (h x hx (aE hxn) hr)
 ·refine aa λhQ=>?_
  obtain⟨e1,e2,hr⟩:=hI
  (refine hQ ?_;clear hQ)
  rw[Nat.max_eq_right han] at e2 hr
  rw[e1,e2]
  exact h _ han (aF _) hr
theorem zh{Q:Option Nat→SortSt→Prop}(h2:2≤vs.length)(hB:SBase (pairsOf vs) st)
  (h:∀n t,SBase (pairsOf vs) t→1≤n→n≤vs.length→i6 lt (arrOf t) n→Q (some n) t):wpS (model prog w) A E s (countRun' 0 vs.length) Q st:=by
 rw[countRun0_eq]
 refine wpS_bind (w6 O (aF 1) (by exact aE h2) hB Cq λn hn1 hn2 hr hlt=>?_)
 dsimp only
 by_cases q:n=vs.length
 ·rw[if_pos (by simpa -iota using q)]
  exact wpS_pure (h n st hB hn1 hn2 hr)
 ·rw[if_neg (by simpa -iota using q)]
  have hn:=Nat.lt_of_le_of_ne hn2 q
  by_cases q1:n>1
  ·rw[if_pos q1]
   refine wpS_bind (o_ O hB (by exact Nat.lt_of_succ_lt h2) (by exact Nat.sub_lt_of_lt hn) ?_)
   rw[hr 0 (n-1) (by exact Nat.sub_pos_of_lt q1) (by exact Nat.sub_one_lt_of_lt hn1)]
   exact wpS_pure (h n st hB hn1 hn2 hr)
  ·rw[if_neg q1]
   have e:n=1:=by exact Nat.le_antisymm (Nat.not_lt.mp q1) hn1
   have hlt:=hlt hn
   rw[e] at hlt ⊢
   unfold descPart
   refine wpS_bind (wpS_lift (wpAny_rule ⟨rfl,?_⟩))
   have f2:zg lt (arrOf st) (1+1):=qO O hB (by assumption) (aF _) (λi j h1 h2=>absurd (ae h1 (bp h2)) (Nat.not_lt_zero _)) hlt
   refine wpS_bind (AD O (by decide) h2 hB f2 λm hm1 hm2 hf=>?_)
   dsimp only
   rw[if_neg (Nat.lt_irrefl 0)]
   unfold tail3
   rw[reverseSlice'_eq]
   refine wpS_bind (wpS_modify ?_)
   have hB':SBase (pairsOf vs) (setArr st (mirror (arrOf st) 0 m ((m-0) / 2))):=hB.setArr (mirror_perm _ _ _ _)
   have hr':i6 lt (mirror (arrOf st) 0 m ((m-0) / 2)) m:=λi j hij hj=>by
    have hsz:m≤(arrOf st).size:=by simp -iota only[dX hB];exact hm2
    have e1:=uU ((getElem?_mirror_all (i:=0) hsz i).trans (if_pos ⟨bo _,by exact Nat.lt_trans hij hj⟩))
    have e2:=uU ((getElem?_mirror_all (i:=0) hsz j).trans (if_pos ⟨bo _,hj⟩))
    rw[e1,e2]
    exact hf _ _ (Nat.sub_lt_sub_left (by rw[Nat.zero_add];exact ae hij (Nat.le_sub_one_of_lt hj)) hij) (by rw[Nat.zero_add];exact au (cO _ _) (Nat.sub_lt (Nat.lt_of_succ_lt hm1) Nat.one_pos))
   exact wpS_bind (w6 O (st:=setArr st (mirror (arrOf st) 0 m ((m-0) / 2))) (by exact aE hm1) hm2 hB' hr' λn' h1 h2' hr2 _=>wpS_pure (h n' _ hB' (by exact aE (ae hm1 h1)) h2' hr2))
structure EV(lt:Value→Value→Bool)(xs:Array Keyed)(k l r:Nat):Prop where
 lr:l≤r
 rk:r≤k
 lo:∀i,i<l→lt (kx xs i) (kx xs k)=true
 hi:∀i,r≤i→i<k→lt (kx xs k) (kx xs i)=true
omit O in
theorem EV.put{xs:Array Keyed}{l:Nat}(g:EV lt xs k l l)(hk:k<xs.size)(hr:i6 lt xs k):i6 lt (bubble xs k (k-l)) (k+1):=λi j hij hj=>by
 have hl:=g.rk
 have at_:∀a,kx (bubble xs k (k-l)) a=if a=l then kx xs k else if l<a∧a≤k then kx xs (a-1) else kx xs a:=λa=>by
  have e:=getElem?_bubble hk (k-l) (cO _ _) a
  rw[show k-(k-l)=l by exact Nat.sub_sub_self (by assumption)] at e
  by_cases q:a=l
  ·rw[if_pos q] at e ⊢;exact uU e
  ·rw[if_neg q] at e ⊢
   by_cases q2:l<a∧a≤k
   ·rw[if_pos q2] at e ⊢;exact uU e
   ·rw[if_neg q2] at e ⊢;exact uU e
 simp -iota only[at_ i,at_ j]
 by_cases h1:i=l
 ·rw[if_pos h1,if_neg (bV (au (aw (Eq.symm h1)) hij)),if_pos (⟨au (aw (Eq.symm h1)) hij,bp hj⟩)]
  exact g.hi _ (Nat.le_sub_one_of_lt (au (aw (Eq.symm h1)) hij)) (ae (Nat.sub_one_lt_of_lt hij) (bp hj))
 ·rw[if_neg h1]
  by_cases h2:l<i∧i≤k
  ·rw[if_pos h2,if_neg (bV (ae (And.left h2) (aE hij))),if_pos (⟨ae (And.left h2) (aE hij),bp hj⟩)]
   exact hr _ _ (ae (Nat.sub_one_lt_of_lt (And.left h2)) (Nat.le_sub_one_of_lt hij)) (ae (Nat.sub_one_lt_of_lt hij) (bp hj))
  ·rw[if_neg h2]
   by_cases h3:j=l
   ·rw[if_pos h3];exact g.lo i (by exact Nat.lt_of_lt_of_eq hij h3)
   ·rw[if_neg h3]
    by_cases h4:l<j∧j≤k
    ·rw[if_pos h4]
     by_cases h5:i=j-1
     ·exact absurd ⟨Nat.lt_of_le_of_ne (ab (Nat.le_sub_one_of_lt h4.1) (aw h5.symm)) (Ne.symm h1),ab (aE hij) h4.2⟩ h2
     ·exact hr _ _ (Nat.lt_of_le_of_ne (Nat.le_sub_one_of_lt hij) h5) (ae (Nat.sub_one_lt_of_lt (And.left h4)) (And.right h4))
    ·rw[if_neg h4];exact hr _ _ hij (ae (Nat.lt_of_le_of_ne (be λz=>h4 ⟨z,bp hj⟩) h3) hl)
omit O in
theorem zz{l r:Nat}(h:l<r):l≤(l+r) / 2∧(l+r) / 2<r:=⟨(Nat.le_div_iff_mul_le (by decide)).mpr (by rw[Nat.mul_two];exact Nat.add_le_add_left (aE h) l),Nat.div_lt_of_lt_mul (by rw[Nat.two_mul];exact Nat.add_lt_add_right h r)⟩
theorem EV.ask(hB:SBase (pairsOf vs) st){l r:Nat}(hk:k<vs.length)(hr:i6 lt (arrOf st) k)(g:EV lt (arrOf st) k l r)(h:l<r) :
  (lt (kx (arrOf st) k) (kx (arrOf st) ((l+r) / 2))=true→EV lt (arrOf st) k l ((l+r) / 2))∧(lt (kx (arrOf st) k) (kx (arrOf st) ((l+r) / 2))=false→EV lt (arrOf st) k ((l+r) / 2+1) r):=by
 have hrk:=g.rk
 have md:=zz h
 have mk:=ae md.2 hrk
 refine⟨λq=>⟨md.1,aE mk,g.lo,λi h1 h2=>?_⟩,λq=>⟨md.2,hrk,λi h1=>?_,g.hi⟩⟩
 ·by_cases e:i=(l+r) / 2
  ·rw[e];exact q
  ·exact w_ O hB hk (Nat.lt_trans mk hk) (by exact Nat.lt_trans h2 hk) q (hr _ _ (by exact Nat.lt_of_le_of_ne h1 (Ne.symm e)) h2)
 ·have q':lt (kx (arrOf st) ((l+r) / 2)) (kx (arrOf st) k)=true:=by rw[rA O hB (Nat.lt_trans mk hk) hk (bQ mk),q];rfl
  by_cases e:i=(l+r) / 2
  ·rw[e];exact q'
  ·exact w_ O hB (au (bp h1) (Nat.lt_trans mk hk)) (Nat.lt_trans mk hk) hk (hr _ _ (Nat.lt_of_le_of_ne (bp h1) e) mk) q'
theorem DU{ok:Nat}{Q:Bool→SortSt→Prop}(h1:1≤ok)(hok:ok≤vs.length)(hB:SBase (pairsOf vs) st)(hs:i6 lt (arrOf st) ok)
  (h:∀t,SBase (pairsOf vs) t→i6 lt (arrOf t) vs.length→Q true t):wpS (model prog w) A E s (binarySort' 0 vs.length ok) Q st:=by
 rw[binarySort'_eq]
 simp -iota -iota only[Nat.zero_add]
 refine wpS_bind (wpS_mono (wpS_forRange (I:=λk c t=>c=(none,())∧SBase (pairsOf vs) t∧i6 lt (arrOf t) k) (Q:=λc t=>c=(none,())∧SBase (pairsOf vs) t∧i6 lt (arrOf t) vs.length) (λk c t hk1 hk2 hI=>?_) (λc t hI=>?_) ⟨rfl,hB,?_⟩) λc t hI=>?_)
 ·refine aa λhQ=>?_
  obtain⟨e,hB,hr⟩:=hI
  (refine hQ ?_;clear hQ)
  refine wpS_bind (wpS_mono (wpS_forRange (I:=λx c t'=>t'=t∧∃l r,c=(none,l,r)∧r-l≤k-x∧EV lt (arrOf t) k l r) (Q:=λc t'=>t'=t∧∃l r,c=(none,l,r)∧EV lt (arrOf t) k l l) (λx c t' _ hx hJ=>?_) (λc t' hJ=>?_)
   ⟨rfl,0,k,rfl,aF _,bo _,aF _,λi hi=>absurd hi (Nat.not_lt_zero _),λi h1 h2=>by exact(Nat.lt_irrefl _ (ae h2 h1)).elim⟩) λc t' hJ=>?_)
  ·refine aa λhQ=>?_
   obtain⟨e1,l,r,e2,hm,g⟩:=hJ
   (refine hQ ?_;clear hQ)
   have hgl:=g.lr
   rw[e1,e2]
   dsimp only
   by_cases q:l≥r
   ·rw[if_pos q]
    have e:r=l:=by exact Nat.le_antisymm q hgl
    simp -iota only[e] at g
    exact wpS_pure ⟨rfl,l,r,rfl,g⟩
   ·rw[if_neg q]
    have md:=zz (Nat.lt_of_not_le q)
    have ga:=EV.ask O hB hk2 hr g (by exact Nat.lt_of_not_le q)
    refine wpS_bind (o_ O hB hk2 (Nat.lt_trans (ae md.2 g.rk) hk2) ?_)
    cases q2:lt (kx (arrOf t) k) (kx (arrOf t) ((l+r) / 2)) with
    |true=>exact wpS_pure ⟨rfl,l,(l+r) / 2,rfl,show _≤k-x-1 from Nat.le_sub_one_of_lt (ae (Nat.sub_lt_sub_right md.1 md.2) hm),ga.1 q2⟩
    |false=>exact wpS_pure ⟨rfl,(l+r) / 2+1,r,rfl,show _≤k-x-1 from ab (Nat.sub_le_sub_left (dc md.1) r) (Nat.sub_le_sub_right hm 1),ga.2 q2⟩
  ·refine aa λhQ=>?_
   obtain⟨e1,l,r,e2,hm,g⟩:=hJ
   (refine hQ ?_;clear hQ)
   have hgl:=g.lr
   have e:r=l:=Nat.le_antisymm (dF (Nat.le_zero.mp (ab hm (by rw[Nat.zero_max,Nat.sub_self];exact aF _)))) hgl
   rw[e] at g
   exact⟨e1,l,r,e2,g⟩
  ·refine aa λhQ=>?_
   obtain⟨e1,l,r,e2,g⟩:=hJ
   (refine hQ ?_;clear hQ)
   rw[e1,e2]
   show wpS _ _ _ _ (do moveDown' k l;pure (ForInStep.yield (none,()))) _ _
   simp -iota only[moveDown'_eq]
   exact wpS_bind (wpS_modify (wpS_pure ⟨rfl,hB.setArr (bubble_perm _ _ _),g.put (by simp -iota only[dX hB];exact hk2) hr⟩))
 ·obtain⟨e,hB,hr⟩:=hI
  rw[Nat.max_eq_right (Nat.max_le.mpr ⟨hok,ab h1 hok⟩)] at hr
  exact⟨e,hB,hr⟩
 ·simp -iota only[Nat.max_eq_left h1];exact hs
 ·refine aa λhQ=>?_
  obtain⟨e,hB,hr⟩:=hI
  (refine hQ ?_;clear hQ)
  rw[e]
  exact wpS_pure (h t hB hr)
theorem BV{Q:Unit→SortSt→Prop}(h2:2≤vs.length)(h64:vs.length<64)(hB:SBase (pairsOf vs) st)(h:∀t,(arrOf t).Perm (pairsOf vs)→failedOf t=none→i6 lt (arrOf t) vs.length→Q () t):wpS (model prog w) A E s sortRuns' Q st:=by
 rw[sortRuns'_eq]
 refine wpS_bind (wpS_get ?_)
 dsimp only
 have hmr:minRun' vs.length vs.length 0=vs.length:=by
  obtain⟨f,hf⟩:∃f,vs.length=f+1:=⟨vs.length-1,(Nat.sub_one_add_one (bV (ae (by decide) h2))).symm⟩
  rw[hf,minRun'_succ,if_pos (by exact hf▸h64)]
 rw[dX hB,hmr]
 have done:∀t:SortSt,SBase (pairsOf vs) t→i6 lt (arrOf t) vs.length→(arrOf t).Perm (pairsOf vs)∧failedOf t=none∧(pendingOf t).push (0,vs.length,0)=#[(0,vs.length,0)]∧i6 lt (arrOf t) vs.length:=λt hB hr=>⟨hB.perm,hB.failed,by rw[hB.pend];rfl,hr⟩
 refine wpS_bind (wpS_mono (wpS_forRange (I:=λx c t=>(x=0∧c=(none,0)∧SBase (pairsOf vs) t)∨(1≤x∧c=(none,vs.length)∧(arrOf t).Perm (pairsOf vs)∧failedOf t=none∧pendingOf t=#[(0,vs.length,0)]∧i6 lt (arrOf t) vs.length))
  (Q:=λc t=>c=(none,vs.length)∧(arrOf t).Perm (pairsOf vs)∧failedOf t=none∧pendingOf t=#[(0,vs.length,0)]∧i6 lt (arrOf t) vs.length) (λx c t _ hx hI=>?_) (λc t hI=>?_) (.inl ⟨rfl,rfl,hB⟩)) λc t hI=>?_)
 ·rcases hI with⟨e1,e2,hB⟩ | ⟨_,e2,hD⟩
  ·rw[e1,e2]
   dsimp only
   rw[if_neg (Nat.not_le_of_lt (au (aw (Eq.symm e1)) hx))]
   simp -iota -iota only[Nat.sub_zero,Nat.min_self,Nat.zero_add]
   refine wpS_bind (zh O h2 hB λn t2 hB2 hn1 hn2 hr=>?_)
   dsimp only
   by_cases q:n<vs.length
   ·rw[if_pos q]
    refine wpS_bind (wpS_lift (wpAny_rule ⟨rfl,?_⟩))
    refine wpS_bind (DU O hn1 hn2 hB2 hr λt3 hB3 hr3=>?_)
    simp -iota -iota only[Bool.not_true,Bool.false_eq_true,if_false]
    refine wpS_bind (wpS_get ?_)
    rw[show(pendingOf t3).back?=none by rw[hB3.pend];rfl]
    dsimp only
    exact wpS_bind (wpS_modify (wpS_pure (.inr ⟨by decide,rfl,done t3 hB3 hr3⟩)))
   ·rw[if_neg q]
    have e:n=vs.length:=by exact Nat.le_antisymm hn2 (Nat.not_lt.mp q)
    rw[e] at hr ⊢
    refine wpS_bind (wpS_get ?_)
    rw[show(pendingOf t2).back?=none by rw[hB2.pend];rfl]
    dsimp only
    exact wpS_bind (wpS_modify (wpS_pure (.inr ⟨by decide,rfl,done t2 hB2 hr⟩)))
  ·rw[e2]
   dsimp only
   rw[if_pos (aF _)]
   exact wpS_pure ⟨rfl,hD⟩
 ·rcases hI with⟨e1,_⟩ | ⟨_,e2,hD⟩
  ·exact absurd ((Nat.zero_max _).symm.trans e1) (bV (ae (by decide) h2))
  ·exact⟨e2,hD⟩
 ·obtain⟨e2,hD⟩:=hI
  rw[e2]
  dsimp only
  refine wpS_bind (wpS_mono (wpS_forRange (I:=λ_ c u=>u=t∧c=(none,())) (Q:=λc u=>u=t∧c=(none,())) (λx c u _ _ hJ=>?_) (λ_ _ hh=>hh) ⟨rfl,rfl⟩) λc u hJ=>?_)
  ·simp -iota only[hJ.1]
   refine wpS_bind (wpS_get ?_)
   rw[if_pos (by rw[hD.2.2.1];exact aF 1)]
   exact wpS_pure ⟨rfl,rfl⟩
  ·simp only[hJ.1,hJ.2]
   exact wpS_pure (h _ hD.1 hD.2.1 hD.2.2.2)
end
section
open PySem.AutoSeq1 (wpAny_loadPart')
open PySem.MeetsSeq PySem.MeetsSeq3
noncomputable abbrev yP(xs:Array Value)(n:Nat):Obj:={cls:=.type "list",dict:=none,data:=.seq xs n,slots:=#[]}
theorem D0(l b:Addr)(xs ys:Array Value)(n m:Nat)(hsz:xs.size=ys.size)(d e:Nat→Int)(hx:∀j (h:j<xs.size),∃t,xs[j]=.int (d j) t)(hy:∀j (h:j<ys.size),∃t,ys[j]=.int (e j) t)(k:Nat) :
  ∀i:Nat,xs.size-i=k→Meets (Builtin.«list.__eq__.loop» ⟨[.ref l,.ref b,rawInt i,rawInt 0],[]⟩)
   (λ_ R s=>s.heap.get? l=some (yP xs n)∧s.heap.get? b=some (yP ys m)∧R (.ok (.ret (.bool (p9 (((List.range xs.size).drop i).map d) (((List.range xs.size).drop i).map e))))) s):=by
 induction k with
 |zero =>
  intro i hk prog w A R s h
  obtain⟨hp,g,dd,tk,os⟩:=s;obtain⟨hl,hb,h⟩:=h
  wp_walk using wpAny_loadPart' hl,wpAny_loadPart' hb
  have hi1:xs[((i:Nat):Int).toNat]?=none:=Array.getElem?_eq_none (dF hk)
  have hi2:ys[((i:Nat):Int).toNat]?=none:=Array.getElem?_eq_none (ab (aw hsz.symm) (dF hk))
  have hd:(List.range xs.size).drop i=[]:=List.drop_eq_nil_of_le (by rw[cy];exact dF hk)
  rw[hd] at h
  rw[hi1,hi2]
  wp_walk using wpAny_loadPart' hl,wpAny_loadPart' hb
  show R (.ok (.ret (.bool (decide (xs.size<ys.size))))) _
  rw[hsz]
  simpa [show p9 [] []=false from rfl] using h
 |succ k ih =>
  intro i hk prog w A R s h
  obtain⟨hp,g,dd,tk,os⟩:=s;obtain⟨hl,hb,h⟩:=h
  wp_walk using wpAny_loadPart' hl,wpAny_loadPart' hb
  have hlt:i<xs.size:=by exact Nat.lt_of_sub_pos (ae (Nat.succ_pos k) (aw (Eq.symm hk)))
  have hlt2:i<ys.size:=by exact Nat.lt_of_lt_of_eq hlt hsz
  have hi1:xs[((i:Nat):Int).toNat]?=some xs[i]:=by simp[hlt]
  have hi2:ys[((i:Nat):Int).toNat]?=some ys[i]:=by simp[hlt2]
  have hd:(List.range xs.size).drop i=i::(List.range xs.size).drop (i+1):=by simp[cH,hlt]
  have hc:((i:Int)+1)=((i+1:Nat):Int):=by push_cast;rfl
  obtain⟨t,ht⟩:=hx i hlt
  obtain⟨u,hu⟩:=hy i hlt2
  rw[hd,bj,bj,uI] at h
  rw[hi1,hi2,ht,hu]
  refine ac (EqGives.int (d i) (e i) t u prog w _ _ _ _ ?_)
  by_cases q:d i=e i
  ·rw[if_pos q] at h
   rw[q,show(e i==e i)=true from beq_self_eq_true _]
   wp_walk
   rw[hc]
   exact⟨plainId_quiet plain_eq_loop _,codeAny_builtin entry_eq_loop (by
    rw[Around.under_plainId plain_eq_loop _]
    exact ih (i+1) ((congrArg Nat.pred (by assumption))) prog w A R _ ⟨hl,hb,h⟩)⟩
  ·rw[if_neg q] at h
   rw[show(d i==e i)=false from b7.mpr q]
   wp_walk using wpAny_loadPart' hl,wpAny_loadPart' hb
   rw[hi1,hi2,ht,hu]
   refine ac (wpAny_lt_int ?_)
   wp_walk
   exact h
theorem Ex(l b:Addr)(xs ys:Array Value)(n m:Nat)(hsz:xs.size=ys.size)(d e:Nat→Int)(hx:∀j (h:j<xs.size),∃t,xs[j]=.int (d j) t)(hy:∀j (h:j<ys.size),∃t,ys[j]=.int (e j) t) :
  Meets (Builtin.«list.__lt__» ⟨[.ref l,.ref b],[]⟩)
   (λ_ R s=>s.heap.get? l=some (yP xs n)∧s.heap.get? b=some (yP ys m)∧R (.ok (.ret (.bool (p9 ((List.range xs.size).map d) ((List.range xs.size).map e))))) s):=by
 intro prog w A R s h
 obtain⟨hp,g,dd,tk,os⟩:=s;obtain⟨hl,hb,h⟩:=h
 have f3:=AutoSeq1.sub_list_list
 wp_walk using wpAny_loadPart' hl,wpAny_loadPart' hb
 exact⟨plainId_quiet plain_eq_loop _,codeAny_builtin entry_eq_loop (by
  rw[Around.under_plainId plain_eq_loop _]
  exact D0 l b xs ys n m hsz d e hx hy _ 0 rfl prog w A R _ ⟨hl,hb,h⟩)⟩
end
section
variable{prog:Program}{w:World}
theorem FX{l b:Addr}{xs ys:Array Value}{m:Nat}{d e:Nat→Int}{Q:Bool→Shared→Prop}(hu:A.units<cLine)(hl:s.heap.get? l=some (yP xs n))(hb:s.heap.get? b=some (yP ys m))(hsz:xs.size=ys.size)
  (hx:∀j (h:j<xs.size),∃t,xs[j]=.int (d j) t) (hy:∀j (h:j<ys.size),∃t,ys[j]=.int (e j) t) (h:Q (p9 ((List.range xs.size).map d) ((List.range xs.size).map e)) s):wpAny (model prog w) A (oneLt' true (.ref l) (.ref b)) Q E s:=by
 rw[oneLt'_eq]
 simp -iota only[if_true]
 refine ac (wpAny_cRoomFor hu ?_)
 have hT:s.TypeIs (.ref l) "list":=⟨_,hl,rfl⟩
 refine ac (wpAny_callSpecialIfBound?_slot hT PySem.F.slot_list_lt (call_meets PySem.F.slot_list_lt hT PySem.F.entry_list_lt (PySem.F.args_list_lt_2 _ _) (Ex l b xs ys n m hsz d e hx hy) ⟨hl,hb,?_⟩))
 exact wpAny_truthy_bool h
theorem wO{f:Value→Sem β}{g:Value→β}(vs:List Value):∀{Q:List β→Shared→Prop},(∀v∈vs,∀Q:β→Shared→Prop,Q (g v) s→wpAny (model prog w) A (f v) Q E s)→Q (vs.map g) s→wpAny (model prog w) A (vs.mapM f) Q E s:=by
 induction vs with
 |nil =>
  intro _ _ hq
  rw[List.mapM_nil];exact aB hq
 |cons v r ih =>
  intro _ h hq
  rw[List.mapM_cons]
  exact ac (h v al _ (ac (ih (λx hx=>h x (aj _ hx)) (aB hq))))
theorem vJ{vs:List Value}{Q:SortKind→Shared→Prop}(h2:2≤vs.length)(hv:∀v∈vs,s.TypeIs v "list")(h:Q oneType' s):wpAny (model prog w) A (keyKind' vs.toArray) Q E s:=by
 rw[keyKind'_eq,List.mapM_toArray]
 refine ac (wpAny_map (wO (g:=λ_=>none) vs (λv hm Q hq=>?_) ?_))
 ·show wpAny _ _ (typeOf v>>=_) _ _ _
  exact ac (wpAny_typeOf (hv v hm) (aB hq))
 ·obtain⟨a,r,e⟩:∃a r,vs=a::r:=by
   cases vs with
   |nil=>cases h2
   |cons a r=>exact⟨a,r,rfl⟩
  rw[e] at hv ⊢
  rw[if_neg (by simp),if_neg (by simp),oneTypeOnly'_eq,List.mapM_toArray]
  refine ac (ac (wpAny_map (wO (g:=λ_=>Value.type "list") (a::r) (λv hm Q hq=>wpAny_typeOf (hv v hm) hq) ?_)))
  have h0:(List.map (λ_=>Value.type "list") (a::r)).toArray[0]?=some (Value.type "list"):=by simp
  have hall:((List.map (λ_=>Value.type "list") (a::r)).toArray.all λx=>x==Value.type "list")=true:=by
   simp only[List.all_toArray,List.all_map,ap]
   intro _ _
   rfl
  rw[h0]
  dsimp only
  rw[if_pos hall]
  exact aB (aB h)
theorem zN(l:List Value):∀p∈l.zip l,p.2=p.1:=by
 induction l with
 |nil =>
  intro p h
  exact nomatch h
 |cons a r ih =>
  intro p h
  rcases ah.mp h with e | h
  ·rw[e]
  ·exact ih p h
structure EH(lt:Value→Value→Bool)(vs out:List Value):Prop where
 perm:out.Perm vs
 rise:out.Pairwise λx y=>lt x y=true
theorem DM{vs:List Value}{t:SortSt}(hp:(arrOf t).Perm (pairsOf vs))(hr:i6 lt (arrOf t) vs.length):∃out:List Value,EH lt vs out∧(arrOf t).map (·.2)=out.toArray:=by
 have hl:=Array.perm_iff_toList_perm.mp hp
 have h12:∀p∈(arrOf t).toList,p.2=p.1:=λp hm=>by
  have hm:=hl.mem_iff.mp hm
  unfold pairsOf at hm
  rw[Array.toList_zip] at hm
  exact zN _ p hm
 have e:(arrOf t).toList.map (·.2)=(arrOf t).toList.map (·.1):=List.map_congr_left h12
 have hp1:=hl.map (·.1)
 rw[rf] at hp1
 have hlen:=hp1.length_eq
 rw[af,aD] at hlen
 refine⟨(arrOf t).toList.map (·.1),⟨hp1,?_⟩,?_⟩
 ·rw[List.pairwise_iff_getElem]
  intro i j hi hj hij
  rw[af,aD] at hi hj
  have e1:=oG (xs:=arrOf t) hi
  have e2:=oG (xs:=arrOf t) hj
  rw[aQ (by rw[af,aD];exact hi)] at e1
  rw[aQ (by rw[af,aD];exact hj)] at e2
  rw[am e1,am e2]
  exact hr i j hij (hlen▸hj)
 ·rw[←e]
  apply Array.ext'
  rw[Array.toList_map]
theorem p_{vs:List Value}{P:Fin→Shared→Prop}(ho:s.heap.get? a=some (seqObj "list" vs.toArray n))(h2:2≤vs.length)(h64:vs.length<64)
  (hO:∀s':Shared,(∀b o,b≠a→s.heap.get? b=some o→s'.heap.get? b=some o)→(∀v∈vs,s'.TypeIs v "list")∧Jm (model prog w) A s' vs lt)
  (h:∀out:List Value,EH lt vs out→P (.done (.ret .none)) {s with heap:=sortedHeap s.heap a vs out.toArray}):wpAny (model prog w) A (Builtin.«list.sort» ⟨[.ref a],[]⟩) P E s:=by
 rw[list_sort_plain]
 have ha:a<s.heap.objs.size:=bL ho
 have hsz:vs.toArray.size=vs.length:=by simp
 refine ac (listItems_at ho rfl ?_)
 refine ac (listUpdate_at ho rfl ?_)
 have ho1:=get?_update_seq ho (λ_=>#[])
 refine ac (seqEpoch_at ho1 rfl ?_)
 refine ac (wpAny_newTuple ?_)
 refine ac (wpAny_newList ?_)
 refine aX ?_
 show wpAny (model prog w) A _ P E {s with heap:=((s.heap.update a (Obj.mapSeq λ_=>#[])).push (seqObj "tuple" vs.toArray 0)).push (seqObj "list" #[] 0)}
 obtain⟨H,hH⟩:∃H,H=((s.heap.update a (Obj.mapSeq λ_=>#[])).push (seqObj "tuple" vs.toArray 0)).push (seqObj "list" #[] 0):=⟨_,rfl⟩
 have push2:∀b,b<s.heap.objs.size→H.get? b=(s.heap.update a (Obj.mapSeq λ_=>#[])).get? b:=λb hb=>by
  rw[hH,Heap.get?_push_ne _ _ _ (by rw[size_push',Heap.size_update];exact bQ (Nat.lt_succ_of_lt hb)),Heap.get?_push_ne _ _ _ (by rw[Heap.size_update];exact bQ hb)]
 have ho6:=(push2 a ha).trans ho1
 have hk:∀b o,b≠a→s.heap.get? b=some o→H.get? b=some o:=λb o hb e=>by
  rw[push2 b (bL e),Heap.get?_update_ne _ _ _ _ hb];exact e
 rw[←hH]
 dsimp only
 rw[if_neg (by rw[hsz];exact Nat.not_lt.mpr h2),if_neg (by rw[hsz];exact Nat.not_lt.mpr h2)]
 obtain⟨hT,O⟩:=hO {s with heap:=H} hk
 refine ac (vJ h2 hT ?_)
 refine ac (bA (BV (st:=SortSt.mk' oneType' (vs.toArray.zip vs.toArray) #[] 7 none) (Q:=λ_ t=>∃out:List Value,failedOf t=none∧EH lt vs out∧(arrOf t).map (·.2)=out.toArray) O h2 h64 ⟨Array.Perm.refl _,rfl,rfl,rfl⟩ λt hp hf hr=>?_) (λr s' hq=>?_) λ_ _ e=>e)
 ·exact(DM hp hr).imp λout q=>⟨hf,q⟩
 ·refine aa λhQ=>?_
  obtain⟨r,t⟩:=r
  obtain⟨hs,out,hf,hsr,he⟩:=hq
  (refine hQ ?_;clear hQ)
  rw[hs]
  dsimp only at hf he ⊢
  rw[he]
  refine ac (seqEpoch_at ho6 rfl ?_)
  refine ac (listUpdate_at ho6 rfl ?_ (hsz2:=by have:=hsr.perm.length_eq;rw[List.size_toArray,this,sizeLine_eq];exact aE (ae h64 (c8 rfl))))
  rw[hf]
  simp only[bne_self_eq_false,Bool.false_eq_true,if_false]
  have:=h out hsr
  unfold sortedHeap at this
  rw[←hH] at this
  exact aB this
theorem vZ{l:Addr}{vs:List Value}(hl:s.heap.IsList l vs.toArray)(h2:2≤vs.length)(h64:vs.length<64)
  (hO:∀(A':Around) (s':Shared),A'.units≤A.units+4→(∀b o,s.heap.get? b=some o→s'.heap.get? b=some o)→(∀v∈vs,s'.TypeIs v "list")∧Jm (model prog w) A' s' vs lt)
  (h:∀out:List Value,EH lt vs out→Q (.ref (s.heap.objs.size+1)) {s with heap:=sortedAll s.heap vs out.toArray}):wpAny (model prog w) A (call (.builtin "sorted") [.ref l]) Q E s:=by
 refine Calls.call_function_entry kind_sorted plain_sorted entry_sorted (args_sorted1 _) ?_
 unfold Builtin.«sorted»
 refine ac (m:=checkCount "sorted" 1 1 _) (aB ?_)
 refine ac (collect_list hl ?_)
 refine ac (wpAny_newList ?_)
 refine aa λhQ=>?_
 obtain⟨H,hH⟩:∃H,H=(s.heap.push (seqObj "list" #[] 0)).update s.heap.objs.size (Obj.mapSeq (·++vs.toArray)):=⟨_,rfl⟩
 (refine hQ ?_;clear hQ)
 have hsz:H.objs.size=s.heap.objs.size+1:=by rw[hH,Heap.size_update,size_push']
 have hoL:(H.push (seqObj "list" vs.toArray 0)).get? (s.heap.objs.size+1)=some (seqObj "list" vs.toArray 0):=by rw[←hsz];exact aI _ rfl
 have hk:∀b o,s.heap.get? b=some o→b≠s.heap.objs.size+1∧(H.push (seqObj "list" vs.toArray 0)).get? b=some o:=λb o e=>by
  have hb:=bL e
  refine⟨by exact bQ (Nat.lt_add_right 1 hb),aC _ ?_⟩
  rw[hH,Heap.get?_update_ne _ _ _ _ (bQ hb)]
  exact aC _ e
 show wpAny _ _ _ _ _ {s with heap:=((s.heap.push (seqObj "list" #[] 0)).update s.heap.objs.size (Obj.mapSeq (·++vs.toArray))).push (seqObj "list" vs.toArray 0)}
 rw[←hH,hsz]
 refine ac (aX (cF slot_list_sort ⟨_,hoL,rfl⟩ entry_list_sort (p_ hoL h2 h64 (λs' hs'=>hO _ s' ?_ λb o e=>hs' b o (hk b o e).1 (hk b o e).2) λout hs=>⟨_,rfl,?_⟩) (args_list_sort _)))
 ·show A.units+1+1≤A.units+4
  lia
 ·have:=h out hs
  unfold sortedAll at this
  rw[←hH] at this
  exact aB ⟨_,rfl,this⟩
end
set_option backward.match.sparseCases false
theorem ub{lt:α→α→Bool}{x:α}(l:List α):(wj lt x l).Perm (x::l):=by
 induction l with
 |nil =>
  exact List.Perm.refl _
 |cons y r ih =>
  rw[vw]
  split
  ·exact List.Perm.refl _
  ·exact(List.Perm.cons y (ih)).trans (List.Perm.swap x y r)
theorem kU{lt:α→α→Bool}(l:List α):(f_ lt l).Perm l:=by
 induction l with
 |nil =>
  exact List.Perm.refl _
 |cons x r ih =>
  exact(ub _).trans (List.Perm.cons x (ih))
structure Hi{α:Type}(lt:α→α→Bool)(P:α→α→Prop)(l:List α):Prop where
 yes:∀x y,x∈l→y∈l→lt x y=true→P x y
 no:∀x y,x∈l→y∈l→lt x y=false→P y x
 tr:∀x y z,P x y→P y z→P x z
theorem vB{lt:α→α→Bool}{P:α→α→Prop}{x:α}{l:List α}:Hi lt P (x::l)→l.Pairwise P→(wj lt x l).Pairwise P:=by
 induction l with
 |nil =>
  intro _ _
  exact List.pairwise_singleton _ _
 |cons y r ih =>
  intro O h
  obtain⟨h1,h2⟩:=List.pairwise_cons.mp h
  rw[vw]
  by_cases q:lt x y=true
  ·rw[if_pos q]
   have hxy:=O.yes x y al (aj _ al) q
   refine List.pairwise_cons.mpr ⟨λz hz=>?_,h⟩
   rcases ah.mp hz with e | hz
   ·rw[e];exact hxy
   ·exact O.tr _ _ _ hxy (h1 z hz)
  ·rw[if_neg q]
   have hyx:=O.no x y al (aj _ al) (Bool.eq_false_iff.mpr q)
   have O':Hi lt P (x::r):=⟨λa b ha hb=>O.yes a b (by rcases ah.mp ha with e | ha;exact e▸al;exact .tail _ (.tail _ ha)) (by rcases ah.mp hb with e | hb;exact e▸al;exact .tail _ (.tail _ hb)),
    λa b ha hb=>O.no a b (by rcases ah.mp ha with e | ha;exact e▸al;exact .tail _ (.tail _ ha)) (by rcases ah.mp hb with e | hb;exact e▸al;exact .tail _ (.tail _ hb)),O.tr⟩
   refine List.pairwise_cons.mpr ⟨λz hz=>?_,ih O' h2⟩
   rcases ah.mp ((ub r).mem_iff.mp hz) with e | hz
   ·rw[e];exact hyx
   ·exact h1 z hz
theorem lL{lt:α→α→Bool}{P:α→α→Prop}{l:List α}:Hi lt P l→(f_ lt l).Pairwise P:=by
 induction l with
 |nil =>
  intro _
  exact List.Pairwise.nil
 |cons x r ih =>
  intro O
  have sub:∀a,a∈x::f_ lt r→a∈x::r:=λa ha=>(ah.mp ha).elim (λe=>e▸al) λh=>.tail _ ((kU r).mem_iff.mp h)
  exact vB ⟨λa b ha hb=>O.yes a b (sub a ha) (sub b hb),λa b ha hb=>O.no a b (sub a ha) (sub b hb),O.tr⟩ (ih ⟨λa b ha hb=>O.yes a b (.tail _ ha) (.tail _ hb),λa b ha hb=>O.no a b (.tail _ ha) (.tail _ hb),O.tr⟩)
theorem su:∀{x y z:List Int},p9 x y=true→p9 y z=true→p9 x z=true
 |[],[],_,h,_=>by cases h
 |[],_::_,[],_,h=>by cases h
 |[],_::_,_::_,_,_=>rfl
 |_::_,[],_,h,_=>by cases h
 |_::_,_::_,[],_,h=>by cases h
 |a::x,b::y,c::z,h1,h2=>by
  rw[uI] at h1 h2 ⊢
  by_cases q:a=b
  ·rw[if_pos q] at h1
   by_cases q2:b=c
   ·rw[if_pos q2] at h2;rw[if_pos (q.trans q2)];exact su h1 h2
   ·rw[if_neg q2] at h2;rw[if_neg (q▸q2),q];exact h2
  ·rw[if_neg q,ar] at h1
   by_cases q2:b=c
   ·rw[if_neg (q2▸q),←q2];exact aO h1
   ·rw[if_neg q2,ar] at h2
    rw[if_neg (Int.ne_of_lt (Int.lt_of_lt_of_le h1 (bn h2)))];exact aO (by exact Int.lt_trans h1 h2)
theorem v9:∀{x y:List Int},x≠y→p9 x y=!p9 y x
 |[],[],h=>absurd rfl h
 |[],_::_,_=>rfl
 |_::_,[],_=>rfl
 |a::x,b::y,h=>by
  rw[uI,uI]
  by_cases q:a=b
  ·rw[if_pos q,if_pos q.symm];exact v9 λe=>h (by rw[q,e])
  ·rw[if_neg q,if_neg λe=>q e.symm]
   rw[Bool.eq_iff_iff,Bool.not_eq_true',ar,decide_eq_false_iff_not];lia
theorem Hg(x:List Int):p9 x x=false:=by
 induction x with
 |nil =>
  exact rfl
 |cons a x ih =>
  rw[uI,if_pos rfl];exact ih
theorem wp{l out:List (List Int)}(hp:out.Perm l)(hs:out.Pairwise λx y=>p9 x y=true)(nd:l.Nodup):out=f_ p9 l:=by
 refine List.Perm.eq_of_pairwise (le:=λx y=>p9 x y=true∨x=y) (λa b _ _ h1 h2=>?_) (hs.imp .inl) (lL ⟨λx y _ _ h=>.inl h,λx y _ _ h=>?_,λx y z h1 h2=>?_⟩) (hp.trans (kU l).symm)
 ·rcases h1 with h1 | h1
  ·rcases h2 with h2 | h2
   ·have:=su h1 h2
    rw[Hg] at this;cases this
   ·exact h2.symm
  ·exact h1
 ·by_cases q:x=y
  ·exact .inr q.symm
  ·refine .inl ?_
   rw[v9 (Ne.symm q),h];rfl
 ·rcases h1 with h1 | h1
  ·rcases h2 with h2 | h2
   ·exact .inl (su h1 h2)
   ·exact .inl (h2▸h1)
  ·rw[h1];exact h2
theorem vK{l out:List Int}(hp:out.Perm l)(hs:out.Pairwise (·≤·)):out=f_ (λa b=>decide (a<b)) l:=by
 refine List.Perm.eq_of_pairwise (le:=(·≤·)) (λa b _ _ h1 h2=>Int.le_antisymm h1 h2) hs (lL ⟨λx y _ _ h=>bn (of_decide_eq_true h),λx y _ _ h=>Int.not_lt.mp (of_decide_eq_false h),λx y z=>Int.le_trans⟩) (hp.trans (kU l).symm)
theorem la:∀{ds:List Int},gA xs=some ds→xs=ds.map .int:=by
 induction xs with
 |nil =>
  intro ds h
  cases h;rfl
 |cons x r ih =>
  intro ds h
  obtain⟨i,h0,h⟩:=aJ h
  obtain⟨es,h1,rfl⟩:=aH.mp h
  rw[ih h1,gL h0];rfl
theorem wd:∀{ls:List (List Int)},oX xs=some ls→xs=ls.map λl=>.list (l.map .int):=by
 induction xs with
 |nil =>
  intro ls h
  cases h;rfl
 |cons x r ih =>
  intro ls h
  refine aa λhQ=>?_
  obtain⟨l,h1,h⟩:=aJ h
  obtain⟨ns,h2,h⟩:=aJ h
  obtain⟨ms,h3,e⟩:=aH.mp h
  (refine hQ ?_;clear hQ)
  rw[←e,ih h3,nQ h1,la h2];rfl
noncomputable def nH(h:Heap)(v:Value):List Int:=match v with
 |.ref a=>(match h.get? a with
  |some o=>(match o.data with
   |.seq xs _=>xs.toList.map numOf
   |_=>[])
  |none=>[])
 |_=>[]
structure IL(h:Heap)(M:List Addr)(v:Value)(l:List Int)(a:Addr)(xs:Array Value)(k:Nat):Prop where
 eq:v=.ref a
 out:a∉M
 at_:h.get? a=some (bU xs k)
 reps:Reps h M xs.toList (l.map .int)
theorem lK{h:Heap}{M:List Addr}:∀{l:List Int} {vs:List Value},Reps h M vs (l.map .int)→vs.map numOf=l∧∀j (hj:j<vs.length),∃t,vs[j]=.int (l.getD j 0) t
 |[],vs,r=>by cases r;exact⟨rfl,λj hj=>absurd hj (Nat.not_lt_zero _)⟩
 |i::l,vs,r=>by
  cases r with
  |@cons v vs _ _ r1 r2 =>
   obtain⟨h1,h2⟩:=lK r2
   cases r1
   refine⟨congrArg _ h1,λj hj=>?_⟩
   cases j with
   |zero=>exact⟨_,rfl⟩
   |succ j=>exact h2 j (Nat.lt_of_succ_lt_succ hj)
theorem IL.key{v:Value}{l:List Int}{xs:Array Value}(i:IL h M v l a xs k):nH h v=l:=by
 unfold nH
 rw[i.eq]
 dsimp only
 rw[i.at_]
 exact(lK i.reps).1
theorem u3:∀{vs:List Value},Reps h M vs (ls.map λl=>.list (l.map .int))→vs.map (nH h)=ls∧∀v∈vs,∃a xs k,IL h M v (nH h v) a xs k:=by
 induction ls with
 |nil =>
  intro vs r
  cases r;exact⟨rfl,λ_ h=>nomatch h⟩
 |cons l ls ih =>
  intro vs r
  cases r with
  |@cons v vs _ _ r1 r2 =>
   refine aa λhQ=>?_
   obtain⟨h1,h2⟩:=ih r2
   obtain⟨a,xs,k,e,g1,g2,g3⟩:=i8 (show cQ h M v (.d (.list (l.map .int))) from r1)
   (refine hQ ?_;clear hQ)
   have i:IL h M v l a xs k:=⟨e,g1,g2,g3⟩
   refine⟨by rw[bj,i.key,h1],aL.mpr ⟨⟨a,xs,k,?_⟩,h2⟩⟩
   rw[i.key];exact i
theorem xO{f:α→β}{l:List α}:(l.map f).Nodup→∀x y,x∈l→y∈l→f x=f y→x=y:=by
 induction l with
 |nil =>
  intro _ _ _ h _ _
  exact nomatch h
 |cons a l ih =>
  intro nd x y hx hy e
  rw[bj,List.nodup_cons] at nd
  rcases ah.mp hx with ex | hx<;>rcases ah.mp hy with ey | hy
  ·rw[ex,ey]
  ·exact absurd (List.mem_map.mpr ⟨y,hy,by rw[←e,ex]⟩) nd.1
  ·exact absurd (List.mem_map.mpr ⟨x,hx,by rw[e,ey]⟩) nd.1
  ·exact ih nd.2 x y hx hy e
theorem Bt{f:α→β}{l:List α}(nd:(l.map f).Nodup):l.Nodup:=by
 rw[List.nodup_iff_pairwise_ne,List.pairwise_map] at nd
 rw[List.nodup_iff_pairwise_ne]
 exact nd.imp λh e=>h (by rw[e])
theorem qT(l:List Int):(List.range l.length).map (λj=>l.getD j 0)=l:=by
 apply List.ext_getElem
 ·simp
 ·intro i h1 h2
  simp[aQ h2]
theorem DB{f:Value→PyData}{vs:List Value}:(∀v∈vs,Rep h M v (f v))→Reps h M vs (vs.map f):=by
 induction vs with
 |nil =>
  intro _
  exact .nil
 |cons v vs ih =>
  intro H
  exact .cons (H v al) (ih λx hx=>H x (aj _ hx))
theorem pP{h:Heap}{M:List Addr}:∀{ns:List Int} {vs:List Value},Reps h M vs (ns.map .int)→IntsAre vs ns
 |[],vs,r=>by cases r;exact .nil
 |i::ns,vs,r=>by
  cases r with
  |@cons v vs _ _ r1 r2=>cases r1;exact .cons _ _ (pP r2)
theorem r_{ns:List Int}{vs:List Value}(r:IntsAre vs ns):Reps h M vs (ns.map .int):=by
 induction r with
 |nil=>exact .nil
 |cons i t _ ih=>exact .cons (.int i t) ih
theorem wq(h:lO ls=true):∀x y,x∈ls→y∈ls→x.length=y.length:=by
 cases ls with
 |nil=>exact λ_ _ h=>nomatch h
 |cons l r =>
  have all:∀x∈l::r,x.length=l.length:=aL.mpr ⟨rfl,λx hx=>bH (ap.mp h x hx)⟩
  exact λx y hx hy=>(all x hx).trans (all y hy).symm
section
variable{W:Wd}{v:V}
theorem ye{vs:List Value}(hr:Reps s.heap M vs (ls.map λl=>.list (l.map .int)))(hl:lO ls=true)(nd:ls.Nodup){A':Around}(hu:A'.units<cLine)(hk:∀b o,s.heap.get? b=some o→s'.heap.get? b=some o) :
  (∀v∈vs,s'.TypeIs v "list")∧Jm (model W.prog W.w) A' s' vs λx y=>p9 (nH s.heap x) (nH s.heap y):=by
 obtain⟨h1,h2⟩:=u3 hr
 have hm:∀v∈vs,nH s.heap v∈ls:=λv hv=>by rw[←h1];exact List.mem_map_of_mem hv
 refine⟨λv hv=>?_,λE x y Q hx hy h=>?_,λx y z _ _ _=>su,λx y hx hy hne=>v9 λe=>hne (xO (h1▸nd) x y hx hy e),Bt (h1▸nd)⟩
 ·obtain⟨a,xs,k,i⟩:=h2 v hv
  rw[i.eq]
  exact⟨_,hk _ _ i.at_,rfl⟩
 ·refine aa λhQ=>?_
  obtain⟨a,xs,k,i⟩:=h2 x hx
  obtain⟨b,ys,m,j⟩:=h2 y hy
  (refine hQ ?_;clear hQ)
  have nx:=(lK i.reps).2
  have ny:=(lK j.reps).2
  have lx:=i.reps.length
  have ly:=j.reps.length
  rw[af,aD] at lx ly
  have hsz:xs.size=ys.size:=by rw[lx,ly];exact wq hl _ _ (hm x hx) (hm y hy)
  rw[i.eq,j.eq]
  refine FX (d:=λj=>(nH s.heap x).getD j 0) (e:=λj=>(nH s.heap y).getD j 0) hu (hk _ _ i.at_) (hk _ _ j.at_) hsz (λq hq=>nx q (by rw[aD];exact hq)) (λq hq=>ny q (by rw[aD];exact hq)) ?_
  rw[lx,qT,←lx,hsz,ly,qT]
  exact h
theorem vP{l:Addr}(R:j3 W A n)(g:cU W s)(mok:kQ s.heap M)(h2:s.heap.get? l=some (bU vs k))(h4:Reps s.heap M vs.toList ds)
  (e:(if decide (ds.length<64)=true then(ro ds).or (og ds) else none)=some v) (h:∀{r s'},SX W s s'→cQ s'.heap M r v→Q r s'):wpAny (model W.prog W.w) A (call (.builtin "sorted") [.ref l]) Q E s:=by
 obtain⟨h64,e⟩:=dn e
 have h64:=of_decide_eq_true h64
 have hlen:=h4.length
 have hl:s.heap.IsList l vs.toList.toArray:=⟨bU vs k,h2,rfl,k,by simp⟩
 have hf:s.heap.objs.size+1∉M:=mok.fresh (Heap.get?_none_of_le (Nat.le_succ _))
 rcases Option.or_eq_some_iff.mp e with e | ⟨_,e⟩
 ·refine aa λhQ=>?_
  obtain⟨ns,e1,e2⟩:=aJ e
  (refine hQ ?_;clear hQ)
  rw[la e1] at h4
  refine sorted_ints hl (pP h4) (by rw[hlen];exact h64) λout ns' a1 a2 a3=>?_
  obtain⟨k',hk'⟩:=sortedAll_at s.heap vs.toList out
  refine h (SX.of_keep (tk:=s.toks) g λb o e=>sortedAll_old e) ?_
  rw[←am e2,←vK a2 a3]
  exact .list hf hk' (r_ a1)
 ·refine aa λhQ=>?_
  obtain⟨ls,e1,e⟩:=aJ e
  obtain⟨q,e⟩:=dn e
  rw[ag,ag,ar,ar] at q
  obtain⟨⟨q1,q2⟩,q3⟩:=q
  rw[wd e1] at h4
  have hv:=h4.length
  rw[af] at hv
  obtain⟨k1,k2⟩:=u3 h4
  (refine hQ ?_;clear hQ)
  refine vZ hl (by rw[hv];exact q1) (by rw[hlen];exact h64) (λA' s' hu hk=>ye h4 q2 q3 (by have:=R.units;lia) hk) λout hs=>?_
  obtain⟨k',hk'⟩:=sortedAll_at s.heap vs.toList out.toArray
  have x:SX W s {s with heap:=sortedAll s.heap vs.toList out.toArray}:=SX.of_keep (tk:=s.toks) g λb o e=>sortedAll_old e
  refine h x ?_
  have ho:out.map (nH s.heap)=f_ p9 ls:=wp (by have:=hs.perm.map (nH s.heap);rwa [k1] at this) (by rw[List.pairwise_map];exact hs.rise) q3
  rw[←am e,←ho,List.map_map]
  refine .list hf hk' ?_
  refine(DB (f:=λv=>.list ((nH s.heap v).map .int)) λv hm=>?_:Reps s.heap M out _).mono (λb o _ e n=>x.keep b o e n) λa ha=>.inl ha
  refine aa λhQ=>?_
  obtain⟨a,xs,k,i⟩:=k2 v (hs.perm.mem_iff.mp hm)
  (refine hQ ?_;clear hQ)
  have:=Rep.list (M:=M) i.out i.at_ i.reps
  rwa [←i.eq] at this
end
noncomputable def pw:Pf→Value
 |.len=>.builtin "len"
 |.range1=>.type "range"
 |.range3=>.type "range"
 |.sum=>.builtin "sum"
 |.chr=>.builtin "chr"
 |.listOf=>.type "list"
 |.isInt=>.builtin "isinstance"
 |.divmod=>.builtin "divmod"
 |.sorted=>.builtin "sorted"
noncomputable def om:Pf→List Value
 |.isInt=>[.type "int"]
 |_=>[]
section
variable{W:Wd}{v:V}
theorem o9(mok:kQ h M):h.objs.size∉M:=mok.fresh (bD _)
theorem wa{acc:Array Value}(e:ItemsOf (SignAt x) acc x.cps.size):Reps h M acc.toList (x.cps.toList.map λc=>.str ⟨#[c]⟩):=by
 refine Reps.of_get (by simp[e.1]) λi v d h1 h2=>?_
 obtain⟨c,u,hc,rfl⟩:=e.2 i v (by simpa using h1)
 simp only[az,Array.getElem?_toList,hc,Option.map_some] at h2
 cases h2
 exact .str _ _
noncomputable def v5:Pf→Bool
 |.sum=>true
 |.listOf=>true
 |_=>false
theorem tp{xs:List V}(nx:v5 f=true→W.exc=none)(R:j3 W A n)(g:cU W s)(mok:kQ s.heap M)(hb:dN s.heap M vals xs)(e:gQ f xs=some v)
  (h:∀r s',SX W s s'→cQ s'.heap M r v→Q r s'):wpAny (model W.prog W.w) A (call (pw f) (vals++om f) []) Q E s:=by
 have h:∀{r s' u},some u=some v→SX W s s'→cQ s'.heap M r u→Q r s':=λ{r s' u} q x y=>h r s' x (am q▸y)
 cases f with
 |len =>
  refine p1 e hb λw v r e=>?_
  obtain⟨k,h2,e9⟩:=aJ e
  obtain⟨q,e9⟩:=dn e9
  clear e
  have L:∀{l vs n},s.heap.get? l=some (bU vs n)→vs.size=k→wpAny (model W.prog W.w) A (call (.builtin "len") [.ref l] []) Q E s:=λ{l vs n} e1 e2 =>
   PyProof.Rows.len_list ⟨_,e1,rfl,_,rfl⟩ (iy (aw e2) (iy (aE q) (c8 rfl))) (h e9 (SX.toks g) (by rw[e2];exact .int _ _))
  cases v with
  |r=>cases h2
  |o xs=>exact F_ r λl vs n e1 e2=>L e1 (by rw[←aD,e2.length];exact am h2)
  |d x =>
   cases x with
   |list xs=>exact vO r λl vs n _ e1 e2=>L e1 (by rw[←aD,e2.length];exact am h2)
   |tuple xs =>
    refine ze r λl vs n _ e1 e2=>?_
    have e2:vs.size=k:=by rw[←aD,e2.length];exact am h2
    exact PyProof.Rows.len_tuple ⟨_,e1,rfl,_,rfl⟩ (iy (aw e2) (iy (aE q) (c8 rfl))) (h e9 (SX.toks g) (by rw[e2];exact .int _ _))
   |str x =>
    have e2:x.length=k:=am h2
    exact jZ r λt=>PySem.P.len_str (Int.not_le_of_gt (iy (aw e2) (iy (aE q) (c8 rfl)))) (h e9 (SX.toks g) (by rw[e2];exact .int _ _))
   |_=>cases h2
 |range1=>exact JT e hb λk t e=>call_range_1 (h e (SX.push g) ⟨_,_,_,_,rfl,o9 mok,aI _ rfl⟩)
 |range3 =>
  refine p3 e hb λw v i j t2 k t3 r1 r2 e=>?_
  obtain⟨q,e⟩:=dn e
  rw[ag,cz] at q
  rw[dk r2] at r1
  exact iX r1 λt=>call_range_3 q.1 (h e (SX.push g) ⟨_,_,_,_,rfl,o9 mok,aI _ rfl⟩) (.inl (G6 q.2))
 |sum =>
  refine Km e hb λds l vs k h2 h4 e=>?_
  obtain⟨ns,h3,e⟩:=aJ e
  obtain⟨q,e⟩:=dn e
  obtain⟨ps,e1,rfl⟩:=h4.ints h3
  have e3:vs=intItems ps.toArray:=by
   have:vs.toList.toArray=(ps.map (λp=>Value.int p.1 p.2)).toArray:=by rw[e1]
   simpa [intItems] using this
  rw[e3] at h2
  have e4:preSum (numAt ps.toArray) ps.toArray.size=(ps.map (·.1)).sum:=by
   rw[show ps.toArray.size=ps.length from by simp,nq ps _ (aF _),List.take_of_length_le (by simp)]
  exact sum_intList (R.hn (nx rfl)) ⟨_,h2,rfl,_,rfl⟩ (DG q) λh' tk t' hk=>h e (SX.of_keep g hk) (by rw[e4];exact .int _ _)
 |chr =>
  refine JT e hb λk t e=>?_
  obtain⟨q,e⟩:=dn e
  exact chr_of_range q.1 (bn (Int.lt_of_lt_of_le (And.right q) (c8 rfl))) (h e (SX.toks g) (.str _ _))
 |listOf =>
  refine Jk e hb λx t e=>?_
  obtain⟨q,e⟩:=dn e
  exact call_list_str (R.hn (nx rfl)) _ t (λh' tk acc c' hk hn hi=>h e (SX.of_keep g hk) (.list (o9 mok) hn (wa hi))) (ab (cW q) (by decide))
 |isInt=>exact JT e hb λk t e=>IsiPair.int_int (h e (SX.refl g) (.bool _))
 |sorted=>exact Km e hb λds l vs k h2 h4 e=>vP R g mok h2 h4 e λx r=>h rfl x r
 |divmod =>
  refine p2 e hb λi t j u e=>?_
  obtain⟨q,e⟩:=dn e
  rw[ag,cz] at q
  exact divmod_int q.1 (h e (SX.push (tk:=s.toks+1+1) g) (I0 (tk:=s.toks) g mok (.cons (.int _ _) (.cons (.int _ _) .nil)))) (.inl (G6 q.2))
end
set_option backward.match.sparseCases true
section
variable{W:Wd}{Γ:eX}{sc:Scope}
theorem hG{i:Int}:bJ W Γ sc (.Constant (.int i) k p) (.lit (.int i)):=λn Φ A s env M ρ v E Q c e h=>by
 cases e;exact wpAny_Constant_int (h _ _ (SX.toks c.good) (.int _ _))
theorem nJ:bJ W Γ sc (.Constant (.str x) k p) (.lit (.str x)):=λn Φ A s env M ρ v E Q c e h=>by
 cases e;exact wpAny_Constant_str (h _ _ (SX.toks c.good) (.str _ _))
theorem BY{b:Bool}:bJ W Γ sc (.Constant (.bool b) k p) (.lit (.bool b)):=λn Φ A s env M ρ v E Q c e h=>by
 cases e;exact wpAny_Constant_bool (h _ _ (SX.refl c.good) (.bool _))
theorem C2:bJ W Γ sc (.Constant .none k p) (.lit .none):=λn Φ A s env M ρ v E Q c e h=>by
 cases e;exact wpAny_Constant_none (h _ _ (SX.refl c.good) .none)
noncomputable def bI(x:Str):Bool:=!(x==("__debug__":Str))&&!(x==("__classdict__":Str))
theorem pL(h:bI x=true):(x==("__debug__":Str))=false:=by
 unfold bI at h;rw[ag] at h;simpa using h.1
theorem uR(h:bI x=true):(x==("__classdict__":Str))=false:=by
 unfold bI at h;rw[ag] at h;simpa using h.2
theorem fe{M:Model}(ho:bI x=true)(hk:env.scope.kind=.function)
  (hv:c_ s.heap env x v) (h:Q v s):wpAny M A (eval (.Name x p) env) Q E s:=by
 refine wpAny_Name ?_ (pL ho)
 rcases hv with⟨k,m,n,e⟩ | ⟨k | k,c,e,n⟩
 ·exact wpAny_loadName_local hk k n e h
 ·exact wpAny_loadName_cell hk k e n h
 ·exact wpAny_loadName_free hk k e n h (uR ho)
theorem bK(ho:bI x=true)(hl:Γ.vars.lookup x=some i):bJ W Γ sc (.Name x p) (.var i):=λn Φ A s env M ρ v E Q c e h=>by
 have hk:env.scope.kind=.function:=by rw[c.env.scope];exact c.env.kind
 obtain⟨sl,hu,e⟩:=aJ e
 have q:=c.vis x i hl _ hu
 cases sl with
 |un=>cases e
 |sh u=>exact q.2.elim λval q=>fe ho hk q.1 (h _ _ (SX.refl c.good) (am e▸q.2))
 |ow xs=>exact q.elim λa q=>fe ho hk q.1 (h _ _ (SX.refl c.good) (am e▸⟨a,rfl,q.2⟩))
 |mx=>cases e
theorem Ei(ho:bI x=true)(hk:sc.names.lookup x=some .globalImplicit)(hm:(x,d)∈W.csts):bJ W Γ sc (.Name x p) (.lit d):=λn Φ A s env M ρ v E Q c e h=>by
 cases e
 have hk1:env.scope.kind=.function:=by rw[c.env.scope];exact c.env.kind
 have hk2:env.kindOf x=some .globalImplicit:=by unfold Env.kindOf;rw[c.env.scope];exact hk
 obtain⟨val,h1,h2⟩:=W.cstG _ hm
 refine Calls.Name_function_global hk1 hk2 (Calls.loadGlobal_global (by rw[c.env.globals];exact W.g c.good.ok) h1 ?_) (pL ho)
 rcases h2 d rfl with⟨i,t,rfl,rfl⟩ | ⟨z,t,rfl,rfl⟩
 ·exact h _ _ (SX.refl c.good) (.int _ _)
 ·exact h _ _ (SX.refl c.good) (.str _ _)
theorem kh(g:cU W s)(ek:fD env sc)(ho:bI x=true)(hk:sc.names.lookup x=some .globalImplicit)
  (hv:W.mg x=some v∨(W.mg x=none∧W.mb x=some v)) (h:Q v s):wpAny (model W.prog W.w) A (eval (.Name x p) env) Q E s:=by
 have hk1:env.scope.kind=.function:=by rw[ek.scope];exact ek.kind
 have hk2:env.kindOf x=some .globalImplicit:=by unfold Env.kindOf;rw[ek.scope];exact hk
 refine Calls.Name_function_global hk1 hk2 ?_ (pL ho)
 rcases hv with hv | ⟨h1,h2⟩
 ·exact Calls.loadGlobal_global (by rw[ek.globals];exact W.g g.ok) hv h
 ·exact Calls.loadGlobal_builtin (by rw[ek.globals];exact W.g g.ok) h1 (by rw[ek.builtins];exact W.b g.ok) h2 h
theorem d9{a b:Expr}{cb:CE}(ha:bJ W Γ sc a ca)(hb:bJ W Γ sc b cb):bJ W Γ sc (.BinOp a op b p) (.bin op ca cb):=λn Φ A s env M ρ v E Q c e h=>by
 refine aa λhQ=>?_
 obtain⟨x,e1,e⟩:=aJ e
 obtain⟨y,e2,e⟩:=aJ e
 (refine hQ ?_;clear hQ)
 refine wpAny_BinOp (ha n Φ A s env M ρ x E _ c e1 λxv s₁ x1 r1=>hb n Φ A s₁ env M ρ y E _ (c.ext x1) e2 λyv s₂ x2 r2=>?_)
 exact EE x2.good ((c.ext x1).ext x2).mok (r1.ext x2) r2 e λr s' x3 r3=>h _ _ ((x1.trans x2).trans x3) r3
theorem BO{op:UnaryOp}{a:Expr}(ha:bJ W Γ sc a ca):bJ W Γ sc (.UnaryOp op a p) (.un op ca):=λn Φ A s env M ρ v E Q c e h=>by
 refine aa λhQ=>?_
 obtain⟨x,e1,e⟩:=aJ e
 (refine hQ ?_;clear hQ)
 refine wpAny_UnaryOp (ha n Φ A s env M ρ x E _ c e1 λxv s₁ x1 r1=>?_)
 exact GH x1.good r1 e λr s' x3 r3=>h _ _ (x1.trans x3) r3
theorem E9{t a b:Expr}{cb:CE}(ht:gu W Γ sc t ct)(ha:bJ W Γ sc a ca)(hb:bJ W Γ sc b cb):bJ W Γ sc (.IfExp t a b p) (.ite ct ca cb):=λn Φ A s env M ρ v E Q c e h=>by
 refine aa λhQ=>?_
 obtain⟨x,e1,e⟩:=aJ e
 obtain⟨k,e2,e⟩:=aJ e
 (refine hQ ?_;clear hQ)
 refine wpAny_IfExp (ht n Φ A s env M ρ x k E _ c e1 e2 λs₁ x1=>?_)
 cases k with
 |true=>exact ha n Φ A s₁ env M ρ v E _ (c.ext x1) e λr s' x3 r3=>h _ _ (x1.trans x3) r3
 |false=>exact hb n Φ A s₁ env M ρ v E _ (c.ext x1) e λr s' x3 r3=>h _ _ (x1.trans x3) r3
theorem km{e:Expr}(he:bJ W Γ sc e ce)(hp:∀env (w:Sem Value),isTrue e env w=(do let v ←w;standAt e.pos;holding [v] (truthy v))):gu W Γ sc e ce:=λn Φ A s env M ρ v k E Q c e1 e2 h=>by
 rw[hp]
 refine ac (he n Φ A s env M ρ v E _ c e1 λxv s₁ x1 r1=>ac (bP (aX ?_)))
 exact gC x1.good r1 e2 λs' x2=>h _ (x1.trans x2)
theorem AB{a:Expr}(ha:gu W Γ sc a ca):gu W Γ sc (.UnaryOp .Not a p) (.un .Not ca):=λn Φ A s env M ρ v k E Q c e1 e2 h=>by
 obtain⟨x,h1,e1⟩:=aJ e1
 obtain⟨k',h2,e1⟩:=aJ e1
 rw[←am e1] at e2
 rw[←am e2] at h
 exact wpAny_isTrue_Not (ha n Φ A s env M ρ x k' E _ c h1 h2 h)
theorem Am{t a b:Expr}{cb:CE}(ht:gu W Γ sc t ct)(ha:gu W Γ sc a ca)(hb:gu W Γ sc b cb):gu W Γ sc (.IfExp t a b p) (.ite ct ca cb):=λn Φ A s env M ρ v k E Q c e e3 h=>by
 refine aa λhQ=>?_
 obtain⟨x,e1,e⟩:=aJ e
 obtain⟨k',e2,e⟩:=aJ e
 (refine hQ ?_;clear hQ)
 show wpAny _ A (isTrue t env (eval t env)>>=λz=>if z=true then isTrue a env (eval a env) else isTrue b env (eval b env)) Q E s
 refine ac (ht n Φ A s env M ρ x k' E _ c e1 e2 λs₁ x1=>?_)
 cases k' with
 |true=>exact ha n Φ A s₁ env M ρ v k E _ (c.ext x1) e e3 λs' x3=>h _ (x1.trans x3)
 |false=>exact hb n Φ A s₁ env M ρ v k E _ (c.ext x1) e e3 λs' x3=>h _ (x1.trans x3)
end
noncomputable def eg(e:Expr):Bool:=e.ctorIdx==22
theorem dW{e:Expr}{rest:List Expr}(h:eg e=false):starEach (e::rest) env=(false,eval e env)::starEach rest env:=by
 cases e<;>first | rfl | cases h
inductive fC(W:Wd)(Γ:eX)(sc:Scope):List Expr→List CE→Prop
 |nil:fC W Γ sc [] []
 |cons {e:Expr} {c:CE} {es:List Expr} {cs:List CE}:eg e=false→bJ W Γ sc e c→fC W Γ sc es cs→fC W Γ sc (e::es) (c::cs)
section
variable{W:Wd}{Γ:eX}{sc:Scope}
theorem BD{es:List Expr}(H:fC W Γ sc es cs):∀{n:Nat} {Φ:jU} {A:Around} {s:Shared} {env:Env} {M:List Addr} {ρ:Ev} {xs:List V} {E:Value→Shared→Prop} {pos:Pos} {Q:List Value→Shared→Prop},
  Cx W Γ sc n Φ A s env M ρ→cevals Φ cs ρ=some xs→(∀vals s',SX W s s'→dN s'.heap M vals xs→Q vals s')→wpAny (model W.prog W.w) A (spliced (backTo pos (starEach es env))) Q E s:=by
 induction H with
 |nil=>intro n Φ A s env M ρ xs E pos Q c e h;cases e;exact wpAny_items_nil (h _ _ (SX.refl c.good) .nil)
 |cons hs he _ ih =>
  intro n Φ A s env M ρ xs E pos Q c e h
  refine aa λhQ=>?_
  obtain⟨x,e1,e⟩:=aJ e
  obtain⟨ys,e2,rfl⟩:=aH.mp e
  (refine hQ ?_;clear hQ)
  exact wpAny_items_cons (he n Φ A s env M ρ x E _ c e1 λxv s₁ x1 r1=>ih (c.ext x1) e2 λvals s₂ x2 r2=>h _ _ (x1.trans x2) (.cons (r1.ext x2) r2)) (dW hs)
theorem jj{es:List Expr}(H:fC W Γ sc es cs):∀{n:Nat} {Φ:jU} {A:Around} {s:Shared} {env:Env} {M:List Addr} {ρ:Ev} {xs:List PyData} {E:Value→Shared→Prop} {pos:Pos} {Q:List Value→Shared→Prop},
  Cx W Γ sc n Φ A s env M ρ→cevalsD Φ cs ρ=some xs→(∀vals s',SX W s s'→Reps s'.heap M vals xs→Q vals s')→wpAny (model W.prog W.w) A (spliced (backTo pos (starEach es env))) Q E s:=by
 induction H with
 |nil=>intro n Φ A s env M ρ xs E pos Q c e h;cases e;exact wpAny_items_nil (h _ _ (SX.refl c.good) .nil)
 |cons hs he _ ih =>
  intro n Φ A s env M ρ xs E pos Q c e h
  refine aa λhQ=>?_
  obtain⟨x,e1,e⟩:=aJ e
  obtain⟨d,e3,e⟩:=aJ e
  obtain⟨ys,e2,rfl⟩:=aH.mp e
  (refine hQ ?_;clear hQ)
  cases x with
  |d x=>cases e3;exact wpAny_items_cons (he n Φ A s env M ρ _ E _ c e1 λxv s₁ x1 r1=>ih (c.ext x1) e2 λvals s₂ x2 r2=>h _ _ (x1.trans x2) (.cons (Rep.ext x2 r1) r2)) (dW hs)
  |r=>cases e3
  |o=>cases e3
theorem oC{es:List Expr}(H:fC W Γ sc es cs):bJ W Γ sc (.List es p) (.list cs):=λn Φ A s env M ρ v E Q c e h=>by
 refine aa λhQ=>?_
 obtain⟨xs,e1,e⟩:=aJ e
 (refine hQ ?_;clear hQ)
 split at e
 ·rename_i q;cases e
  refine wpAny_List (jj H c e1 λvals s₁ x1 r1=>⟨?_,h _ _ (x1.trans (SX.push (tk:=s₁.toks) x1.good)) (Ap (tk:=s₁.toks) x1.good (c.ext x1).mok r1)⟩)
  have:=cW q;rw[r1.length];unfold sizeLine;exact ab this (ao _ _)
 ·cases e
theorem DY{es:List Expr}(H:fC W Γ sc es cs):bJ W Γ sc (.Tuple es k p) (.tup cs):=λn Φ A s env M ρ v E Q c e h=>by
 refine aa λhQ=>?_
 obtain⟨xs,e1,e⟩:=aJ e
 (refine hQ ?_;clear hQ)
 split at e
 ·rename_i q;cases e
  refine wpAny_Tuple (jj H c e1 λvals s₁ x1 r1=>⟨?_,h _ _ (x1.trans (SX.push (tk:=s₁.toks) x1.good)) (I0 (tk:=s₁.toks) x1.good (c.ext x1).mok r1)⟩)
  have:=cW q;rw[r1.length];unfold sizeLine;exact ab this (ao _ _)
 ·cases e
theorem tT{a i:Expr}{ci:CE}(ha:bJ W Γ sc a ca)(hi:bJ W Γ sc i ci):bJ W Γ sc (.Subscript a i p) (.item ca ci):=λn Φ A s env M ρ v E Q c e h=>by
 refine aa λhQ=>?_
 obtain⟨x,e1,e⟩:=aJ e
 obtain⟨y,e2,e⟩:=aJ e
 (refine hQ ?_;clear hQ)
 refine Subscript_ (ha n Φ A s env M ρ x E _ c e1 λxv s₁ x1 r1=>hi n Φ A s₁ env M ρ y E _ (c.ext x1) e2 λyv s₂ x2 r2=>?_)
 exact tu x2.good (r1.ext x2) r2 e λr s' x3 r3=>h _ _ ((x1.trans x2).trans x3) r3
inductive tQ(W:Wd)(Γ:eX)(sc:Scope):Option Expr→Option CE→Prop
 |none:tQ W Γ sc none none
 |some {e:Expr} {c:CE}:bJ W Γ sc e c→tQ W Γ sc (some e) (some c)
theorem n6{eo:Option Expr}{co:Option CE}(H:tQ W Γ sc eo co){k:Option Int}
  (c:Cx W Γ sc n Φ A s env M ρ) (e:cpart Φ co ρ=some k) (h:∀x s',SX W s s'→IsPart x k→Q x s'):wpAny (model W.prog W.w) A (evalPart eo env) Q E s:=by
 cases H with
 |none=>cases e;exact aB (h _ _ (SX.refl c.good) .none)
 |some he =>
  obtain⟨x,e1,e⟩:=aJ e
  obtain⟨i,e2,e⟩:=aJ e
  rw[dk e2] at e1
  rw[←am e] at h
  exact he n Φ A s env M ρ _ E _ c e1 λxv s₁ x1 r1=>iX r1 λt=>h _ _ x1 (.int _ _)
theorem xQ{a:Expr}{lo hi st:Option Expr}{cl ch ck:Option CE}(ha:bJ W Γ sc a ca)(hl:tQ W Γ sc lo cl)(hh:tQ W Γ sc hi ch)(hk:tQ W Γ sc st ck) :
  bJ W Γ sc (.Subscript a (.Slice lo hi st q) p) (.slice ca cl ch ck):=λn Φ A s env M ρ v E Q c e h=>by
 refine aa λhQ=>?_
 obtain⟨x,e1,e⟩:=aJ e
 obtain⟨l,e2,e⟩:=aJ e
 obtain⟨u,e3,e⟩:=aJ e
 obtain⟨k,e4,e⟩:=aJ e
 (refine hQ ?_;clear hQ)
 refine Subscript_ (ha n Φ A s env M ρ x E _ c e1 λxv s₁ x1 r1=>wpAny_Slice (n6 hl (c.ext x1) e2 λlv s₂ x2 p2=>n6 hh ((c.ext x1).ext x2) e3 λuv s₃ x3 p3 =>
  n6 hk (((c.ext x1).ext x2).ext x3) e4 λkv s₄ x4 p4=>?_))
 have y:=((x2.trans x3).trans x4)
 have z:=SX.push (o:={cls:=.type "slice",data:=.fields #[lv,uv,kv]}) (tk:=s₄.toks) x4.good
 exact xV z.good (((c.ext x1).ext y).ext z).mok ((r1.ext y).ext z) (aI _ rfl) p2 p3 p4 e λr s' x5 r5=>h _ _ (((x1.trans y).trans z).trans x5) r5
theorem my{op:CmpOp}{r:Expr}(h:∀es k p,r≠.Set es k p):behindInMarks op r=false:=by
 cases r<;>first | rfl | exact absurd rfl (h _ _ _)
noncomputable def eY(e:Expr):Bool:=e.ctorIdx==7
theorem pC{r:Expr}(h:eY r=false):∀es k p,r≠.Set es k p:=λ_ _ _ e=>by subst e;cases h
theorem En{op:CmpOp}{a b:Expr}{cb:CE}(ha:bJ W Γ sc a ca)(hb:bJ W Γ sc b cb)(hs:eY b=false):bJ W Γ sc (.Compare a [op] [b] p) (.cmp op ca cb):=λn Φ A s env M ρ v E Q c e h=>by
 refine aa λhQ=>?_
 obtain⟨x,e1,e⟩:=aJ e
 obtain⟨y,e2,e⟩:=aJ e
 (refine hQ ?_;clear hQ)
 refine wpAny_Compare1 (ha n Φ A s env M ρ x E _ c e1 λxv s₁ x1 r1=>hb n Φ A s₁ env M ρ y E _ (c.ext x1) e2 λyv s₂ x2 r2=>?_) (my (pC hs))
 exact kB c.room x2.good (r1.ext x2) r2 e λr s' x3 r3=>h _ _ ((x1.trans x2).trans x3) r3
theorem lT{op:CmpOp}{a b:Expr}{cb:CE}(ha:bJ W Γ sc a ca)(hb:bJ W Γ sc b cb)(hs:eY b=false):gu W Γ sc (.Compare a [op] [b] p) (.cmp op ca cb):=λn Φ A s env M ρ v k E Q c e e3 h=>by
 refine aa λhQ=>?_
 obtain⟨x,e1,e⟩:=aJ e
 obtain⟨y,e2,e⟩:=aJ e
 (refine hQ ?_;clear hQ)
 refine wpAny_isTrue_Compare1 (ha n Φ A s env M ρ x E _ c e1 λxv s₁ x1 r1=>hb n Φ A s₁ env M ρ y E _ (c.ext x1) e2 λyv s₂ x2 r2=>?_) (my (pC hs))
 exact kB c.room x2.good (r1.ext x2) r2 e λr s' x3 r3=>gC x3.good r3 e3 λs₄ x4=>h _ (((x1.trans x2).trans x3).trans x4)
theorem Ad{o1 o2:CmpOp}{b d:Expr}(hs:eY d=false):lastMarks [o1,o2] [b,d]=false:=by
 show behindInMarks o2 d=false
 exact my (pC hs)
theorem Av{o1 o2:CmpOp}{a b d:Expr}{cb cd:CE}(ha:bJ W Γ sc a ca)(hb:bJ W Γ sc b cb)(hd:bJ W Γ sc d cd)(hs:eY d=false) :
  bJ W Γ sc (.Compare a [o1,o2] [b,d] p) (.cmp2 o1 o2 ca cb cd):=λn Φ A s env M ρ v E Q c e h=>by
 refine aa λhQ=>?_
 obtain⟨x,e1,e⟩:=aJ e
 obtain⟨y,e2,e⟩:=aJ e
 obtain⟨t,e3,e⟩:=aJ e
 obtain⟨k,e4,e⟩:=aJ e
 (refine hQ ?_;clear hQ)
 refine Compare_chain (ha n Φ A s env M ρ x E _ c e1 λxv s₁ x1 r1=>chain_link (hb n Φ A s₁ env M ρ y E _ (c.ext x1) e2 λyv s₂ x2 r2=>?_)) (Ad hs)
 refine kB c.room x2.good (r1.ext x2) r2 e3 λr s₃ x3 r3=>gC x3.good r3 e4 λs₄ x4=>?_
 cases k with
 |false=>cases e;exact h _ _ (((x1.trans x2).trans x3).trans x4) (r3.ext x4)
 |true =>
  obtain⟨z,e5,e⟩:=aJ e
  refine chain_last (hd n Φ A s₄ env M ρ z E _ ((((c.ext x1).ext x2).ext x3).ext x4) e5 λzv s₅ x5 r5=>?_)
  exact kB c.room x5.good (((r2.ext x3).ext x4).ext x5) r5 e λr s' x6 r6=>h _ _ (((((x1.trans x2).trans x3).trans x4).trans x5).trans x6) r6
theorem zd{M:Model}{a:Value}{op op':CmpOp}{r r':Sem Value}{Q:Bool→Shared→Prop}
  (h:wpAny M A r (λb s₁=>wpAny M A (compareOp op a b) (λc s₂=>wpAny M A (truthy c)
   (λt s₃=>if t then wpAny M A (testChain pos b [op'] [r']) Q E s₃ else Q false s₃) E s₂) E s₁) E s) :
  wpAny M A (testChain pos a [op,op'] [r,r']) Q E s:=by
 show wpAny M A (do
  let rv ←holding [a] r
  standAt pos
  let c ←holding [a,rv] (compareOp op a rv)
  release [a,rv] [c]
  if←holding [c,rv] (truthy c) then testChain pos rv [op'] [r'] else pure false) Q E s
 refine ac (aX (bA h (λb s₁ h₁=>ac (bP (ac (aX (bA h₁ (λc s₂ h₂ =>
  ac (wpAny_release' (ac (aX (bA h₂ (λt s₃ h₃=>?_) λ_ _ x=>x))))) λ_ _ x=>x))))) λ_ _ x=>x))
 cases t with
 |false=>exact aB h₃
 |true=>exact h₃
theorem yA{M:Model}{a:Value}{op:CmpOp}{r:Sem Value}{Q:Bool→Shared→Prop}
  (h:wpAny M A r (λb s₁=>wpAny M A (compareOp op a b) (λc s₂=>wpAny M A (truthy c) Q E s₂) E s₁) E s):wpAny M A (testChain pos a [op] [r]) Q E s:=by
 show wpAny M A (do
  let rv ←holding [a] r
  standAt pos
  let c ←operate [a,rv] (compareOp op a rv)
  holding [c] (truthy c)) Q E s
 exact ac (aX (bA h (λb s₁ h₁=>ac (bP (ac (wpAny_operate' (bA h₁ (λc s₂ h₂=>aX h₂) λ_ _ x=>x))))) λ_ _ x=>x))
theorem xM{o1 o2:CmpOp}{a b d:Expr}{cb cd:CE}(ha:bJ W Γ sc a ca)(hb:bJ W Γ sc b cb)(hd:bJ W Γ sc d cd)(hs:eY d=false) :
  gu W Γ sc (.Compare a [o1,o2] [b,d] p) (.cmp2 o1 o2 ca cb cd):=λn Φ A s env M ρ v k E Q c e ek h=>by
 refine aa λhQ=>?_
 obtain⟨x,e1,e⟩:=aJ e
 obtain⟨y,e2,e⟩:=aJ e
 obtain⟨t,e3,e⟩:=aJ e
 obtain⟨k',e4,e⟩:=aJ e
 (refine hQ ?_;clear hQ)
 refine isTrue_chain (ha n Φ A s env M ρ x E _ c e1 λxv s₁ x1 r1=>zd (hb n Φ A s₁ env M ρ y E _ (c.ext x1) e2 λyv s₂ x2 r2=>?_)) (Ad hs)
 refine kB c.room x2.good (r1.ext x2) r2 e3 λr s₃ x3 r3=>gC x3.good r3 e4 λs₄ x4=>?_
 cases k' with
 |false=>cases e;replace ek:=e4▸ek;cases ek;exact h _ (((x1.trans x2).trans x3).trans x4)
 |true =>
  refine aa λhQ=>?_
  obtain⟨z,e5,e⟩:=aJ e
  (refine hQ ?_;clear hQ)
  refine yA (hd n Φ A s₄ env M ρ z E _ ((((c.ext x1).ext x2).ext x3).ext x4) e5 λzv s₅ x5 r5=>?_)
  exact kB c.room x5.good (((r2.ext x3).ext x4).ext x5) r5 e λr s' x6 r6=>gC x6.good r6 ek λs₇ x7=>h _ ((((((x1.trans x2).trans x3).trans x4).trans x5).trans x6).trans x7)
noncomputable def zo(W:Wd)(Γ:eX)(sc:Scope)(op:BoolOp)(es:List Expr)(c:CE):Prop :=
 ∀(n:Nat) (Φ:jU) (A:Around) (s:Shared) (env:Env) (M:List Addr) (ρ:Ev) (v:V) (pos:Pos) (E:Value→Shared→Prop) (Q:Value→Shared→Prop),
  Cx W Γ sc n Φ A s env M ρ→ak Φ c ρ=some v→(∀x s',SX W s s'→cQ s'.heap M x v→Q x s')→wpAny (model W.prog W.w) A (boolOp pos op (evalEach es env)) Q E s
theorem AJ{op:BoolOp}{e:Expr}(h:bJ W Γ sc e ce):zo W Γ sc op [e] ce:=λn Φ A s env M ρ v pos E Q c e1 hq=>h n Φ A s env M ρ v E Q c e1 hq
theorem yS{op:BoolOp}{e e':Expr}{es:List Expr}(he:bJ W Γ sc e ce)(hr:zo W Γ sc op (e'::es) cr):zo W Γ sc op (e::e'::es) (.boolop op ce cr):=λn Φ A s env M ρ v pos E Q c e1 hq=>by
 refine aa λhQ=>?_
 obtain⟨x,e2,e1⟩:=aJ e1
 obtain⟨k,e3,e1⟩:=aJ e1
 (refine hQ ?_;clear hQ)
 show wpAny _ A (do
  let v ←eval e env
  standAt pos
  let t ←holding [v] (truthy v)
  match op,t with
  |.And,false | .Or,true=>pure v
  |_,_=>boolOp pos op (evalEach (e'::es) env)) Q E s
 refine ac (he n Φ A s env M ρ x E _ c e2 λxv s₁ x1 r1=>ac (bP (ac (aX (gC x1.good r1 e3 λs₂ x2=>?_)))))
 cases op with
 |And =>
  cases k with
  |true=>exact hr n Φ A s₂ env M ρ v pos E Q ((c.ext x1).ext x2) e1 λr s' x3 r3=>hq _ _ ((x1.trans x2).trans x3) r3
  |false=>cases e1;exact aB (hq _ _ (x1.trans x2) (r1.ext x2))
 |Or =>
  cases k with
  |false=>exact hr n Φ A s₂ env M ρ v pos E Q ((c.ext x1).ext x2) e1 λr s' x3 r3=>hq _ _ ((x1.trans x2).trans x3) r3
  |true=>cases e1;exact aB (hq _ _ (x1.trans x2) (r1.ext x2))
theorem tE{op:BoolOp}{es:List Expr}(h:zo W Γ sc op es ce):bJ W Γ sc (.BoolOp op es p) ce:=λn Φ A s env M ρ v E Q c e1 hq=>h n Φ A s env M ρ v p E Q c e1 hq
noncomputable def q5(W:Wd)(Γ:eX)(sc:Scope)(op:BoolOp)(es:List Expr)(c:CE):Prop :=
 ∀(n:Nat) (Φ:jU) (A:Around) (s:Shared) (env:Env) (M:List Addr) (ρ:Ev) (v:V) (k:Bool) (E:Value→Shared→Prop) (Q:Bool→Shared→Prop),
  Cx W Γ sc n Φ A s env M ρ→ak Φ c ρ=some v→dC v=some k→(∀s',SX W s s'→Q k s')→wpAny (model W.prog W.w) A (allTrue op es env) Q E s
theorem yx{op:BoolOp}{e:Expr}(h:gu W Γ sc e ce):q5 W Γ sc op [e] ce:=λn Φ A s env M ρ v k E Q c e1 e2 hq=>by
 cases op with
 |And =>
  refine wpAny_allTrue_And_cons (h n Φ A s env M ρ v k E _ c e1 e2 λs₁ x1=>?_)
  cases k with
  |true=>exact wpAny_allTrue_And_nil (hq _ x1)
  |false=>exact hq _ x1
 |Or =>
  refine wpAny_allTrue_Or_cons (h n Φ A s env M ρ v k E _ c e1 e2 λs₁ x1=>?_)
  cases k with
  |true=>exact hq _ x1
  |false=>exact wpAny_allTrue_Or_nil (hq _ x1)
theorem vF{op:BoolOp}{e:Expr}{es:List Expr}(he:gu W Γ sc e ce)(hr:q5 W Γ sc op es cr):q5 W Γ sc op (e::es) (.boolop op ce cr):=λn Φ A s env M ρ v k E Q c e1 e2 hq=>by
 obtain⟨x,h2,e1⟩:=aJ e1
 obtain⟨k',h3,e1⟩:=aJ e1
 cases op with
 |And =>
  refine wpAny_allTrue_And_cons (he n Φ A s env M ρ x k' E _ c h2 h3 λs₁ x1=>?_)
  cases k' with
  |true=>exact hr n Φ A s₁ env M ρ v k E _ (c.ext x1) e1 e2 λs' x3=>hq _ (x1.trans x3)
  |false=>cases e1;rw[h3] at e2;cases e2;exact hq _ x1
 |Or =>
  refine wpAny_allTrue_Or_cons (he n Φ A s env M ρ x k' E _ c h2 h3 λs₁ x1=>?_)
  cases k' with
  |false=>exact hr n Φ A s₁ env M ρ v k E _ (c.ext x1) e1 e2 λs' x3=>hq _ (x1.trans x3)
  |true=>cases e1;rw[h3] at e2;cases e2;exact hq _ x1
theorem sI{op:BoolOp}{es:List Expr}(h:q5 W Γ sc op es ce):gu W Γ sc (.BoolOp op es p) ce:=λn Φ A s env M ρ v k E Q c e1 e2 hq =>
 wpAny_isTrue_BoolOp (h n Φ A s env M ρ v k E Q c e1 e2 hq)
end
theorem mu{t:Sem Value}{l:List (Bool×Sem Value)}:backTo pos ((false,t)::l)=(false,t)::backTo pos l:=rfl
section
variable{W:Wd}{Γ:eX}{sc:Scope}
theorem fC.plain{es:List Expr}(H:fC W Γ sc es cs)(pos:Pos)(env:Env):(backTo pos (starEach es env)).any (·.1)=false:=by
 induction H with
 |nil=>rfl
 |cons hs _ _ ih=>rw[dW hs,mu,List.any_cons,ih];rfl
theorem fC.allPlain{es:List Expr}(H:fC W Γ sc es cs)(pos:Pos)(env:Env):(backTo pos (starEach es env)).all (λx=>!x.1)=true:=by
 induction H with
 |nil=>rfl
 |cons hs _ _ ih=>rw[dW hs,mu,List.all_cons,ih];rfl
theorem dR{es:List Expr}(H:fC W Γ sc es cs){xs:List V}{f:Value}{Q:Args→Shared→Prop}
  (c:Cx W Γ sc n Φ A s env M ρ) (e:cevals Φ cs ρ=some xs) (h:∀vals s',SX W s s'→dN s'.heap M vals xs→Q ⟨vals,[]⟩ s'):wpAny (model W.prog W.w) A (evalArgs f true (backTo pos (starEach es env)) []) Q E s:=by
 cases H with
 |nil=>cases e;exact evalArgs_nil3 (h _ _ (SX.refl c.good) .nil)
 |cons hs he ht =>
  have H':=BD (fC.cons hs he ht) (E:=E) (pos:=pos) (Q:=λvs s'=>Q ⟨vs,[]⟩ s') c e h
  rw[dW hs,mu] at H' ⊢
  exact Calls.evalArgs_plain H'
theorem gx{es:List Expr}(g:cU W s)(ek:fD env sc)(ho:bI x=true)
 (hk:sc.names.lookup x=some .globalImplicit) (hv:W.mg x=some v∨(W.mg x=none∧W.mb x=some v)) (h:wpAny (model W.prog W.w) A (callWith pos v [] (backTo pos (starEach es env)) []) Q E s) :
 wpAny (model W.prog W.w) A (eval (.Call (.Name x p) es [] pos) env) Q E s:=wpAny_Call_NameR (kh g ek ho hk hv h)
theorem CR{f:Nat}{es:List Expr}(ho:bI x=true)(hk:sc.names.lookup x=some .globalImplicit)(hf:W.fns[f]?=some (x,a))(H:fC W Γ sc es cs) :
  bJ W Γ sc (.Call (.Name x p) es [] pos) (.call f cs):=λn Φ A s env M ρ v E Q c e h=>by
 refine aa λhQ=>?_
 obtain⟨xs,e1,e⟩:=aJ e
 (refine hQ ?_;clear hQ)
 split at e
 ·rename_i q
  have hm:(x,a)∈W.fns:=aW hf
  refine gx c.good c.env ho hk (.inl (W.fnG _ hm)) ?_
  refine callWith_of (P:=FnAt a) (by rw[H.plain];rfl) keeps_F (dR H c e1 λvals s₁ x1 r1=>⟨?_,?_⟩)
  ·refine aa λhQ=>?_
   obtain⟨o,fd,h1,h2⟩:=W.fnO x1.good.ok _ hm
   obtain⟨oc,od,dt,sl⟩:=o
   (refine hQ ?_;clear hQ)
   simp only at h2
   subst h2
   exact⟨oc,od,fd,sl,h1⟩
  ·obtain⟨rn,ct⟩:=c.ctrs f _ _ _ hf e
   exact ct A s₁ M vals xs v E Q rn x1.good (c.ext x1).mok r1 q e λr s' x3 _ r3=>h _ _ (x1.trans x3) r3
 ·cases e
theorem kO{es:List Expr}(H:fC W Γ sc es cs){first:List Value}(hv:(∃id,v=.builtin id)∨∃T,v=.type T)
  (h:wpAny (model W.prog W.w) A (evalArgs v true (backTo pos (starEach es env)) []) (λa s₁=>wpAny (model W.prog W.w) A (call v (first++a.pos) a.kw) Q E s₁) E s) :
  wpAny (model W.prog W.w) A (callWith pos v first (backTo pos (starEach es env)) []) Q E s:=by
 rcases hv with⟨id,rfl⟩ | ⟨T,rfl⟩
 ·exact Calls.callWith_builtin (H.plain _ _) h
 ·exact PyProof.Rows.callWith_type (H.plain _ _) h
theorem qX(f:Pf):(∃id,pw f=.builtin id)∨∃T,pw f=.type T:=by cases f<;>first | exact .inl ⟨_,rfl⟩ | exact .inr ⟨_,rfl⟩
theorem snd_prim{es:List Expr}(ho:bI x=true)(hk:sc.names.lookup x=some .globalImplicit)(hf:(x,pw f)∈W.blts)(hm:om f=[])(nx:v5 f=true→W.exc=none)(H:fC W Γ sc es cs) :
  bJ W Γ sc (.Call (.Name x p) es [] pos) (.prim f cs):=λn Φ A s env M ρ v E Q c e h=>by
 refine aa λhQ=>?_
 obtain⟨xs,e1,e⟩:=aJ e
 (refine hQ ?_;clear hQ)
 refine gx c.good c.env ho hk (.inr (W.bltG _ hf)) ?_
 refine kO H (qX f) (dR H c e1 λvals s₁ x1 r1=>?_)
 have:=tp (Q:=Q) (E:=E) nx c.room x1.good (c.ext x1).mok r1 e λr s' x3 r3=>h _ _ (x1.trans x3) r3
 rw[hm,bE] at this
 exact this
theorem Fa{T:String}{a:Expr}(ho:bI x=true)(nx:v5 f=true→W.exc=none)(hk:sc.names.lookup x=some .globalImplicit)(hf:(x,pw f)∈W.blts)(ho2:bI y=true)
  (hk2:sc.names.lookup y=some .globalImplicit) (hy:(y,Value.type T)∈W.blts) (hm:om f=[.type T]) (hs:eg a=false) (ha:bJ W Γ sc a ca) :
  bJ W Γ sc (.Call (.Name x p) [a,.Name y q] [] pos) (.prim f [ca]):=λn Φ A s env M ρ v E Q c e h=>by
 refine aa λhQ=>?_
 obtain⟨xs,e1,e⟩:=aJ e
 obtain⟨x0,e0,e1⟩:=aJ e1
 (refine hQ ?_;clear hQ)
 cases e1
 refine gx c.good c.env ho hk (.inr (W.bltG _ hf)) ?_
 have hst:starEach [a,.Name y q] env=[(false,eval a env),(false,eval (.Name y q) env)]:=dW hs
 have fin:wpAny (model W.prog W.w) A (evalArgs (pw f) true (backTo pos (starEach [a,.Name y q] env)) []) (λa s₁=>wpAny (model W.prog W.w) A (call (pw f) ([]++a.pos) a.kw) Q E s₁) E s:=by
  rw[hst]
  refine Calls.evalArgs_plain (Calls.spliced_cons (ha n Φ A s env M ρ x0 E _ c e0 λxv s₁ x1 r1=>?_))
  refine Calls.spliced_cons (kh x1.good c.env ho2 hk2 (.inr (W.bltG _ hy)) (Calls.spliced_nil ?_))
  have:=tp (Q:=Q) (E:=E) nx c.room x1.good (c.ext x1).mok (.cons r1 .nil) e λr s' x3 r3=>h _ _ (x1.trans x3) r3
  rw[hm] at this
  exact this
 have hpl:(backTo pos (starEach [a,.Name y q] env)).any (·.1)=false:=by rw[hst];rfl
 rcases qX f with⟨id,hv⟩ | ⟨T',hv⟩
 ·rw[hv] at fin ⊢;exact Calls.callWith_builtin hpl fin
 ·rw[hv] at fin ⊢;exact PyProof.Rows.callWith_type hpl fin
noncomputable def ja(e:Expr):Bool:=!(e.ctorIdx==16)
theorem n_{o:Expr}{nm:Str}{w:Sem Value}(h:ja o=true):attributeBase o nm env w=w:=by
 cases o<;>first | rfl | cases h
theorem vb:keywordEach [] env=[]:=rfl
theorem uP{m:Pm}{o:Expr}{co:CE}{es:List Expr}(hb:ja o=true)(hl:(apos.endLine==pos.line)=true)(hn:es.length<30)(hobj:bJ W Γ sc o co)(H:fC W Γ sc es cs) :
  bJ W Γ sc (.Call (.Attribute o (n9 m) apos) es [] pos) (.meth m co cs):=λn Φ A s env M ρ v E Q c e h=>by
 refine aa λhQ=>?_
 obtain⟨x,e0,e⟩:=aJ e
 obtain⟨xs,e1,e⟩:=aJ e
 obtain⟨T,id,pa,slot,hty,hT,hc⟩:=EU W e
 (refine hQ ?_;clear hQ)
 refine wpAny_Call_method_lateS (n_ hb) ?_ hl (hobj n Φ A s env M ρ x E _ c e0 λov s₁ x1 r1=>?_)
 ·rw[H.allPlain]
  simp[hn,backToKw,vb]
 ·refine⟨T,id,pa,slot,hty,(hT s₁ ov M r1).1,(hT s₁ ov M r1).2,?_⟩
  refine Calls.callWith_builtin (H.plain _ _) (dR H (c.ext x1) e1 λvals s₂ x2 r2=>?_)
  exact hc A n s₂ M ov vals E Q c.room x2.good ((c.ext x1).ext x2).mok (r1.ext x2) r2 λr s' x3 r3=>h _ _ ((x1.trans x2).trans x3) r3
end
noncomputable def locOf(env:Env)(x:Str):Addr:=if env.kindOf x=some .local then env.locals else(env.cells.lookup x).getD 0
section
variable{M:Model}{sc:Scope}
theorem cJ(ek:fD env sc)(x:Str):env.kindOf x=sc.names.lookup x:=by unfold Env.kindOf;rw[ek.scope]
theorem dI(ek:fD env sc):env.scope.kind=.function:=by rw[ek.scope];exact ek.kind
theorem ii{Q:Unit→Shared→Prop}(ek:fD env sc)(lay:rg env s.heap)(hx:sc.names.lookup x=some .local∨sc.names.lookup x=some .cell)
  (h:∀h' tk,(∀b o,b≠locOf env x→s.heap.get? b=some o→h'.get? b=some o)→rg env h'→c_ h' env x v→(∀y w,y≠x→c_ s.heap env y w→c_ h' env y w)→Q () {s with heap:=h',toks:=tk}) :
  wpAny M A (storeName env x v) Q E s:=by
 have hf:=dI ek
 rcases hx with hx | hx
 ·have hk:env.kindOf x=some .local:=by rw[cJ ek];exact hx
  obtain⟨m,n⟩:=lay.ns
  have hl:locOf env x=env.locals:=by unfold locOf;rw[if_pos hk]
  refine wpAny_storeName_local hk n (λh' n' sb=>?_) (by rw[hf];rfl)
  refine h h' _ (λb o hb e=>sb.extBut b o (by rw[hl] at hb;exact hb) e) ⟨⟨_,n'⟩,λy c e=>?_⟩ (.inl ⟨hk,_,n',by simp⟩) λy w hy hv=>?_
  ·obtain⟨v',hv'⟩:=lay.cell y c e
   exact⟨v',hv'.sameBut sb (ek.apart y c e)⟩
  ·rcases hv with⟨k,m',n2,e⟩ | ⟨k,c,e,hc⟩
   ·refine .inl ⟨k,_,n',?_⟩
    rw[if_neg hy]
    refine aa λhQ=>?_
    obtain⟨o,es,ep,e1,e2,_,e4⟩:=n
    obtain⟨o',es',ep',f1,f2,_,f4⟩:=n2
    (refine hQ ?_;clear hQ)
    rw[e1] at f1;cases f1;rw[e2] at f2;cases f2
    rw[←e4,f4];exact e
   ·exact .inr ⟨k,c,e,hc.sameBut sb (ek.apart y c e)⟩
 ·have hk:env.kindOf x=some .cell:=by rw[cJ ek];exact hx
  obtain⟨c,hc⟩:=ek.cells x (.inl hx)
  obtain⟨v₀,hv₀⟩:=lay.cell x c hc
  have hl:locOf env x=c:=by unfold locOf;rw[if_neg (by rw[hk];decide),hc];rfl
  refine wpAny_storeName_cell hf hk hc hv₀ λh' hc' sb=>?_
  refine h h' s.toks (λb o hb e=>sb.extBut b o (by rw[hl] at hb;exact hb) e) ⟨?_,λy d e=>?_⟩ (.inr ⟨.inl hk,c,hc,hc'⟩) λy w hy hv=>?_
  ·obtain⟨m,n⟩:=lay.ns
   exact⟨m,n.sameBut sb (Ne.symm (ek.apart x c hc))⟩
  ·by_cases q:d=c
   ·subst q;exact⟨_,hc'⟩
   ·obtain⟨v',hv'⟩:=lay.cell y d e
    exact⟨v',hv'.sameBut sb q⟩
  ·rcases hv with⟨k,m',n2,e⟩ | ⟨k,d,e,hd⟩
   ·exact .inl ⟨k,m',n2.sameBut sb (Ne.symm (ek.apart x c hc)),e⟩
   ·exact .inr ⟨k,d,e,hd.sameBut sb λq=>hy (ek.inj y x c (by rw[←q];exact e) hc)⟩
end
noncomputable def eG(cells:List (Str×Addr)):List (Str×NameKind)→List (Str×Addr)→List (Str×Addr)
 |[],acc=>acc
 |(n,k)::r,acc=>if k==.free then eG cells r ((n,(cells.lookup n).getD 0)::acc) else eG cells r acc
theorem nX{cells acc:List (Str×Addr)}{n:Str}{k:NameKind}{r:List (Str×NameKind)}:eG cells ((n,k)::r) acc=if k==.free then eG cells r ((n,(cells.lookup n).getD 0)::acc) else eG cells r acc:=rfl
theorem lZ(env:Env)(f:Str×NameKind→List (Str×Addr)→Sem (ForInStep (List (Str×Addr))))
  (hf:∀n k cs,f (n,k) cs=if k==.free then(do let a ←cellOf env n;pure (.yield ((n,a)::cs))) else pure (.yield cs)) :
  ∀(names:List (Str×NameKind)) (acc:List (Str×Addr)),(∀x∈names,x.2=.free→∃c,env.cells.lookup x.1=some c)→forIn names acc f=pure (eG env.cells names acc)
 |[],acc,_=>by rw[List.forIn_nil];rfl
 |(n,k)::r,acc,h=>by
  rw[List.forIn_cons,hf]
  have ih:=λacc=>lZ env f hf r acc λx hx=>h x (aj _ hx)
  rw[nX]
  by_cases hk:(k==NameKind.free)=true
  ·rw[if_pos hk,if_pos hk]
   obtain⟨c,hc⟩:=h (n,k) al (bH hk)
   have e:cellOf env n=pure c:=by unfold cellOf;rw[hc]
   rw[e,hc]
   exact ih _
  ·rw[if_neg hk,if_neg hk]
   exact ih _
theorem fv(h:∀x∈scope.names,x.2=.free→∃c,env.cells.lookup x.1=some c):closureFor scope env=pure (eG env.cells scope.names []):=by
 unfold closureFor
 have:=lZ env (λx r=>match x with | (name,kind)=>if kind==.free then(do let a ←cellOf env name;pure (ForInStep.yield ((name,a)::r))) else pure (ForInStep.yield r)) (λ_ _ _=>rfl) scope.names [] h
 simp only[bind_pure]
 exact this
theorem jP(names:List (Str×NameKind)):∀(n:Nat) (acc:List (Str×Addr)),(∀k,(y,k)∈names→k≠.cell)→(cellsFrom n names acc).lookup y=acc.lookup y:=by
 induction names with
 |nil =>
  intro _ _ _
  exact rfl
 |cons hd0 r ih =>
  obtain⟨x,k⟩:=hd0
  intro n acc h
  unfold cellsFrom
  have hr:=λn acc=>ih n acc λk hk=>h k (aj _ hk)
  by_cases hk:(k==NameKind.cell)=true
  ·rw[if_pos hk,hr]
   have:(y==x)=false:=by
    cases q:y==x with
    |false=>rfl
    |true=>have:=bH q;subst this;exact absurd (bH hk) (h k al)
   rw[List.lookup_cons,this]
  ·rw[if_neg hk,hr]
theorem i7(names:List (Str×NameKind)):∀(n:Nat) (acc:List (Str×Addr)),(∃k,(y,k)∈names∧k=.cell)→∃c,(cellsFrom n names acc).lookup y=some c∧n≤c:=by
 induction names with
 |nil =>
  intro _ _ h
  obtain⟨k,hk,_⟩:=h;cases hk
 |cons hd0 r ih =>
  obtain⟨x,k⟩:=hd0
  intro n acc h
  unfold cellsFrom
  by_cases hr:∃k,(y,k)∈r∧k=.cell
  ·by_cases hk:(k==NameKind.cell)=true
   ·rw[if_pos hk];obtain⟨c,h1,h2⟩:=ih (n+1) ((x,n)::acc) hr;exact⟨c,h1,by exact aE h2⟩
   ·rw[if_neg hk];exact ih n acc hr
  ·obtain⟨k',hm,hk'⟩:=h
   rcases ah.mp hm with e | hm
   ·cases e
    subst hk'
    rw[if_pos (by rfl),jP r _ _ (λk hk q=>hr ⟨k,hk,q⟩)]
    exact⟨n,by simp,aF _⟩
   ·exact absurd ⟨k',hm,hk'⟩ hr
theorem ql{c:Addr}(names:List (Str×NameKind)):∀(n:Nat) (acc:List (Str×Addr)),(y,c)∈cellsFrom n names acc→(y,c)∈acc∨(n≤c∧(y,NameKind.cell)∈names):=by
 induction names with
 |nil =>
  intro _ _ h
  exact .inl h
 |cons hd0 r ih =>
  obtain⟨x,k⟩:=hd0
  intro n acc h
  unfold cellsFrom at h
  by_cases hk:(k==NameKind.cell)=true
  ·rw[if_pos hk] at h
   rcases ih _ _ h with h | ⟨h1,h2⟩
   ·rcases ah.mp h with e | h
    ·cases e;exact .inr ⟨aF _,by rw[bH hk];exact al⟩
    ·exact .inl h
   ·exact .inr ⟨by exact aE h1,aj _ h2⟩
  ·rw[if_neg hk] at h
   rcases ih _ _ h with h | ⟨h1,h2⟩
   ·exact .inl h
   ·exact .inr ⟨h1,aj _ h2⟩
theorem jt{cells:List (Str×Addr)}{c:Addr}(names:List (Str×NameKind)):∀(acc:List (Str×Addr)),(y,c)∈eG cells names acc→(y,c)∈acc∨((y,NameKind.free)∈names∧c=(cells.lookup y).getD 0):=by
 induction names with
 |nil =>
  intro _ h
  exact .inl h
 |cons hd0 r ih =>
  obtain⟨x,k⟩:=hd0
  intro acc h
  rw[nX] at h
  by_cases hk:(k==NameKind.free)=true
  ·rw[if_pos hk] at h
   rcases ih _ h with h | ⟨h1,h2⟩
   ·rcases ah.mp h with e | h
    ·cases e;exact .inr ⟨by rw[bH hk];exact al,rfl⟩
    ·exact .inl h
   ·exact .inr ⟨aj _ h1,h2⟩
  ·rw[if_neg hk] at h
   rcases ih _ h with h | ⟨h1,h2⟩
   ·exact .inl h
   ·exact .inr ⟨aj _ h1,h2⟩
theorem yp{cells:List (Str×Addr)}(names:List (Str×NameKind)):∀(acc:List (Str×Addr)),(∃c,acc.lookup y=some c)→∃c,(eG cells names acc).lookup y=some c:=by
 induction names with
 |nil =>
  intro _ h
  exact h
 |cons hd0 r ih =>
  obtain⟨x,k⟩:=hd0
  intro acc h
  rw[nX]
  by_cases hk:(k==NameKind.free)=true
  ·rw[if_pos hk]
   refine ih _ ?_
   rw[List.lookup_cons]
   cases y==x with
   |true=>exact⟨_,rfl⟩
   |false=>exact h
  ·rw[if_neg hk];exact ih _ h
theorem u8{cells:List (Str×Addr)}(names:List (Str×NameKind)):∀(acc:List (Str×Addr)),(y,NameKind.free)∈names→∃c,(eG cells names acc).lookup y=some c:=by
 induction names with
 |nil =>
  intro _ h
  cases h
 |cons hd0 r ih =>
  obtain⟨x,k⟩:=hd0
  intro acc h
  rw[nX]
  rcases ah.mp h with e | h
  ·cases e
   rw[if_pos (by rfl)]
   exact yp r _ ⟨(cells.lookup y).getD 0,by simp⟩
  ·by_cases hk:(k==NameKind.free)=true
   ·rw[if_pos hk];exact ih _ h
   ·rw[if_neg hk];exact ih _ h
theorem jD{cells:List (Str×Addr)}(h:(y,NameKind.free)∈names):(eG cells names []).lookup y=some ((cells.lookup y).getD 0):=by
 obtain⟨c,hc⟩:=u8 (cells:=cells) names [] h
 rcases jt names [] (mem_of_lookup hc) with q | ⟨_,q⟩
 ·cases q
 ·rw[hc,q]
theorem SX.upd{W:Wd}{a:Addr}(x:SX W s₁ s')(hk:∀b o,b≠a→s'.heap.get? b=some o→h'.get? b=some o)(hf:s₁.heap.get? a=none)
  (hs:∀o,s'.heap.get? a=some o→eW o) (g₁:cU W s₁):SX W s₁ {s' with heap:=h',toks:=tk} :=
 ⟨λb o e n=>hk b o (λq=>by rw[q,hf] at e;cases e) (x.keep b o e n),λb o e=>(let⟨o',e'⟩:=x.occ b o e;⟨o',hk b o' (λq=>by rw[q,hf] at e;cases e) e'⟩),x.os,x.gens,
  ⟨W.mono x.good.ok λb o q e=>hk b o (λz=>by
   subst z
   rcases q with q | q
   ·obtain⟨o',e'⟩:=W.occ g₁.ok q;rw[hf] at e';cases e'
   ·exact q (hs o e)) e,x.good.bare⟩⟩
theorem jB(h:∀fs,o.data≠.fields fs):eW o:=⟨λt=>by obtain⟨fs,q,_⟩:=t.2;exact h fs q,λvs _ _ q=>absurd q (h vs)⟩
theorem iM{a:Addr}(n:h.Ns a m):∀o,h.get? a=some o→eW o:=λo e=>by
 obtain⟨o',es,ep,e',hd,_⟩:=n
 rw[e] at e';cases e'
 exact jB λfs q=>by rw[hd] at q;cases q
theorem qZ{a:Addr}{v:Option Value}(n:h.IsCell a v):∀o,h.get? a=some o→eW o:=λo e=>by
 obtain⟨o',e',hd⟩:=n
 rw[e] at e';cases e'
 exact jB λfs q=>by rw[hd] at q;cases q
theorem vW:eW (bU vs n):=jB λ_ q=>by cases q
theorem ig{a:Addr}(e:h.get? a=some o)(hs:eW o):∀o',h.get? a=some o'→eW o':=λo' e'=>by rw[e] at e';cases e';exact hs
theorem zT{l:Addr}(hm:l∉M)(h2:h.get? l=some o)(hn:¬b_ o):∀b∈[I,l],b≠I→b∉M∧∃o,h.get? b=some o∧¬b_ o:=λb hb hbI=>by
 rw[aq.mp ((ah.mp hb).resolve_left hbI)]
 exact⟨hm,o,h2,hn⟩
theorem gK{c:String}{l:Addr}(h1:o.cls=.type c)(h2:o.data=.fields #[.ref l,v])(hv:∀q t,v≠.str q t):eW o :=
 ⟨λt=>Value.noConfusion (h1.symm.trans t.1),λvs q t e z=>by rw[h2] at e;cases e;exact hv q t (am z)⟩
theorem Reps.pair(r:Reps h M vs.toList xs)(hv:vs[i]?=some v)(hd:xs[i]?=some d):Rep h M v d:=by
 obtain⟨d',e1,e2⟩:=r.at i v (by rw[Array.getElem?_toList];exact hv)
 rw[hd] at e1
 rw[am e1];exact e2
structure zq(W:Wd)(A:Around)(M:List Addr)(s₁ s₂:Shared)(I:Addr)(xs:List PyData)(fp:List Addr)(P:Nat→Value→Prop)(St:Nat→Heap→Prop):Prop where
 walks:fS W.prog W.w A I fp [I] xs.length P St
 hd:∀s,cU W s→fA A s.heap
 st:St 0 s₂.heap
 new:s₁.heap.get? I=none
 ext:SX W s₁ s₂
 old:∀b∈fp,b≠I→b∉M∧∃o,s₁.heap.get? b=some o∧¬b_ o
 rep:∀i v d,P i v→xs[i]?=some d→Rep s₁.heap M v d
 soft:∀i h o,St i h→h.get? I=some o→eW o
 here:∀i h,St i h→∃o,h.get? I=some o
section
variable{W:Wd}{a:Value}{x:V}
theorem zi{l:Addr}(hh:∀s,cU W s→fA A s.heap)(g:cU W s)(hm:l∉M)(h2:s.heap.get? l=some (bU vs k))(h3:Reps s.heap M vs.toList xs)
  (h:∀I s' fp P St,zq W A M s s' I xs fp P St→Q (.ref I) s'):wpAny (model W.prog W.w) A (pyIter (.ref l)) Q E s:=by
 have hne:l≠s.heap.objs.size:=λq=>by rw[q,bD] at h2;cases h2
 have hl:=h3.length
 rw[aD] at hl
 have W0:=fS.list (A:=A) (prog:=W.prog) (w:=W.w) s.heap.objs.size l hne vs
 rw[hl] at W0
 refine wpAny_pyIter_list ⟨_,h2,rfl,_,rfl⟩ (h _ _ _ _ _ ⟨W0,hh,⟨⟨_,aI _ rfl,rfl,rfl⟩,⟨_,aC _ h2,rfl,_,rfl⟩⟩,bD _,SX.push (tk:=s.toks) g,zT hm h2 cV,λ_ _ _=>h3.pair,
  λi h o st e=>st.1.elim λo' q=>ig q.1 (gK q.2.1 q.2.2 λ_ _ z=>nomatch z) o e,λi h st=>st.1.elim λo q=>⟨o,q.1⟩⟩)
theorem vv{l:Addr}(hh:∀s,cU W s→fA A s.heap)(g:cU W s)(hm:l∉M)(h2:s.heap.get? l=some (ik vs k))(h3:Reps s.heap M vs.toList xs)
  (h:∀I s' fp P St,zq W A M s s' I xs fp P St→Q (.ref I) s'):wpAny (model W.prog W.w) A (pyIter (.ref l)) Q E s:=by
 have hne:l≠s.heap.objs.size:=λq=>by rw[q,bD] at h2;cases h2
 have hl:=h3.length
 rw[aD] at hl
 have W0:=fS.tuple (A:=A) (prog:=W.prog) (w:=W.w) s.heap.objs.size l hne vs
 rw[hl] at W0
 refine wpAny_pyIter_tuple ⟨_,h2,rfl,_,rfl⟩ (h _ _ _ _ _ ⟨W0,hh,⟨⟨_,aI _ rfl,rfl,rfl⟩,⟨_,aC _ h2,rfl,_,rfl⟩⟩,bD _,SX.push (tk:=s.toks) g,zT hm h2 uu,λ_ _ _=>h3.pair,
  λi h o st e=>st.1.elim λo' q=>ig q.1 (gK q.2.1 q.2.2 λ_ _ z=>nomatch z) o e,λi h st=>st.1.elim λo q=>⟨o,q.1⟩⟩)
theorem lg(a b c:Int):(jy a b c).length=(Builtin.Range.rangeSize a b c).toNat:=by simp[jy,lB]
theorem vG{p:Addr}{i j k:Int}{u v:Tok}(hh:∀s,cU W s→fA A s.heap)(g:cU W s)(h2:IsRange s.heap p i j k t u v)(hs:mJ i j k=true)
  (h:∀I s' fp P St,zq W A M s s' I (jy i j k) fp P St→Q (.ref I) s'):wpAny (model W.prog W.w) A (pyIter (.ref p)) Q E s:=by
 unfold mJ at hs
 rw[ag,ag,ar] at hs
 have W0:=fS.range (A:=A) (prog:=W.prog) (w:=W.w) s.heap.objs.size i k (Builtin.Range.rangeSize i j k).toNat
 rw[←lg] at W0
 refine wpAny_pyIter_range h2 hs.1.1 (h _ _ _ _ _ ⟨W0,hh,?_,bD _,SX.push (tk:=s.toks) g,?_,?_,?_,?_⟩)
 ·have e1:i+((0:Nat):Int)*k=i:=by simp
  have e2:(((jy i j k).length:Nat):Int)-((0:Nat):Int)=Builtin.Range.rangeSize i j k:=by rw[lg];simp;have:=hs.1.2;lia
  rw[e1,e2]
  exact aI _ rfl
 ·intro b hb hbI
  rcases ah.mp hb with rfl | hb
  ·exact absurd rfl hbI
  ·cases hb
 ·intro m v d hv hd
  obtain⟨t,rfl⟩:=hv
  simp only[jy,az,aH] at hd
  obtain⟨q,hq,rfl⟩:=hd
  have:=aS.mp hq
  obtain⟨hlt,e⟩:=this
  rw[List.getElem_range] at e
  subst e
  exact .int _ _
 ·intro m h o st e
  rw[show h.get? _=some _ from st] at e;cases e
  exact⟨λt=>(by have t:=t.1;cases t),λvs q t hd=>(by cases hd;intro z;cases z)⟩
 ·intro m h st
  exact⟨_,st⟩
theorem jg(R:j3 W A n)(g:cU W s)(ha:cQ s.heap M a x)(e:fB x=some xs)(h:∀I s' fp P St,zq W A M s s' I xs fp P St→Q (.ref I) s') :
  c0 xs.length=true∧wpAny (model W.prog W.w) A (pyIter a) Q E s:=by
 have e0:∀{ys:List PyData},(if c0 ys.length then some ys else none)=some xs→c0 xs.length=true∧ys=xs:=λ{ys} e=>(cq e).2▸⟨(cq e).1,rfl⟩
 cases x with
 |o=>cases e
 |r i j k =>
  obtain⟨q,e⟩:=cq e
  rw[←e] at h ⊢
  obtain⟨p,t,u,k,rfl,_,hr⟩:=ha
  refine⟨?_,vG (λ_=>R.hd) g hr q h⟩
  rw[lg]
  exact(cg.mp q).2
 |d y =>
  cases y with
  |list ys =>
   obtain⟨q,e⟩:=e0 e
   rw[e] at ha
   exact⟨q,vO ha λl vs m h1 h2 h3=>zi (λ_=>R.hd) g h1 h2 h3 h⟩
  |tuple ys =>
   obtain⟨q,e⟩:=e0 e
   rw[e] at ha
   exact⟨q,ze ha λl vs m h1 h2 h3=>vv (λ_=>R.hd) g h1 h2 h3 h⟩
  |_=>cases e
theorem iU{l:Addr}{y:Value}(ho:s.heap.get? l=some (bU vs k))(hsz:vs.size≤sizeLine)
  (h:∀h',h'.get? l=some (bU (vs.push y) (k+1))→(∀b o,b≠l→s.heap.get? b=some o→h'.get? b=some o)→Q .none {s with heap:=h'}) :
  wpAny (model W.prog W.w) A (call (.builtin "list.append") [.ref l,y]) Q E s:=by
 refine cF slot_list_append (s:=s) ⟨_,ho,rfl⟩ entry_list_append ?_ (args_list_append _ _)
 show wpAny _ _ (updateSeq l (·.push y)>>=λ_=>ret .none) _ _ s
 refine ac ?_
 refine wpAny_updateSeq ho rfl (aB ⟨.none,rfl,h _ ?_ (Heap.SameBut.update ..).extBut⟩) hsz (by simp;omega)
 have e:Obj.mapSeq (·.push y) (bU vs k)=bU (vs.push y) (k+1):=by
  simp[Obj.mapSeq]
 rw[cX _ ho (by rw[e];rfl),e]
end
set_option backward.match.sparseCases false
noncomputable def c7(scope sc:Scope):Scope :=
 {scope with names:=scope.names.map λ(n,k)=>if(k==.free&&sc.kind==.function&&sc.names.lookup n==some .cell) then(n,.cell) else(n,k)}
theorem jA{sc:Scope}(ek:fD env sc):relabel scope env=c7 scope sc:=by
 unfold relabel c7 Env.kindOf
 rw[ek.scope]
noncomputable def mF(sc scope:Scope):Bool :=
 scope.kind==.function&&decide (scope.names.map (·.1)).Nodup &&
  scope.names.all λp=>match p.2 with
   |.free=>sc.names.lookup p.1==some .cell||sc.names.lookup p.1==some .free
   |.local=>true
   |.cell=>true
   |.globalImplicit=>true
   |_=>false
theorem oq(nd:(names.map (·.1)).Nodup){k k':NameKind}(h:(y,k)∈names)(h':(y,k')∈names):k=k':=by
 induction names with
 |nil=>cases h
 |cons p r ih =>
  rw[bj,List.nodup_cons] at nd
  rcases ah.mp h with e | h1
  ·rcases ah.mp h' with e' | h2
   ·rw[←e'] at e;cases e;rfl
   ·cases e;exact absurd (List.mem_map_of_mem (f:=(·.1)) h2) nd.1
  ·rcases ah.mp h' with e' | h2
   ·cases e';exact absurd (List.mem_map_of_mem (f:=(·.1)) h1) nd.1
   ·exact ih nd.2 h1 h2
theorem gl(nd:(names.map (·.1)).Nodup){k:NameKind}(h:(y,k)∈names):names.lookup y=some k:=by
 induction names with
 |nil=>cases h
 |cons p r ih =>
  rw[bj,List.nodup_cons] at nd
  obtain⟨z,k'⟩:=p
  rw[List.lookup_cons]
  rcases ah.mp h with e | h1
  ·cases e;simp
  ·have:(y==z)=false:=by
    cases q:y==z with
    |false=>rfl
    |true=>have:=bH q;subst this;exact absurd (List.mem_map_of_mem (f:=(·.1)) h1) nd.1
   rw[this];exact ih nd.2 h1
theorem f0{scope sc:Scope}:∀{names:List (Str×NameKind)} {y:Str},(names.map λ(n,k)=>if(k==NameKind.free&&sc.kind==.function&&sc.names.lookup n==some .cell) then(n,NameKind.cell) else(n,k)).lookup y =
  (names.lookup y).map λk=>if(k==NameKind.free&&sc.kind==.function&&sc.names.lookup y==some .cell) then NameKind.cell else k
 |[],_=>rfl
 |(n,k)::r,y=>by
  have ih:=@f0 scope sc r y
  rw[bj]
  cases hx:y==n with
  |true =>
   have:=bH hx
   subst this
   by_cases hc:(k==NameKind.free&&sc.kind==.function&&sc.names.lookup y==some .cell)=true
   ·simp only[hc,if_true,List.lookup_cons,beq_self_eq_true,Option.map_some]
   ·simp only[hc,if_false,Bool.false_eq_true,List.lookup_cons,beq_self_eq_true,Option.map_some]
  |false =>
   by_cases hc:(k==NameKind.free&&sc.kind==.function&&sc.names.lookup n==some .cell)=true
   ·simp only[hc,if_true,List.lookup_cons,hx];exact ih
   ·simp only[hc,if_false,Bool.false_eq_true,List.lookup_cons,hx];exact ih
structure dL(sc scope:Scope):Prop where
 kind:scope.kind=.function
 nd:(scope.names.map (·.1)).Nodup
 free:∀y,(y,NameKind.free)∈scope.names→sc.names.lookup y=some .cell∨sc.names.lookup y=some .free
theorem dL.of{sc:Scope}(h:mF sc scope=true):dL sc scope:=by
 unfold mF at h
 rw[ag,ag,ar,ap] at h
 refine⟨bH h.1.1,h.1.2,λy hy=>?_⟩
 have:=h.2 _ hy
 simp only[Bool.or_eq_true,beq_iff_eq] at this
 exact this
noncomputable abbrev bq(scope sc:Scope)(env:Env)(C:Addr):Env :=
 {scope:=c7 scope sc,locals:=C,globals:=env.globals,cells:=cellsFrom (C+1) scope.names (eG env.cells scope.names []),qual:=env.qual,func:=none,code:=env.code,frame:=env.frame,builtins:=env.builtins}
theorem qb(names:List (Str×NameKind)):∀(n:Nat) (acc:List (Str×Addr)),cellsFrom n names acc=cellsFrom n names []++acc:=by
 induction names with
 |nil =>
  intro _ _
  exact rfl
 |cons hd0 r ih =>
  obtain⟨x,k⟩:=hd0
  intro n acc
  unfold cellsFrom
  by_cases hk:(k==NameKind.cell)=true
  ·rw[if_pos hk,if_pos hk,ih (n+1) ((x,n)::acc),ih (n+1) [(x,n)],bu];rfl
  ·rw[if_neg hk,if_neg hk];exact ih n acc
section
variable{sc:Scope}
theorem jk{c:Addr}(h:(bq scope sc env C).cells.lookup y=some c):(C+1≤c∧(y,c)∈cellsFrom (C+1) scope.names []∧(y,NameKind.cell)∈scope.names)∨((y,NameKind.free)∈scope.names∧c=(env.cells.lookup y).getD 0):=by
 have h:=mem_of_lookup h
 rcases ql _ _ _ h with q | ⟨q1,q2⟩
 ·rcases jt _ _ q with q | ⟨q1,q2⟩
  ·cases q
  ·exact .inr ⟨q1,q2⟩
 ·rw[show(bq scope sc env C).cells=cellsFrom (C+1) scope.names (eG env.cells scope.names []) from rfl,qb] at h
  rcases aP.mp h with h | h
  ·exact .inl ⟨q1,h,q2⟩
  ·rcases jt _ _ h with q | ⟨q3,q4⟩
   ·cases q
   ·exact .inr ⟨q3,q4⟩
theorem qJ(co:dL sc scope)(h:(y,NameKind.free)∈scope.names):(bq scope sc env C).cells.lookup y=some ((env.cells.lookup y).getD 0):=by
 show(cellsFrom (C+1) scope.names (eG env.cells scope.names [])).lookup y=_
 rw[jP _ _ _ λk hk=>by rw[oq co.nd hk h];decide]
 exact jD h
theorem Dh(ek:fD env sc)(co:dL sc scope)(hC:∀y c,env.cells.lookup y=some c→c<C)
  (hap:(cellsFrom (C+1) scope.names []).Pairwise λx y=>x.2≠y.2):fD (bq scope sc env C) (c7 scope sc):=by
 have outer:∀{y},(y,NameKind.free)∈scope.names→∃c,env.cells.lookup y=some c:=λh=>ek.cells _ (co.free _ h)
 have clt:∀{y},(y,NameKind.free)∈scope.names→(env.cells.lookup y).getD 0<C:=λh=>by
  obtain⟨c,hc⟩:=outer h;rw[hc];exact hC _ _ hc
 refine⟨rfl,co.kind,ek.globals,ek.builtins,λx hx=>?_,λx y c hx hy=>?_,λx c hx=>?_⟩
 ·have hx:(scope.names.lookup x=some .cell∨scope.names.lookup x=some .free):=by
   have e:=@f0 scope sc scope.names x
   have e2:(c7 scope sc).names.lookup x=_:=e
   rw[e2] at hx
   cases hl:scope.names.lookup x with
   |none=>rw[hl] at hx;rcases hx with hx | hx<;>cases hx
   |some k =>
    rw[hl] at hx
    simp only[Option.map_some,Option.some.injEq] at hx
    cases k with
    |cell=>exact .inl rfl
    |free=>exact .inr rfl
    |_=>rcases hx with hx | hx<;>simp at hx
  rcases hx with hx | hx
  ·refine aa λhQ=>?_
   obtain⟨c,h1,_⟩:=i7 scope.names (C+1) (eG env.cells scope.names []) ⟨_,mem_of_lookup hx,rfl⟩
   (refine hQ ?_;clear hQ)
   exact⟨c,h1⟩
  ·exact⟨_,qJ co (mem_of_lookup hx)⟩
 ·rcases jk hx with⟨a1,a2,_⟩ | ⟨a1,a2⟩<;>rcases jk hy with⟨b1,b2,_⟩ | ⟨b1,b2⟩
  ·exact name_of_addr hap a2 b2
  ·exact absurd a1 (by rw[b2];exact Nat.not_le.mpr (Nat.lt_succ_of_lt (clt b1)))
  ·exact absurd b1 (by rw[a2];exact Nat.not_le.mpr (Nat.lt_succ_of_lt (clt a1)))
  ·obtain⟨c1,h1⟩:=outer a1
   obtain⟨c2,h2⟩:=outer b1
   rw[h1] at a2;rw[h2] at b2
   have e:c1=c2:=a2.symm.trans b2
   subst e
   exact ek.inj x y _ h1 h2
 ·rcases jk hx with⟨a1,_,_⟩ | ⟨a1,a2⟩
  ·exact bV (Nat.lt_of_succ_le a1)
  ·exact bQ (by rw[a2];exact clt a1)
theorem l8(ek:fD env sc)(co:dL sc scope)(hf:(y,NameKind.free)∈scope.names)(hv:c_ h env y v)
  (hk:∀c,h.IsCell c (some v)→h'.IsCell c (some v)):c_ h' (bq scope sc env C) y v:=by
 have kf:∀k,env.kindOf y=some k→sc.names.lookup y=some k:=λk e=>by rw[←cJ ek];exact e
 rcases hv with⟨k,_⟩ | ⟨k,c,e,hc⟩
 ·rcases co.free y hf with q | q<;>rw[kf _ k] at q<;>cases q
 ·refine .inr ⟨?_,c,?_,hk c hc⟩
  ·unfold Env.kindOf
   show(c7 scope sc).names.lookup y=_∨_
   have e2:(c7 scope sc).names.lookup y=_:=@f0 scope sc scope.names y
   rw[e2,gl co.nd hf]
   simp only[Option.map_some,Option.some.injEq]
   by_cases q:(NameKind.free==NameKind.free&&sc.kind==ScopeKind.function&&List.lookup y sc.names==some NameKind.cell)=true
   ·rw[if_pos q];exact .inl rfl
   ·rw[if_neg q];exact .inr rfl
  ·rw[qJ co hf,e];rfl
end
section
variable{M:Model}{sc:Scope}
theorem BC{cl:List (Str×Addr)}{g:Addr}{qual:Str}{Q:Env→Shared→Prop}(h:Q {scope,locals:=s.heap.objs.size,globals:=g,cells:=cellsFrom (s.heap.objs.size+1) scope.names cl,qual,func:=none,code:=env.code,frame:=env.frame,builtins:=env.builtins}
  {s with heap:=pushCells (s.heap.push {cls:=.type "dict",data:=.dict #[]}) scope.names}):wpAny M A (newFunctionEnv scope g cl [] qual none .none (some env)) Q E s:=by
 simp only[newFunctionEnv,Option.isSome_some,if_true]
 refine ac (wpAny_alloc ?_)
 refine ac (wpAny_layCells _ (λname kind cells=>by cases hkc:kind==NameKind.cell<;>simp[hkc]) _ _ _ _ ?_)
 rw[show({s with heap:=s.heap.push {cls:=.type "dict",data:=.dict #[]}}:Shared).heap.objs.size=s.heap.objs.size+1 from Heap.size_push ..]
 simp only[List.forIn_nil]
 exact ac (aB (aB h))
end
noncomputable def f7(Γ:eX)(scope:Scope)(x:Str):eX:=⟨(x,Γ.size)::Γ.vars.filter (λp=>scope.names.lookup p.1==some .free),Γ.size+1⟩
theorem gM{f:Str→Bool}{l:List (Str×Nat)}:(l.filter λp=>f p.1).lookup y=some i→l.lookup y=some i∧f y=true:=by
 induction l with
 |nil =>
  intro h
  cases h
 |cons hd0 r ih =>
  obtain⟨z,j⟩:=hd0
  intro h
  rw[List.lookup_cons]
  by_cases hz:f z=true
  ·rw[List.filter_cons_of_pos (by exact hz),List.lookup_cons] at h
   cases q:y==z with
   |true=>rw[q] at h;have:=bH q;subst this;exact⟨h,hz⟩
   |false=>rw[q] at h;exact ih h
  ·rw[List.filter_cons_of_neg (by exact hz)] at h
   have hh:=ih h
   cases q:y==z with
   |true=>have:=bH q;subst this;exact absurd hh.2 hz
   |false=>exact hh
set_option backward.match.sparseCases true
theorem SX.fresh{W:Wd}(x:SX W s s')(h:s'.heap.get? a=none):s.heap.get? a=none:=by
 cases q:s.heap.get? a with
 |none=>rfl
 |some o=>obtain⟨o',e⟩:=x.occ a o q;replace e:=h▸e;cases e
theorem fU.grow{W:Wd}(x:SX W s s')(m:∀a∈M',a∈M∨s.heap.get? a=none)(r:fU s.heap M a xs):fU s'.heap M' a xs :=
 let⟨vs,n,e,r⟩:=r;⟨vs,n,x.keep _ _ e cV,r.mono (λb o _ e n=>x.keep b o e n) m⟩
theorem cQ.grow{W:Wd}(x:SX W s s')(m:∀a∈M',a∈M∨s.heap.get? a=none):∀{d:V},cQ s.heap M v d→cQ s'.heap M' v d
 |.d _,r=>Rep.mono (λb o _ e n=>x.keep b o e n) m r
 |.r ..,r=>cQ.mono (d:=.r ..) (λb o _ e n=>x.keep b o e n) m rfl r
 |.o _,⟨a,e,r⟩=>⟨a,e,r.grow x m⟩
section
variable{prog:Program}{w:World}
theorem yC{t:Addr}(hne:t≠it)(n:Nat):∀(i:Nat) (s:Shared) (Q:List Value→Shared→Prop),s.heap.IsListIter it t i→s.heap.IsList t items→i+n≤items.size →
  (∀h',h'.IsListIter it t (i+n)→Heap.SameBut it s.heap h'→Q ((items.toList.drop i).take n) {s with heap:=h'})→wpAny (model prog w) A (draw (.ref it) n) Q E s:=by
 induction n with
 |zero =>
  intro i s Q hit _ _ hQ
  show wpAny _ _ (pure []) Q E s
  exact aB (by simpa using hQ s.heap hit (Heap.SameBut.refl ..))
 |succ n ih =>
  intro i s Q hit ht hle hQ
  have hlt:i<items.size:=by exact au (ay _ _) hle
  show wpAny _ _ (pyNext (.ref it)>>=_) Q E s
  refine ac (wpAny_pyNext_list_item hit ht (x:=items[i]) (by simp[hlt]) λh₁ hit₁ hs₁=>?_)
  refine ac (aX (ih (i+1) _ _ hit₁ (ht.extBut hs₁.extBut hne) (by lia) λh₂ hit₂ hs₂=>aB ?_))
  have:=hQ h₂ (by simp only[show i+(n+1)=i+1+n by lia];exact hit₂) (hs₁.trans hs₂)
  rw[cH (by simpa using hlt),List.take_succ_cons] at this
  exact this
theorem mT{x1:Nat}{t:Addr}{Q:Unit→Shared→Prop}(hh:fA A s.heap)(ht:s.heap.IsList t items)(hn:(assignEach elts env).length=items.size)
  (hstar:(assignEach elts env).findIdx? (·.1)=none) (hQ:∀h',Heap.ExtBut s.heap.objs.size s.heap h'→wpAny (model prog w) A (assignInOrder ((assignEach elts env).map (·.2)) items.toList) Q E {s with heap:=h'}) :
  wpAny (model prog w) A (assign (.Tuple elts x1 pos) env (.ref t)) Q E s:=by
 have hlt:t≠s.heap.objs.size:=by obtain⟨o,ho,_⟩:=ht;exact bQ (bL ho)
 simp only[arm_assign_Tuple]
 refine ac (bP ?_)
 unfold unpack
 rw[hn,hstar]
 refine ac (aX ?_)
 unfold unpackItems
 refine ac ?_
 unfold notIterableAtAll
 refine ac (wpAny_specialOf ht.typeIs slot_list_iter.lookup ?_)
 refine aB ?_
 simp only[Bool.false_eq_true,if_false]
 refine ac (aX (wpAny_pyIter_list ht ?_))
 refine ac (aX (yC hlt items.size 0 _ _ ⟨_,aI _ rfl,rfl,rfl⟩ (ht.push _) (bd (aF (Array.size items)) (bo (Array.size items-Array.size items))) λh₁ hit₁ hs₁=>?_))
 rw[show List.take items.size (List.drop 0 items.toList)=items.toList by rw[List.drop_zero];exact List.take_of_length_le (by simp),if_neg (by simp)]
 refine ac (aX (pR (hh.mono λb o e _=>hs₁.extBut b o (bQ (bL e)) (aC _ e)) hit₁ ((ht.push _).extBut hs₁.extBut hlt) (by simp) λh₂ he₂=>?_))
 simp only[Option.isSome_none,Bool.false_eq_true,if_false]
 exact aB (hQ h₂ λb o hb e=>he₂ b o hb (hs₁.extBut b o hb (aC _ e)))
end
inductive rO(W:Wd)(Γ:eX)(sc:Scope):List Expr→List CE→Prop
 |nil:rO W Γ sc [] []
 |one {e:Expr} {c:CE}:gu W Γ sc e c→rO W Γ sc [e] [c]
theorem mC{W:Wd}{Γ:eX}{sc:Scope}(H:rO W Γ sc ifs cifs){k:Bool}{Q:Bool→Shared→Prop}
  (c:Cx W Γ sc n Φ A s env M ρ) (e:ctests Φ cifs ρ=some k) (h:∀s',SX W s s'→Q k s') :
  wpAny (model W.prog W.w) A (forIn ifs true λc r=>if r=true then do let ok ←isTrue c env (eval c env);pure (ForInStep.yield ok) else pure (ForInStep.yield r)) Q E s:=by
 cases H with
 |nil=>cases e;exact wpAny_tests_nil (h _ (SX.refl c.good))
 |one ht =>
  refine aa λhQ=>?_
  obtain⟨x,e1,e⟩:=aJ e
  obtain⟨k',e2,e⟩:=aJ e
  (refine hQ ?_;clear hQ)
  have:k'=k:=by cases k'<;>exact am e
  subst this
  exact wpAny_tests_one (ht n Φ A s env M ρ x k' E Q c e1 e2 h)
section
variable{prog:Program}{w:World}
theorem yQ{it:Value}(hg:gens[depth]?=some ⟨target,iter,ifs,0⟩)(hn:gens[depth+1]?=none) :
  compTurn (.ListComp elt gens scope pos) depth it acc env=(do
   standAt iter.pos
   match ←pyNext it with
   |none=>pure (.done .next)
   |some v =>
    letOwnedTupleGo target it v
    assign target env v
    let mut ok:=true
    for c in ifs do
     if ok then ok ←isTrue c env (eval c env)
    if ok then
     (do let _ ←call (.builtin "list.append") [acc,←eval elt env])
    again (.compLoop (.ListComp elt gens scope pos) depth it acc env)):=by
 unfold compTurn
 dsimp only
 rw[hg]
 dsimp only
 rw[hn]
 rfl
theorem mi{it:Value}(hg:gens[depth]?=some ⟨target,iter,ifs,0⟩)(hn:gens[depth+1]?=none)(I:Nat→Shared→Prop)
  (turn:∀n s,I n s→wpAny (model prog w) A (pyNext it) (λr s₁=>match r with
   |none=>R (.ok .next) s₁
   |some v=>wpAny (model prog w) A (letOwnedTupleGo target it v) (λ_ s₁=>wpAny (model prog w) A (assign target env v) (λ_ s₂ =>
    wpAny (model prog w) A (forIn ifs true λc r=>if r=true then do let ok ←isTrue c env (eval c env);pure (ForInStep.yield ok) else pure (ForInStep.yield r)) (λok s₃ =>
     if ok=true then wpAny (model prog w) A (eval elt env) (λx s₄ =>
      wpAny (model prog w) A (call (.builtin "list.append") [acc,x]) (λ_ s₅=>∃m,m<n∧I m s₅) (notedBy (model prog w) A env λe s'=>R (.error e) s') s₄) (notedBy (model prog w) A env λe s'=>R (.error e) s') s₃
     else∃m,m<n∧I m s₃) (notedBy (model prog w) A env λe s'=>R (.error e) s') s₂) (notedBy (model prog w) A env λe s'=>R (.error e) s') s₁) (notedBy (model prog w) A env λe s'=>R (.error e) s') s₁) (notedBy (model prog w) A env λe s'=>R (.error e) s') s)
  (n:Nat) (h:I n s):codeAny (model prog w) A (.compLoop (.ListComp elt gens scope pos) depth it acc env) R s:=by
 refine codeAny_loop rfl I (λn s hI=>?_) n h
 show wpAny _ A ((compTurn (.ListComp elt gens scope pos) depth it acc env).onRaise (λx=>do noteFrame x env;theTreesLotGoes x)) _ _ s
 refine wpAny_noted ?_
 rw[yQ hg hn]
 refine ac (bP (ac (bA (turn n s hI) (λr s₁ h₁=>?_) λ_ _ h'=>h')))
 cases r with
 |none=>exact aB h₁
 |some v =>
  refine ac (bA h₁ (λ_ s₁ h₁=>ac (bA h₁ (λ_ s₂ h₂=>ac (bA h₂ (λok s₃ h₃=>?_) λ_ _ h'=>h')) λ_ _ h'=>h')) λ_ _ h'=>h')
  cases ok with
  |false=>exact aB ⟨rfl,h₃⟩
  |true=>exact ac (ac (bA h₃ (λx s₄ h₄=>ac (bA h₄ (λ_ s₅ h₅=>aB (aB ⟨rfl,h₅⟩)) λ_ _ h'=>h')) λ_ _ h'=>h'))
end
section
variable{W:Wd}{Γ:eX}{sc:Scope}
theorem zC(co:dL sc scope)(c:Cx W Γ sc n Φ A s₁ env M ρ)
  (ek:fD (bq scope sc env C) (c7 scope sc)) (x1:SX W s₁ s') (hM:∀a∈M',a∈M∨s₁.heap.get? a=none) (mok:kQ s'.heap M') (lay:rg (bq scope sc env C) s'.heap)
  (hv:c_ s'.heap (bq scope sc env C) x v) (r:Rep s'.heap M' v d):Cx W (f7 Γ scope x) (c7 scope sc) n Φ A s' (bq scope sc env C) M' (ρ++[.sh (.d d)]):=by
 refine⟨c.ctrs,c.room,x1.good,ek,mok,?_,lay,by simp[f7,c.len],?_⟩
 ·intro y i hl sl hs
  unfold f7 at hl
  rw[List.lookup_cons] at hl
  cases q:y==x with
  |true =>
   replace hl:=q▸hl
   obtain rfl:=am hl
   have:=bH q
   subst this
   rw[←c.len] at hs
   simp at hs
   subst hs
   exact⟨rfl,v,hv,r⟩
  |false =>
   rw[q] at hl
   obtain⟨h1,h2⟩:=gM (f:=λz=>scope.names.lookup z==some .free) (l:=Γ.vars) (y:=y) (i:=i) hl
   have hlt:=c.wf y i h1
   simp only[←c.len] at hlt
   replace hs:=a_ hlt▸hs
   have hf:(y,NameKind.free)∈scope.names:=mem_of_lookup (by simpa using h2)
   have vis:=c.vis y i h1 sl hs
   cases sl with
   |un=>trivial
   |mx=>trivial
   |sh u =>
    refine aa λhQ=>?_
    obtain⟨o1,val,o2,o3⟩:=vis
    (refine hQ ?_;clear hQ)
    exact⟨o1,val,l8 c.env co hf o2 (λc hc=>Cell.ext x1 hc),o3.grow x1 hM⟩
   |ow us =>
    refine aa λhQ=>?_
    obtain⟨a,o2,o3⟩:=vis
    (refine hQ ?_;clear hQ)
    exact⟨a,l8 c.env co hf o2 (λc hc=>Cell.ext x1 hc),o3.grow x1 hM⟩
 ·intro y i hl
  unfold f7 at hl ⊢
  rw[List.lookup_cons] at hl
  cases q:y==x with
  |true=>replace hl:=q▸hl;cases hl;exact bO _
  |false =>
   rw[q] at hl
   exact Nat.lt_succ_of_lt (c.wf y i (gM (f:=λz=>scope.names.lookup z==some .free) (l:=Γ.vars) (y:=y) (i:=i) hl).1)
structure CA(W:Wd)(Γ:eX)(sc scope:Scope)(n:Nat)(Φ:jU)(A:Around)(s₁ s₂:Shared)(env:Env)(M M':List Addr)(ρ:Ev)(I C D:Addr)(xs:List PyData)(fp:List Addr)(P:Nat→Value→Prop)(St:Nat→Heap→Prop):Prop where
 c:Cx W Γ sc n Φ A s₁ env M ρ
 T:zq W A M s₁ s₂ I xs fp P St
 sz:c0 xs.length=true
 ek:fD (bq scope sc env C) (c7 scope sc)
 hM:∀a∈M',a∈M∨s₁.heap.get? a=none
 hMM:∀a∈M,a∈M'
 hD:D∈M'
 hI:I∈M'
 hC:C∈M'
 hcell:∀y a,(bq scope sc env C).cells.lookup y=some a→(y,NameKind.cell)∈scope.names→a∈M'∧s₁.heap.get? a=none∧a∉fp∧a≠D∧a≠I
 hDn:s₁.heap.get? D=none
 hCn:s₁.heap.get? C=none
 hDC:D≠C
 hDI:D≠I
 hCI:C≠I
 hDf:D∉fp
 hCf:C∉fp
structure CM(W:Wd)(s₁:Shared)(K:Env)(M':List Addr)(D:Addr)(St:Nat→Heap→Prop)(i:Nat)(ys:Array Value)(m:Nat)(done:List PyData)(s:Shared):Prop where
 x:SX W s₁ s
 st:St i s.heap
 d:s.heap.get? D=some (bU ys m)
 r:Reps s.heap M' ys.toList done
 lay:rg K s.heap
 mok:kQ s.heap M'
structure CP(tm:PyData→Option Bool)(fm:PyData→Option PyData)(xs total:List PyData)(i k:Nat)(done rest:List PyData):Prop where
 le:i≤xs.length
 run:fx tm fm (xs.drop i)=some rest
 eq:total=done++rest
 sz:k≤i
theorem CP.step{done rest:List PyData}(h:CP tm fm xs total i k done rest)(hd:xs[i]?=some d) :
  (tm d=some false∧CP tm fm xs total (i+1) k done rest)∨(tm d=some true∧∃y rest',fm d=some y∧CP tm fm xs total (i+1) (k+1) (done++[y]) rest'):=by
 refine aa λhQ=>?_
 obtain⟨hlt,rfl⟩:=aS.mp hd
 obtain⟨t,et,e5⟩:=aJ (show(tm xs[i]).bind (λt=>if t then(fm xs[i]).bind λy=>(fx tm fm (xs.drop (i+1))).map (y::·) else fx tm fm (xs.drop (i+1)))=some rest from(congrArg (fx tm fm) (cH hlt)).symm.trans h.run)
 (refine hQ ?_;clear hQ)
 cases t with
 |false=>exact .inl ⟨et,hlt,e5,h.eq,Nat.le_succ_of_le h.sz⟩
 |true =>
  refine aa λhQ=>?_
  obtain⟨y,ey,e5⟩:=aJ e5
  obtain⟨rest',er,e6⟩:=aH.mp e5
  (refine hQ ?_;clear hQ)
  exact .inr ⟨et,y,rest',ey,hlt,er,h.eq.trans (by simp only[←e6,bu];rfl),dc h.sz⟩
theorem CP.last{done rest:List PyData}(h:CP tm fm xs total i k done rest)(hi:¬i<xs.length):total=done:=by
 have:=h.run
 replace this:=List.drop_of_length_le (be hi)▸this
 obtain rfl:=am this
 exact h.eq.trans (bE _)
theorem nV(mo:kQ h M')(hk:∀b o,b≠a→h.get? b=some o→h'.get? b=some o)(ha:∃o,h'.get? a=some o∧¬b_ o):kQ h' M':=λb hb =>
 if q:b=a then q▸ha else(mo b hb).imp λo e=>⟨hk b o q e.1,e.2⟩
theorem nW(lay:rg K h)(hk:∀b o,b≠a→h.get? b=some o→h'.get? b=some o)(hC:K.locals≠a)(hc:∀y b v,K.cells.lookup y=some b→h.IsCell b v→b≠a):rg K h' :=
 ⟨lay.ns.imp λq hq=>hq.extBut (b:=a) (λb o hb e=>hk b o hb e) hC,λy b hy=>(lay.cell y b hy).imp λq hq=>hq.imp λo e=>⟨hk _ _ (hc y b q hy hq) e.1,e.2⟩⟩
noncomputable def nI(scope:Scope)(K:Env)(x:Str):Prop:=locOf K x=K.locals∨∃a,K.cells.lookup x=some a∧locOf K x=a∧(x,NameKind.cell)∈scope.names
theorem kA(hx:scope.names.lookup x=some .local∨scope.names.lookup x=some .cell):(c7 scope sc).names.lookup x=some .local∨(c7 scope sc).names.lookup x=some .cell:=by
 have e2:(c7 scope sc).names.lookup x=_:=@f0 scope sc scope.names x
 rw[e2]
 rcases hx with hx | hx<;>rw[hx]<;>simp
theorem yD(hx:scope.names.lookup x=some .local∨scope.names.lookup x=some .cell)(ek:fD K (c7 scope sc)):nI scope K x:=by
 have hk:=cJ ek x
 have e2:(c7 scope sc).names.lookup x=_:=@f0 scope sc scope.names x
 by_cases q:K.kindOf x=some .local
 ·exact .inl (if_pos q)
 ·rcases hx with hx | hx
  ·exact absurd (by simp only[hk,e2,hx];simp) q
  ·obtain⟨a,ha⟩:=ek.cells x (.inl (by simp only[e2,hx];simp))
   exact .inr ⟨a,ha,(if_neg q).trans (by rw[ha];rfl),mem_of_lookup hx⟩
theorem nI.soft(h:nI scope K x){hp:Heap}(lay:rg K hp)(ho:hp.get? (locOf K x)=some o):eW o :=
 h.elim (λq=>lay.ns.elim λ_ hm=>iM hm o (q▸ho)) λ⟨a,ha,q,_⟩=>(lay.cell x a ha).elim λ_ hv=>qZ hv o (q▸ho)
theorem nI.notTab(h:nI scope K x){hp:Heap}(lay:rg K hp):∃o,hp.get? (locOf K x)=some o∧¬b_ o :=
 h.elim (λq=>lay.ns.elim λ_ hm=>by rw[q];exact en hm) λ⟨a,ha,q,_⟩=>(lay.cell x a ha).elim λ_ hv=>by
  rw[q];obtain⟨o,ho,hd⟩:=hv;exact⟨o,ho,λt=>by obtain⟨fs,q,_⟩:=t.2;replace q:=hd▸q;cases q⟩
variable{D:Addr}{m:Nat}{ys:Array Value}{done:List PyData}
theorem CA.loc(a:CA W Γ sc scope n Φ A s₁ s₂ env M M' ρ I C D xs fp P St)(h:nI scope (bq scope sc env C) x) :
  locOf (bq scope sc env C) x∈M'∧s₁.heap.get? (locOf (bq scope sc env C) x)=none∧locOf (bq scope sc env C) x∉fp∧locOf (bq scope sc env C) x≠D∧locOf (bq scope sc env C) x≠I :=
 h.elim (λq=>by rw[q];exact⟨a.hC,a.hCn,a.hCf,Ne.symm a.hDC,a.hCI⟩) λ⟨b,hb,q,hm⟩=>q▸a.hcell x b hb hm
theorem CA.cellI(co:dL sc scope)(a:CA W Γ sc scope n Φ A s₁ s₂ env M M' ρ I C D xs fp P St){b:Addr}(hy:(bq scope sc env C).cells.lookup y=some b):b≠I:=λz=>by
 rcases jk hy with⟨_,_,hm⟩ | ⟨hm,ha⟩
 ·exact(a.hcell y b hy hm).2.2.2.2 z
 ·obtain⟨c',hc'⟩:=a.c.env.cells y (co.free y hm)
  obtain⟨u,o',hu,_⟩:=a.c.lay.cell y c' hc'
  rw[hc'] at ha
  have:b=c':=ha
  simp only[←this,z,a.T.new] at hu;cases hu
theorem CM.next(co:dL sc scope)(a:CA W Γ sc scope n Φ A s₁ s₂ env M M' ρ I C D xs fp P St)(h:CM W s₁ (bq scope sc env C) M' D St i ys m done s)(st:St j h')(hk:∀b o,b∉[I]→s.heap.get? b=some o→h'.get? b=some o) :
  CM W s₁ (bq scope sc env C) M' D St j ys m done {s with heap:=h',toks:=tk} :=
 have hk:∀b o,b≠I→s.heap.get? b=some o→h'.get? b=some o:=λb o hb e=>hk b o (λq=>hb (aq.mp q)) e
 ⟨h.x.upd hk a.T.new (λo=>a.T.soft i s.heap o h.st) a.c.good,st,hk _ _ a.hDI h.d,h.r.mono (λb o hb e _=>hk b o (λq=>hb (by rw[q];exact a.hI)) e) λa ha=>.inl ha,
  nW h.lay hk a.hCI λ_ _ _ hy _=>a.cellI co hy,nV h.mok hk ((a.T.here j h' st).imp λo ho=>⟨ho,(a.T.soft j h' o st ho).1⟩)⟩
theorem CM.store(a:CA W Γ sc scope n Φ A s₁ s₂ env M M' ρ I C D xs fp P St)(hl:nI scope (bq scope sc env C) x)(h:CM W s₁ (bq scope sc env C) M' D St i ys m done s)(lay:rg (bq scope sc env C) h')
  (hk:∀b o,b≠locOf (bq scope sc env C) x→s.heap.get? b=some o→h'.get? b=some o):CM W s₁ (bq scope sc env C) M' D St i ys m done {s with heap:=h',toks:=tk} :=
 have l:=a.loc hl
 ⟨h.x.upd hk l.2.1 (λ_=>hl.soft h.lay) a.c.good,a.T.walks.frame _ _ _ h.st λb hb o e=>hk b o (λq=>l.2.2.1 (by rw[←q];exact hb)) e,hk _ _ (Ne.symm l.2.2.2.1) h.d,
  h.r.mono (λb o hb e _=>hk b o (λq=>hb (by rw[q];exact l.1)) e) λa ha=>.inl ha,lay,nV h.mok hk (hl.notTab lay)⟩
theorem CA.old(a:CA W Γ sc scope n Φ A s₁ s₂ env M M' ρ I C D xs fp P St){t u:Shared}(x:SX W s₁ t)(st:St i t.heap)(x8:SX W t u){b:Addr}(hb:b∈fp)(e:t.heap.get? b=some o):u.heap.get? b=some o:=by
 by_cases hbI:b=I
 ·exact x8.keep b o e (a.T.soft i t.heap o st (hbI▸e)).1
 ·obtain⟨_,o',e1,e2⟩:=a.T.old b hb hbI
  have e3:=x.keep b o' e1 e2
  replace e3:=e▸e3;cases e3
  exact x8.keep b o e e2
theorem CM.ext(a:CA W Γ sc scope n Φ A s₁ s₂ env M M' ρ I C D xs fp P St)(h:CM W s₁ (bq scope sc env C) M' D St i ys m done s)(x8:SX W s s'):CM W s₁ (bq scope sc env C) M' D St i ys m done s' :=
 ⟨h.x.trans x8,a.T.walks.frame _ _ _ h.st λ_ hb _ e=>a.old h.x h.st x8 hb e,x8.keep _ _ h.d cV,Reps.ext x8 h.r,h.lay.ext x8,h.mok.ext x8⟩
theorem CM.app(a:CA W Γ sc scope n Φ A s₁ s₂ env M M' ρ I C D xs fp P St)(h:CM W s₁ (bq scope sc env C) M' D St i ys m done s){w:Value}{y:PyData}(ry:Rep s.heap M' w y)(d:h'.get? D=some (bU (ys.push w) (m+1)))
  (hk:∀b o,b≠D→s.heap.get? b=some o→h'.get? b=some o):CM W s₁ (bq scope sc env C) M' D St i (ys.push w) (m+1) (done++[y]) {s with heap:=h'} :=
 ⟨SX.upd (tk:=s.toks) h.x hk a.hDn (ig h.d vW) a.c.good,a.T.walks.frame _ _ _ h.st λb hb o e=>hk b o (λq=>a.hDf (by simp only[←q];exact hb)) e,d,
  by
   rw[Array.toList_push]
   exact(h.r.append (.cons ry .nil)).mono (λb o hb e _=>hk b o (λq=>hb (by simp only[q];exact a.hD)) e) λa ha=>.inl ha,
  nW h.lay hk (Ne.symm a.hDC) (λ_ _ _ _ ⟨_,e1,e2⟩ z=>by simp only[z,h.d] at e1;cases e1;cases e2),nV h.mok hk ⟨_,d,cV⟩⟩
noncomputable def ux(W:Wd)(Γ Γi:eX)(sc scope:Scope)(tgt:Expr)(k:Nat):Prop:=∀{n:Nat} {Φ:jU} {A:Around} {s₁ s₂:Shared} {env:Env} {M M':List Addr} {ρ:Ev} {I C D:Addr} {xs:List PyData} {fp:List Addr} {P:Nat→Value→Prop} {St:Nat→Heap→Prop}
 {i m:Nat} {ys:Array Value} {done:List PyData} {s:Shared} {v:Value} {d:PyData} {t:Ev} {Q:Unit→Shared→Prop} {E:Value→Shared→Prop},CA W Γ sc scope n Φ A s₁ s₂ env M M' ρ I C D xs fp P St→CM W s₁ (bq scope sc env C) M' D St i ys m done s→Rep s.heap M' v d→fj k d=some t →
 (∀s₇,CM W s₁ (bq scope sc env C) M' D St i ys m done s₇→Cx W Γi (c7 scope sc) n Φ A s₇ (bq scope sc env C) M' (ρ++t)→Q () s₇)→wpAny (model W.prog W.w) A (assign tgt (bq scope sc env C) v) Q E s
theorem oi(co:dL sc scope)(hx:scope.names.lookup x=some .local∨scope.names.lookup x=some .cell):ux W Γ (f7 Γ scope x) sc scope (.Name x px) 0:=λ{n Φ A s₁ s₂ env M M' ρ I C D xs fp P St i m ys done s v d t Q E} a h r e hq=>by
 obtain rfl:=am e
 have hl:nI scope (bq scope sc env C) x:=yD hx a.ek
 refine wpAny_assign_Name (ii a.ek h.lay (kA hx) λh₇ tk₇ hk7 lay7 hv7 _=>?_)
 have m7:=CM.store (tk:=tk₇) a hl h lay7 hk7
 exact hq _ m7 (zC (x:=x) (s':={s with heap:=h₇,toks:=tk₇}) co a.c a.ek m7.x a.hM m7.mok lay7 hv7 (r.mono (λb o hb e _=>hk7 b o (λq=>hb (by simp only[q];exact(a.loc hl).1)) e) λa ha=>.inl ha))
noncomputable def mI(Γ:eX)(scope:Scope)(x y:Str):eX:=⟨(x,Γ.size)::(y,Γ.size+1)::Γ.vars.filter (λp=>scope.names.lookup p.1==some .free),Γ.size+2⟩
theorem qz{w:Value}{e:PyData}(co:dL sc scope)(c:Cx W Γ sc n Φ A s₁ env M ρ)
  (ek:fD (bq scope sc env C) (c7 scope sc)) (x1:SX W s₁ s') (hM:∀a∈M',a∈M∨s₁.heap.get? a=none) (mok:kQ s'.heap M') (lay:rg (bq scope sc env C) s'.heap)
  (hv:c_ s'.heap (bq scope sc env C) x v) (hw:c_ s'.heap (bq scope sc env C) y w) (r:Rep s'.heap M' v d) (r2:Rep s'.heap M' w e):Cx W (mI Γ scope x y) (c7 scope sc) n Φ A s' (bq scope sc env C) M' (ρ++[.sh (.d d),.sh (.d e)]):=by
 refine⟨c.ctrs,c.room,x1.good,ek,mok,?_,lay,by simp[mI,c.len],?_⟩
 ·intro z i hl sl hs
  unfold mI at hl
  rw[List.lookup_cons] at hl
  cases q:z==x with
  |true =>
   rw[q] at hl
   cases hl
   rw[bH q]
   simp only[←c.len,aM (aF _),Nat.sub_self] at hs
   obtain rfl:=am hs
   exact⟨rfl,v,hv,r⟩
  |false =>
   rw[q] at hl
   dsimp only at hl
   rw[List.lookup_cons] at hl
   cases q2:z==y with
   |true =>
    replace hl:=q2▸hl
    obtain rfl:=am hl
    rw[bH q2]
    simp only[←c.len,aM (ay _ 1),c5] at hs
    obtain rfl:=am hs
    exact⟨rfl,w,hw,r2⟩
   |false =>
    rw[q2] at hl
    obtain⟨h1,h2⟩:=gM (f:=λz=>scope.names.lookup z==some .free) (l:=Γ.vars) (y:=z) (i:=i) hl
    have hlt:=c.wf z i h1
    simp only[←c.len] at hlt
    replace hs:=a_ hlt▸hs
    have hf:(z,NameKind.free)∈scope.names:=mem_of_lookup (by simpa using h2)
    have vis:=c.vis z i h1 sl hs
    cases sl with
    |un=>trivial
    |mx=>trivial
    |sh u =>
     refine aa λhQ=>?_
     obtain⟨o1,val,o2,o3⟩:=vis
     (refine hQ ?_;clear hQ)
     exact⟨o1,val,l8 c.env co hf o2 (λc hc=>Cell.ext x1 hc),o3.grow x1 hM⟩
    |ow us =>
     refine aa λhQ=>?_
     obtain⟨a,o2,o3⟩:=vis
     (refine hQ ?_;clear hQ)
     exact⟨a,l8 c.env co hf o2 (λc hc=>Cell.ext x1 hc),o3.grow x1 hM⟩
 ·intro z i hl
  unfold mI at hl ⊢
  rw[List.lookup_cons] at hl
  cases q:z==x with
  |true=>rw[q] at hl;cases hl;exact Nat.lt_succ_of_lt (bO _)
  |false =>
   rw[q] at hl
   dsimp only at hl
   rw[List.lookup_cons] at hl
   cases q2:z==y with
   |true=>replace hl:=q2▸hl;cases hl;exact bO _
   |false =>
    rw[q2] at hl
    exact Nat.lt_succ_of_lt (Nat.lt_succ_of_lt (c.wf z i (gM (f:=λz=>scope.names.lookup z==some .free) (l:=Γ.vars) (y:=z) (i:=i) hl).1))
theorem Dn{t:Ev}(h:fj 2 d=some t):∃a b,(d=.tuple [a,b]∨d=.list [a,b])∧t=[.sh (.d a),.sh (.d b)]:=by
 have two:∀{xs:List PyData},(if xs.length=2 then some (xs.map λy=>Slot.sh (.d y)) else none)=some t→∃a b,xs=[a,b]∧t=[.sh (.d a),.sh (.d b)]:=λ{xs} h=>by
  obtain⟨h1,h2⟩:=cq h
  rcases xs with _ | ⟨a,_ | ⟨b,_ | ⟨_,_⟩⟩⟩
  ·cases h1
  ·cases h1
  ·exact⟨a,b,rfl,h2.symm⟩
  ·cases h1
 cases d with
 |tuple xs=>obtain⟨a,b,e,e2⟩:=two (show(if xs.length=2 then some (xs.map λy=>Slot.sh (.d y)) else none)=some t from h);exact⟨a,b,.inl (by rw[e]),e2⟩
 |list xs=>obtain⟨a,b,e,e2⟩:=two (show(if xs.length=2 then some (xs.map λy=>Slot.sh (.d y)) else none)=some t from h);exact⟨a,b,.inr (by rw[e]),e2⟩
 |_=>cases h
theorem EA(co:dL sc scope)(hx:scope.names.lookup x=some .local∨scope.names.lookup x=some .cell)(hy:scope.names.lookup y=some .local∨scope.names.lookup y=some .cell)(hxy:x≠y) :
  ux W Γ (mI Γ scope x y) sc scope (.Tuple [.Name x px,.Name y py] kk p) 2:=λ{n Φ A s₁ s₂ env M M' ρ I C D xs fp P St i m ys done s v d t Q E} a h r e hq=>by
 refine aa λhQ=>?_
 obtain⟨da,db,hd,ht⟩:=Dn e
 (refine hQ ?_;clear hQ)
 replace hq:=ht▸hq
 have lx:nI scope (bq scope sc env C) x:=yD hx a.ek
 have ly:nI scope (bq scope sc env C) y:=yD hy a.ek
 have go:∀{v1 v2:Value} {h3:Heap},Rep s.heap M' v1 da→Rep s.heap M' v2 db→Heap.ExtBut s.heap.objs.size s.heap h3→wpAny (model W.prog W.w) A (assignInOrder [assign (.Name x px) (bq scope sc env C),assign (.Name y py) (bq scope sc env C)] [v1,v2]) Q E {s with heap:=h3}:=λ{v1 v2 h3} r1 r2 hb=>by
  have x3:SX W s {s with heap:=h3}:=SX.heap h.x.good λb o e=>hb b o (λq=>by simp only[q,bD] at e;cases e) e
  have m3:=h.ext a x3
  have r1:=r1.mono (M':=M') (λb o _ e n=>x3.keep b o e n) λa ha=>.inl ha
  have r2:=r2.mono (M':=M') (λb o _ e n=>x3.keep b o e n) λa ha=>.inl ha
  show wpAny _ _ (do holding [v2] (assign (.Name x px) (bq scope sc env C) v1);assignInOrder [assign (.Name y py) (bq scope sc env C)] [v2]) _ _ _
  refine ac (aX (wpAny_assign_Name (ii (s:={s with heap:=h3}) a.ek m3.lay (kA hx) λh4 tk4 hk4 lay4 hv4 _=>?_)))
  show wpAny _ _ (do holding [] (assign (.Name y py) (bq scope sc env C) v2);assignInOrder [] []) _ _ _
  refine ac (aX (wpAny_assign_Name (ii (s:={s with heap:=h4,toks:=tk4}) a.ek (CM.store (tk:=tk4) a lx m3 lay4 hk4).lay (kA hy) λh5 tk5 hk5 lay5 hv5 old5=>aB ?_)))
  have m5:=CM.store (tk:=tk5) a ly (CM.store (tk:=tk4) a lx m3 lay4 hk4) lay5 hk5
  have k4:∀{v d},Rep h3 M' v d→Rep h5 M' v d:=λr=>(r.mono (M':=M') (λb o hb e _=>hk4 b o (λq=>hb (by rw[q];exact(a.loc lx).1)) e) λa ha=>.inl ha).mono (λb o hb e _=>hk5 b o (λq=>hb (by rw[q];exact(a.loc ly).1)) e) λa ha=>.inl ha
  exact hq _ m5 (qz (s':={s with heap:=h5,toks:=tk5}) co a.c a.ek m5.x a.hM m5.mok lay5 (old5 x v1 hxy hv4) hv5 (k4 r1) (k4 r2))
 have two:∀{vs:Array Value},Reps s.heap M' vs.toList [da,db]→∃v1 v2,vs.toList=[v1,v2]∧Rep s.heap M' v1 da∧Rep s.heap M' v2 db:=λ{vs} h3=>by
  generalize vs.toList=l at h3
  cases h3 with
  |@cons v1 vs _ _ r1 h3=>cases h3 with
   |@cons v2 vs _ _ r2 h3=>cases h3;exact⟨v1,v2,rfl,r1,r2⟩
 rcases hd with hd | hd<;>simp only[hd] at r
 ·refine ze (show cQ s.heap M' v (.d (.tuple [da,db])) from r) λl vs k _ h2 h3=>?_
  refine aa λhQ=>?_
  obtain⟨v1,v2,e1,r1,r2⟩:=two h3
  (refine hQ ?_;clear hQ)
  have hsz:vs.size=2:=by rw[←aD,e1];rfl
  refine l4 (a.c.room.hd h.x.good) ⟨_,h2,rfl,_,rfl⟩ (by rw[hsz];rfl) rfl λh3 hx3=>?_
  rw[e1];exact go r1 r2 hx3
 ·refine vO (show cQ s.heap M' v (.d (.list [da,db])) from r) λl vs k _ h2 h3=>?_
  refine aa λhQ=>?_
  obtain⟨v1,v2,e1,r1,r2⟩:=two h3
  (refine hQ ?_;clear hQ)
  have hsz:vs.size=2:=by rw[←aD,e1];rfl
  refine mT (a.c.room.hd h.x.good) ⟨_,h2,rfl,_,rfl⟩ (by rw[hsz];rfl) rfl λh3 hx3=>?_
  rw[e1];exact go r1 r2 hx3
theorem xU(co:dL sc scope)(hg:gens[depth]?=some ⟨tgt,iter,ifs,0⟩)(hn:gens[depth+1]?=none)(tk:ux W Γ Γi sc scope tgt k)
  (helt:bJ W Γi (c7 scope sc) elt celt) (hifs:rO W Γi (c7 scope sc) ifs cifs)
  (a:CA W Γ sc scope n Φ A s₁ s₂ env M M' ρ I C D xs fp P St) (hlet:∀(i:Nat) (s:Shared) (v:Value) (Q:Unit→Shared→Prop) (E:Value→Shared→Prop),St i s.heap→Q () s→wpAny (model W.prog W.w) A (letOwnedTupleGo tgt (.ref I) v) Q E s)
  (htm:∀d b,tm d=some b→∃t,fj k d=some t∧ctests Φ cifs (ρ++t)=some b)
  (hfm:∀d y t,fm d=some y→fj k d=some t→(ak Φ celt (ρ++t)).bind kq=some y) (m4:CM W s₁ (bq scope sc env C) M' D St 0 #[] 0 [] s) (e:fx tm fm xs=some total)
  (hR:∀s' m,SX W s₁ s'→s'.heap.Ns C m→Rep s'.heap (C::M) (.ref D) (.list total)→R (.ok .next) s') :
  codeAny (model W.prog W.w) A (.compLoop (.ListComp elt gens scope pos) depth (.ref I) (.ref D) (bq scope sc env C)) R s:=by
 have key:∀Inv:Nat→Shared→Prop,(∀k s,Inv k s→∃z:(Nat×Nat)×Array Value×List PyData×List PyData,k=xs.length+1-z.1.1∧CM W s₁ (bq scope sc env C) M' D St z.1.1 z.2.1 z.1.2 z.2.2.1 s∧CP tm fm xs total z.1.1 z.2.1.size z.2.2.1 z.2.2.2) →
   (∀i m ys done rest s,CM W s₁ (bq scope sc env C) M' D St i ys m done s→CP tm fm xs total i ys.size done rest→Inv (xs.length+1-i) s)→codeAny (model W.prog W.w) A (.compLoop (.ListComp elt gens scope pos) depth (.ref I) (.ref D) (bq scope sc env C)) R s:=by
  intro Inv hi ho
  refine mi hg hn Inv (λk s' hh=>?_) _ (ho 0 0 #[] [] total s m4 ⟨bo _,e,rfl,aF _⟩)
  obtain⟨⟨⟨i,m⟩,ys,done,rest⟩,hk,hm,hp⟩:=hi k s' hh
  clear hi hh m4
  by_cases hlt:i<xs.length
  ·have hd:xs[i]?=some xs[i]:=aQ hlt
   have hlow:xs.length+1-(i+1)<k:=by simp only[hk];exact Nat.sub_lt_sub_left (Nat.lt_succ_of_lt hlt) (bO i)
   generalize xs[i]=xd at hd
   refine a.T.walks.item i s' _ _ hlt hm.st λv h' tk1 hP st6 hk6=>?_
   have m6:=hm.next (tk:=tk1) co a st6 hk6
   have rv:Rep h' M' v xd:=(a.T.rep i v _ hP hd).mono (λb o _ e n=>m6.x.keep b o e n) a.hM
   refine hlet (i+1) _ v _ _ st6 ?_
   rcases hp.step hd with⟨et,hp⟩ | ⟨et,y,rest',ey,hp⟩
   ·obtain⟨t,e1,e2⟩:=htm _ _ et
    refine tk a m6 rv e1 λs₇ m7 cx7=>?_
    exact mC hifs cx7 e2 λs₈ x8=>⟨_,hlow,ho _ _ _ _ _ _ (m7.ext a x8) hp⟩
   ·obtain⟨t,e1,e2⟩:=htm _ _ et
    refine tk a m6 rv e1 λs₇ m7 cx7=>?_
    refine mC hifs cx7 e2 λs₈ x8=>?_
    obtain⟨yv,ey1,ey2⟩:=aJ (hfm _ _ _ ey e1)
    refine helt n Φ A s₈ _ M' _ yv _ _ (cx7.ext x8) ey1 λw s₉ x9 r9=>?_
    simp only[eO ey2] at r9
    have m9:=(m7.ext a x8).ext a x9
    refine iU m9.d (by have:=cW a.sz;have:=hp.sz;have:=hp.le;unfold sizeLine;lia) λh₁₀ d10 hk10=>?_
    exact⟨_,hlow,ho _ _ _ _ _ _ (m9.app a r9 d10 hk10) (by simp only[Array.size_push];exact hp)⟩
  ·refine a.T.walks.done s' _ _ (a.T.hd _ hm.x.good) (Nat.le_antisymm hp.le (be hlt)▸hm.st) λh' tk hk6=>?_
   have hk6:∀b o,b≠I→s'.heap.get? b=some o→h'.get? b=some o:=λb o hb e=>hk6 b o (λq=>hb (aq.mp q)) e
   obtain⟨q,hq⟩:=hm.lay.ns
   refine hR _ q (hm.x.upd hk6 a.T.new (λo=>a.T.soft i s'.heap o hm.st) a.c.good) (hq.extBut (b:=I) (λb o hb e=>hk6 b o hb e) a.hCI) ?_
   simp only[hp.last hlt]
   refine .list ?_ (hk6 _ _ a.hDI hm.d) ?_
   ·intro z
    rcases ah.mp z with z | z
    ·exact a.hDC z
    ·obtain⟨o,e,_⟩:=a.c.mok D z;replace e:=a.hDn▸e;cases e
   ·refine hm.r.mono (λb o hb e _=>hk6 b o (λq=>hb (by simp only[q];exact a.hI)) e) λb hb=>?_
    rcases ah.mp hb with rfl | hb
    ·exact .inl a.hC
    ·exact .inl (a.hMM b hb)
 exact key _ (λ_ _ h=>h) λi m ys done rest s h1 h2=>⟨⟨⟨i,m⟩,ys,done,rest⟩,rfl,h1,h2⟩
end
section
variable{W:Wd}{Γ:eX}{sc:Scope}
theorem mP(e:h.get? a=some o):a<h.objs.size:=bL e
theorem comp_coreX(co:dL sc scope)
  (c:Cx W Γ sc n Φ A s₁ env M ρ) (T:zq W A M s₁ s₂ I xs fp P St) (sz:c0 xs.length=true)
  (hloop:∀{M':List Addr} {C D:Addr} {s:Shared} {R:Result→Shared→Prop},CA W Γ sc scope n Φ A s₁ s₂ env M M' ρ I C D xs fp P St→CM W s₁ (bq scope sc env C) M' D St 0 #[] 0 [] s→(∀s' m,SX W s₁ s'→s'.heap.Ns C m→Rep s'.heap (C::M) (.ref D) (.list total)→X D s'→R (.ok .next) s') →
   codeAny (model W.prog W.w) A (.compLoop (.ListComp elt (⟨tgt,iter,ifs,0⟩::rest) scope pos) 0 (.ref I) (.ref D) (bq scope sc env C)) R s)
  (hRR:∀s' D C m,SX W s₁ s'→s₁.heap.get? C=none→s'.heap.Ns C m→s₁.heap.get? D=none→Rep s'.heap (C::M) (.ref D) (.list total)→X D s'→RR (.ref D) C (.ok .next) s') :
  wpAny (model W.prog W.w) A (newList []) (λacc s₃=>wpAny (model W.prog W.w) A (newFunctionEnv scope env.globals (eG env.cells scope.names []) [] env.qual none .none (some env)) (λcenv s₄ =>
   codeAny (model W.prog W.w) A (.compStart (.ListComp elt (⟨tgt,iter,ifs,0⟩::rest) scope pos) 0 (.ref I) acc {cenv with scope:=c7 scope sc}) (RR acc cenv.locals) s₄) E s₃) E s₂:=by
 refine wpAny_newList (BC ?_)
 generalize hH3:s₂.heap.push {cls:=.type "list",data:=.seq ([]:List Value).toArray}=H3
 generalize hH4:H3.push {cls:=.type "dict",data:=.dict #[]}=H4
 have e3:H3.objs.size=s₂.heap.objs.size+1:=by rw[←hH3,Heap.size_push]
 have e4:H4.objs.size=H3.objs.size+1:=by rw[←hH4,Heap.size_push]
 have k4:∀b o,H3.get? b=some o→H4.get? b=some o:=λb o e=>by rw[←hH4];exact aC _ e
 have k5:∀b o,H4.get? b=some o→(pushCells H4 scope.names).get? b=some o:=λb o e=>pushCells_keeps _ _ b o e
 have kk:∀b o,s₂.heap.get? b=some o→(pushCells H4 scope.names).get? b=some o:=λb o e=>k5 b o (k4 b o ((λb o e=>by rw[←hH3];exact aC _ e) b o e))
 have x2:=T.ext
 have x4:SX W s₁ {s₂ with heap:=pushCells H4 scope.names}:=x2.trans (SX.heap x2.good kk)
 have fr:∀a:Addr,s₂.heap.objs.size≤a→s₁.heap.get? a=none:=λa ha=>x2.fresh (Heap.get?_none_of_le ha)
 have d4:(pushCells H4 scope.names).get? s₂.heap.objs.size=some (bU #[] 0):=k5 _ _ (k4 _ _ (by rw[←hH3];exact aI _ rfl))
 have ns4:(pushCells H4 scope.names).Ns H3.objs.size λ_=>none:=(Heap.Ns.new H3 (.type "dict")).keeps λb o e=>k5 b o (by rw[←hH4];exact e)
 have ok:=cellsFrom_ok scope.names H4 (H3.objs.size+1) [] ⟨λ_ _ hm=>(nomatch hm),List.Pairwise.nil⟩ (by simp only[e4];exact aF _)
 replace ok:=e4▸ok
 have clt:∀y c',env.cells.lookup y=some c'→c'<s₂.heap.objs.size:=λy c' hc=>by
  obtain⟨v,o,ho,hd⟩:=c.lay.cell y c' hc
  exact mP (x2.keep _ _ ho λt=>by obtain⟨fs,q,_⟩:=t.2;rw[hd] at q;cases q)
 have Iold:I<s₂.heap.objs.size:=by obtain⟨o,ho⟩:=T.here 0 _ T.st;exact mP ho
 have fpold:∀b∈fp,b<s₂.heap.objs.size:=λb hb=>by
  by_cases q:b=I
  ·rw[q];exact Iold
  ·obtain⟨_,o,e1,e2⟩:=T.old b hb q
   exact mP (x2.keep _ _ e1 e2)
 have lay4:rg (bq scope sc env H3.objs.size) (pushCells H4 scope.names):=by
  refine⟨⟨_,ns4⟩,λy a hy=>?_⟩
  rcases jk hy with⟨_,hm,_⟩ | ⟨hm,ha⟩
  ·exact⟨none,(ok.empty y a hm).1⟩
  ·obtain⟨c',hc'⟩:=c.env.cells y (co.free y hm)
   replace ha:=hc'▸ha
   have ha:a=c':=ha
   subst ha
   obtain⟨v,hv⟩:=c.lay.cell y a hc'
   exact⟨v,Cell.ext x4 hv⟩
 let own:=(cellsFrom (H3.objs.size+1) scope.names []).map (·.2)
 have hown:∀a∈own,H3.objs.size+1≤a∧∃o,(pushCells H4 scope.names).get? a=some o∧¬b_ o:=λa ha=>by
  obtain⟨p,hp,rfl⟩:=List.mem_map.mp ha
  obtain⟨⟨o,h1,h2⟩,h3⟩:=ok.empty p.1 p.2 hp
  exact⟨h3,o,h1,λt=>by obtain⟨fs,q,_⟩:=t.2;rw[h2] at q;cases q⟩
 have big:∀a,s₂.heap.objs.size≤a→a≠I∧a∉fp:=λa ha=>⟨bV (ae Iold ha),λq=>Nat.lt_irrefl _ (ae (fpold a q) ha)⟩
 have loop:codeAny (model W.prog W.w) A (.compLoop (.ListComp elt (⟨tgt,iter,ifs,0⟩::rest) scope pos) 0 (.ref I) (.ref s₂.heap.objs.size) (bq scope sc env H3.objs.size)) (RR (.ref s₂.heap.objs.size) H3.objs.size) {s₂ with heap:=pushCells H4 scope.names}:=by
  refine hloop (M':=s₂.heap.objs.size::I::H3.objs.size::(own++M)) ⟨c,T,sz,(Dh c.env co (λy c' hc=>Nat.lt_trans (clt y c' hc) (by simp only[e3];exact bO _)) ok.apart),?_,?_,by simp,by simp,by simp,?_,fr _ (aF _),fr _ (by rw[e3];exact Nat.le_succ _),?_,(big s₂.heap.objs.size (aF _)).1,(big H3.objs.size (by rw[e3];exact Nat.le_succ _)).1,(big s₂.heap.objs.size (aF _)).2,(big H3.objs.size (by rw[e3];exact Nat.le_succ _)).2⟩
   ⟨x4,?_,d4,.nil,lay4,?_⟩ λs' m x5 hm hr hx=>hRR s' _ _ m x5 (fr _ (by simp only[e3];exact Nat.le_succ _)) hm (fr _ (aF _)) hr hx
  ·intro a ha
   rcases ah.mp ha with rfl | ha
   ·exact .inr (fr _ (aF _))
   rcases ah.mp ha with rfl | ha
   ·exact .inr T.new
   rcases ah.mp ha with rfl | ha
   ·exact .inr (fr _ (by rw[e3];exact Nat.le_succ _))
   rcases aP.mp ha with ha | ha
   ·exact .inr (fr _ (ab (by rw[e3];exact Nat.le_succ_of_le (Nat.le_succ _)) (hown a ha).1))
   ·exact .inl ha
  ·intro a ha
   exact aj _ (aj _ (aj _ (aT _ ha)))
  ·intro y a hy hm
   have hy2:(y,a)∈cellsFrom (H3.objs.size+1) scope.names []:=by
    rcases jk hy with⟨_,h2,_⟩ | ⟨h2,_⟩
    ·exact h2
    ·have:=oq co.nd hm h2;cases this
   have ho:=hown a (List.mem_map_of_mem (f:=(·.2)) hy2)
   have hle:s₂.heap.objs.size<a:=ae (by rw[e3];exact Nat.lt_succ_of_lt (bO _)) ho.1
   exact⟨aj _ (aj _ (aj _ (bl _ (List.mem_map_of_mem (f:=(·.2)) hy2)))),fr a (aE hle),(big a (aE hle)).2,bV hle,(big a (aE hle)).1⟩
  ·simp only[e3];exact bQ (bO _)
  ·exact T.walks.frame _ _ _ T.st λb _ o e=>kk b o e
  ·intro a ha
   rcases ah.mp ha with rfl | ha
   ·exact⟨_,d4,cV⟩
   rcases ah.mp ha with rfl | ha
   ·obtain⟨o,ho⟩:=T.here 0 _ T.st
    exact⟨o,kk _ _ ho,(T.soft 0 _ _ T.st ho).1⟩
   rcases ah.mp ha with rfl | ha
   ·exact en ns4
   rcases aP.mp ha with ha | ha
   ·exact(hown a ha).2
   ·exact(c.mok.ext x4) a ha
 exact codeAny_compStart_list loop (T.walks.self 0 _ _ _ (T.walks.frame _ _ _ T.st λb _ o e=>kk b o e) loop)
theorem mQ(co:dL sc scope)
  (c:Cx W Γ sc n Φ A s₁ env M ρ) (T:zq W A M s₁ s₂ I xs fp P St) (sz:c0 xs.length=true)
  (hloop:∀{M':List Addr} {C D:Addr} {s:Shared} {R:Result→Shared→Prop},CA W Γ sc scope n Φ A s₁ s₂ env M M' ρ I C D xs fp P St→CM W s₁ (bq scope sc env C) M' D St 0 #[] 0 [] s→(∀s' m,SX W s₁ s'→s'.heap.Ns C m→Rep s'.heap (C::M) (.ref D) (.list total)→R (.ok .next) s') →
   codeAny (model W.prog W.w) A (.compLoop (.ListComp elt (⟨tgt,iter,ifs,0⟩::rest) scope pos) 0 (.ref I) (.ref D) (bq scope sc env C)) R s)
  (hRR:∀s' D C m,SX W s₁ s'→s₁.heap.get? C=none→s'.heap.Ns C m→s₁.heap.get? D=none→Rep s'.heap (C::M) (.ref D) (.list total)→RR (.ref D) C (.ok .next) s') :
  wpAny (model W.prog W.w) A (newList []) (λacc s₃=>wpAny (model W.prog W.w) A (newFunctionEnv scope env.globals (eG env.cells scope.names []) [] env.qual none .none (some env)) (λcenv s₄ =>
   codeAny (model W.prog W.w) A (.compStart (.ListComp elt (⟨tgt,iter,ifs,0⟩::rest) scope pos) 0 (.ref I) acc {cenv with scope:=c7 scope sc}) (RR acc cenv.locals) s₄) E s₃) E s₂ :=
 comp_coreX (X:=λ_ _=>True) co c T sz (λa m hR=>hloop a m λs' k x y z=>hR s' k x y z trivial) λs' D C m x y z u v _=>hRR s' D C m x y z u v
theorem ue(co:dL sc scope)(tk:ux W Γ Γi sc scope tgt k)(helt:bJ W Γi (c7 scope sc) elt celt)(hifs:rO W Γi (c7 scope sc) ifs cifs)
  {D:Addr}
  (hlet:∀(i:Nat) (s:Shared) (v:Value) (Q:Unit→Shared→Prop) (E:Value→Shared→Prop),St i s.heap→Q () s→wpAny (model W.prog W.w) A (letOwnedTupleGo tgt (.ref I) v) Q E s)
  (e:fx (λz=>(fj k z).bind λt=>ctests Φ cifs (ρ++t)) (λz=>(fj k z).bind λt=>(ak Φ celt (ρ++t)).bind kq) xs=some total)
  (a:CA W Γ sc scope n Φ A s₁ s₂ env M M' ρ I C D xs fp P St) (m4:CM W s₁ (bq scope sc env C) M' D St 0 #[] 0 [] s) (hR:∀s' m,SX W s₁ s'→s'.heap.Ns C m→Rep s'.heap (C::M) (.ref D) (.list total)→R (.ok .next) s') :
  codeAny (model W.prog W.w) A (.compLoop (.ListComp elt [⟨tgt,iter,ifs,0⟩] scope pos) 0 (.ref I) (.ref D) (bq scope sc env C)) R s :=
 xU co rfl rfl tk helt hifs a hlet (λ_ _ h=>aJ h) (λ_ _ _ h e=>(aJ h).elim λ_ q=>am (q.1.symm.trans e)▸q.2) m4 e hR
noncomputable def i9(W:Wd)(Γ:eX)(sc scope:Scope)(elt:Expr)(gens:List Comprehension)(pos:Pos)(c:CE):Prop :=
 ∀(n:Nat) (Φ:jU) (A:Around) (s:Shared) (env:Env) (M:List Addr) (ρ:Ev) (v:V) (use:Option (Value→Sem Unit)) (E:Value→Shared→Prop) (Q:Value→Shared→Prop),Cx W Γ sc n Φ A s env M ρ→ak Φ c ρ=some v →
  (∀total s₁ s' D C m,v=.d (.list total)→SX W s s₁→SX W s₁ s'→s₁.heap.get? C=none→s'.heap.Ns C m→s₁.heap.get? D=none→Rep s'.heap (C::M) (.ref D) (.list total)→compPost (model W.prog W.w) A E use Q (.ref D) C (.ok .next) s') →
  wpAny (model W.prog W.w) A (comprehension (.ListComp elt gens scope pos) scope env (firstIterPos gens pos) (newList []) (firstAsync gens) (firstIter gens env) use) Q E s
theorem mS{cc:CE}(H:i9 W Γ sc scope elt gens pos cc):bJ W Γ sc (.ListComp elt gens scope pos) cc:=λn Φ A s env M ρ v E Q c e h=>by
 simp only[eval_ListComp]
 refine H n Φ A s env M ρ v none E Q c e λtotal s₁ s' D C m hv x1 x2 hC hm hD hr=>⟨m,hm,λh' hsb=>?_⟩
 rw[hv] at h
 have x3:SX W s₁ {s' with heap:=h'}:=SX.upd (tk:=s'.toks) x2 hsb.extBut hC (iM hm) x1.good
 exact h _ _ (x1.trans x3) (hr.mono (λb o hb e _=>hsb.extBut b o (λq=>hb (by simp only[q];exact al)) e) λa ha=>.inl (aj _ ha))
theorem AI(co:dL sc scope)(hx:scope.names.lookup x=some .local∨scope.names.lookup x=some .cell)
  (hs:eY iter=false) (hit:bJ W Γ sc iter cit) (helt:bJ W (f7 Γ scope x) (c7 scope sc) elt celt) (hifs:rO W (f7 Γ scope x) (c7 scope sc) ifs cifs) :
  i9 W Γ sc scope elt [⟨.Name x px,iter,ifs,0⟩] pos (.comp 0 celt cit cifs):=λn Φ A s env M ρ v use E Q c e h=>by
 refine aa λhQ=>?_
 refine aa λhQ=>?_
 obtain⟨u,e1,e⟩:=aJ e
 obtain⟨xs,e2,e⟩:=aJ e
 obtain⟨total,e3,rfl⟩:=aH.mp e
 (refine hQ ?_;clear hQ)
 (refine hQ ?_;clear hQ)
 have hclos:closureFor scope env=pure (eG env.cells scope.names []):=fv λp hp hf=>by
  obtain⟨y,k⟩:=p
  have hf:k=.free:=hf
  subst hf
  exact c.env.cells y (co.free y hp)
 have hfold:∀z,foldedSetIterable iter env z=pure z:=λz=>by
  cases iter<;>first | rfl | cases hs
 refine wpAny_comprehension_free (use:=use) rfl hfold hclos co.kind (λp hp hl=>gl co.nd (by obtain⟨y,k⟩:=p;have hl:k=.local:=hl;subst hl;exact hp)) ?_
 refine hit n Φ A s env M ρ u E _ c e1 λxv s₁ x1 r1=>?_
 refine(jg (M:=M) c.room x1.good r1 e2 λI s₂ fp P St T=>?_).2
 rw[jA c.env]
 refine mQ (RR:=λacc C=>compPost (model W.prog W.w) A E use Q acc C) co (c.ext x1) T ((jg (M:=M) (E:=E) (Q:=λ_ _=>True) c.room x1.good r1 e2 λ_ _ _ _ _ _=>trivial).1) (ue co (oi co hx) helt hifs (λ_ _ _ _ _ _ hq=>aB hq) e3) λs' D C m x2 hC hm hD hr=>h total s₁ s' D C m rfl x1 x2 hC hm hD hr
theorem zc(co:dL sc scope)(hx:scope.names.lookup x=some .local∨scope.names.lookup x=some .cell)(hy:scope.names.lookup y=some .local∨scope.names.lookup y=some .cell)(hxy:x≠y)
  (hs:eY iter=false) (hit:bJ W Γ sc iter cit) (helt:bJ W (mI Γ scope x y) (c7 scope sc) elt celt) :
  i9 W Γ sc scope elt [⟨.Tuple [.Name x px,.Name y py] kk pt,iter,[],0⟩] pos (.compT celt cit):=λn Φ A s env M ρ v use E Q c e h=>by
 refine aa λhQ=>?_
 obtain⟨u,e1,e⟩:=aJ e
 obtain⟨xs,e2,e⟩:=aJ e
 obtain⟨sz,e⟩:=dn e
 obtain⟨total,e3,e9⟩:=aH.mp e
 (refine hQ ?_;clear hQ)
 rw[fF e2] at e1
 have hclos:closureFor scope env=pure (eG env.cells scope.names []):=fv λp hp hf=>c.env.cells p.1 (co.free p.1 (hf▸hp))
 have hfold:∀z,foldedSetIterable iter env z=pure z:=λz=>by
  cases iter<;>first | rfl | cases hs
 refine wpAny_comprehension_free (use:=use) rfl hfold hclos co.kind (λp hp hl=>gl co.nd (hl▸hp)) ?_
 refine hit n Φ A s env M ρ _ E _ c e1 λxv s₁ x1 r1=>?_
 refine vO r1 λl vs k2 h1 h2 h3=>?_
 have hln:=h3.length
 simp only[aD] at hln
 have W0:=fS.list (A:=A) (prog:=W.prog) (w:=W.w) s₁.heap.objs.size l (λq=>by simp only[q,bD] at h2;cases h2) vs
 rw[hln] at W0
 refine wpAny_pyIter_list ⟨_,h2,rfl,_,rfl⟩ ?_
 have T:zq W A M s₁ {s₁ with heap:=s₁.heap.push {cls:=.type "list_iterator",data:=.fields #[.ref l,.int 0 0]}} s₁.heap.objs.size xs [s₁.heap.objs.size,l] (λi v=>vs[i]?=some v) (λi h=>h.IsListIter s₁.heap.objs.size l i∧h.IsList l vs) :=
  ⟨W0,λ_=>c.room.hd,⟨⟨_,aI _ rfl,rfl,rfl⟩,⟨_,aC _ h2,rfl,_,rfl⟩⟩,bD _,SX.push (tk:=s₁.toks) x1.good,zT h1 h2 cV,λ_ _ _=>h3.pair,
   λi h o st e=>st.1.elim λo' q=>ig q.1 (gK q.2.1 q.2.2 λ_ _ z=>nomatch z) o e,λi h st=>st.1.elim λo q=>⟨o,q.1⟩⟩
 rw[jA c.env]
 refine mQ (RR:=λacc C=>compPost (model W.prog W.w) A E use Q acc C) co (c.ext x1) T sz (ue (cifs:=[]) co (EA co hx hy hxy) helt .nil (λi s v Q E st hq=>?_) e3) λs' D C m x2 hC hm hD hr=>h total s₁ s' D C m e9.symm x1 x2 hC hm hD hr
 cases v with
 |ref a=>exact wpAny_letOwnedTupleGo_listiter st.1 hq
 |_=>exact aB hq
end
section
variable{prog:Program}{w:World}
theorem wD{t2:Expr}{it:Value}(hg:gens[0]?=some ⟨target,iter,[],0⟩)(hn:gens[1]?=some ⟨t2,iter2,ifs2,0⟩) :
  compTurn (.ListComp elt gens scope pos) 0 it acc env=(do
   standAt iter.pos
   match ←pyNext it with
   |none=>pure (.done .next)
   |some v =>
    letOwnedTupleGo target it v
    assign target env v
    let x ←eval iter2 env
    standAt iter2.pos
    let x ←foldedSetIterable iter2 env x
    let _ ←runOwn (.compStart (.ListComp elt gens scope pos) 1 (←holding [x] (pyIter x)) acc env) env
    again (.compLoop (.ListComp elt gens scope pos) 0 it acc env)):=by
 unfold compTurn
 dsimp only
 rw[hg]
 dsimp only
 rw[hn]
 rfl
theorem vR{t2:Expr}{it:Value}(hg:gens[0]?=some ⟨target,iter,[],0⟩)(hn:gens[1]?=some ⟨t2,iter2,ifs2,0⟩)(hf:∀z,foldedSetIterable iter2 env z=pure z)(I:Nat→Shared→Prop)
  (turn:∀n s,I n s→wpAny (model prog w) A (pyNext it) (λr s₁=>match r with
   |none=>R (.ok .next) s₁
   |some v=>wpAny (model prog w) A (letOwnedTupleGo target it v) (λ_ s₁=>wpAny (model prog w) A (assign target env v) (λ_ s₂ =>
    wpAny (model prog w) A (eval iter2 env) (λx s₃=>wpAny (model prog w) A (pyIter x) (λj s₄ =>
     codeAny (model prog w) A (.compStart (.ListComp elt gens scope pos) 1 j acc env) (λr s₅=>match r with | .ok _=>∃m,m<n∧I m s₅ | .error e=>cameBackBy (model prog w) A env (notedBy (model prog w) A env λe s'=>R (.error e) s') e s₅) s₄)
     (notedBy (model prog w) A env λe s'=>R (.error e) s') s₃) (notedBy (model prog w) A env λe s'=>R (.error e) s') s₂) (notedBy (model prog w) A env λe s'=>R (.error e) s') s₁) (notedBy (model prog w) A env λe s'=>R (.error e) s') s₁) (notedBy (model prog w) A env λe s'=>R (.error e) s') s)
  (n:Nat) (h:I n s):codeAny (model prog w) A (.compLoop (.ListComp elt gens scope pos) 0 it acc env) R s:=by
 refine codeAny_loop rfl I (λn s hI=>?_) n h
 show wpAny _ A ((compTurn (.ListComp elt gens scope pos) 0 it acc env).onRaise (λx=>do noteFrame x env;theTreesLotGoes x)) _ _ s
 refine wpAny_noted ?_
 rw[wD hg hn]
 refine ac (bP (ac (bA (turn n s hI) (λr s₁ h₁=>?_) λ_ _ h'=>h')))
 cases r with
 |none=>exact aB h₁
 |some v =>
  refine ac (bA h₁ (λ_ s₁ h₁=>ac (bA h₁ (λ_ s₂ h₂=>ac (bA h₂ (λx s₃ h₃=>ac (bP ?_)) λ_ _ h'=>h')) λ_ _ h'=>h')) λ_ _ h'=>h')
  rw[hf]
  refine ac (aB (ac (aX (bA h₃ (λj s₄ h₄=>ac (wpAny_runOwn (h:=none) (Q:=λ_ s₅=>wpAny (model prog w) A (again (.compLoop (.ListComp elt gens scope pos) 0 it acc env)) _ _ s₅) (codeAny_mono h₄ λr s₅ h₅=>?_))) λ_ _ h'=>h'))))
  cases r with
  |ok f=>exact aB ⟨rfl,h₅⟩
  |error e=>exact h₅
theorem rJ{t1 i1:Expr}{ifs1:List Expr}{it:Value}
  (h0:codeAny (model prog w) A (.compLoop (.ListComp elt [⟨t1,i1,ifs1,0⟩,⟨target,iter,ifs,0⟩] scope pos) 1 it acc env) R s)
  (h:wpAny (model prog w) A (pyIter it) (λit' s'=>codeAny (model prog w) A (.compLoop (.ListComp elt [⟨t1,i1,ifs1,0⟩,⟨target,iter,ifs,0⟩] scope pos) 1 it' acc env) R s')
   (notedBy (model prog w) A env λx s'=>R (.error x) s') s) :
  codeAny (model prog w) A (.compStart (.ListComp elt [⟨t1,i1,ifs1,0⟩,⟨target,iter,ifs,0⟩] scope pos) 1 it acc env) R s:=by
 refine codeAny_of_tree ?_
 show wpAny _ _ ((compStart (.ListComp elt [⟨t1,i1,ifs1,0⟩,⟨target,iter,ifs,0⟩] scope pos) 1 it acc env).onRaise (λx=>do noteFrame x env;standAt theWindowsPlace)) _ _ s
 refine wpAny_notedAt ?_
 unfold compStart
 show wpAny _ _ (ask>>=_) _ _ s
 refine ac (wpAny_askSetting (wpAny_ite ?_))
 split
 ·exact ac (aB (aB (And.intro rfl h0)))
 ·refine ac (wpAny_rule ?_)
  show wpAny _ _ (standAt iter.pos>>=_) _ _ s
  exact ac (bP (ac (bA h (λit' s' h'=>aB (And.intro rfl h')) λ_ _ x=>x)))
end
section
variable{W:Wd}{Γ:eX}{sc:Scope}{M₂:List Addr}{D:Addr}{m:Nat}{ys:Array Value}{done:List PyData}
theorem qW{p:Addr}(hk:∀b o,b≠p→h.get? b=some o→h'.get? b=some o)(hC:K.locals≠p)(hc:∀y b v,K.cells.lookup y=some b→h.IsCell b v→b≠p)(r:c_ h K x v):c_ h' K x v :=
 r.imp (λq=>⟨q.1,q.2.imp λm q=>⟨q.1.extBut (b:=p) (λb o hb e=>hk b o hb e) hC,q.2⟩⟩) λq=>⟨q.1,q.2.imp λc q=>⟨q.1,q.2.imp λo e=>⟨hk _ _ (hc x c _ q.1 q.2) e.1,e.2⟩⟩⟩
theorem CM.chg(a:CA W Γ sc scope n Φ A s₁ s₂ env M M' ρ I C D xs fp P St)(h:CM W s₁ (bq scope sc env C) M' D St i ys m done s){p:Addr}(hk:∀b o,b≠p→s.heap.get? b=some o→h'.get? b=some o)(hp:p∈M')(hn:s₁.heap.get? p=none)
  (hs:∀o,s.heap.get? p=some o→eW o) (hf:p∉fp) (hD:p≠D) (hC:C≠p) (hc:∀y b v,(bq scope sc env C).cells.lookup y=some b→s.heap.IsCell b v→b≠p) (ho:∃o,h'.get? p=some o∧¬b_ o):CM W s₁ (bq scope sc env C) M' D St i ys m done {s with heap:=h',toks:=tk} :=
 ⟨h.x.upd hk hn hs a.c.good,a.T.walks.frame _ _ _ h.st λb hb o e=>hk b o (λq=>hf (q▸hb)) e,hk _ _ (Ne.symm hD) h.d,h.r.mono (λb o hb e _=>hk b o (λq=>hb (q▸hp)) e) λa ha=>.inl ha,nW h.lay hk hC hc,nV h.mok hk ho⟩
structure CJ(W:Wd)(s₁:Shared)(K:Env)(M₂:List Addr)(D:Addr)(St:Nat→Heap→Prop)(i:Nat)(x:Str)(v:Value)(d:PyData)(I₂ l₂:Addr)(vs₂:Array Value)(k₂:Nat)(ds:List PyData)(ys:Array Value)(m:Nat)(done:List PyData)(j:Nat)(s:Shared):Prop where
 cm:CM W s₁ K M₂ D St i ys m done s
 hv:c_ s.heap K x v
 rv:Rep s.heap M₂ v d
 it:s.heap.IsListIter I₂ l₂ j
 ls:s.heap.get? l₂=some (bU vs₂ k₂)
 rs:Reps s.heap M₂ vs₂.toList ds
structure CI(s₁:Shared)(K:Env)(M₂ fp:List Addr)(D I₂ l₂:Addr)(y:Str):Prop where
 mem:I₂∈M₂
 new:s₁.heap.get? I₂=none
 nf:I₂∉fp
 nD:I₂≠D
 nC:K.locals≠I₂
 nl:l₂∉M₂
 ny:I₂≠locOf K y
theorem x_{g1:Comprehension}(co:dL sc scope)(hy:scope.names.lookup y=some .local∨scope.names.lookup y=some .cell)(hxy:x≠y)(helt:bJ W (mI Γ scope x y) (c7 scope sc) elt celt)
  (a:CA W Γ sc scope n Φ A s₁ s₂ env M M₂ ρ I C D xs fp P St) {I₂ l₂:Addr} (b:CI s₁ (bq scope sc env C) M₂ fp D I₂ l₂ y) {vs₂:Array Value} {k₂:Nat} {zs:List PyData}
  (hfm:∀e z,fm e=some z→(ak Φ celt (ρ++[.sh (.d d),.sh (.d e)])).bind kq=some z) (j0:CJ W s₁ (bq scope sc env C) M₂ D St i x v d I₂ l₂ vs₂ k₂ ds ys m done 0 s) (e:fx (λ_=>some true) fm ds=some zs) (hsz:ys.size+ds.length≤2^21)
  (hR:∀ys' m' s' h' tk,ys'.size≤ys.size+ds.length→CM W s₁ (bq scope sc env C) M₂ D St i ys' m' (done++zs) s'→(∀o,s'.heap.get? I₂=some o→eW o)→(∀b o,b≠I₂→s'.heap.get? b=some o→h'.get? b=some o)→R (.ok .next) {s' with heap:=h',toks:=tk}) :
  codeAny (model W.prog W.w) A (.compLoop (.ListComp elt [g1,⟨.Name y py,iter2,[],0⟩] scope pos) 1 (.ref I₂) (.ref D) (bq scope sc env C)) R s:=by
 have ly:nI scope (bq scope sc env C) y:=yD hy a.ek
 obtain⟨Inv,hI⟩:∃Inv:Nat→Shared→Prop,∀k s,Inv k s↔∃z:(Nat×Nat)×Array Value×List PyData×List PyData,k=ds.length+1-z.1.1∧CJ W s₁ (bq scope sc env C) M₂ D St i x v d I₂ l₂ vs₂ k₂ ds z.2.1 z.1.2 (done++z.2.2.1) z.1.1 s∧CP (λ_=>some true) fm ds zs z.1.1 z.1.1 z.2.2.1 z.2.2.2∧z.2.1.size≤ys.size+z.1.1:=⟨_,λ_ _=>Iff.rfl⟩
 refine mi rfl rfl Inv (λk s' hh=>?_) (ds.length+1-0) ((hI _ _).mpr ⟨⟨⟨0,m⟩,ys,[],zs⟩,rfl,(bE done).symm▸j0,⟨bo _,e,rfl,aF _⟩,aF _⟩)
 refine aa λhQ=>?_
 obtain⟨⟨⟨j,m'⟩,ys',done',rest⟩,hk,hj,hp,hys⟩:=(hI _ _).mp hh
 (refine hQ ?_;clear hQ)
 clear hh j0 e
 dsimp only at hk hj hp hys
 have hln:=hj.rs.length
 simp only[aD] at hln
 have hll:s'.heap.IsList l₂ vs₂:=⟨_,hj.ls,rfl,_,rfl⟩
 have nl:l₂≠I₂:=λq=>b.nl (q▸b.mem)
 by_cases hlt:j<ds.length
 ·have hd:ds[j]?=some ds[j]:=aQ hlt
  generalize ds[j]=dj at hd
  have hvj:vs₂[j]?=some (vs₂[j]'(by rw[hln];exact hlt)):=getElem?_pos vs₂ j (by rw[hln];exact hlt)
  generalize vs₂[j]'(by simp only[hln];exact hlt)=vj at hvj
  rcases hp.step hd with⟨et,_⟩ | ⟨_,z,rest',ez,hp⟩
  ·cases et
  refine aa λhQ=>?_
  obtain⟨yv,ey1,ey2⟩:=aJ (hfm _ _ ez)
  (refine hQ ?_;clear hQ)
  refine wpAny_pyNext_list_item hj.it hll hvj λh6 it6 sb6=>?_
  have hk6:∀b o,b≠I₂→s'.heap.get? b=some o→h6.get? b=some o:=λb o hb e=>sb6.extBut b o hb e
  have cell2:∀y b v,(bq scope sc env C).cells.lookup y=some b→s'.heap.IsCell b v→b≠I₂:=λ_ _ _ _ hc q=>by
   obtain⟨_,e1,e2⟩:=hc
   obtain⟨o',r1,r2,r3⟩:=hj.it
   simp only[q,r1] at e1;cases e1;replace e2:=r3▸e2;cases e2
  have m6:=CM.chg (tk:=s'.toks) a hj.cm hk6 b.mem b.new (λo e=>hj.it.elim λo' q=>ig q.1 (gK q.2.1 q.2.2 λ_ _ z=>nomatch z) o e) b.nf b.nD b.nC cell2 (it6.imp λo q=>⟨q.1,(gK q.2.1 q.2.2 (by intro _ _ z;cases z)).1⟩)
  have hv6:=qW hk6 b.nC cell2 hj.hv
  have r6:∀{v d},Rep s'.heap M₂ v d→Rep h6 M₂ v d:=λr=>r.mono (λc o hb e _=>hk6 c o (λq=>hb (q▸b.mem)) e) λa ha=>.inl ha
  refine aB ?_
  refine wpAny_assign_Name (ii (s:={s' with heap:=h6}) a.ek m6.lay (kA hy) λh₇ tk₇ hk7 lay7 hv7 old7=>?_)
  have m7:=CM.store (tk:=tk₇) a ly m6 lay7 hk7
  have r7:∀{v d},Rep h6 M₂ v d→Rep h₇ M₂ v d:=λr=>r.mono (λb o hb e _=>hk7 b o (λq=>hb (by simp only[q];exact(a.loc ly).1)) e) λa ha=>.inl ha
  have hv7x:=old7 x v hxy hv6
  refine wpAny_tests_nil ?_
  show wpAny _ _ _ _ _ _
  refine helt n Φ A {s' with heap:=h₇,toks:=tk₇} _ M₂ _ yv _ _ (qz (s':={s' with heap:=h₇,toks:=tk₇}) co a.c a.ek m7.x a.hM m7.mok lay7 hv7x hv7 (r7 (r6 hj.rv)) (r7 (r6 (hj.rs.pair hvj hd)))) ey1 λw s₉ x9 r9=>?_
  simp only[eO ey2] at r9
  have m9:=m7.ext a x9
  refine iU m9.d (by unfold sizeLine;lia) λh10 d10 hk10=>?_
  have k10:∀c o,c≠D→c≠locOf (bq scope sc env C) y→h6.get? c=some o→¬b_ o→h10.get? c=some o:=λc o h1 h2 e n=>hk10 c o h1 (x9.keep c o (hk7 c o h2 e) n)
  have cell10:∀y b v,(bq scope sc env C).cells.lookup y=some b→s₉.heap.IsCell b v→b≠D:=λ_ _ _ _ hc q=>by
   obtain⟨_,e1,e2⟩:=hc
   simp only[q,m9.d] at e1;cases e1;cases e2
  have r10:∀{v d},Rep h₇ M₂ v d→Rep h10 M₂ v d:=λr=>(r.mono (M':=M₂) (λb o _ e n=>x9.keep b o e n) λa ha=>.inl ha).mono (λb o hb e _=>hk10 b o (λq=>hb (by rw[q];exact a.hD)) e) λa ha=>.inl ha
  refine⟨_,(by rw[hk];exact Nat.sub_lt_sub_left (Nat.lt_succ_of_lt hlt) (bO j)),(hI _ _).mpr ⟨⟨⟨j+1,m'+1⟩,ys'.push w,done'++[z],rest'⟩,rfl,⟨by rw[←bu];exact(m9.app a r9 d10 hk10),qW hk10 (Ne.symm a.hDC) cell10 (hv7x.ext x9),r10 (r7 (r6 hj.rv)),?_,?_,?_⟩,⟨hp.le,hp.run,hp.eq,aF _⟩,by rw[Array.size_push];exact cK hys⟩⟩
  ·exact it6.imp λo q=>⟨k10 I₂ o b.nD b.ny q.1 (gK q.2.1 q.2.2 (by intro _ _ z;cases z)).1,q.2⟩
  ·exact k10 l₂ _ (λq=>b.nl (q▸a.hD)) (λq=>b.nl (q▸(a.loc ly).1)) (hk6 _ _ nl hj.ls) cV
  ·have q6:Reps h6 M₂ vs₂.toList ds:=hj.rs.mono (λc o hb e _=>hk6 c o (λq=>hb (q▸b.mem)) e) λa ha=>.inl ha
   have q7:Reps h₇ M₂ vs₂.toList ds:=q6.mono (λb o hb e _=>hk7 b o (λq=>hb (by simp only[q];exact(a.loc ly).1)) e) λa ha=>.inl ha
   exact(q7.mono (M':=M₂) (λb o _ e n=>x9.keep b o e n) λa ha=>.inl ha).mono (λb o hb e _=>hk10 b o (λq=>hb (by rw[q];exact a.hD)) e) λa ha=>.inl ha
 ·refine pR (a.c.room.hd hj.cm.x.good) hj.it hll (by rw[getElem?_neg];rw[hln];exact hlt) λh' hx=>?_
  have hz:=hp.last hlt
  simp only[←hz] at hj
  exact hR ys' m' s' h' s'.toks (by have:=hp.le;(clear hz hx hlt nl hll hln hp hj hk hI ly hR hsz hfm b a helt hxy hy co;lia)) hj.cm (λo e=>hj.it.elim λo' q=>ig q.1 (gK q.2.1 q.2.2 λ_ _ z=>nomatch z) o e) λb o hb e=>hx b o hb e
theorem CA.more(a:CA W Γ sc scope n Φ A s₁ s₂ env M M' ρ I C D xs fp P St){J:Addr}(hJ:s₁.heap.get? J=none):CA W Γ sc scope n Φ A s₁ s₂ env M (J::M') ρ I C D xs fp P St :=
 {a with
  hM:=λb hb=>(ah.mp hb).elim (λe=>.inr (e▸hJ)) (a.hM b)
  hMM:=λb hb=>.tail _ (a.hMM b hb)
  hD:=.tail _ a.hD
  hI:=.tail _ a.hI
  hC:=.tail _ a.hC
  hcell:=λy b h1 h2=>(a.hcell y b h1 h2).imp (.tail _) id}
theorem zj{f:PyData→Option (List PyData)}{rest:List PyData}(hd:xs[i]?=some d)(h:lu f (xs.drop i)=some rest):∃zs rest',f d=some zs∧lu f (xs.drop (i+1))=some rest'∧rest=zs++rest':=by
 refine aa λhQ=>?_
 obtain⟨hlt,rfl⟩:=aS.mp hd
 obtain⟨zs,h1,h2⟩:=aJ (show(f xs[i]).bind (λa=>(lu f (xs.drop (i+1))).map (a++·))=some rest from(congrArg (lu f) (cH hlt)).symm.trans h)
 obtain⟨rest',h3,h4⟩:=aH.mp h2
 (refine hQ ?_;clear hQ)
 exact⟨zs,rest',h1,h3,h4.symm⟩
theorem B6{iter1:Expr}{cb:CE}(co:dL sc scope)(hx:scope.names.lookup x=some .local∨scope.names.lookup x=some .cell)(hy:scope.names.lookup y=some .local∨scope.names.lookup y=some .cell)(hxy:x≠y)(hs2:eY iter2=false)
  (hit2:bJ W (f7 Γ scope x) (c7 scope sc) iter2 cb) (helt:bJ W (mI Γ scope x y) (c7 scope sc) elt celt) (ht:c0 total.length=true)
  (e:lu (λx=>(ak Φ cb (ρ++[.sh (.d x)])).bind λw=>(g8 w).bind λys=>if c0 ys.length then fx (λ_=>some true) (λy=>(ak Φ celt (ρ++[.sh (.d x),.sh (.d y)])).bind kq) ys else none) xs=some total)
  (a:CA W Γ sc scope n Φ A s₁ s₂ env M M' ρ I C D xs fp P St) (m4:CM W s₁ (bq scope sc env C) M' D St 0 #[] 0 [] s) (hR:∀s' m,SX W s₁ s'→s'.heap.Ns C m→Rep s'.heap (C::M) (.ref D) (.list total)→R (.ok .next) s') :
  codeAny (model W.prog W.w) A (.compLoop (.ListComp elt [⟨.Name x px,iter1,[],0⟩,⟨.Name y py,iter2,[],0⟩] scope pos) 0 (.ref I) (.ref D) (bq scope sc env C)) R s:=by
 have lx:nI scope (bq scope sc env C) x:=yD hx a.ek
 have hfold:∀z,foldedSetIterable iter2 (bq scope sc env C) z=pure z:=λz=>by
  cases iter2<;>first | rfl | cases hs2
 refine aa λhQ=>?_
 obtain⟨f,hf⟩:∃f,f=(λx=>(ak Φ cb (ρ++[.sh (.d x)])).bind λw=>(g8 w).bind λys=>if c0 ys.length then fx (λ_=>some true) (λy=>(ak Φ celt (ρ++[.sh (.d x),.sh (.d y)])).bind kq) ys else none):=⟨_,rfl⟩
 rw[←hf] at e
 obtain⟨Inv,hI⟩:∃Inv:Nat→Shared→Prop,∀k s,Inv k s↔∃z:(Nat×Nat)×Array Value×List PyData×List PyData,k=xs.length+1-z.1.1∧z.1.1≤xs.length∧CM W s₁ (bq scope sc env C) M' D St z.1.1 z.2.1 z.1.2 z.2.2.1 s∧lu f (xs.drop z.1.1)=some z.2.2.2∧total=z.2.2.1++z.2.2.2:=⟨_,λ_ _=>Iff.rfl⟩
 (refine hQ ?_;clear hQ)
 refine vR rfl rfl hfold Inv (λk s' hh=>?_) (xs.length+1-0) ((hI _ _).mpr ⟨⟨⟨0,0⟩,#[],[],total⟩,rfl,bo _,m4,e,rfl⟩)
 refine aa λhQ=>?_
 obtain⟨⟨⟨i,m⟩,ys,done,rest⟩,hk,hi,hm,hrun,htot⟩:=(hI _ _).mp hh
 (refine hQ ?_;clear hQ)
 clear hh m4 e
 dsimp only at hk hi hm hrun htot
 by_cases hlt:i<xs.length
 ·have hd:xs[i]?=some xs[i]:=aQ hlt
  have hlow:xs.length+1-(i+1)<k:=by simp only[hk];exact Nat.sub_lt_sub_left (Nat.lt_succ_of_lt hlt) (bO i)
  refine aa λhQ=>?_
  obtain⟨zs,rest',ef,er,erest⟩:=zj hd hrun
  (refine hQ ?_;clear hQ)
  generalize xs[i]=d at hd ef
  rw[hf] at ef
  refine aa λhQ=>?_
  obtain⟨w,ew,ef⟩:=aJ ef
  obtain⟨ds,eds,ef⟩:=aJ ef
  obtain⟨sz2,ef⟩:=dn ef
  (refine hQ ?_;clear hQ)
  simp only[fF eds] at ew
  refine a.T.walks.item i s' _ _ hlt hm.st λv h' tk1 hP st6 hk6=>?_
  have m6:=hm.next (tk:=tk1) co a st6 hk6
  refine aB ?_
  refine oi co hx a m6 ((a.T.rep i v _ hP hd).mono (λb o _ e n=>m6.x.keep b o e n) a.hM) rfl λs₇ m7 cx7=>?_
  refine hit2 n Φ A s₇ _ M' _ _ _ _ cx7 ew λlv s₈ x8 r8=>?_
  have m8:=m7.ext a x8
  obtain⟨_,val,hv7,rv7⟩:=cx7.vis x Γ.size (by unfold f7;simp only[List.lookup_cons,beq_self_eq_true]) (.sh (.d d)) (by simp only[←a.c.len,aM (aF _),Nat.sub_self];rfl)
  have rv7:Rep s₇.heap M' val d:=rv7
  refine vO r8 λl₂ vs₂ k₂ g1 g2 g3=>?_
  have hln:=g3.length
  rw[aD] at hln
  refine wpAny_pyIter_list ⟨_,g2,rfl,_,rfl⟩ ?_
  have x9:SX W s₈ {s₈ with heap:=s₈.heap.push {cls:=.type "list_iterator",data:=.fields #[.ref l₂,.int 0 0]}}:=SX.push (tk:=s₈.toks) m8.x.good
  have f8:s₈.heap.get? s₈.heap.objs.size=none:=bD _
  have f1:s₁.heap.get? s₈.heap.objs.size=none:=m8.x.fresh f8
  have old:∀{c},c∈M'→c≠s₈.heap.objs.size:=λhc q=>(m8.mok _ hc).elim λo e=>by rw[q,f8] at e;cases e.1
  have it9:(s₈.heap.push {cls:=.type "list_iterator",data:=.fields #[.ref l₂,.int 0 0]}).IsListIter s₈.heap.objs.size l₂ 0:=⟨_,aI _ rfl,rfl,rfl⟩
  have grow:∀{v d},Rep s₈.heap M' v d→Rep (s₈.heap.push {cls:=.type "list_iterator",data:=.fields #[.ref l₂,.int 0 0]}) (s₈.heap.objs.size::M') v d:=λr=>r.mono (λb o _ e n=>x9.keep b o e n) λc hc=>(ah.mp hc).elim (λq=>.inr (q▸f8)) .inl
  have ff:s₈.heap.objs.size∉fp:=λhb=>by
   by_cases q:s₈.heap.objs.size=I
   ·exact old a.hI q.symm
   ·obtain⟨_,o,e1,_⟩:=a.T.old _ hb q
    replace e1:=f1▸e1;cases e1
  have m9:=m8.ext a x9
  have cj:CJ W s₁ (bq scope sc env C) (s₈.heap.objs.size::M') D St (i+1) x val d s₈.heap.objs.size l₂ vs₂ k₂ ds ys m done 0 {s₈ with heap:=s₈.heap.push {cls:=.type "list_iterator",data:=.fields #[.ref l₂,.int 0 0]}} :=
   ⟨⟨m9.x,m9.st,m9.d,m8.r.mono (λb o _ e n=>x9.keep b o e n) λc hc=>(ah.mp hc).elim (λq=>.inr (q▸f8)) .inl,m9.lay,aL.mpr ⟨it9.imp λo q=>⟨q.1,(gK q.2.1 q.2.2 (by intro _ _ z;cases z)).1⟩,m9.mok⟩⟩,
    (hv7.ext x8).ext x9,grow (rv7.mono (M':=M') (λb o _ e n=>x8.keep b o e n) λa ha=>.inl ha),it9,x9.keep _ _ g2 cV,g3.mono (λb o _ e n=>x9.keep b o e n) λc hc=>(ah.mp hc).elim (λq=>.inr (q▸f8)) .inl⟩
  have hds:=cW sz2
  have htl:=cW ht
  have hyl:ys.size≤total.length:=by
   have:=hm.r.length
   simp only[aD] at this
   simp only[this,htot,aG];exact ay _ _
  have inner:∀{R':Result→Shared→Prop},(∀s',Inv (xs.length+1-(i+1)) s'→R' (.ok .next) s')→codeAny (model W.prog W.w) A (.compLoop (.ListComp elt [⟨.Name x px,iter1,[],0⟩,⟨.Name y py,iter2,[],0⟩] scope pos) 1 (.ref s₈.heap.objs.size) (.ref D) (bq scope sc env C)) R' {s₈ with heap:=s₈.heap.push {cls:=.type "list_iterator",data:=.fields #[.ref l₂,.int 0 0]}}:=λ{R'} hR' =>
   x_ co hy hxy helt (a.more f1) (⟨al,f1,ff,Ne.symm (old a.hD),old a.hC,λq=>(ah.mp q).elim (λq=>by simp only[q,f8] at g2;cases g2) g1,Ne.symm (old (a.loc (yD hy a.ek)).1)⟩) (λe z h=>h) cj ef (ab (Nat.add_le_add hyl hds) (bd (by decide) htl)) λys' m' s' h' tk _ mz hsz hkz=>hR' _ ((hI _ _).mpr ⟨⟨⟨i+1,m'⟩,ys',done++zs,rest'⟩,rfl,hlt,
    ⟨mz.x.upd hkz f1 hsz a.c.good,a.T.walks.frame _ _ _ mz.st λb hb o e=>hkz b o (λq=>ff (q▸hb)) e,hkz _ _ (old a.hD) mz.d,
     mz.r.mono (M':=M') (λb o hb e _=>hkz b o (λq=>hb (q▸al)) e) (λc hc=>.inl (.tail _ hc)),
     nW mz.lay hkz (old a.hC) (λy b v h1 _ q=>(m8.lay.cell y b h1).elim λ_ h=>h.elim λo h=>by simp only[q,f8] at h;cases h.1),
     λc hc=>(mz.mok c (.tail _ hc)).imp λo e=>⟨hkz c o (old hc) e.1,e.2⟩⟩,er,by simp only[htot,erest,bu]⟩)
  exact rJ (inner λs' hs=>⟨_,hlow,hs⟩) (wpAny_pyIter_listiter it9 (inner λs' hs=>⟨_,hlow,hs⟩))
 ·refine a.T.walks.done s' _ _ (a.T.hd _ hm.x.good) (Nat.le_antisymm hi (be hlt)▸hm.st) λh' tk hk6=>?_
  have hk6:∀b o,b≠I→s'.heap.get? b=some o→h'.get? b=some o:=λb o hb e=>hk6 b o (λq=>hb (aq.mp q)) e
  obtain⟨q,hq⟩:=hm.lay.ns
  refine hR _ q (hm.x.upd hk6 a.T.new (λo=>a.T.soft i s'.heap o hm.st) a.c.good) (hq.extBut (b:=I) (λb o hb e=>hk6 b o hb e) a.hCI) ?_
  replace hrun:=List.drop_of_length_le (be hlt)▸hrun
  have hz:total=done:=by cases hrun;simp only[htot,bE]
  simp only[hz]
  refine .list ?_ (hk6 _ _ a.hDI hm.d) ?_
  ·intro z
   rcases ah.mp z with z | z
   ·exact a.hDC z
   ·obtain⟨o,e,_⟩:=a.c.mok D z;replace e:=a.hDn▸e;cases e
  ·refine hm.r.mono (λb o hb e _=>hk6 b o (λq=>hb (by simp only[q];exact a.hI)) e) λb hb=>?_
   rcases ah.mp hb with rfl | hb
   ·exact .inl a.hC
   ·exact .inl (a.hMM b hb)
theorem Cd{iter1:Expr}{cb:CE}(co:dL sc scope)(hx:scope.names.lookup x=some .local∨scope.names.lookup x=some .cell)(hy:scope.names.lookup y=some .local∨scope.names.lookup y=some .cell)(hxy:x≠y)
  (hs:eY iter1=false) (hs2:eY iter2=false) (hit:bJ W Γ sc iter1 ca) (hit2:bJ W (f7 Γ scope x) (c7 scope sc) iter2 cb) (helt:bJ W (mI Γ scope x y) (c7 scope sc) elt celt) :
  i9 W Γ sc scope elt [⟨.Name x px,iter1,[],0⟩,⟨.Name y py,iter2,[],0⟩] pos (.comp2 celt ca cb):=λn Φ A s env M ρ v use E Q c e h=>by
 refine aa λhQ=>?_
 obtain⟨u,e1,e⟩:=aJ e
 obtain⟨xs,e2,e⟩:=aJ e
 obtain⟨sz,e⟩:=dn e
 obtain⟨total,e3,e⟩:=aJ e
 obtain⟨st,e9⟩:=cq e
 (refine hQ ?_;clear hQ)
 simp only[fF e2] at e1
 have hfold:∀z,foldedSetIterable iter1 env z=pure z:=λz=>by
  cases iter1<;>first | rfl | cases hs
 refine wpAny_comprehension_free (use:=use) rfl hfold (fv λp hp hf=>c.env.cells p.1 (co.free p.1 (hf▸hp))) co.kind (λp hp hl=>gl co.nd (hl▸hp)) ?_
 refine hit n Φ A s env M ρ _ E _ c e1 λxv s₁ x1 r1=>?_
 have e2':fB (.d (.list xs))=some xs:=if_pos sz
 refine(jg (M:=M) c.room x1.good r1 e2' λI s₂ fp P St T=>?_).2
 rw[jA c.env]
 refine mQ (RR:=λacc C=>compPost (model W.prog W.w) A E use Q acc C) co (c.ext x1) T sz (λ{M' C D s R} a m4 hR=>B6 co hx hy hxy hs2 hit2 helt st e3 a m4 hR) λs' D C m x2 hC hm hD hr=>h total s₁ s' D C m e9.symm x1 x2 hC hm hD hr
end
set_option backward.match.sparseCases false
structure Cc where
 fns:List Str
 csts:List (Str×PyData)
 it:Bool:=true
noncomputable def dQ:List (Str×Value):=[(Str.ofString "len",.builtin "len"),(Str.ofString "range",.type "range"),(Str.ofString "sum",.builtin "sum"),(Str.ofString "chr",.builtin "chr"),(Str.ofString "list",.type "list"),
 (Str.ofString "isinstance",.builtin "isinstance"),(Str.ofString "divmod",.builtin "divmod"),(Str.ofString "int",.type "int"),(Str.ofString "reversed",.type "reversed"),(Str.ofString "sorted",.builtin "sorted"),(Str.ofString "enumerate",.type "enumerate")]
noncomputable def zL:List Str→Str→Option Nat
 |[],_=>none
 |y::r,x=>if y==x then some 0 else(zL r x).map (·+1)
noncomputable def xh:List (Nat×Nat×Pf):=[(0,1,.len),(1,1,.range1),(1,3,.range3),(2,1,.sum),(3,1,.chr),(4,1,.listOf),(6,2,.divmod),(9,1,.sorted)]
noncomputable def uV(i:Nat)(x:Str):Bool:=match dQ[i]? with
 |some p=>p.1==x
 |none=>false
noncomputable def vd(x:Str)(n:Nat):Option Pf:=(xh.find? λt=>t.2.1==n&&uV t.1 x).map (·.2.2)
noncomputable def DX:List Pm:=[.join,.split,.startswith,.endswith,.find,.count,.index,.bitLength]
noncomputable def CD(x:Str):Option Pm:=DX.find? λm=>n9 m==x
noncomputable def wv:List (Nat×Nat×Pf):=[(5,7,.isInt)]
noncomputable def xF(x y:Str):Option Pf:=(wv.find? λt=>uV t.1 x&&uV t.2.1 y).map (·.2.2)
noncomputable def gq(sc:Scope)(x:Str):Bool:=bI x&&sc.names.lookup x==some .globalImplicit
noncomputable def jN(sc:Scope)(x:Str):Bool:=sc.names.lookup x==some .local||sc.names.lookup x==some .cell
structure yI(K:Cc)(W:Wd):Prop where
 fns:K.fns=W.fns.map (·.1)
 csts:K.csts=W.csts
 blts:W.blts=dQ
 it:K.it=true→W.exc=none
theorem zR{W:Wd}{x:Str}{l:List (Str×Addr)}:∀{i:Nat},zL (l.map (·.1)) x=some i→∃a,l[i]?=some (x,a):=by
 induction l with
 |nil =>
  intro _ e
  cases e
 |cons hd0 r ih =>
  obtain⟨y,a⟩:=hd0
  intro i e
  replace e:(if(y==x)=true then some 0 else(zL (r.map (·.1)) x).map (·+1))=some i:=e
  by_cases q:(y==x)=true
  ·rw[if_pos q] at e;cases e;have:=bH q;subst this;exact⟨a,rfl⟩
  ·rw[if_neg q] at e
   obtain⟨j,hj,rfl⟩:=aH.mp e
   obtain⟨a',h⟩:=ih hj
   exact⟨a',by simpa using h⟩
theorem pY{x:Str}(h:uV i x=true):∃v,dQ[i]?=some (x,v):=by
 unfold uV at h
 cases e:dQ[i]? with
 |none=>rw[e] at h;cases h
 |some p=>rw[e] at h;exact⟨p.2,by rw[←bH h]⟩
theorem vy:∀t∈xh,(dQ[t.1]?).map (·.2)=some (pw t.2.2)∧om t.2.2=[] :=
 aL.mpr ⟨⟨rfl,rfl⟩,aL.mpr ⟨⟨rfl,rfl⟩,aL.mpr ⟨⟨rfl,rfl⟩,aL.mpr ⟨⟨rfl,rfl⟩,aL.mpr ⟨⟨rfl,rfl⟩,aL.mpr ⟨⟨rfl,rfl⟩,aL.mpr ⟨⟨rfl,rfl⟩,aL.mpr ⟨⟨rfl,rfl⟩,λ_ h=>nomatch h⟩⟩⟩⟩⟩⟩⟩⟩
theorem zf:∀t∈wv,(dQ[t.1]?).map (·.2)=some (pw t.2.2)∧∃T,(dQ[t.2.1]?).map (·.2)=some (Value.type T)∧om t.2.2=[.type T] :=
 aL.mpr ⟨⟨rfl,_,rfl,rfl⟩,λ_ h=>nomatch h⟩
theorem pq{x:Str}(e:vd x n=some f):(x,pw f)∈dQ∧om f=[]:=by
 refine aa λhQ=>?_
 obtain⟨t,h1,rfl⟩:=aH.mp e
 obtain⟨v,hv⟩:=pY (cg.mp (List.find?_some (p:=λ(t:Nat×Nat×Pf)=>t.2.1==n&&uV t.1 x) h1)).2
 obtain⟨h3,h4⟩:=vy t (List.mem_of_find?_eq_some h1)
 (refine hQ ?_;clear hQ)
 rw[hv] at h3
 cases h3
 exact⟨aW hv,h4⟩
theorem xK{x:Str}{m:Pm}(e:CD x=some m):x=n9 m:=(bH (List.find?_some (p:=λm=>n9 m==x) e)).symm
theorem Ho{x y:Str}(e:xF x y=some f):v5 f=true→False:=λq=>by
 obtain⟨t,h1,rfl⟩:=aH.mp e
 have h:=ap.mp (show(wv.all λt=>!v5 t.2.2)=true from rfl) t (List.mem_of_find?_eq_some h1)
 rw[q] at h;cases h
theorem ya{x y:Str}(e:xF x y=some f):∃T,(x,pw f)∈dQ∧(y,Value.type T)∈dQ∧om f=[.type T]:=by
 refine aa λhQ=>?_
 obtain⟨t,h1,rfl⟩:=aH.mp e
 have h2:=cg.mp (List.find?_some (p:=λ(t:Nat×Nat×Pf)=>uV t.1 x&&uV t.2.1 y) h1)
 obtain⟨v,hv⟩:=pY h2.1
 obtain⟨u,hu⟩:=pY h2.2
 obtain⟨h3,T,h4,h5⟩:=zf t (List.mem_of_find?_eq_some h1)
 (refine hQ ?_;clear hQ)
 rw[hv] at h3;cases h3
 rw[hu] at h4;cases h4
 exact⟨T,aW hv,aW hu,h5⟩
theorem dY{sc:Scope}{x:Str}(h:gq sc x=true):bI x=true∧sc.names.lookup x=some .globalImplicit:=by
 unfold gq at h
 rw[ag] at h
 exact⟨h.1,bH h.2⟩
theorem gG{sc:Scope}{x:Str}(h:jN sc x=true):sc.names.lookup x=some .local∨sc.names.lookup x=some .cell:=by
 unfold jN at h
 rw[Bool.or_eq_true] at h
 exact h.imp bH bH
noncomputable def qy(e:Expr):Bool:=!(e.ctorIdx==0||e.ctorIdx==3||e.ctorIdx==5||e.ctorIdx==15)
theorem gh{e:Expr}(h:qy e=true)(env:Env)(w:Sem Value):isTrue e env w=(do let v ←w;standAt e.pos;holding [v] (truthy v)):=by
 cases e<;>first | rfl | cases h
noncomputable def eJ(e:Expr):Option {p:Str×Pos // e=.Name p.1 p.2}:=match e with
 |.Name x p=>some ⟨(x,p),rfl⟩
 |_=>none
noncomputable def vV(e:Expr):Option {p:Expr×Str×Pos // e=.Attribute p.1 p.2.1 p.2.2}:=match e with
 |.Attribute o nm p=>some ⟨(o,nm,p),rfl⟩
 |_=>none
noncomputable def H1(e:Expr):Option {p:List Expr×Nat×Pos // e=.Tuple p.1 p.2.1 p.2.2}:=match e with
 |.Tuple es k p=>some ⟨(es,k,p),rfl⟩
 |_=>none
noncomputable def EQ(e:Expr):Option {p:Option Expr×Option Expr×Option Expr×Pos // e=.Slice p.1 p.2.1 p.2.2.1 p.2.2.2}:=match e with
 |.Slice a b c p=>some ⟨(a,b,c,p),rfl⟩
 |_=>none
theorem DS{a b a' b':Expr}(h1:a=a')(h2:b=b'):Expr.Tuple [a,b] k p=Expr.Tuple [a',b'] k p:=by rw[h1,h2]
noncomputable def HT(e:Expr):Option {p:(Str×Pos)×(Str×Pos)×Nat×Pos // e=.Tuple [.Name p.1.1 p.1.2,.Name p.2.1.1 p.2.1.2] p.2.2.1 p.2.2.2}:=(H1 e).bind λt=>match t with
 |⟨([a,b],k,p),h⟩=>(eJ a).bind λx=>(eJ b).bind λy=>some ⟨(x.1,y.1,k,p),h.trans (DS x.2 y.2)⟩
 |_=>none
noncomputable def IZ(sc scope:Scope)(g:Comprehension)(x:Str):Bool:=decide (g.is_async=0∧mF sc scope=true∧jN scope x=true∧eY g.iter=false∧bI x=true)
noncomputable def II(sc scope:Scope)(g:Comprehension)(x y:Str):Bool:=decide (g.is_async=0∧g.ifs=[]∧mF sc scope=true∧jN scope x=true∧jN scope y=true∧x≠y∧eY g.iter=false)
noncomputable def ID(sc scope:Scope)(g g2:Comprehension)(x y:Str):Bool:=decide ((g.is_async=0∧g2.is_async=0)∧(g.ifs=[]∧g2.ifs=[])∧mF sc scope=true∧jN scope x=true∧jN scope y=true∧x≠y∧eY g.iter=false∧eY g2.iter=false)
theorem DJ{t:Expr}(e:g.target=t)(e2:g.is_async=0):g=⟨t,g.iter,g.ifs,0⟩:=by cases g;cases e;cases e2;rfl
theorem lw{t:Expr}(e:g.target=t)(e2:g.is_async=0)(e3:g.ifs=[]):g=⟨t,g.iter,[],0⟩:=by cases g;cases e;cases e2;cases e3;rfl
noncomputable abbrev Oc{α:Type}(P:α→Prop):Type:=Option {c:α // P c}
noncomputable def iL(b:Bool):Option (PLift (b=true)):=if h:b=true then some ⟨h⟩ else none
noncomputable def Bf{α:Type}(o:Option α):Oc λa=>o=some a:=match o with
 |some a=>some ⟨a,rfl⟩
 |none=>none
theorem yM{b:Bool}(h:(!b)=true):b=false:=by cases b<;>first | rfl | cases h
structure Rc(W:Wd) where
 E:∀(Γ:eX) (sc:Scope) (e:Expr),Oc λc=>bJ W Γ sc e c∧gu W Γ sc e c
 L:∀(Γ:eX) (sc:Scope) (es:List Expr),Oc λcs=>fC W Γ sc es cs
 P:∀(Γ:eX) (sc:Scope) (e:Option Expr),Oc λc=>tQ W Γ sc e c
 B:∀(Γ:eX) (sc:Scope) (op:BoolOp) (es:List Expr),Oc λc=>zo W Γ sc op es c∧q5 W Γ sc op es c
 F:∀(Γ:eX) (sc:Scope) (es:List Expr),Oc λcs=>rO W Γ sc es cs
section
variable{W:Wd}{K:Cc}(ok:yI K W)(r:Rc W)(Γ:eX)(sc:Scope)
noncomputable def Fz{e:Expr}(h:qy e=true)(o:Oc λc=>bJ W Γ sc e c):Oc λc=>bJ W Γ sc e c∧gu W Γ sc e c:=o.map λc=>⟨c.1,c.2,km c.2 (gh h)⟩
noncomputable def Gq(k:Const)(a:Nat)(p:Pos):Oc λc=>bJ W Γ sc (.Constant k a p) c:=match k with
 |.int _=>some ⟨_,hG⟩
 |.str _=>some ⟨_,nJ⟩
 |.bool _=>some ⟨_,BY⟩
 |.none=>some ⟨_,C2⟩
 |_=>none
noncomputable def IC(x:Str)(p:Pos):Oc λc=>bJ W Γ sc (.Name x p) c:=(iL (bI x)).bind λho=>match Bf (Γ.vars.lookup x) with
 |some i=>some ⟨.var i.1,bK ho.1 i.2⟩
 |none=>(iL (gq sc x)).bind λhg=>(Bf (K.csts.lookup x)).map λd=>⟨.lit d.1,Ei ho.1 (dY hg.1).2 (ok.csts▸PySem.mem_of_lookup d.2)⟩
noncomputable def Kn(a:Expr)(ops:List CmpOp)(bs:List Expr)(p:Pos):Oc λc=>bJ W Γ sc (.Compare a ops bs p) c∧gu W Γ sc (.Compare a ops bs p) c:=match ops,bs with
 |[op],[b]=>(iL (!eY b)).bind λhs=>(r.E Γ sc a).bind λca=>(r.E Γ sc b).map λcb=>⟨.cmp op ca.1 cb.1,En ca.2.1 cb.2.1 (yM hs.1),lT ca.2.1 cb.2.1 (yM hs.1)⟩
 |[o1,o2],[b,d]=>(iL (!eY d)).bind λhs=>(r.E Γ sc a).bind λca=>(r.E Γ sc b).bind λcb=>(r.E Γ sc d).map λcd=>⟨.cmp2 o1 o2 ca.1 cb.1 cd.1,Av ca.2.1 cb.2.1 cd.2.1 (yM hs.1),xM ca.2.1 cb.2.1 cd.2.1 (yM hs.1)⟩
 |_,_=>none
noncomputable def JW(a i:Expr)(p:Pos):Oc λc=>bJ W Γ sc (.Subscript a i p) c:=match EQ i with
 |some z=>(r.E Γ sc a).bind λca=>(r.P Γ sc z.1.1).bind λcl=>(r.P Γ sc z.1.2.1).bind λch=>(r.P Γ sc z.1.2.2.1).map λck=>⟨.slice ca.1 cl.1 ch.1 ck.1,Eq.substr (p:=λi=>bJ W Γ sc (.Subscript a i p) _) z.2 (xQ ca.2.1 cl.2 ch.2 ck.2)⟩
 |none=>(r.E Γ sc a).bind λca=>(r.E Γ sc i).map λci=>⟨.item ca.1 ci.1,tT ca.2.1 ci.2.1⟩
noncomputable def Ii(o:Expr)(nm:Str)(apos:Pos)(es:List Expr)(pos:Pos):Oc λc=>bJ W Γ sc (.Call (.Attribute o nm apos) es [] pos) c :=
 (iL (ja o)).bind λh1=>(iL (apos.endLine==pos.line)).bind λh2=>(iL (decide (es.length<30))).bind λh3=>(Bf (CD nm)).bind λm=>(r.E Γ sc o).bind λco=>(r.L Γ sc es).map λcs =>
  ⟨.meth m.1 co.1 cs.1,Eq.substr (p:=λn=>bJ W Γ sc (.Call (.Attribute o n apos) es [] pos) _) (xK m.2) (uP h1.1 h2.1 (of_decide_eq_true h3.1) co.2.1 cs.2)⟩
include ok in
theorem H0{x:Str}{y:Str×Pos}{a b:Expr}(h0:xF x y.1=some f)(e:b=.Name y.1 y.2)(hg:gq sc x=true)(hy:gq sc y.1=true)(hs:eg a=false)(ha:bJ W Γ sc a ca):bJ W Γ sc (.Call (.Name x p) [a,b] [] pos) (.prim f [ca]):=by
 refine aa λhQ=>?_
 obtain⟨T,m1,m2,m3⟩:=ya h0
 (refine hQ ?_;clear hQ)
 subst e
 exact Fa (dY hg).1 (λq=>(Ho h0 q).elim) (dY hg).2 (ok.blts▸m1) (dY hy).1 (dY hy).2 (ok.blts▸m2) m3 hs ha
noncomputable def Kq(x:Str)(px:Pos)(es:List Expr)(pos:Pos)(hg:gq sc x=true):Oc λc=>bJ W Γ sc (.Call (.Name x px) es [] pos) c:=match es with
 |[a,b]=>(eJ b).bind λy=>(Bf (xF x y.1.1)).bind λf=>(iL (gq sc y.1.1)).bind λhy=>(iL (!eg a)).bind λhs=>(r.E Γ sc a).map λca=>⟨.prim f.1 [ca.1],H0 ok Γ sc f.2 y.2 hg hy.1 (yM hs.1) ca.2.1⟩
 |_=>none
include ok in
theorem Ka{x:Str}{es:List Expr}(hg:gq sc x=true)(hi:zL K.fns x=some i)(H:fC W Γ sc es cs):bJ W Γ sc (.Call (.Name x px) es [] pos) (.call i cs) :=
 (zR (W:=W) (ok.fns▸hi)).elim λ_ ha=>CR (dY hg).1 (dY hg).2 ha H
include ok in
theorem GY{x:Str}{es:List Expr}(hg:gq sc x=true)(h0:vd x n=some f)(hp:(!(v5 f&&!K.it))=true)(H:fC W Γ sc es cs):bJ W Γ sc (.Call (.Name x px) es [] pos) (.prim f cs) :=
 snd_prim (dY hg).1 (dY hg).2 (ok.blts▸(pq h0).1) (pq h0).2 (λq=>ok.it (by rw[q] at hp;cases e:K.it with | true=>rfl | false=>rw[e] at hp;cases hp)) H
noncomputable def KY(x:Str)(px:Pos)(es:List Expr)(pos:Pos):Oc λc=>bJ W Γ sc (.Call (.Name x px) es [] pos) c:=(iL (gq sc x)).bind λhg=>match Bf (zL K.fns x) with
 |some i=>(r.L Γ sc es).map λcs=>⟨.call i.1 cs.1,Ka ok Γ sc hg.1 i.2 cs.2⟩
 |none=>(Kq ok r Γ sc x px es pos hg.1).or ((Bf (vd x es.length)).bind λf=>(iL (!(v5 f.1&&!K.it))).bind λhp=>(r.L Γ sc es).map λcs=>⟨.prim f.1 cs.1,GY ok Γ sc hg.1 f.2 hp.1 cs.2⟩)
noncomputable def IT(f:Expr)(es:List Expr)(pos:Pos):Oc λc=>bJ W Γ sc (.Call f es [] pos) c:=match vV f with
 |some z=>(Ii r Γ sc z.1.1 z.1.2.1 z.1.2.2 es pos).map λc=>⟨c.1,Eq.substr (p:=λf=>bJ W Γ sc (.Call f es [] pos) _) z.2 c.2⟩
 |none=>(eJ f).bind λx=>(KY ok r Γ sc x.1.1 x.1.2 es pos).map λc=>⟨c.1,Eq.substr (p:=λf=>bJ W Γ sc (.Call f es [] pos) _) x.2 c.2⟩
section
variable{sc}{Γ}{g2:Comprehension}{x y:Str×Pos}
theorem yi{ci:CE}{cf:List CE}(e:g.target=.Name x.1 x.2)(q:IZ sc scope g x.1=true)(h1:bJ W Γ sc g.iter ci)(h2:bJ W (f7 Γ scope x.1) (c7 scope sc) elt ce)(h3:rO W (f7 Γ scope x.1) (c7 scope sc) g.ifs cf):i9 W Γ sc scope elt [g] pos (.comp 0 ce ci cf) :=
 have q:=of_decide_eq_true q
 Eq.substr (p:=λg=>i9 W Γ sc scope elt [g] pos _) (DJ e q.1) (AI (dL.of q.2.1) (gG q.2.2.1) q.2.2.2.1 h1 h2 h3)
theorem vN{ci:CE}(e:g.target=.Tuple [.Name x.1 x.2,.Name y.1 y.2] k pt)(q:II sc scope g x.1 y.1=true)(h1:bJ W Γ sc g.iter ci)(h2:bJ W (mI Γ scope x.1 y.1) (c7 scope sc) elt ce):i9 W Γ sc scope elt [g] pos (.compT ce ci) :=
 have q:=of_decide_eq_true q
 Eq.substr (p:=λg=>i9 W Γ sc scope elt [g] pos _) (lw e q.1 q.2.1) (zc (dL.of q.2.2.1) (gG q.2.2.2.1) (gG q.2.2.2.2.1) q.2.2.2.2.2.1 q.2.2.2.2.2.2 h1 h2)
theorem xT{c1 c2:CE}(e:g.target=.Name x.1 x.2)(e2:g2.target=.Name y.1 y.2)(q:ID sc scope g g2 x.1 y.1=true)(h1:bJ W Γ sc g.iter c1)(h2:bJ W (f7 Γ scope x.1) (c7 scope sc) g2.iter c2)(h3:bJ W (mI Γ scope x.1 y.1) (c7 scope sc) elt ce):i9 W Γ sc scope elt [g,g2] pos (.comp2 ce c1 c2) :=
 have q:=of_decide_eq_true q
 Eq.substr (p:=λg=>i9 W Γ sc scope elt [g,_] pos _) (lw e q.1.1 q.2.1.1) (Eq.substr (p:=λg=>i9 W Γ sc scope elt [_,g] pos _) (lw e2 q.1.2 q.2.1.2) (Cd (dL.of q.2.2.1) (gG q.2.2.2.1) (gG q.2.2.2.2.1) q.2.2.2.2.2.1 q.2.2.2.2.2.2.1 q.2.2.2.2.2.2.2 h1 h2 h3))
end
noncomputable def KH(elt:Expr)(gens:List Comprehension)(scope:Scope)(pos:Pos):Oc λc=>i9 W Γ sc scope elt gens pos c:=match gens with
 |[g]=>((eJ g.target).bind λx=>(iL (IZ sc scope g x.1.1)).bind λq=>(r.E Γ sc g.iter).bind λci=>(r.E (f7 Γ scope x.1.1) (c7 scope sc) elt).bind λce=>(r.F (f7 Γ scope x.1.1) (c7 scope sc) g.ifs).map λcf=>⟨.comp 0 ce.1 ci.1 cf.1,yi x.2 q.1 ci.2.1 ce.2.1 cf.2⟩).or
  ((HT g.target).bind λp=>(iL (II sc scope g p.1.1.1 p.1.2.1.1)).bind λq=>(r.E Γ sc g.iter).bind λci=>(r.E (mI Γ scope p.1.1.1 p.1.2.1.1) (c7 scope sc) elt).map λce=>⟨.compT ce.1 ci.1,vN p.2 q.1 ci.2.1 ce.2.1⟩)
 |[g,g2]=>(eJ g.target).bind λx=>(eJ g2.target).bind λy=>(iL (ID sc scope g g2 x.1.1 y.1.1)).bind λq=>(r.E Γ sc g.iter).bind λc1=>(r.E (f7 Γ scope x.1.1) (c7 scope sc) g2.iter).bind λc2=>(r.E (mI Γ scope x.1.1 y.1.1) (c7 scope sc) elt).map λce=>⟨.comp2 ce.1 c1.1 c2.1,xT x.2 y.2 q.1 c1.2.1 c2.2.1 ce.2.1⟩
 |_=>none
theorem IK{op:UnaryOp}{a:Expr}(h:bJ W Γ sc a c∧gu W Γ sc a c):bJ W Γ sc (.UnaryOp op a p) (.un op c)∧gu W Γ sc (.UnaryOp op a p) (.un op c) :=
 ⟨BO h.1,by cases op<;>first | exact AB h.2 | exact km (BO h.1) (λ_ _=>rfl)⟩
noncomputable def Lf(e:Expr):Oc λc=>bJ W Γ sc e c∧gu W Γ sc e c:=match e with
 |.Constant c a p=>Fz Γ sc rfl (Gq Γ sc c a p)
 |.Name x p=>Fz Γ sc rfl (IC ok Γ sc x p)
 |.BinOp a op b _=>Fz Γ sc rfl ((r.E Γ sc a).bind λca=>(r.E Γ sc b).map λcb=>⟨.bin op ca.1 cb.1,d9 ca.2.1 cb.2.1⟩)
 |.UnaryOp op a _=>(r.E Γ sc a).map λca=>⟨.un op ca.1,IK Γ sc ca.2⟩
 |.IfExp t a b _=>(r.E Γ sc t).bind λct=>(r.E Γ sc a).bind λca=>(r.E Γ sc b).map λcb=>⟨.ite ct.1 ca.1 cb.1,E9 ct.2.2 ca.2.1 cb.2.1,Am ct.2.2 ca.2.2 cb.2.2⟩
 |.BoolOp op es _=>(r.B Γ sc op es).map λc=>⟨c.1,tE c.2.1,sI c.2.2⟩
 |.Compare a ops bs p=>Kn r Γ sc a ops bs p
 |.List es _=>Fz Γ sc rfl ((r.L Γ sc es).map λcs=>⟨.list cs.1,oC cs.2⟩)
 |.Tuple es _ _=>Fz Γ sc rfl ((r.L Γ sc es).map λcs=>⟨.tup cs.1,DY cs.2⟩)
 |.Subscript a i p=>Fz Γ sc rfl (JW r Γ sc a i p)
 |.Call f es kws pos=>(match kws with
  |[]=>Fz Γ sc rfl (IT ok r Γ sc f es pos)
  |_::_=>none)
 |.ListComp elt gens scope p=>Fz Γ sc rfl ((KH r Γ sc elt gens scope p).map λc=>⟨c.1,mS c.2⟩)
 |_=>none
noncomputable def KV(es:List Expr):Oc λcs=>fC W Γ sc es cs:=match es with
 |[]=>some ⟨[],.nil⟩
 |e::es=>(iL (!eg e)).bind λhs=>(r.E Γ sc e).bind λc=>(r.L Γ sc es).map λcs=>⟨c.1::cs.1,.cons (yM hs.1) c.2.1 cs.2⟩
noncomputable def KX(e:Option Expr):Oc λc=>tQ W Γ sc e c:=match e with
 |none=>some ⟨none,.none⟩
 |some e=>(r.E Γ sc e).map λc=>⟨some c.1,.some c.2.1⟩
noncomputable def K8(op:BoolOp)(es:List Expr):Oc λc=>zo W Γ sc op es c∧q5 W Γ sc op es c:=match es with
 |[]=>none
 |[e]=>(r.E Γ sc e).map λc=>⟨c.1,AJ c.2.1,yx c.2.2⟩
 |e::e'::es=>(r.E Γ sc e).bind λc=>(r.B Γ sc op (e'::es)).map λcr=>⟨.boolop op c.1 cr.1,yS c.2.1 cr.2.1,vF c.2.2 cr.2.2⟩
noncomputable def KM(es:List Expr):Oc λcs=>rO W Γ sc es cs:=match es with
 |[]=>some ⟨[],.nil⟩
 |[e]=>(r.E Γ sc e).map λc=>⟨[c.1],.one c.2.2⟩
 |_=>none
end
section
variable{W:Wd}{K:Cc}(ok:yI K W)
noncomputable def Fk:Nat→Rc W
 |0=>⟨λ_ _ _=>none,λ_ _ _=>none,λ_ _ _=>none,λ_ _ _ _=>none,λ_ _ _=>none⟩
 |n+1=>⟨Lf ok (Fk n),KV (Fk n),KX (Fk n),K8 (Fk n),KM (Fk n)⟩
noncomputable def cE(n:Nat)(Γ:eX)(sc:Scope)(e:Expr):Oc λc=>bJ W Γ sc e c∧gu W Γ sc e c:=(Fk ok n).E Γ sc e
noncomputable def cL(n:Nat)(Γ:eX)(sc:Scope)(es:List Expr):Oc λcs=>fC W Γ sc es cs:=(Fk ok n).L Γ sc es
end
section
inductive CS where
 |asg (i:Nat) (e:CE)
 |own (i:Nat) (e:CE)
 |asgT (is:List Nat) (e:CE)
 |asgS (is:List Nat) (e:CE)
 |stuck
 |aug (neg:Bool) (i:Nat) (e:CE)
 |app (i:Nat) (e:CE)
 |rev (i:Nat)
 |delAt (i:Nat) (last:Bool)
 |put (i:Nat) (k e:CE)
 |asgO (i j:Nat) (e:CE)
 |mat (i k n:Nat) (c it:CE)
 |mset (i:Nat) (a b e:CE)
 |putG (i:Nat) (k:CE) (m:Nat) (a b:CE)
 |frz (i:Nat)
 |ret (e:CE)
 |assert (t:CE)
 |ite (t:CE) (a b:List CS)
 |wh (t:CE) (b:List CS)
 |for1 (i:Nat) (it:CE) (b:List CS)
 |forT (is:List Nat) (it:CE) (b:List CS)
 |forG (i j:Nat) (e:CE) (b:List CS)
 |forR (i:Nat) (e:CE) (b:List CS)
inductive Fl where
 |nx | bk | ct
 |rt (v:V)
noncomputable def k9:List Nat→List PyData→Ev→Option Ev
 |[],xs,ρ=>if xs.isEmpty then some ρ else none
 |i::is,xs,ρ=>match xs with
  |[]=>none
  |x::xs=>k9 is xs (ρ.set i (.sh (.d x)))
noncomputable def wP(n:Nat):PyData→Option (List PyData)
 |.tuple xs=>if xs.length=n then some xs else none
 |_=>none
noncomputable def By(n:Nat):PyData→Option (List PyData)
 |.tuple xs=>if xs.length=n then some xs else none
 |.list xs=>if xs.length=n then some xs else none
 |_=>none
noncomputable def qV(test:Ev→Option Bool)(body:Ev→Option (Ev×Fl)):Nat→Ev→Option (Ev×Fl)
 |0,_=>none
 |n+1,ρ=>(test ρ).bind λk=>if k then(body ρ).bind λp=>match p.2 with
   |.nx=>qV test body n p.1
   |.ct=>qV test body n p.1
   |.bk=>some (p.1,.nx)
   |.rt v=>some (p.1,.rt v)
  else some (ρ,.nx)
noncomputable def loopF(take:PyData→Ev→Option Ev)(body:Ev→Option (Ev×Fl)):List PyData→Ev→Option (Ev×Fl)
 |[],ρ=>some (ρ,.nx)
 |x::r,ρ=>(take x ρ).bind λρ₁=>(body ρ₁).bind λp=>match p.2 with
  |.nx=>loopF take body r p.1
  |.ct=>loopF take body r p.1
  |.bk=>some (p.1,.nx)
  |.rt v=>some (p.1,.rt v)
theorem rG{body:Ev→Option (Ev×Fl)}{x:PyData}{r:List PyData}:loopF take body (x::r) ρ=(take x ρ).bind λρ₁=>(body ρ₁).bind λp=>match p.2 with
 |.nx=>loopF take body r p.1
 |.ct=>loopF take body r p.1
 |.bk=>some (p.1,.nx)
 |.rt v=>some (p.1,.rt v):=rfl
noncomputable def gn:Nat→Bool→List Nat→List PyData
 |n,e,[]=>if e then[.tuple [.int (n-1:Nat),.str ⟨#[92]⟩]] else[]
 |n,true,c::r=>.tuple [.int n,.str ⟨#[92,c]⟩]::gn (n+1) false r
 |n,false,c::r=>if c=92 then gn (n+1) true r else .tuple [.int n,.str ⟨#[c]⟩]::gn (n+1) false r
noncomputable def Iq:Slot→Bool
 |.mx _ _=>false
 |_=>true
noncomputable def nK:Nat→List (List PyData)→Ev→Ev
 |_,[],ρ=>ρ
 |k,r::rs,ρ=>nK (k+1) rs (ρ.set k (.ow r))
noncomputable def we:List PyData→Option (List (List PyData))
 |[]=>some []
 |x::r=>(Bx x).bind λl=>(iZ l).bind λ_=>(we r).map (l::·)
noncomputable def HN:Slot→Option (Nat×Nat)
 |.mx k n=>some (k,n)
 |_=>none
noncomputable def pJ(ρ:Ev)(i:Nat)(a:Int):Option Nat:=(ρ[i]?.bind HN).bind λp=>if 0≤a∧a<p.2∧p.2<2^20 then some (p.1+a.toNat) else none
noncomputable def d7(i:Nat)(x:PyData)(ρ:Ev):Option Ev:=some (ρ.set i (.sh (.d x)))
noncomputable def jd(is:List Nat)(x:PyData)(ρ:Ev):Option Ev:=(By is.length x).bind λxs=>k9 is xs ρ
mutual
noncomputable def gS(Φ:jU)(fu:Nat):CS→Ev→Option (Ev×Fl)
 |.asg i e,ρ=>(ak Φ e ρ).bind λv=>if !v.own then some (ρ.set i (.sh v),.nx) else none
 |.own i e,ρ=>(ak Φ e ρ).bind λv=>(g8 v).bind λxs=>some (ρ.set i (.ow xs),.nx)
 |.asgT is e,ρ=>(ak Φ e ρ).bind λv=>(kq v).bind λx=>(jd is x ρ).bind λρ'=>some (ρ',.nx)
 |.asgS is e,ρ=>(ak Φ e ρ).bind λv=>(kq v).bind λx=>(wP is.length x).bind λxs=>(k9 is xs.reverse ρ).bind λρ'=>some (ρ',.nx)
 |.stuck,_=>none
 |.aug neg i e,ρ=>(ak Φ e ρ).bind λv=>(dM v).bind λb=>(rd ρ i).bind λu=>(dM u).bind λa=>some (ρ.set i (.sh (.d (.int (if neg then a-b else a+b)))),.nx)
 |.app i e,ρ=>(ak Φ e ρ).bind λv=>(kq v).bind λx=>(za ρ i).bind λxs=>if c0 xs.length then some (ρ.set i (.ow (xs++[x])),.nx) else none
 |.rev i,ρ=>(za ρ i).bind λxs=>if c0 xs.length then some (ρ.set i (.ow xs.reverse),.nx) else none
 |.delAt i last,ρ=>(za ρ i).bind λxs=>if !xs.isEmpty&&c0 xs.length then some (ρ.set i (.ow (if last then xs.dropLast else xs.tail)),.nx) else none
 |.put i k e,ρ=>(ak Φ e ρ).bind λv=>(kq v).bind λx=>(ak Φ k ρ).bind λkv=>(dM kv).bind λj=>(za ρ i).bind λxs =>
  if 0≤j∧j<xs.length∧c0 xs.length then some (ρ.set i (.ow (xs.set j.toNat x)),.nx) else none
 |.asgO i j e,ρ=>(ak Φ e ρ).bind λv=>(kq v).bind λx=>some ((ρ.set j (.sh (.d x))).set i (.ow []),.nx)
 |.mat i k n c it,ρ=>(ak Φ it ρ).bind λv=>(fB v).bind λxs=>(fx (λ_=>some true) (λx=>((ak Φ c (ρ++[.sh (.d x)])).bind g8).map .list) xs).bind λds=>(we ds).bind λrs =>
  if rs.length=n∧i<k∧k+n≤ρ.length∧ρ.all Iq=true then some ((nK k rs (ρ.set i .un)).set i (.mx k n),.nx) else none
 |.mset i a b e,ρ=>(ak Φ e ρ).bind λv=>(kq v).bind λx=>(ak Φ a ρ).bind λav=>(dM av).bind λp=>(pJ ρ i p).bind λr=>(ak Φ b ρ).bind λbv=>(dM bv).bind λj=>(za ρ r).bind λxs =>
  if 0≤j∧j<xs.length∧c0 xs.length then some (ρ.set r (.ow (xs.set j.toNat x)),.nx) else none
 |.putG i k m a b,ρ=>(ak Φ a ρ).bind λav=>(dM av).bind λp=>(pJ ρ m p).bind λr=>(ak Φ b ρ).bind λbv=>(dM bv).bind λq=>(za ρ r).bind λys=>(iT ys q).bind λx =>
  (ak Φ k ρ).bind λkv=>(dM kv).bind λj=>(za ρ i).bind λxs=>if 0≤j∧j<xs.length∧c0 xs.length then some (ρ.set i (.ow (xs.set j.toNat x)),.nx) else none
 |.frz i,ρ=>match za ρ i with
  |some xs=>some (ρ.set i (.sh (.d (.list xs))),.nx)
  |none=>some (ρ,.nx)
 |.ret e,ρ=>(ak Φ e ρ).bind λv=>if !v.own then some (ρ,.rt v) else none
 |.assert t,ρ=>(ak Φ t ρ).bind λv=>(dC v).bind λk=>if k then some (ρ,.nx) else none
 |.ite t a b,ρ=>(ak Φ t ρ).bind λv=>(dC v).bind λk=>if k then cexs Φ fu a ρ else cexs Φ fu b ρ
 |.wh t b,ρ=>qV (λρ=>(ak Φ t ρ).bind dC) (λρ=>cexs Φ fu b ρ) fu ρ
 |.for1 i it b,ρ=>(ak Φ it ρ).bind λv=>(fB v).bind λxs=>loopF (d7 i) (λρ=>cexs Φ fu b ρ) xs ρ
 |.forT is it b,ρ=>(ak Φ it ρ).bind λv=>(fB v).bind λxs=>loopF (jd is) (λρ=>cexs Φ fu b ρ) xs ρ
 |.forG i j e b,ρ=>(ak Φ e ρ).bind λv=>(jh v).bind λx=>if c0 x.length&&PyData.strOk x then loopF (jd [i,j]) (λρ=>cexs Φ fu b ρ) (gn 0 false x.cps.toList) ρ else none
 |.forR i e b,ρ=>(ak Φ e ρ).bind λv=>(g8 v).bind λxs=>if c0 xs.length then loopF (d7 i) (λρ=>cexs Φ fu b ρ) xs.reverse ρ else none
noncomputable def cexs(Φ:jU)(fu:Nat):List CS→Ev→Option (Ev×Fl)
 |[],ρ=>some (ρ,.nx)
 |s::r,ρ=>(gS Φ fu s ρ).bind λp=>match p.2 with
  |.nx=>cexs Φ fu r p.1
  |f=>some (p.1,f)
end
section
variable{ρ':Ev}{c:CS}{r:List CS}{v:V}{R:Option (Ev×Fl)}{t:CE}{sa sb:List CS}{k:Bool}
theorem eK:cexs Φ fu [] ρ=some (ρ,.nx):=rfl
theorem sT(h:gS Φ fu c ρ=some (ρ',.nx)):cexs Φ fu (c::r) ρ=cexs Φ fu r ρ':=bc h rfl
theorem d5(h:gS Φ fu c ρ=some (ρ',.rt v)):cexs Φ fu (c::r) ρ=some (ρ',.rt v):=bc h rfl
theorem oR:cexs Φ fu [c] ρ=gS Φ fu c ρ:=by
 cases h:gS Φ fu c ρ with
 |none=>exact congrArg (λo=>Option.bind o _) h
 |some p =>
  refine bc h ?_
  obtain⟨r,f⟩:=p
  cases f<;>rfl
theorem ed(h:ak Φ t ρ=some v)(hv:dC v=some true):gS Φ fu (.ite t sa sb) ρ=cexs Φ fu sa ρ:=bc h (bc hv rfl)
theorem iG(h:ak Φ t ρ=some v)(hv:dC v=some false):gS Φ fu (.ite t sa sb) ρ=cexs Φ fu sb ρ:=bc h (bc hv rfl)
theorem cx_no(h:ak Φ t ρ=some v)(hv:dC v=some false):gS Φ fu (.ite t sa []) ρ=some (ρ,.nx):=iG h hv
theorem ev_asg(h:ak Φ e ρ=some v)(ho:v.own=false):gS Φ fu (.asg i e) ρ=some (ρ.set i (.sh v),.nx):=bc h (if_pos (by rw[ho];rfl))
theorem AX(h:ak Φ e ρ=some v)(ho:v.own=false):gS Φ fu (.ret e) ρ=some (ρ,.rt v):=bc h (if_pos (by rw[ho];rfl))
end
structure CF where
 par:Nat
 size:Nat
 body:List CS
noncomputable def runF(Φ:jU)(fu:Nat)(F:CF)(args:List V):Option V :=
 if args.length=F.par then
  (cexs Φ fu F.body ((args.map .sh)++List.replicate (F.size-F.par) .un)).bind λp=>match p.2 with
   |.nx=>some (.d .none)
   |.rt v=>some v
   |_=>none
 else none
noncomputable def jW(own:Nat→Addr)(k n:Nat):Array Value:=((List.range n).map λj=>Value.ref (own (k+j))).toArray
noncomputable def FS(h:Heap)(env:Env)(M:List Addr)(x:Str)(own:Nat→Addr)(a:Addr):Slot→Prop
 |.un=>True
 |.sh v=>v.own=false∧∃val,c_ h env x val∧cQ h M val v
 |.ow xs=>c_ h env x (.ref a)∧fU h M a xs
 |.mx k n=>c_ h env x (.ref a)∧a∉M∧∃m,h.get? a=some (bU (jW own k n) m)
theorem FS.slot{own:Nat→Addr}:∀{sl:Slot},FS h env M x own a sl→oQ h env M x sl
 |.un,_=>trivial
 |.sh _,r=>r
 |.ow _,r=>⟨a,r.1,r.2⟩
 |.mx _ _,_=>trivial
structure lD(Γ:eX)(sc:Scope)(env:Env):Prop where
 ek:fD env sc
 wf:∀y i,Γ.vars.lookup y=some i→i<Γ.size
 inj:∀x y i,Γ.vars.lookup x=some i→Γ.vars.lookup y=some i→x=y
structure FI(W:Wd)(Γ:eX)(sc:Scope)(s₀:Shared)(env:Env)(M₀:List Addr)(own:Nat→Addr)(M:List Addr)(ρ:Ev)(s:Shared):Prop where
 g₀:cU W s₀
 x:SX W s₀ s
 lay:rg env s.heap
 mok:kQ s.heap M
 sub:∀a∈M₀,a∈M
 apart:∀a∈M₀,a≠env.locals∧∀y c,env.cells.lookup y=some c→a≠c
 loc:∀y,(sc.names.lookup y=some .local∨sc.names.lookup y=some .cell)→locOf env y∈M∧locOf env y∉M₀∧s₀.heap.get? (locOf env y)=none
 ownM:∀i xs,ρ[i]?=some (.ow xs)→own i∈M∧own i∉M₀∧s₀.heap.get? (own i)=none
 inj:∀i j xs ys,ρ[i]?=some (.ow xs)→ρ[j]?=some (.ow ys)→i≠j→own i≠own j
 vis:∀y i,Γ.vars.lookup y=some i→∀sl,ρ[i]?=some sl→FS s.heap env M y own (own i) sl
 len:ρ.length=Γ.size
 rows:∀i xs,ρ[i]?=some (.ow xs)→fU s.heap M (own i) xs
 mxs:∀(i k n:Nat),ρ[i]?=some (.mx k n)→∀j,j<n→∀y,Γ.vars.lookup y≠some (k+j)
structure fk(M₀ M:List Addr)(s:Shared)(M':List Addr)(s':Shared):Prop where
 keep:∀b o,(b∉M∨b∈M₀)→s.heap.get? b=some o→¬b_ o→s'.heap.get? b=some o
 out:∀b o,b∉M→s.heap.get? b=some o→b∉M'
 gens:∀(i:Nat) g,s.gens[i]?=some g→s'.gens[i]?=some g
 occ:∀b o,s.heap.get? b=some o→∃o',s'.heap.get? b=some o'
section
variable{W:Wd}{Γ:eX}{sc:Scope}{s'':Shared}{M'':List Addr}{own own':Nat→Addr}
theorem fk.refl:fk M₀ M s M s:=⟨λ_ _ _ e _=>e,λ_ _ h _=>h,λ_ _ e=>e,λ_ o e=>⟨o,e⟩⟩
theorem fk.trans(p:fk M₀ M s M' s')(q:fk M₀ M' s' M'' s''):fk M₀ M s M'' s'' :=
 ⟨λb o h e n=>q.keep b o (h.elim (λh=>.inl (p.out b o h e)) .inr) (p.keep b o h e n) n,
  λb o h e=>(let⟨o',e'⟩:=p.occ b o e;q.out b o' (p.out b o h e) e'),
  λi g e=>q.gens i g (p.gens i g e),λb o e=>let⟨o',e'⟩:=p.occ b o e;q.occ b o' e'⟩
theorem fk.of_SX(x:SX W s s'):fk M₀ M s M s':=⟨λb o _ e n=>x.keep b o e n,λ_ _ h _=>h,x.gens,x.occ⟩
theorem fk.weak(h:∀a∈M₀,a∈M₁)(p:fk M₁ M s M' s'):fk M₀ M s M' s' :=
 ⟨λb o q=>p.keep b o (q.imp id (h b)),p.out,p.gens,p.occ⟩
theorem FI.cx(fi:FI W Γ sc s₀ env M₀ own M ρ s)(so:lD Γ sc env)(c:i4 W n Φ)(r:dA W A n):Cx W Γ sc n Φ A s env M ρ :=
 ⟨λf p _ _ h _=>⟨r,c f p h⟩,r.w,fi.x.good,so.ek,fi.mok,λy i hy sl hs=>(fi.vis y i hy sl hs).slot,fi.lay,fi.len,so.wf⟩
theorem FS.ext(x:SX W s s'){sl:Slot}(q:FS s.heap env M y own a sl):FS s'.heap env M y own a sl:=by
 cases sl with
 |un=>trivial
 |sh _=>exact⟨q.1,q.2.imp λ_ h=>⟨h.1.ext x,h.2.ext x⟩⟩
 |ow _=>exact⟨q.1.ext x,q.2.ext x⟩
 |mx _ _=>exact⟨q.1.ext x,q.2.1,q.2.2.imp λ_ e=>x.keep _ _ e cV⟩
theorem FI.ext(fi:FI W Γ sc s₀ env M₀ own M ρ s)(x:SX W s s'):FI W Γ sc s₀ env M₀ own M ρ s' :=
 ⟨fi.g₀,fi.x.trans x,fi.lay.ext x,fi.mok.ext x,fi.sub,fi.apart,fi.loc,fi.ownM,fi.inj,λy i hy sl hs=>(fi.vis y i hy sl hs).ext x,fi.len,λi xs hi=>(fi.rows i xs hi).ext x,fi.mxs⟩
theorem FI.chg(fi:FI W Γ sc s₀ env M₀ own M ρ s){p:Addr}(hk:∀b o,b≠p→s.heap.get? b=some o→h'.get? b=some o)(hp:p∈M)(hf:s₀.heap.get? p=none)
  (hs:∀o,s.heap.get? p=some o→eW o) (hn:∃o,h'.get? p=some o∧¬b_ o) :
  SX W s₀ {s with heap:=h',toks:=tk}∧kQ h' M∧(∀{v u},u.own=false→cQ s.heap M v u→cQ h' M v u)∧(∀{a xs},a≠p→fU s.heap M a xs→fU h' M a xs)∧(∀{vs ds},Reps s.heap M vs ds→Reps h' M vs ds):=by
 have k:∀b o,b∉M→s.heap.get? b=some o→¬b_ o→h'.get? b=some o:=λb o hb e _=>hk b o (λq=>hb (by simp only[q];exact hp)) e
 refine⟨SX.upd fi.x hk hf hs fi.g₀,λa ha=>?_,λho r=>cQ.mono k (λa ha=>.inl ha) ho r,λhne r=>?_,λr=>r.mono k λa ha=>.inl ha⟩
 ·by_cases q:a=p
  ·subst q;exact hn
  ·refine aa λhQ=>?_
   obtain⟨o,e,n⟩:=fi.mok a ha
   (refine hQ ?_;clear hQ)
   exact⟨o,hk a o q e,n⟩
 ·obtain⟨vs,n,e,r⟩:=r
  exact⟨vs,n,hk _ _ hne e,r.mono k λa ha=>.inl ha⟩
theorem fk.chg{p:Addr}(hk:∀b o,b≠p→s.heap.get? b=some o→h'.get? b=some o)(hp:p∈M)(hp0:p∉M₀)(hn:∃o,h'.get? p=some o):fk M₀ M s M {s with heap:=h',toks:=tk} :=
 ⟨λb o h e _=>hk b o (λq=>by subst q;exact h.elim (λh=>h hp) hp0) e,λ_ _ h _=>h,λ_ _ e=>e,λb o e=>by
  by_cases q:b=p
  ·subst q;exact hn
  ·exact⟨o,hk b o q e⟩⟩
theorem dB(lay:rg env s.heap)(ek:fD env sc)(hy:sc.names.lookup y=some .local∨sc.names.lookup y=some .cell) :
  (∀o,s.heap.get? (locOf env y)=some o→eW o)∧(∃o,s.heap.get? (locOf env y)=some o∧¬b_ o)∧∀vs n,s.heap.get? (locOf env y)≠some (bU vs n):=by
 rcases hy with hy | hy
 ·have hk:env.kindOf y=some .local:=by rw[cJ ek];exact hy
  have hl:locOf env y=env.locals:=by unfold locOf;rw[if_pos hk]
  obtain⟨m,n⟩:=lay.ns
  rw[hl]
  refine⟨iM n,en n,λvs k e=>?_⟩
  obtain⟨o,es,ep,e',hd,_⟩:=n
  rw[e] at e';cases e';cases hd
 ·have hk:env.kindOf y=some .cell:=by rw[cJ ek];exact hy
  obtain⟨c,hc⟩:=ek.cells y (.inl hy)
  obtain⟨v,hv⟩:=lay.cell y c hc
  have hl:locOf env y=c:=by unfold locOf;rw[if_neg (by rw[hk];decide),hc];rfl
  rw[hl]
  refine⟨qZ hv,?_,λvs k e=>?_⟩
  ·refine aa λhQ=>?_
   obtain⟨o,e,hd⟩:=hv
   (refine hQ ?_;clear hQ)
   exact⟨o,e,λt=>by obtain⟨fs,q,_⟩:=t.2;replace q:=hd▸q;cases q⟩
  ·refine aa λhQ=>?_
   obtain⟨o,e',hd⟩:=hv
   (refine hQ ?_;clear hQ)
   rw[e] at e';cases e';cases hd
theorem FS.mono_chg{p:Addr}(hm:∀b o,b∉M→h.get? b=some o→h'.get? b=some o)(hv:∀{v u},u.own=false→cQ h M v u→cQ h' M v u)(ho:∀{a xs},a≠p→fU h M a xs→fU h' M a xs)(hvar:∀w,c_ h env y w→c_ h' env y w)
  {sl:Slot} (hne:∀xs,sl=.ow xs→a≠p) (q:FS h env M y own a sl):FS h' env M y own a sl:=by
 cases sl with
 |un=>trivial
 |mx _ _=>exact⟨hvar _ q.1,q.2.1,q.2.2.imp λ_ e=>hm _ _ q.2.1 e⟩
 |sh _=>exact⟨q.1,q.2.imp λ_ r=>⟨hvar _ r.1,hv q.1 r.2⟩⟩
 |ow _=>exact⟨hvar _ q.1,ho (hne _ rfl) q.2⟩
theorem bC{a b:Slot}(h:(ρ.set i a)[j]?=some b)(hne:i≠j):ρ[j]?=some b:=by rwa [List.getElem?_set_ne hne] at h
theorem bW{a b:Slot}(h:(ρ.set i a)[i]?=some b):b=a:=by
 have:=aS.mp h
 obtain⟨hl,e⟩:=this
 rw[List.getElem_set_self] at e
 exact e.symm
theorem FI.store{Q:Unit→Shared→Prop}{Md:Model}{v:Value}{sl:Slot}(so:lD Γ sc env)(fi:FI W Γ sc s₀ env M₀ own M ρ s)(hy:Γ.vars.lookup y=some i)
  (hk:sc.names.lookup y=some .local∨sc.names.lookup y=some .cell) (hsl:(∃u,sl=.sh u∧u.own=false∧cQ s.heap M v u)∨(∃xs,sl=.ow xs∧v=.ref (own i)∧fU s.heap M (own i) xs∧own i∈M∧own i∉M₀∧s₀.heap.get? (own i)=none∧∀j ys,j≠i→ρ[j]?=some (.ow ys)→own i≠own j))
  (h:∀s',FI W Γ sc s₀ env M₀ own M (ρ.set i sl) s'→fk M₀ M s M s'→Q () s'):wpAny Md A (storeName env y v) Q E s:=by
 have sl0:=dB fi.lay so.ek hk
 refine aa λhQ=>?_
 obtain⟨lM,lM0,lf⟩:=fi.loc y hk
 (refine hQ ?_;clear hQ)
 refine ii so.ek fi.lay hk λh' tk hkp lay' hv' hoth=>?_
 refine aa λhQ=>?_
 obtain⟨x',mok',vr,ow,rs⟩:=fi.chg (tk:=tk) hkp lM lf sl0.1 ((dB (s:={s with heap:=h'}) lay' so.ek hk).2.1)
 (refine hQ ?_;clear hQ)
 have nl:∀{a xs},fU s.heap M a xs→a≠locOf env y:=λr q=>by
  obtain⟨vs,n,e,_⟩:=r
  exact sl0.2.2 vs n (by rw[←q];exact e)
 refine h _ ⟨fi.g₀,x',lay',mok',fi.sub,fi.apart,fi.loc,?_,?_,?_,by rw[List.length_set];exact fi.len,?_,?_⟩ (fk.chg hkp lM lM0 (((dB (s:={s with heap:=h'}) lay' so.ek hk).2.1).imp λ_ q=>q.1))
 ·intro j xs hj
  by_cases q:i=j
  ·subst q
   have:=bW hj
   rcases hsl with⟨u,e,_⟩ | ⟨ys,e,_,_,m1,m2,m3,_⟩
   ·rw[e] at this;cases this
   ·exact⟨m1,m2,m3⟩
  ·exact fi.ownM j xs (bC hj q)
 ·intro j k xs ys hj hk' hne
  by_cases q:i=j
  ·subst q
   have:=bW hj
   rcases hsl with⟨u,e,_⟩ | ⟨zs,e,_,_,_,_,_,m⟩
   ·rw[e] at this;cases this
   ·exact m k ys (Ne.symm hne) (bC hk' hne)
  ·by_cases q2:i=k
   ·subst q2
    have:=bW hk'
    rcases hsl with⟨u,e,_⟩ | ⟨zs,e,_,_,_,_,_,m⟩
    ·replace this:=e▸this;cases this
    ·exact Ne.symm (m j xs hne (bC hj q))
   ·exact fi.inj j k xs ys (bC hj q) (bC hk' q2) hne
 ·intro z j hz sz hs
  by_cases q:i=j
  ·subst q
   have ez:=so.inj z y i hz hy
   cases ez
   have:=bW hs
   cases this
   rcases hsl with⟨u,e,o1,r⟩ | ⟨xs,e,e2,r,_⟩
   ·subst e;exact⟨o1,v,hv',vr o1 r⟩
   ·subst e;subst e2
    refine⟨hv',ow (λq=>?_) r⟩
    obtain⟨vs,n,e,_⟩:=r
    exact sl0.2.2 vs n (by rw[←q];exact e)
  ·have hs':=bC hs q
   have hf:=fi.vis z j hz sz hs'
   refine FS.mono_chg (λb o hb e=>hkp b o (λq=>hb (q▸lM)) e) vr ow (λw hw=>hoth z w (λe=>by subst e;replace hz:=hy▸hz;cases hz;exact q rfl) hw) (λxs e=>?_) hf
   subst e
   exact nl hf.2
 ·intro j xs hj
  by_cases q:i=j
  ·subst q
   have:=bW hj
   rcases hsl with⟨u,e,_⟩ | ⟨ys,e,_,r,_⟩
   ·rw[e] at this;cases this
   ·rw[e] at this;cases this;exact ow (nl r) r
  ·have r:=fi.rows j xs (bC hj q)
   exact ow (nl r) r
 ·intro j k n hj
  by_cases q:i=j
  ·subst q
   have:=bW hj
   rcases hsl with⟨u,e,_⟩ | ⟨ys,e,_⟩<;>simp only[e] at this<;>cases this
  ·exact fi.mxs j k n (bC hj q)
theorem FI.mutA(fi:FI W Γ sc s₀ env M₀ own M ρ s)(ho:ρ[i]?=some (.ow xs))
  (hkp:∀b o,b≠own i→s.heap.get? b=some o→h'.get? b=some o) (hl:h'.get? (own i)=some (bU vs n)) (hr:Reps s.heap M vs.toList ys) :
  FI W Γ sc s₀ env M₀ own M (ρ.set i (.ow ys)) {s with heap:=h',toks:=tk}∧fk M₀ M s M {s with heap:=h',toks:=tk}:=by
 refine aa λhQ=>?_
 refine aa λhQ=>?_
 obtain⟨m1,m2,m3⟩:=fi.ownM i xs ho
 obtain⟨vs0,n0,e0,r0⟩:=fi.rows i _ ho
 have hn:∃o,h'.get? (own i)=some o∧¬b_ o:=⟨_,hl,cV⟩
 obtain⟨x',mok',vr,ow,rs⟩:=fi.chg (tk:=tk) hkp m1 m3 (ig e0 vW) hn
 (refine hQ ?_;clear hQ)
 (refine hQ ?_;clear hQ)
 have hvars:∀z w,c_ s.heap env z w→c_ h' env z w:=λz w hw=>by
  rcases hw with⟨k,m,ns,e⟩ | ⟨k,c,e,hc⟩
  ·refine .inl ⟨k,m,ns.extBut (b:=own i) (λb o hb e=>hkp b o hb e) (λq=>?_),e⟩
   obtain⟨o,es,ep,e1,hd,_⟩:=ns
   rw[q,e0] at e1;cases e1;cases hd
  ·refine .inr ⟨k,c,e,?_⟩
   obtain⟨o,e1,hd⟩:=hc
   exact⟨o,hkp _ _ (λq=>by rw[q,e0] at e1;cases e1;cases hd) e1,hd⟩
 refine⟨⟨fi.g₀,x',⟨?_,?_⟩,mok',fi.sub,fi.apart,fi.loc,?_,?_,?_,by rw[List.length_set];exact fi.len,?_,?_⟩,fk.chg hkp m1 m2 ⟨_,hl⟩⟩
 ·obtain⟨m,ns⟩:=fi.lay.ns
  refine⟨m,ns.extBut (b:=own i) (λb o hb e=>hkp b o hb e) (λq=>?_)⟩
  refine aa λhQ=>?_
  obtain⟨o,es,ep,e1,hd,_⟩:=ns
  (refine hQ ?_;clear hQ)
  rw[q,e0] at e1;cases e1;cases hd
 ·intro z c hc
  refine aa λhQ=>?_
  refine aa λhQ=>?_
  obtain⟨v,o,e1,hd⟩:=fi.lay.cell z c hc
  (refine hQ ?_;clear hQ)
  (refine hQ ?_;clear hQ)
  exact⟨v,o,hkp _ _ (λq=>by rw[q,e0] at e1;cases e1;cases hd) e1,hd⟩
 ·intro j zs hj
  by_cases q:i=j
  ·subst q;exact⟨m1,m2,m3⟩
  ·exact fi.ownM j zs (bC hj q)
 ·intro j k zs us hj hk' hne
  have conv:∀(j:Nat) (zs:List PyData),(ρ.set i (Mine.Slot.ow ys))[j]?=some (Mine.Slot.ow zs)→∃us,ρ[j]?=some (Mine.Slot.ow us):=λj zs hj=>by
   by_cases q:i=j
   ·subst q;exact⟨xs,ho⟩
   ·exact⟨zs,bC hj q⟩
  obtain⟨_,h1⟩:=conv j zs hj
  obtain⟨_,h2⟩:=conv k us hk'
  exact fi.inj j k _ _ h1 h2 hne
 ·intro z j hz sz hs
  by_cases q:i=j
  ·subst q
   have:=bW hs
   subst this
   exact⟨hvars _ _ (fi.vis z i hz _ ho).1,vs,n,hl,rs hr⟩
  ·have hs':=bC hs q
   refine FS.mono_chg (λb o hb e=>hkp b o (λq=>hb (q▸m1)) e) vr ow (hvars z) (λzs e=>?_) (fi.vis z j hz sz hs')
   subst e
   exact Ne.symm (fi.inj i j _ _ ho hs' q)
 ·intro j zs hj
  by_cases q:i=j
  ·subst q
   cases bW hj
   exact⟨vs,n,hl,rs hr⟩
  ·have hj':=bC hj q
   exact ow (Ne.symm (fi.inj i j _ _ ho hj' q)) (fi.rows j zs hj')
 ·intro j k n hj
  by_cases q:i=j
  ·subst q;cases bW hj
  ·exact fi.mxs j k n (bC hj q)
theorem FI.mut(_so:lD Γ sc env)(fi:FI W Γ sc s₀ env M₀ own M ρ s)(_hy:Γ.vars.lookup y=some i)(ho:ρ[i]?=some (.ow xs))
 (hkp:∀b o,b≠own i→s.heap.get? b=some o→h'.get? b=some o) (hl:h'.get? (own i)=some (bU vs n)) (hr:Reps s.heap M vs.toList ys) :
 FI W Γ sc s₀ env M₀ own M (ρ.set i (.ow ys)) {s with heap:=h',toks:=tk}∧fk M₀ M s M {s with heap:=h',toks:=tk}:=fi.mutA ho hkp hl hr
theorem FI.frz(so:lD Γ sc env)(fi:FI W Γ sc s₀ env M₀ own M ρ s)(hy:Γ.vars.lookup y=some i)(ho:ρ[i]?=some (.ow xs)) :
  FI W Γ sc s₀ env M₀ own (M.filter λa=>a != own i) (ρ.set i (.sh (.d (.list xs)))) s∧fk M₀ M s (M.filter λa=>a != own i) s:=by
 refine aa λhQ=>?_
 obtain⟨m1,m2,m3⟩:=fi.ownM i xs ho
 obtain⟨hvar,vs0,n0,e0,r0⟩:=fi.vis y i hy _ ho
 (refine hQ ?_;clear hQ)
 have sub:∀a∈M.filter (λa=>a != own i),a∈M:=λa ha=>(List.mem_filter.mp ha).1
 have mem:∀a∈M,a≠own i→a∈M.filter λa=>a != own i:=λa ha hne=>List.mem_filter.mpr ⟨ha,by simpa using hne⟩
 refine⟨⟨fi.g₀,fi.x,fi.lay,λa ha=>fi.mok a (sub a ha),λa ha=>mem a (fi.sub a ha) (λq=>m2 (by simp only[←q];exact ha)),fi.apart,?_,?_,?_,?_,by rw[List.length_set];exact fi.len,?_,?_⟩,
  ⟨λ_ _ _ e _=>e,λb o h _ q=>h (sub b q),λ_ _ e=>e,λ_ o e=>⟨o,e⟩⟩⟩
 ·intro z hz
  obtain⟨a,b,c⟩:=fi.loc z hz
  refine⟨mem _ a λq=>?_,b,c⟩
  exact(dB fi.lay so.ek hz).2.2 _ _ (by rw[q];exact e0)
 ·intro j zs hj
  by_cases q:i=j
  ·subst q;cases bW hj
  ·have hj:=bC hj q
   obtain⟨a,b,c⟩:=fi.ownM j zs hj
   exact⟨mem _ a (Ne.symm (fi.inj i j _ _ ho hj q)),b,c⟩
 ·intro j k zs us hj hk' hne
  by_cases q:i=j
  ·subst q;cases bW hj
  ·by_cases q2:i=k
   ·subst q2;cases bW hk'
   ·exact fi.inj j k _ _ (bC hj q) (bC hk' q2) hne
 ·intro z j hz sz hs
  by_cases q:i=j
  ·subst q
   have ez:=so.inj z y i hz hy
   subst ez
   have:=bW hs
   subst this
   refine⟨rfl,_,hvar,.list (λq=>?_) e0 (r0.sub sub)⟩
   have:=(List.mem_filter.mp q).2
   simp at this
  ·have hs':=bC hs q
   have hf:=fi.vis z j hz sz hs'
   cases sz with
   |un=>trivial
   |sh u =>
    refine aa λhQ=>?_
    refine aa λhQ=>?_
    obtain⟨h1,v,h2,h3⟩:=hf
    (refine hQ ?_;clear hQ)
    (refine hQ ?_;clear hQ)
    exact⟨h1,v,h2,cQ.mono (λ_ _ _ e _=>e) (λa ha=>.inl (sub a ha)) h1 h3⟩
   |ow us =>
    refine aa λhQ=>?_
    obtain⟨h2,vs,n,h3,h4⟩:=hf
    (refine hQ ?_;clear hQ)
    exact⟨h2,vs,n,h3,h4.sub sub⟩
   |mx k n=>exact⟨hf.1,λq=>hf.2.1 (sub _ q),hf.2.2⟩
 ·intro j zs hj
  by_cases q:i=j
  ·subst q;cases bW hj
  ·obtain⟨vs,n,h3,h4⟩:=fi.rows j zs (bC hj q)
   exact⟨vs,n,h3,h4.sub sub⟩
 ·intro j k n hj
  by_cases q:i=j
  ·subst q;cases bW hj
  ·exact fi.mxs j k n (bC hj q)
end
end
variable{cb:List CS}
section
variable{W:Wd}{Γ:eX}{sc:Scope}{s'':Shared}{M'':List Addr}{own own':Nat→Addr}
theorem FS.grow(hm:∀b vs n,b∉M→h.get? b=some (bU vs n)→b∉M'∧h'.get? b=some (bU vs n))(hd:∀{v u},cQ h M v u→cQ h' M' v u)(ho:∀{a xs},fU h M a xs→fU h' M' a xs)(hvar:∀w,c_ h env y w→c_ h' env y w):∀{sl:Slot},FS h env M y own a sl→FS h' env M' y own a sl
 |.un,_=>trivial
 |.mx _ _,⟨q,r,t⟩=>⟨hvar _ q,t.elim λ_ e=>(hm _ _ _ r e).1,t.imp λ_ e=>(hm _ _ _ r e).2⟩
 |.sh _,⟨h,v,q,r⟩=>⟨h,v,hvar _ q,hd r⟩
 |.ow _,⟨q,r⟩=>⟨hvar _ q,ho r⟩
theorem FI.guard(so:lD Γ sc env)(fi:FI W Γ sc s₀ env M₀ own M ρ s)(x:SX W s s')(hN:∀a∈N,s.heap.get? a=none∧∃o,s'.heap.get? a=some o∧¬b_ o) :
  FI W Γ sc s₀ env (N++M₀) own (N++M) ρ s'∧fk M₀ M s (N++M) s':=by
 have m:∀a∈N++M,a∈M∨s.heap.get? a=none:=λa ha=>(aP.mp ha).elim (λh=>.inr (hN a h).1) .inl
 have ne:∀{a b:Addr} {o:Obj},a∈N→s.heap.get? b=some o→b≠a:=λha e q=>by subst q;replace e:=(hN _ ha).1▸e;cases e
 refine⟨⟨fi.g₀,fi.x.trans x,fi.lay.ext x,?_,?_,?_,?_,?_,fi.inj,?_,fi.len,λi xs hi=>(fi.rows i xs hi).grow x m,fi.mxs⟩,⟨λb o _ e n=>x.keep b o e n,λb o h e q=>(aP.mp q).elim (λq=>ne q e rfl) h,x.gens,x.occ⟩⟩
 ·intro a ha
  exact(aP.mp ha).elim (λh=>(hN a h).2) (λh=>fi.mok.ext x a h)
 ·intro a ha
  exact(aP.mp ha).elim (λh=>bl _ h) λh=>aT _ (fi.sub a h)
 ·intro a ha
  refine(aP.mp ha).elim (λh=>⟨?_,λy c e=>?_⟩) (fi.apart a)
  ·refine aa λhQ=>?_
   obtain⟨m,o,es,ep,e,_⟩:=fi.lay.ns
   (refine hQ ?_;clear hQ)
   exact(ne h e).symm
  ·refine aa λhQ=>?_
   obtain⟨v,o,e,_⟩:=fi.lay.cell y c e
   (refine hQ ?_;clear hQ)
   exact(ne h e).symm
 ·intro y hy
  refine aa λhQ=>?_
  obtain⟨a,b,c⟩:=fi.loc y hy
  obtain⟨o,e,_⟩:=(dB fi.lay so.ek hy).2.1
  (refine hQ ?_;clear hQ)
  exact⟨aT _ a,λq=>(aP.mp q).elim (λq=>ne q e rfl) b,c⟩
 ·intro i xs hi
  refine aa λhQ=>?_
  obtain⟨a,b,c⟩:=fi.ownM i xs hi
  obtain⟨o,e,_⟩:=fi.mok _ a
  (refine hQ ?_;clear hQ)
  exact⟨aT _ a,λq=>(aP.mp q).elim (λq=>ne q e rfl) b,c⟩
 ·intro y i hy sl hs
  exact FS.grow (λb vs n hb e=>⟨λq=>(aP.mp q).elim (λq=>ne q e rfl) hb,x.keep _ _ e cV⟩) (λr=>r.grow x m) (λr=>r.grow x m) (λw hw=>hw.ext x) (fi.vis y i hy sl hs)
theorem FI.unguard(h:∀a∈M₀,a∈M₁)(fi:FI W Γ sc s₀ env M₁ own M ρ s):FI W Γ sc s₀ env M₀ own M ρ s :=
 ⟨fi.g₀,fi.x,fi.lay,fi.mok,λa ha=>fi.sub a (h a ha),λa ha=>fi.apart a (h a ha),λy hy=>(let⟨a,b,c⟩:=fi.loc y hy;⟨a,λq=>b (h _ q),c⟩),λi xs hi=>(let⟨a,b,c⟩:=fi.ownM i xs hi;⟨a,λq=>b (h _ q),c⟩),fi.inj,fi.vis,fi.len,fi.rows,fi.mxs⟩
structure Sd(W:Wd)(N:List Addr)(k:Nat)(s s':Shared):Prop where
 keep:∀b o,b∉N→s.heap.get? b=some o→¬b_ o→s'.heap.get? b=some o
 occ:∀b o,b∉N→s.heap.get? b=some o→∃o',s'.heap.get? b=some o'
 os:s'.os=s.os
 gens:∀(i:Nat) g,i<k→s.gens[i]?=some g→s'.gens[i]?=some g
 good:cU W s'
section
theorem Sd.ns(sd:Sd W N k s s')(ha:a∉N)(n:s.heap.Ns a m):s'.heap.Ns a m:=by
 obtain⟨o,es,ep,e,hd,r⟩:=n
 exact⟨o,es,ep,sd.keep _ _ ha e (λt=>t.2.elim λfs q=>by replace q:=hd▸q;cases q.1),hd,r⟩
theorem Sd.cell(sd:Sd W N k s s'){v:Option Value}(ha:a∉N)(n:s.heap.IsCell a v):s'.heap.IsCell a v:=by
 obtain⟨o,e,hd⟩:=n
 exact⟨o,sd.keep _ _ ha e (λt=>t.2.elim λfs q=>by replace q:=hd▸q;cases q.1),hd⟩
theorem Sd.var(sd:Sd W N k s s')(lne:env.locals∉N)(cne:∀y c,env.cells.lookup y=some c→c∉N){w:Value}(h:c_ s.heap env z w):c_ s'.heap env z w :=
 h.imp (λq=>⟨q.1,q.2.elim λm q=>⟨m,sd.ns lne q.1,q.2⟩⟩) λq=>⟨q.1,q.2.elim λc q=>⟨c,q.1,sd.cell (cne _ _ q.1) q.2⟩⟩
theorem Sd.lay(sd:Sd W N k s s')(lne:env.locals∉N)(cne:∀y c,env.cells.lookup y=some c→c∉N)(l:rg env s.heap):rg env s'.heap :=
 ⟨l.ns.imp λ_=>sd.ns lne,λy c e=>(l.cell y c e).imp λ_=>sd.cell (cne y c e)⟩
theorem Sd.sx(sd:Sd W N k s s')(x:SX W s₀ s)(hk:s₀.gens.size≤k)(hN:∀b∈N,s₀.heap.get? b=none):SX W s₀ s':=by
 have ne:∀{b o},s₀.heap.get? b=some o→b∉N:=λe q=>by replace e:=hN _ q▸e;cases e
 exact⟨λb o e n=>sd.keep b o (ne e) (x.keep b o e n) n,λb o e=>(x.occ b o e).elim λo' e'=>sd.occ b o' (ne e) e',sd.os.trans x.os,
  λi g e=>sd.gens i g (ae (Array.getElem?_eq_some_iff.mp e).1 hk) (x.gens i g e),sd.good⟩
theorem Sd.fs(sd:Sd W N k s s')(lne:env.locals∉N)(cne:∀y c,env.cells.lookup y=some c→c∉N)(kM:∀b o,b∉M→s.heap.get? b=some o→¬b_ o→s'.heap.get? b=some o)(m:∀a∈M',a∈M∨s.heap.get? a=none)
  (sN:∀a∈N,a∈M) {sl:Slot} (ha:∀xs,sl=.ow xs→a∉N) (h:FS s.heap env M y own a sl):FS s'.heap env M' y own a sl:=by
 cases sl with
 |un=>trivial
 |sh u=>exact⟨h.1,h.2.imp λv q=>⟨sd.var lne cne q.1,cQ.mono kM m h.1 q.2⟩⟩
 |ow us=>exact⟨sd.var lne cne h.1,h.2.imp λvs q=>q.imp λn q=>⟨sd.keep _ _ (ha us rfl) q.1 cV,q.2.mono kM m⟩⟩
 |mx k n=>exact⟨sd.var lne cne h.1,λq=>(h.2.2.elim λ_ e=>(m _ q).elim h.2.1 λz=>Option.some_ne_none _ (e.symm.trans z)),h.2.2.imp λ_ e=>sd.keep _ _ (λq=>h.2.1 (sN _ q)) e cV⟩
theorem FI.side(so:lD Γ sc env)(fi:FI W Γ sc s₀ env M₀ own M ρ s)(sd:Sd W N k s s')(hk:s₀.gens.size≤k)(hN:∀a∈N,a∈M₀∧s₀.heap.get? a=none∧∃o,s'.heap.get? a=some o∧¬b_ o)
  (hn:∀a∈Nn,s.heap.get? a=none∧∃o,s'.heap.get? a=some o∧¬b_ o):FI W Γ sc s₀ env (Nn++M₀) own (Nn++M) ρ s':=by
 have kM:∀b o,b∉M→s.heap.get? b=some o→¬b_ o→s'.heap.get? b=some o:=λb o hb e n=>sd.keep b o (λq=>hb (fi.sub b (hN b q).1)) e n
 have m:∀a∈Nn++M,a∈M∨s.heap.get? a=none:=λa ha=>(aP.mp ha).elim (λh=>.inr (hn a h).1) .inl
 have ne:∀{a b:Addr} {o:Obj},a∈Nn→s.heap.get? b=some o→b≠a:=λha e q=>by rw[q,(hn _ ha).1] at e;cases e
 have nap:∀{a},a∉M₀→(∃o,s.heap.get? a=some o)→a∉Nn++M₀:=λb e q=>(aP.mp q).elim (λq=>e.elim λo e=>ne q e rfl) b
 refine⟨fi.g₀,sd.sx fi.x hk λb q=>(hN b q).2.1,sd.lay (λq=>(fi.apart _ (hN _ q).1).1 rfl) (λy c e q=>(fi.apart _ (hN _ q).1).2 y c e rfl) fi.lay,λa ha=>(aP.mp ha).elim (λha=>(hn a ha).2) λha=>?_,λa ha=>(aP.mp ha).elim (λh=>bl _ h) λh=>aT _ (fi.sub a h),
  λa ha=>(aP.mp ha).elim (λh=>⟨fi.lay.ns.elim λm q=>q.elim λo q=>q.elim λes q=>q.elim λep q=>(ne h q.1).symm,λy c e=>(fi.lay.cell y c e).elim λv q=>q.elim λo q=>(ne h q.1).symm⟩) (fi.apart a),
  λy hy=>⟨aT _ (fi.loc y hy).1,nap (fi.loc y hy).2.1 ((dB fi.lay so.ek hy).2.1.imp λ_ q=>q.1),(fi.loc y hy).2.2⟩,
  λi xs hi=>⟨aT _ (fi.ownM i xs hi).1,nap (fi.ownM i xs hi).2.1 ((fi.mok _ (fi.ownM i xs hi).1).imp λ_ q=>q.1),(fi.ownM i xs hi).2.2⟩,fi.inj,
  λy i hy sl hs=>sd.fs (λq=>(fi.apart _ (hN _ q).1).1 rfl) (λy c e q=>(fi.apart _ (hN _ q).1).2 y c e rfl) kM m (λa ha=>fi.sub a (hN a ha).1) (λus e q=>(fi.ownM i us (e▸hs)).2.1 (hN _ q).1) (fi.vis y i hy sl hs),fi.len,
  λi xs hi=>(fi.rows i xs hi).imp λvs q=>q.imp λn q=>⟨sd.keep _ _ (λq=>(fi.ownM i xs hi).2.1 (hN _ q).1) q.1 cV,q.2.mono kM m⟩,fi.mxs⟩
 by_cases q:a∈N
 ·exact(hN a q).2.2
 ·exact(fi.mok a ha).imp λo e=>⟨sd.keep a o q e.1 e.2,e.2⟩
theorem FI.sideEnd(fi:FI W Γ sc s₀ env (N++M₀) own M ρ s)(sd:Sd W N k s s')(hk:s₀.gens.size≤k)(hN:∀a∈N,s₀.heap.get? a=none)(hd:∀a∈M₀,a∉N) :
  FI W Γ sc s₀ env M₀ own (M.filter λa=>decide (a∉N)) ρ s':=by
 have sub:∀a∈M.filter (λa=>decide (a∉N)),a∈M:=λa ha=>(List.mem_filter.mp ha).1
 have mem:∀a∈M,a∉N→a∈M.filter λa=>decide (a∉N):=λa ha hne=>List.mem_filter.mpr ⟨ha,aO hne⟩
 have inN:∀{a},a∈N→a∈N++M₀:=λh=>bl _ h
 have kM:∀b o,b∉M→s.heap.get? b=some o→¬b_ o→s'.heap.get? b=some o:=λb o hb e n=>sd.keep b o (λq=>hb (fi.sub b (inN q))) e n
 have lne:env.locals∉N:=λq=>(fi.apart _ (inN q)).1 rfl
 have cne:∀y c,env.cells.lookup y=some c→c∉N:=λy c e q=>(fi.apart _ (inN q)).2 y c e rfl
 exact⟨fi.g₀,sd.sx fi.x hk hN,sd.lay lne cne fi.lay,λa ha=>(fi.mok a (sub a ha)).imp λo e=>⟨sd.keep a o (of_decide_eq_true (List.mem_filter.mp ha).2) e.1 e.2,e.2⟩,
  λa ha=>mem a (fi.sub a (aT _ ha)) (hd a ha),λa ha=>fi.apart a (aT _ ha),
  λy hy=>⟨mem _ (fi.loc y hy).1 λq=>(fi.loc y hy).2.1 (inN q),λq=>(fi.loc y hy).2.1 (aT _ q),(fi.loc y hy).2.2⟩,
  λi xs hi=>⟨mem _ (fi.ownM i xs hi).1 λq=>(fi.ownM i xs hi).2.1 (inN q),λq=>(fi.ownM i xs hi).2.1 (aT _ q),(fi.ownM i xs hi).2.2⟩,fi.inj,
  λy i hy sl hs=>sd.fs lne cne kM (λa ha=>.inl (sub a ha)) (λa ha=>fi.sub a (inN ha)) (λus e q=>(fi.ownM i us (e▸hs)).2.1 (inN q)) (fi.vis y i hy sl hs),fi.len,
  λi xs hi=>(fi.rows i xs hi).imp λvs q=>q.imp λn q=>⟨sd.keep _ _ (λq=>(fi.ownM i xs hi).2.1 (inN q)) q.1 cV,q.2.mono kM λa ha=>.inl (sub a ha)⟩,fi.mxs⟩
end
theorem fk.sub(h:∀a∈M'',a∈M')(p:fk M₀ M s₁ M' s):fk M₀ M s₁ M'' s:=⟨p.keep,λb o hb e q=>p.out b o hb e (h b q),p.gens,p.occ⟩
theorem fk.side(p:fk M₀ M s₁ M' s)(sd:Sd W N k s s')(hk:s₁.gens.size≤k)(hN:∀a∈N,s₁.heap.get? a=none)(hn:∀a∈Nn,s.heap.get? a=none):fk M₀ M s₁ (Nn++M') s' :=
 ⟨λb o h e n=>sd.keep b o (λq=>by replace e:=hN b q▸e;cases e) (p.keep b o h e n) n,
  λb o h e q=>(aP.mp q).elim (λq=>by obtain⟨o',e'⟩:=p.occ b o e;rw[hn b q] at e';cases e') (p.out b o h e),
  λi g e=>sd.gens i g (by obtain⟨hl,_⟩:=Array.getElem?_eq_some_iff.mp e;exact ae hl hk) (p.gens i g e),
  λb o e=>(let⟨o',e'⟩:=p.occ b o e;sd.occ b o' (λq=>by replace e:=hN b q▸e;cases e) e')⟩
noncomputable def Bp(h:Heap)(M₀:List Addr):Fl→Flow→Prop
 |.nx,.next=>True
 |.bk,.brk=>True
 |.ct,.cont=>True
 |.rt v,.ret val=>v.own=false∧cQ h M₀ val v
 |_,_=>False
theorem Bp.weak(hs:∀a∈M₀,a∈M₁){f:Fl}{fl:Flow}(r:Bp h M₁ f fl):Bp h M₀ f fl:=by
 cases f with
 |rt v=>cases fl<;>first | exact⟨r.1,cQ.mono (λ_ _ _ e _=>e) (λx hx=>.inl (hs x hx)) r.1 r.2⟩ | exact r
 |_=>cases fl<;>exact r
noncomputable def dg(W:Wd)(Γ:eX)(sc:Scope)(st:Stmt)(c:CS):Prop :=
 ∀(n:Nat) (Φ:jU) (fu:Nat) (A:Around) (env:Env) (s₀ s:Shared) (M₀ M:List Addr) (own:Nat→Addr) (ρ ρ':Ev) (f:Fl) (E:Value→Shared→Prop) (Q:Flow→Shared→Prop),
  i4 W n Φ→dA W A n→lD Γ sc env→FI W Γ sc s₀ env M₀ own M ρ s→gS Φ fu c ρ=some (ρ',f) →
  (∀own' M' s' fl,FI W Γ sc s₀ env M₀ own' M' ρ' s'→fk M₀ M s M' s'→Bp s'.heap M₀ f fl→Q fl s')→wpAny (model W.prog W.w) A (exec st env) Q E s
noncomputable def fL(W:Wd)(Γ:eX)(sc:Scope)(sts:List Stmt)(cs:List CS):Prop :=
 ∀(n:Nat) (Φ:jU) (fu:Nat) (A:Around) (env:Env) (s₀ s:Shared) (M₀ M:List Addr) (own:Nat→Addr) (ρ ρ':Ev) (f:Fl) (E:Value→Shared→Prop) (Q:Flow→Shared→Prop),
  i4 W n Φ→dA W A n→lD Γ sc env→FI W Γ sc s₀ env M₀ own M ρ s→cexs Φ fu cs ρ=some (ρ',f) →
  (∀own' M' s' fl,FI W Γ sc s₀ env M₀ own' M' ρ' s'→fk M₀ M s M' s'→Bp s'.heap M₀ f fl→Q fl s')→wpAny (model W.prog W.w) A (execs sts env) Q E s
theorem vg:fL W Γ sc [] []:=λn Φ fu A env s₀ s M₀ M own ρ ρ' f E Q _ _ _ fi e h=>by
 cases e
 exact wpAny_execs_nil (h _ _ _ _ fi fk.refl trivial)
theorem Bp.next{fl:Flow}(q:Bp h M₀ .nx fl):fl=.next:=by cases fl<;>first | rfl | exact q.elim
theorem eU{ρ':Ev}{f f₁:Fl}{Q:Flow→Shared→Prop}(h:∀own' M' s' fl,FI W Γ sc s₀ env M₀ own' M' ρ' s'→fk M₀ M s M' s'→Bp s'.heap M₀ f fl→Q fl s')(e:some (ρ,f₁)=some (ρ',f)) :
 ∀{own' M' s' fl},FI W Γ sc s₀ env M₀ own' M' ρ s'→fk M₀ M s M' s'→Bp s'.heap M₀ f₁ fl→Q fl s':=λ{own' M' s' fl} a b c=>by cases e;exact h own' M' s' fl a b c
theorem xB{c:CS}{cs:List CS}(h1:dg W Γ sc st c)(h2:fL W Γ sc sts cs):fL W Γ sc (st::sts) (c::cs):=λn Φ fu A env s₀ s M₀ M own ρ ρ' f E Q ct rm so fi e h=>by
 obtain⟨⟨ρ₁,f₁⟩,e1,e⟩:=aJ e
 refine aV (h1 n Φ fu A env s₀ s M₀ M own ρ ρ₁ f₁ E _ ct rm so fi e1 λown' M' s' fl fi' st' fr=>?_)
 cases f₁ with
 |nx =>
  rw[fr.next]
  exact h2 n Φ fu A env s₀ s' M₀ M' own' ρ₁ ρ' f E Q ct rm so fi' e λown'' M'' s'' fl' fi'' st'' fr'=>h _ _ _ _ fi'' (st'.trans st'') fr'
 |bk=>have q:=eU h e fi' st' fr;cases fl<;>first | exact fr.elim | exact q
 |ct=>have q:=eU h e fi' st' fr;cases fl<;>first | exact fr.elim | exact q
 |rt v=>have q:=eU h e fi' st' fr;cases fl<;>first | exact fr.elim | exact q
theorem Hb{cs:List CS}(hy:Γ.vars.lookup y=some i)(h2:fL W Γ sc sts cs):fL W Γ sc sts (.frz i::cs):=λn Φ fu A env s₀ s M₀ M own ρ ρ' f E Q ct rm so fi e h=>by
 obtain⟨⟨ρ₁,f₁⟩,e1,e⟩:=aJ e
 have e1:(match za ρ i with | some xs=>some (ρ.set i (Mine.Slot.sh (.d (.list xs))),Fl.nx) | none=>some (ρ,Fl.nx))=some (ρ₁,f₁):=e1
 cases hx:za ρ i with
 |some xs =>
  rw[hx] at e1
  cases e1
  obtain⟨fi',st'⟩:=fi.frz so hy (mW hx)
  exact h2 n Φ fu A env s₀ s M₀ _ own _ ρ' f E Q ct rm so fi' e λown'' M'' s'' fl' fi'' st'' fr'=>h _ _ _ _ fi'' (st'.trans st'') fr'
 |none =>
  rw[hx] at e1
  cases e1
  exact h2 n Φ fu A env s₀ s M₀ M own _ ρ' f E Q ct rm so fi e h
theorem H6{t:Expr}{a b:List Stmt}{ca:List CS}(ht:gu W Γ sc t ct)(ha:fL W Γ sc a ca)(hb:fL W Γ sc b cb):dg W Γ sc (.If t a b p) (.ite ct ca cb):=λn Φ fu A env s₀ s M₀ M own ρ ρ' f E Q ctr rm so fi e h=>by
 obtain⟨v,e1,e⟩:=aJ e
 obtain⟨k,e2,e⟩:=aJ e
 refine wpAny_If (ht n Φ A s env M ρ v k E _ (fi.cx so ctr rm) e1 e2 λs₁ x1=>?_)
 cases k with
 |true=>exact ha n Φ fu A env s₀ s₁ M₀ M own ρ ρ' f E Q ctr rm so (fi.ext x1) e λown' M' s' fl fi' st' fr=>h _ _ _ _ fi' ((fk.of_SX x1).trans st') fr
 |false=>exact hb n Φ fu A env s₀ s₁ M₀ M own ρ ρ' f E Q ctr rm so (fi.ext x1) e λown' M' s' fl fi' st' fr=>h _ _ _ _ fi' ((fk.of_SX x1).trans st') fr
theorem Fw{x:Expr}(hx:bJ W Γ sc x c):dg W Γ sc (.Return (some x) p) (.ret c):=λn Φ fu A env s₀ s M₀ M own ρ ρ' f E Q ctr rm so fi e h=>by
 obtain⟨v,e1,e⟩:=aJ e
 obtain⟨ho,e⟩:=dn e
 exact wpAny_Return_some (hx n Φ A s env M ρ v E _ (fi.cx so ctr rm) e1 λxv s₁ x1 r1=>eU h e (fi.ext x1) (fk.of_SX x1) ⟨(by rw[←Bool.not_eq_true'];exact ho),cQ.mono (λ_ _ _ e _=>e) (λa ha=>.inl (fi.sub a ha)) (by rw[←Bool.not_eq_true'];exact ho) r1⟩)
theorem AK{t:Expr}{msg:Option Expr}(ht:gu W Γ sc t ct):dg W Γ sc (.Assert t msg p) (.assert ct):=λn Φ fu A env s₀ s M₀ M own ρ ρ' f E Q ctr rm so fi e h=>by
 obtain⟨v,e1,e⟩:=aJ e
 obtain⟨k,e2,e⟩:=aJ e
 obtain⟨hk,e⟩:=dn e
 exact wpAny_Assert_holds (ht n Φ A s env M ρ v k E _ (fi.cx so ctr rm) e1 e2 λs₁ x1=>⟨hk,eU h e (fi.ext x1) (fk.of_SX x1) trivial⟩)
theorem Ju:∀{Q:Flow→Shared→Prop} {Md:Model} {A:Around} {E:Value→Shared→Prop},Q .brk s→wpAny Md A (exec (.Break p) env) Q E s:=λh=>ac (bP (aB h))
theorem DP{t:Expr}{b:List Stmt}(ht:gu W Γ sc t ct)(hb:fL W Γ sc b cb):dg W Γ sc (.While t b [] p) (.wh ct cb):=λn Φ fu A env s₀ s M₀ M own ρ ρ' f E Q ctr rm so fi e h=>by
 obtain⟨Inv,hI⟩:∃Inv:Nat→Shared→Prop,∀k s',Inv k s'↔∃z:(Nat→Addr)×List Addr×Ev,FI W Γ sc s₀ env M₀ z.1 z.2.1 z.2.2 s'∧fk M₀ M s z.2.1 s'∧qV (λρ=>(ak Φ ct ρ).bind dC) (λρ=>cexs Φ fu cb ρ) k z.2.2=some (ρ',f):=⟨_,λ_ _=>Iff.rfl⟩
 refine wpAny_While (codeAny_whileLoop Inv ?_ fu ((hI _ _).mpr ⟨⟨own,M,ρ⟩,fi,fk.refl,e⟩))
 clear e fi
 intro k s₁ hh
 obtain⟨⟨own₁,M₁,ρ₁⟩,q⟩:=(hI _ _).mp hh
 clear hh
 cases k with
 |zero=>exact nomatch q.2.2
 |succ k =>
  obtain⟨b0,e2,e3⟩:=aJ q.2.2
  obtain⟨v,e4,e5⟩:=aJ e2
  refine ht n Φ A s₁ env M₁ ρ₁ v b0 _ _ (q.1.cx so ctr rm) e4 e5 λs₂ x2=>?_
  have fi2:=q.1.ext x2
  have st2:=q.2.1.trans (fk.of_SX x2)
  clear q e2 e4 e5 x2
  cases b0 with
  |false=>exact wpAny_execs_nil (eU h e3 fi2 st2 trivial)
  |true =>
   obtain⟨⟨ρ₂,f₂⟩,e6,e7⟩:=aJ e3
   refine hb n Φ fu A env s₀ s₂ M₀ M₁ own₁ ρ₁ ρ₂ f₂ _ _ ctr rm so fi2 e6 λown' M' s' fl fi' st' fr=>?_
   have st3:=st2.trans st'
   clear e6 e3 fi2 st2 st'
   have nxt:qV (λρ=>(ak Φ ct ρ).bind dC) (λρ=>cexs Φ fu cb ρ) k ρ₂=some (ρ',f)→∃m,m<k+1∧Inv m s':=λe7=>⟨k,bO _,(hI _ _).mpr ⟨⟨own',M',ρ₂⟩,fi',st3,e7⟩⟩
   cases f₂ with
   |nx=>cases fl<;>first | exact fr.elim | exact nxt e7
   |ct=>cases fl<;>first | exact fr.elim | exact nxt e7
   |bk=>cases fl<;>first | exact fr.elim | exact eU h e7 fi' st3 trivial
   |rt v=>cases fl<;>first | exact fr.elim | exact eU h e7 fi' st3 fr
structure Jl(W:Wd)(A:Around)(M:List Addr)(s₁ s₂:Shared)(I:Addr)(xs:List PyData)(N₀ fp:List Addr)(St:Nat→List Addr→Shared→Prop):Prop where
 item:∀(i:Nat) (N:List Addr) (s:Shared) (d:PyData) (Q:Option Value→Shared→Prop) (E:Value→Shared→Prop),xs[i]?=some d→cU W s→St i N s →
  (∀v s' Nn,St (i+1) (Nn++N) s'→(∀a∈Nn,s.heap.get? a=none)→Sd W N s₁.gens.size s s'→(∀M',kQ s.heap M'→(∀b o,b∉M→s₁.heap.get? b=some o→b∉M'∧(¬b_ o→s.heap.get? b=some o))→Rep s'.heap M' v d∧Rep s'.heap (Nn++M') v d)→Q (some v) s') →
  wpAny (model W.prog W.w) A (pyNext (.ref I)) Q E s
 done:∀(N:List Addr) (s:Shared) (Q:Option Value→Shared→Prop) (E:Value→Shared→Prop),cU W s→St xs.length N s →
  (∀s',Sd W N s₁.gens.size s s'→Q none s')→wpAny (model W.prog W.w) A (pyNext (.ref I)) Q E s
 frame:∀i N s s',St i N s→(∀b∈N++fp,∀o,s.heap.get? b=some o→s'.heap.get? b=some o)→(∀(k:Nat) g,s.gens[k]?=some g→s'.gens[k]?=some g)→(∀b o,s.heap.get? b=some o→∃o',s'.heap.get? b=some o')→St i N s'
 st:St 0 N₀ s₂
 new:∀i N s,St i N s→∀b∈N,s₁.heap.get? b=none
 here:∀i N s,St i N s→∀b∈N,∃o,s.heap.get? b=some o∧¬b_ o
 ext:SX W s₁ s₂
 old:∀b∈fp,b∉M∧∃o,s₁.heap.get? b=some o∧¬b_ o
theorem Sd.of(hk:∀b o,b∉N→s.heap.get? b=some o→h'.get? b=some o)(g:cU W {s with heap:=h',toks:=tk}):Sd W N k s {s with heap:=h',toks:=tk} :=
 ⟨λb o hb e _=>hk b o hb e,λb o hb e=>⟨o,hk b o hb e⟩,rfl,λ_ _ _ e=>e,g⟩
theorem zq.toS(g₁:cU W s₁)(T:zq W A M s₁ s₂ I xs fp P St):Jl W A M s₁ s₂ I xs [I] (fp.filter λb=>b != I) (λi N s=>N=[I]∧St i s.heap):=by
 have gd:∀{i:Nat} {s:Shared} {h':Heap} {tk:Nat},cU W s→St i s.heap→(∀b o,b∉[I]→s.heap.get? b=some o→h'.get? b=some o)→cU W {s with heap:=h',toks:=tk}:=λ{i s h' tk} g st hk =>
  ⟨W.mono g.ok λb o q e=>hk b o (λz=>by
   have z:=aq.mp z
   subst z
   rcases q with q | q
   ·obtain⟨o',e'⟩:=W.occ g₁.ok q;rw[T.new] at e';cases e'
   ·exact q (T.soft i s.heap o st e)) e,g.bare⟩
 have here:∀{i h b},St i h→b∈[I]→∃o,h.get? b=some o∧¬b_ o:=λ{i h b} st hb=>by
  rw[aq.mp hb]
  obtain⟨o,e⟩:=T.here i h st
  exact⟨o,e,(T.soft i h o st e).1⟩
 refine⟨λi N s d Q E hd g st h=>?_,λN s Q E g st h=>?_,λi N s s' st hk _ _=>⟨st.1,T.walks.frame i _ _ st.2 λb hb=>?_⟩,⟨rfl,T.st⟩,λi N s st b hb=>?_,λi N s st b hb=>?_,T.ext,λb hb=>?_⟩
 ·obtain⟨rfl,st⟩:=st
  refine T.walks.item i s Q E ((aS.mp hd).1) st λv h' tk hp st' hk=>h v _ [] ⟨rfl,st'⟩ (λa ha=>by cases ha) (Sd.of hk (gd g st hk)) λM' hM' hk'=>?_
  have:Rep h' M' v d:=by
   refine Rep.mono (λb o hb e n=>hk b o (λq=>?_) ((hk' b o hb e).2 n)) (λa ha=>?_) (T.rep i v d hp hd)
   ·simp only[aq.mp q,T.new] at e;cases e
   ·by_cases q:a∈M
    ·exact .inl q
    ·right
     cases e:s₁.heap.get? a with
     |none=>rfl
     |some o=>exact absurd ha (hk' a o q e).1
  exact⟨this,this⟩
 ·obtain⟨rfl,st⟩:=st
  exact T.walks.done s Q E (T.hd _ g) st λh' tk hk=>h _ (Sd.of hk (gd g st hk))
 ·refine hk b ?_
  obtain⟨h1,_⟩:=st
  subst h1
  by_cases q:b=I
  ·exact bl _ (by simp only[q];exact aq.mpr rfl)
  ·exact aT _ (List.mem_filter.mpr ⟨hb,by simpa using q⟩)
 ·obtain⟨h1,_⟩:=st
  subst h1
  rw[aq.mp hb];exact T.new
 ·obtain⟨h1,st⟩:=st
  subst h1
  exact here st hb
 ·obtain⟨h1,h2⟩:=List.mem_filter.mp hb
  exact T.old b h1 (by simpa using h2)
end
set_option backward.match.sparseCases true
section
variable{W:Wd}{Γ:eX}{sc:Scope}
noncomputable def f9(Γ:eX)(sc:Scope)(y:Str)(i:Nat):Prop:=Γ.vars.lookup y=some i∧(sc.names.lookup y=some .local∨sc.names.lookup y=some .cell)
noncomputable def BZ(W:Wd)(Γ:eX)(sc:Scope)(tgt:Expr)(take:PyData→Ev→Option Ev):Prop :=
 ∀(A:Around) (env:Env) (s₀ s:Shared) (M₀ M:List Addr) (own:Nat→Addr) (ρ ρ':Ev) (v:Value) (d:PyData) (E:Value→Shared→Prop) (Q:Unit→Shared→Prop),
  A.handled=W.exc.map Value.ref→lD Γ sc env→FI W Γ sc s₀ env M₀ own M ρ s→Rep s.heap M v d→take d ρ=some ρ' →
  (∀s',FI W Γ sc s₀ env M₀ own M ρ' s'→fk M₀ M s M s'→Q () s')→wpAny (model W.prog W.w) A (assign tgt env v) Q E s
theorem uy(hy:f9 Γ sc y i):BZ W Γ sc (.Name y p) (d7 i):=λA env s₀ s M₀ M own ρ ρ' v d E Q hh so fi r e h=>by
 unfold d7 at e
 obtain rfl:=am e
 exact wpAny_assign_Name (FI.store so fi hy.1 hy.2 (.inl ⟨.d d,rfl,rfl,r⟩) h)
inductive zp(Γ:eX)(sc:Scope):List Expr→List Nat→Prop
 |nil:zp Γ sc [] []
 |cons {y:Str} {i:Nat} {p:Pos} {es:List Expr} {is:List Nat}:f9 Γ sc y i→zp Γ sc es is→zp Γ sc (.Name y p::es) (i::is)
theorem Er{es:List Expr}(H:zp Γ sc es is)(env:Env):(assignEach es env).length=is.length∧(assignEach es env).findIdx? (·.1)=none:=by
 induction H with
 |nil=>exact⟨rfl,rfl⟩
 |cons hy _ ih =>
  have e:∀y p es,assignEach (.Name y p::es) env=(false,assign (.Name y p) env)::assignEach es env:=λ_ _ _=>rfl
  rw[e]
  exact⟨by simp[ih.1],by rw[List.findIdx?_cons];simp[ih.2]⟩
theorem Eh{es:List Expr}(H:zp Γ sc es is):∀{A:Around} {env:Env} {s₀ s:Shared} {M₀ M:List Addr} {own:Nat→Addr} {ρ ρ':Ev} {vs:List Value} {ds:List PyData} {E:Value→Shared→Prop} {Q:Unit→Shared→Prop},
  lD Γ sc env→FI W Γ sc s₀ env M₀ own M ρ s→Reps s.heap M vs ds→k9 is ds ρ=some ρ' →
  (∀s',FI W Γ sc s₀ env M₀ own M ρ' s'→fk M₀ M s M s'→Q () s')→wpAny (model W.prog W.w) A (assignInOrder ((assignEach es env).map (·.2)) vs) Q E s:=by
 induction H with
 |nil =>
  intro A env s₀ s M₀ M own ρ ρ' vs ds E Q so fi r e h
  obtain⟨q,e⟩:=cq e
  rw[←e] at h
  simp only[List.isEmpty_iff.mp q] at r
  have r:=r.length
  rw[List.length_eq_zero_iff.mp r]
  exact aB (h _ fi fk.refl)
 |@cons y i p es is hy _ ih =>
  intro A env s₀ s M₀ M own ρ ρ' vs ds E Q so fi r e h
  cases ds with
  |nil=>cases e
  |cons d ds =>
   cases r with
   |@cons v vs _ _ r1 r2 =>
    refine ac (aX (wpAny_assign_Name (FI.store so fi hy.1 hy.2 (.inl ⟨.d d,rfl,rfl,r1⟩) λs' fi' st'=>?_)))
    exact ih so fi' (r2.mono (λb o hb e n=>st'.keep b o (.inl hb) e n) λa ha=>.inl ha) e λs'' fi'' st''=>h _ fi'' (st'.trans st'')
theorem y3(e:wP n d=some xs):d=.tuple xs∧xs.length=n:=by
 cases d with
 |tuple ys=>exact(cq e).2▸⟨rfl,(cq e).1⟩
 |_=>cases e
theorem sj{it:Expr}(hs:eY it=false)(z:Value):foldedSetIterable it env z=pure z:=by cases it<;>first | rfl | cases hs
theorem v8(e:By n d=some xs):(d=.tuple xs∨d=.list xs)∧xs.length=n:=by
 cases d with
 |tuple ys=>exact(cq e).2▸⟨.inl rfl,(cq e).1⟩
 |list ys=>exact(cq e).2▸⟨.inr rfl,(cq e).1⟩
 |_=>cases e
theorem vH{es:List Expr}(H:zp Γ sc es is):BZ W Γ sc (.Tuple es k p) (jd is):=λA env s₀ s M₀ M own ρ ρ' v d E Q hh so fi r e h=>by
 obtain⟨xs,e1,e2⟩:=aJ e
 obtain⟨e1,hl⟩:=v8 e1
 obtain⟨n1,n2⟩:=Er H env
 have go:∀{l:Addr} {vs:Array Value},Reps s.heap M vs.toList xs→(vs.size=xs.length→(∀h',Heap.ExtBut s.heap.objs.size s.heap h'→wpAny (model W.prog W.w) A (assignInOrder ((assignEach es env).map (·.2)) vs.toList) Q E {s with heap:=h'})→wpAny (model W.prog W.w) A (assign (.Tuple es k p) env (.ref l)) Q E s)→wpAny (model W.prog W.w) A (assign (.Tuple es k p) env (.ref l)) Q E s:=λh3 g=>by
  have hvl:=h3.length
  simp only[aD] at hvl
  refine g hvl λh' hb=>?_
  have x1:SX W s {s with heap:=h'}:=SX.heap fi.x.good λb o e=>hb b o (λq=>by rw[q,bD] at e;cases e) e
  exact Eh H so (fi.ext x1) (h3.ext x1) e2 λs' fi' st'=>h _ fi' ((fk.of_SX x1).trans st')
 rcases e1 with e1 | e1<;>simp only[e1] at r
 ·exact ze (show cQ s.heap M v (.d (.tuple xs)) from r) λl vs n _ h2 h3=>go h3 λhvl=>l4 (B_ hh fi.x.good) ⟨_,h2,rfl,_,rfl⟩ (by rw[n1,hvl,hl]) n2
 ·exact vO (show cQ s.heap M v (.d (.list xs)) from r) λl vs n _ h2 h3=>go h3 λhvl=>mT (B_ hh fi.x.good) ⟨_,h2,rfl,_,rfl⟩ (by rw[n1,hvl,hl]) n2
structure FL(W:Wd)(Γ:eX)(sc:Scope)(env:Env)(s₀ s₁:Shared)(M₀ M:List Addr)(xs:List PyData)(St:Nat→List Addr→Shared→Prop)(go:List PyData→Ev→Prop)(k:Nat)(s':Shared)(i:Nat)(N:List Addr)(own':Nat→Addr)(M':List Addr)(ρ₁:Ev):Prop where
 hk:k=xs.length-i
 hi:i≤xs.length
 fi:FI W Γ sc s₀ env (N++M₀) own' M' ρ₁ s'
 st:fk M₀ M s₁ M' s'
 St:St i N s'
 e:go (xs.drop i) ρ₁
theorem nP(x:SX W s₀ s₁):s₀.gens.size≤s₁.gens.size:=be λq=>Nat.lt_irrefl _ (Array.getElem?_eq_some_iff.mp (x.gens s₁.gens.size _ (Array.getElem?_eq_getElem q))).1
theorem lN{b:List Stmt}(hb:fL W Γ sc b cb)(ht:BZ W Γ sc tgt take){own:Nat→Addr}{ρ':Ev}{f:Fl}
  {Q:Flow→Shared→Prop} {N₀:List Addr} {St:Nat→List Addr→Shared→Prop} (ctr:i4 W n Φ) (rm:dA W A n) (so:lD Γ sc env) (fi:FI W Γ sc s₀ env M₀ own M ρ s₁)
  (T:Jl W A M s₁ s₂ I xs N₀ fp St) (hlet:∀i N s v (Q:Unit→Shared→Prop) (E:Value→Shared→Prop),St i N s→Q () s→wpAny (model W.prog W.w) A (letOwnedTupleGo tgt (.ref I) v) Q E s)
  (e:loopF take (λρ=>cexs Φ fu cb ρ) xs ρ=some (ρ',f))
  (h:∀own' M' s' fl,FI W Γ sc s₀ env M₀ own' M' ρ' s'→fk M₀ M s₁ M' s'→Bp s'.heap M₀ f fl→Q fl s') :
  codeAny (model W.prog W.w) A (.forLoop tgt (.ref I) b [] env) (λr s'=>match r with | .ok f=>Q f s' | .error e=>cameBackBy (model W.prog W.w) A env E e s') s₂:=by
 have fr0:∀{i:Nat} {N:List Addr} {s:Shared},St i N s→∀a∈N,s₀.heap.get? a=none:=λst a ha=>fi.x.fresh (T.new _ _ _ st a ha)
 have m0:∀{i:Nat} {N:List Addr} {s:Shared},St i N s→∀a∈M₀,a∉N:=λst a ha q=>(fi.mok a (fi.sub a ha)).elim λo e=>Option.some_ne_none o (e.1.symm.trans (T.new _ _ _ st a q))
 have hw:∀{N:List Addr},∀a∈M₀,a∈N++M₀:=λa ha=>aT _ ha
 have fpk:∀{sA sB:Shared} {MA MB N:List Addr} {j:Nat},fk M₀ M s₁ MA sA→fk (N++M₀) MA sA MB sB→St j N sA→∀b∈N++fp,∀o,sA.heap.get? b=some o→sB.heap.get? b=some o:=λ{sA sB MA MB N j} pA pB st b hb o e=>by
  rcases aP.mp hb with q | q
  ·obtain⟨o',e',n'⟩:=T.here j _ _ st b q
   rw[e] at e'
   exact pB.keep b o (.inr (bl _ q)) e (am e'▸n')
  ·obtain⟨q,o1,e1,n1⟩:=T.old b q
   have e2:=pA.keep b o1 (.inl q) e1 n1
   rw[e] at e2
   exact pB.keep b o (.inl (pA.out b o1 q e1)) e (am e2▸n1)
 obtain⟨fi2,st2⟩:=fi.guard so T.ext (λa ha=>⟨T.new _ _ _ T.st a ha,T.here 0 _ _ T.st a ha⟩)
 obtain⟨Inv,hI⟩:∃Inv:Nat→Shared→Prop,∀k s',Inv k s'↔∃z:Nat×List Addr×(Nat→Addr)×List Addr×Ev,FL W Γ sc env s₀ s₁ M₀ M xs St (λxs ρ=>loopF take (λρ=>cexs Φ fu cb ρ) xs ρ=some (ρ',f)) k s' z.1 z.2.1 z.2.2.1 z.2.2.2.1 z.2.2.2.2:=⟨_,λ_ _=>Iff.rfl⟩
 refine codeAny_forLoop_any Inv ?_ xs.length ((hI _ _).mpr ⟨⟨0,N₀,own,N₀++M,ρ⟩,rfl,bo _,fi2,st2,T.st,e⟩)
 clear fi2 st2 e
 intro k s' hh
 obtain⟨⟨i,N,own',M',ρ₁⟩,z⟩:=(hI _ _).mp hh
 clear hh
 by_cases hlt:i<xs.length
 ·have hd:xs[i]?=some xs[i]:=aQ hlt
  have e':=z.e
  rw[cH hlt] at e'
  obtain⟨ρ₂,e1,e'⟩:=aJ e'
  obtain⟨⟨ρ₃,f₃⟩,e2,e'⟩:=aJ e'
  refine T.item i N s' xs[i] _ _ hd z.fi.x.good z.St λv s₃ Nn St3 hNn sd3 rep3=>?_
  have here3:=T.here _ _ _ St3
  have fi3:=z.fi.side (Nn:=Nn) so sd3 (nP fi.x) (λa ha=>⟨bl _ ha,fr0 z.St a ha,here3 a (aT _ ha)⟩) (λa ha=>⟨hNn a ha,here3 a (bl _ ha)⟩)
  rw[←bu] at fi3
  have st3:fk M₀ M s₁ (Nn++M') s₃:=z.st.side sd3 (aF _) (T.new _ _ _ z.St) hNn
  refine hlet (i+1) _ s₃ v _ _ St3 (ht A env s₀ s₃ ((Nn++N)++M₀) (Nn++M') own' ρ₁ ρ₂ v xs[i] _ _ rm.handled so fi3 (rep3 M' z.fi.mok λb o hb e=>⟨z.st.out b o hb e,λn=>z.st.keep b o (.inl hb) e n⟩).2 e1 λs₄ fi4 st4=>?_)
  have St4:St (i+1) (Nn++N) s₄:=T.frame _ _ _ _ St3 (fpk st3 st4 St3) st4.gens st4.occ
  have st14:=st3.trans (st4.weak hw)
  clear rep3 here3 fi3 St3 e1 sd3 hNn st3
  refine hb n Φ fu A env s₀ s₄ ((Nn++N)++M₀) (Nn++M') own' ρ₂ ρ₃ f₃ _ _ ctr rm so fi4 e2 λown5 M5 s₅ fl fi5 st5 fr=>?_
  have St5:St (i+1) (Nn++N) s₅:=T.frame _ _ _ _ St4 (fpk st14 st5 St4) st5.gens st5.occ
  have st15:=st14.trans (st5.weak hw)
  clear St4 st14 e2 fi4 st5
  have fin:∀{f₁ fl},some (ρ₃,f₁)=some (ρ',f)→Bp s₅.heap ((Nn++N)++M₀) f₁ fl→Q fl s₅:=λq r=>eU h q (fi5.unguard (hw (N:=Nn++N))) st15 (r.weak hw)
  have nxt:loopF take (λρ=>cexs Φ fu cb ρ) (xs.drop (i+1)) ρ₃=some (ρ',f)→∃k',k'<k∧Inv k' s₅ :=
   λe'=>⟨xs.length-(i+1),by simp only[z.hk];exact Nat.sub_succ_lt_self _ _ hlt,(hI _ _).mpr ⟨⟨i+1,Nn++N,own5,M5,ρ₃⟩,rfl,hlt,fi5,st15,St5,e'⟩⟩
  cases f₃ with
  |nx=>cases fl<;>first | exact fr.elim | exact nxt e'
  |ct=>cases fl<;>first | exact fr.elim | exact nxt e'
  |bk=>cases fl<;>first | exact fr.elim | exact fin e' trivial
  |rt v=>cases fl<;>first | exact fr.elim | exact fin e' fr
 ·have hin:i=xs.length:=Nat.le_antisymm z.hi (be hlt)
  have e':=z.e
  simp only[hin,List.drop_length] at e'
  exact T.done N s' _ _ z.fi.x.good (hin▸z.St) λs₃ sd3=>wpAny_execs_nil (eU h e' (z.fi.sideEnd sd3 (nP fi.x) (fr0 z.St) (m0 z.St))
   ((z.st.side (Nn:=[]) sd3 (aF _) (T.new _ _ _ z.St) (λa ha=>by cases ha)).sub λa ha=>(List.mem_filter.mp ha).1) trivial)
theorem FN{it:Expr}{b:List Stmt}(hy:f9 Γ sc y i)(hs:eY it=false)(hit:bJ W Γ sc it cit)(hb:fL W Γ sc b cb) :
  dg W Γ sc (.For (.Name y p) it b [] q) (.for1 i cit cb):=λn Φ fu A env s₀ s M₀ M own ρ ρ' f E Q ctr rm so fi e h=>by
 obtain⟨v,e1,e⟩:=aJ e
 obtain⟨xs,e2,e⟩:=aJ e
 refine wpAny_For (hit n Φ A s env M ρ v E _ (fi.cx so ctr rm) e1 λxv s₁ x1 r1=>?_) (sj hs)
 refine(jg (M:=M) rm.w x1.good r1 e2 λI s₂ fp P St T=>?_).2
 exact lN hb (uy hy) ctr rm so (fi.ext x1) (T.toS x1.good) (λ_ _ _ _ _ _ _ hq=>aB hq) e λown' M' s' fl fi' st' fr=>h _ _ _ _ fi' ((fk.of_SX x1).trans st') fr
theorem zG{es:List Expr}{it:Expr}{b:List Stmt}(H:zp Γ sc es is)(hs:eY it=false)(hl:∀(Φ:jU) (ρ:Ev) v,ak Φ cit ρ=some v→∃xs,v=.d (.list xs))(hit:bJ W Γ sc it cit)(hb:fL W Γ sc b cb) :
  dg W Γ sc (.For (.Tuple es k p) it b [] q) (.forT is cit cb):=λn Φ fu A env s₀ s M₀ M own ρ ρ' f E Q ctr rm so fi e h=>by
 obtain⟨v,e1,e⟩:=aJ e
 obtain⟨xs,e2,e⟩:=aJ e
 refine wpAny_For (hit n Φ A s env M ρ v E _ (fi.cx so ctr rm) e1 λxv s₁ x1 r1=>?_) (sj hs)
 obtain⟨ys,hv⟩:=hl _ _ _ e1
 rw[hv] at e2 r1
 obtain⟨ez,e2⟩:=cq e2
 rw[e2] at r1
 refine vO r1 λl vs k2 h1 h2 h3=>?_
 have hln:=h3.length
 simp only[aD] at hln
 have W0:=fS.list (A:=A) (prog:=W.prog) (w:=W.w) s₁.heap.objs.size l (λq=>by simp only[q,bD] at h2;cases h2) vs
 rw[hln] at W0
 refine wpAny_pyIter_list ⟨_,h2,rfl,_,rfl⟩ ?_
 have T:zq W A M s₁ {s₁ with heap:=s₁.heap.push {cls:=.type "list_iterator",data:=.fields #[.ref l,.int 0 0]}} s₁.heap.objs.size xs [s₁.heap.objs.size,l] (λi v=>vs[i]?=some v) (λi h=>h.IsListIter s₁.heap.objs.size l i∧h.IsList l vs) :=
  ⟨W0,λ_=>rm.w.hd,⟨⟨_,aI _ rfl,rfl,rfl⟩,⟨_,aC _ h2,rfl,_,rfl⟩⟩,bD _,SX.push (tk:=s₁.toks) x1.good,zT h1 h2 cV,λ_ _ _=>h3.pair,
   λi h o st e=>st.1.elim λo' q=>ig q.1 (gK q.2.1 q.2.2 λ_ _ z=>nomatch z) o e,λi h st=>st.1.elim λo q=>⟨o,q.1⟩⟩
 refine lN hb (vH H) ctr rm so (fi.ext x1) (T.toS x1.good) (λi N s v Q E st hq=>?_) e λown' M' s' fl fi' st' fr=>h _ _ _ _ fi' ((fk.of_SX x1).trans st') fr
 cases v with
 |ref a=>exact wpAny_letOwnedTupleGo_listiter st.2.1 hq
 |_=>exact aB hq
noncomputable def jE(e:Expr):Bool:=!(e.ctorIdx==8||e.ctorIdx==9||e.ctorIdx==10)
theorem lR{e:Expr}(h:jE e=true)(t:Option Expr)(line:Nat)(env:Env):swapsWith e t line env=pure false:=by
 cases e<;>first | rfl | cases h
theorem oA{x:Expr}(hy:f9 Γ sc y i)(hn:jE x=true)(hx:bJ W Γ sc x c):dg W Γ sc (.Assign [.Name y p] x q) (.asg i c):=λn Φ fu A env s₀ s M₀ M own ρ ρ' f E Q ctr rm so fi e h=>by
 obtain⟨v,e1,e⟩:=aJ e
 obtain⟨ho,e⟩:=dn e
 simp only[Bool.not_eq_true'] at ho
 exact wpAny_Assign_Name (hx n Φ A s env M ρ v E _ (fi.cx so ctr rm) e1 λxv s₁ x1 r1=>FI.store so (fi.ext x1) hy.1 hy.2 (.inl ⟨v,rfl,ho,r1⟩) λs' fi' st'=>eU h e fi' ((fk.of_SX x1).trans st') trivial) (lR hn _ _ _)
theorem wF{cc:CE}(hy:f9 Γ sc y i)(H:i9 W Γ sc scope elt gens pos cc) :
  dg W Γ sc (.Assign [.Name y p] (.ListComp elt gens scope pos) q) (.asg i cc):=λn Φ fu A env s₀ s M₀ M own ρ ρ' f E Q ctr rm so fi e h=>by
 obtain⟨v,e1,e⟩:=aJ e
 obtain⟨ho,e⟩:=dn e
 rw[Bool.not_eq_true'] at ho
 obtain⟨b,hb⟩:∃b,swapsWith (.ListComp elt gens scope pos) (some (.Name y p)) q.line env=pure b:=⟨_,rfl⟩
 cases b with
 |false =>
  exact wpAny_Assign_Name (mS H n Φ A s env M ρ v E _ (fi.cx so ctr rm) e1 λxv s₁ x1 r1=>FI.store so (fi.ext x1) hy.1 hy.2 (.inl ⟨v,rfl,ho,r1⟩) λs' fi' st'=>eU h e fi' ((fk.of_SX x1).trans st') trivial) hb
 |true =>
  rw[exec_Assign_Name_used y p _ q hb]
  refine ac (bP (ac ?_))
  show wpAny _ A (do let _ ←comprehension (.ListComp elt gens scope pos) scope env (firstIterPos gens pos) (newList []) (firstAsync gens) (firstIter gens env) (some (assign (.Name y p) env))) _ E s
  refine ac (H n Φ A s env M ρ v (some (assign (.Name y p) env)) E _ (fi.cx so ctr rm) e1 λtotal s₁ s' D C m hv x1 x2 hC hm hD hr=>?_)
  rw[hv] at e
  have fi1:=fi.ext x1
  clear e1 hv
  obtain⟨o0,ho0⟩:=en hm
  have new:∀a∈[C],s₁.heap.get? a=none:=λa ha=>by rw[aq.mp ha];exact hC
  obtain⟨gf,gs⟩:=fi1.guard (N:=[C]) so x2 (λa ha=>⟨new a ha,by rw[aq.mp ha];exact⟨o0,ho0⟩⟩)
  refine wpAny_assign_Name (FI.store so gf hy.1 hy.2 (.inl ⟨.d (.list total),rfl,rfl,hr⟩) λs₃ fi3 st3=>?_)
  have hm3:s₃.heap.Ns C m:=by
   obtain⟨o,es,ep,e,hd,r⟩:=hm
   exact⟨o,es,ep,st3.keep C o (.inr (bl _ (aq.mpr rfl))) e (λt=>t.2.elim λfs q=>by replace q:=hd▸q;cases q.1),hd,r⟩
  refine⟨m,hm3,λh' hsb=>aB (aB ?_)⟩
  have sd:Sd W [C] s₁.gens.size s₃ {s₃ with heap:=h'}:=Sd.of (λb o hb e=>hsb.extBut b o (λq=>hb (by simp only[q];exact aq.mpr rfl)) e) (SX.upd (tk:=s₃.toks) fi3.x hsb.extBut (fi1.x.fresh hC) (iM hm3) fi.g₀).good
  exact eU h e (fi3.sideEnd sd (nP fi1.x) (λa ha=>fi1.x.fresh (new a ha)) λa ha q=>(fi1.mok a (fi1.sub a ha)).elim λo e=>Option.some_ne_none o (e.1.symm.trans (new a q)))
   ((fk.of_SX x1).trans (((gs.trans (st3.weak λa ha=>aT _ ha)).side (Nn:=[]) sd (aF _) new (λa ha=>by cases ha)).sub (M'':=(([C]++M).filter λa=>decide (a∉[C]))) λa ha=>(List.mem_filter.mp ha).1)) trivial
end
section
variable{W:Wd}{Γ:eX}{sc:Scope}
theorem uT{M:Model}(ho:bI x=true)(hk:env.scope.kind=.function)
  (hv:c_ s.heap env x v) (h:Q v s):wpAny M A (loadName env x) Q E s:=by
 rcases hv with⟨k,m,n,e⟩ | ⟨k | k,c,e,n⟩
 ·exact wpAny_loadName_local hk k n e h
 ·exact wpAny_loadName_cell hk k e n h
 ·exact wpAny_loadName_free hk k e n h (uR ho)
theorem Hd{x:PyData}(e:rd ρ i=some (.d x)):ρ[i]?=some (.sh (.d x)):=by
 obtain⟨sl,h1,h2⟩:=aJ e
 rw[h1]
 cases sl with
 |sh v=>rw[am h2]
 |_=>cases h2
theorem FG{neg:Bool}{x:Expr}(ho:bI y=true)(hy:f9 Γ sc y i)(hx:bJ W Γ sc x c):dg W Γ sc (.AugAssign (.Name y p) (if neg then .Sub else .Add) x q) (.aug neg i c):=λn Φ fu A env s₀ s M₀ M own ρ ρ' f E Q ctr rm so fi e h=>by
 obtain⟨v,e1,e⟩:=aJ e
 obtain⟨b,e2,e⟩:=aJ e
 obtain⟨u,e3,e⟩:=aJ e
 obtain⟨a,e4,e⟩:=aJ e
 rw[dk e2] at e1
 rw[dk e4] at e3
 clear e2 e4
 obtain⟨_,val,hv,hr⟩:=fi.vis y i hy.1 _ (Hd e3)
 have fin:∀{s₁:Shared},SX W s s₁→∀{r t},r=(if neg then a-b else a+b)→wpAny (model W.prog W.w) A (storeName env y (.int r t)) (λ_=>Q .next) E {s₁ with toks:=s₁.toks+1}:=λ{s₁} x1 {r t} q =>
  FI.store so ((fi.ext x1).ext (SX.toks x1.good)) hy.1 hy.2 (.inl ⟨.d (.int _),rfl,rfl,q▸.int _ _⟩) λs' fi' st'=>eU h e fi' (((fk.of_SX x1).trans (fk.of_SX (SX.toks x1.good))).trans st') trivial
 refine iX (G:=λval=>c_ s.heap env y val→wpAny (model W.prog W.w) A (exec (.AugAssign (.Name y p) (if neg then .Sub else .Add) x q) env) Q E s) hr (λt hv=>?_) hv
 refine wpAny_AugAssign_Name (uT ho (dI so.ek) hv (hx n Φ A s env M ρ _ E _ (fi.cx so ctr rm) e1 λxv s₁ x1 r1=>iX r1 λu=>?_))
 cases neg with
 |true=>exact isub_int (fin x1 rfl)
 |false=>exact iadd_int (fin x1 rfl)
noncomputable def n8(W:Wd)(Γ:eX)(scope:Scope)(e:Expr)(c:CE):Prop :=
 ∀(n:Nat) (Φ:jU) (A:Around) (s:Shared) (env:Env) (M:List Addr) (ρ:Ev) (xs:List PyData) (E:Value→Shared→Prop) (Q:Value→Shared→Prop),
  Cx W Γ scope n Φ A s env M ρ→ak Φ c ρ=some (.d (.list xs))→(∀a vs k s',SX W s s'→s.heap.get? a=none→s'.heap.get? a=some (bU vs k)→Reps s'.heap (a::M) vs.toList xs→Q (.ref a) s')→wpAny (model W.prog W.w) A (eval e env) Q E s
theorem xw{es:List Expr}(H:fC W Γ sc es cs):n8 W Γ sc (.List es p) (.list cs):=λn Φ A s env M ρ xs E Q c e h=>by
 obtain⟨ys,e1,e⟩:=aJ e
 obtain⟨q,e⟩:=cq e
 cases e
 refine wpAny_List (jj H c e1 λvals s₁ x1 r1=>⟨by rw[r1.length];exact ab (cW q) (by decide),?_⟩)
 have x2:SX W s₁ {s₁ with heap:=s₁.heap.push (bU vals.toArray 0)}:=SX.push (tk:=s₁.toks) x1.good
 exact h _ _ _ _ (x1.trans x2) (x1.fresh (bD _)) (aI _ rfl) (r1.mono (λb o _ e n=>x2.keep b o e n) λa ha=>(ah.mp ha).elim (λq=>.inr (q▸bD _)) .inl)
theorem qw:∀{ts:List Str} {vs:List Value},Reps h M vs (ts.map .str)→Reps h M' vs (ts.map .str):=by
 intro ts
 induction ts with
 |nil=>intro vs r;rw[List.length_eq_zero_iff.mp r.length];exact .nil
 |cons t ts ih =>
  intro vs r
  cases vs with
  |nil=>cases r.length
  |cons v vs =>
   cases r with
   |cons r1 r2 =>
    obtain⟨u,rfl⟩:=jb r1
    exact .cons (.str _ _) (ih r2)
theorem A2{o:Expr}{co:CE}{es:Expr}(hb:ja o=true)(hl:(apos.endLine==pos.line)=true)(hs:eg es=false)(hobj:bJ W Γ sc o co)(H:bJ W Γ sc es ce) :
  n8 W Γ sc (.Call (.Attribute o (Str.ofString "split") apos) [es] [] pos) (.meth .split co [ce]):=λn Φ A s env M ρ xs E Q c e h=>by
 obtain⟨x,e0,e⟩:=aJ e
 obtain⟨ys,e1,e⟩:=aJ e
 obtain⟨z,w,hx,hy,q1,q2,ev⟩:=wx e
 replace e0:=hx▸e0
 simp only[hy] at e1
 clear hx hy e
 have ev:=PyData.list.inj (vp ev)
 have H':fC W Γ sc [es] [ce]:=.cons hs H .nil
 refine wpAny_Call_method_lateS (n_ hb) ?_ hl (hobj n Φ A s env M ρ _ E _ c e0 λov s₁ x1 r1=>?_)
 ·rw[H'.allPlain]
  simp[backToKw,vb]
 ·refine⟨"str","str.split",PySem.F.plainAttrs_str,PySem.F.slot_str_split,PySem.F.type_str_split,(iu r1).1,(iu r1).2,?_⟩
  refine Calls.callWith_builtin (H'.plain _ _) (dR H' (c.ext x1) e1 λvals s₂ x2 r2=>?_)
  obtain⟨w1,hw,r2⟩:=HF r2
  rw[hw]
  refine jZ (r1.ext x2) λt=>jZ r2 λu=>qH x2.good ((c.ext x1).ext x2).mok q1 q2 λr s' sx hf hp hr=>?_
  obtain⟨vs,k,hp⟩:=hp
  obtain⟨l,ws,k2,el,_,g2,g3⟩:=i8 (show cQ s'.heap M (.ref r) (.d _) from hr)
  cases el
  replace g2:=hp▸g2
  cases g2
  exact h _ _ _ _ ((x1.trans x2).trans sx) ((x1.trans x2).fresh hf) hp (ev▸qw g3)
theorem FS.own{h:Heap}{env:Env}{M:List Addr}{x:Str}{own own':Nat→Addr}{a:Addr}{sl:Slot}(e:∀k n,sl=.mx k n→∀j,j<n→own' (k+j)=own (k+j))(q:FS h env M x own a sl):FS h env M x own' a sl:=by
 cases sl with
 |mx k n =>
  have:jW own' k n=jW own k n:=congrArg List.toArray (List.map_congr_left λj hj=>congrArg Value.ref (e k n rfl j (bS.mp hj)))
  exact⟨q.1,q.2.1,this▸q.2.2⟩
 |_=>exact q
theorem FI.drop{own:Nat→Addr}(fi:FI W Γ sc s₀ env M₀ own M ρ s)(hx:Γ.vars.lookup x=some i)(a:Addr) :
  FI W Γ sc s₀ env M₀ (λj=>if j=i then a else own j) M (ρ.set i .un) s:=by
 have ne:∀{j:Nat} {xs:List PyData},(ρ.set i Mine.Slot.un)[j]?=some (Mine.Slot.ow xs)→j≠i∧ρ[j]?=some (Mine.Slot.ow xs):=λ{j xs} hj=>by
  by_cases q:i=j
  ·subst q;cases bW hj
  ·exact⟨λe=>q e.symm,bC hj q⟩
 refine⟨fi.g₀,fi.x,fi.lay,fi.mok,fi.sub,fi.apart,fi.loc,λj xs hj=>?_,λj k xs ys hj hk hne=>?_,λy j hy sl hs=>?_,by rw[List.length_set];exact fi.len,λj xs hj=>?_,λj k n hj=>?_⟩
 ·obtain⟨h1,h2⟩:=ne hj
  simp only[h1,if_false]
  exact fi.ownM j xs h2
 ·refine aa λhQ=>?_
  obtain⟨h1,h2⟩:=ne hj
  obtain⟨h3,h4⟩:=ne hk
  (refine hQ ?_;clear hQ)
  simp only[h1,h3,if_false]
  exact fi.inj j k xs ys h2 h4 hne
 ·by_cases q:i=j
  ·subst q;have:=bW hs;subst this;trivial
  ·have:=fi.vis y j hy sl (bC hs q)
   simp only[show j≠i from λe=>q e.symm,if_false]
   exact FS.own (λk n e l hl=>if_neg λz=>fi.mxs j k n (by rw[←e];exact bC hs q) l hl x (by rw[z];exact hx)) this
 ·obtain⟨h1,h2⟩:=ne hj
  simp only[h1,if_false]
  exact fi.rows j xs h2
 ·by_cases q:i=j
  ·subst q;cases bW hj
  ·exact fi.mxs j k n (bC hj q)
theorem FK{x:Expr}(hy:f9 Γ sc y i)(hn:jE x=true)(hx:n8 W Γ sc x c):dg W Γ sc (.Assign [.Name y p] x q) (.own i c):=λn Φ fu A env s₀ s M₀ M own ρ ρ' f E Q ctr rm so fi e h=>by
 obtain⟨v,e1,e⟩:=aJ e
 obtain⟨xs,e2,e⟩:=aJ e
 rw[fF e2] at e1
 refine wpAny_Assign_Name (hx n Φ A s env M ρ xs E _ (fi.cx so ctr rm) e1 λa vs k s₁ x1 hf hp r1=>?_) (lR hn _ _ _)
 obtain⟨gf,gs⟩:=fi.guard (N:=[a]) so x1 (λb hb=>by rw[aq.mp hb];exact⟨hf,_,hp,cV⟩)
 have nM:∀b∈M,b≠a:=λb hb q=>(fi.mok b hb).elim λo e=>Option.some_ne_none o (e.1.symm.trans (q▸hf))
 refine FI.store so ((gf.unguard λb hb=>aT _ hb).drop hy.1 a) hy.1 hy.2 (.inr ⟨xs,rfl,?_⟩) λs' fi' st'=>?_
 ·rw[if_pos rfl]
  refine⟨rfl,⟨vs,k,hp,r1⟩,bl _ (aq.mpr rfl),λq=>nM a (fi.sub a q) rfl,fi.x.fresh hf,λj ys hne hj=>?_⟩
  rw[if_neg hne]
  exact Ne.symm (nM _ (fi.ownM j ys (bC hj (Ne.symm hne))).1)
 ·simp only[List.set_set] at fi'
  exact eU h e fi' (gs.trans st') trivial
theorem FB{nm:Str}{id:String}{es:List Expr}(ho:bI x=true)(hl:(apos.endLine==pos.line)=true)(hn:es.length<30)(H:fC W Γ sc es cs)
  (hs:PySem.Slot "list" nm id) (ht:typeOf (.builtin id)=pure (.type "method_descriptor")) (hy:f9 Γ sc x i) {own:Nat→Addr} {us:List V} {Q:Flow→Shared→Prop}
  (ctr:i4 W n Φ) (rm:dA W A n) (so:lD Γ sc env) (fi:FI W Γ sc s₀ env M₀ own M ρ s) (e1:cevals Φ cs ρ=some us) (e2:ρ[i]?=some (.ow xs))
  (h:∀vals s',SX W s s'→dN s'.heap M vals us→wpAny (model W.prog W.w) A (call (.builtin id) (.ref (own i)::vals) []) (λv s'=>v=.none∧Q .next s') E s') :
  wpAny (model W.prog W.w) A (exec (.Expr (.Call (.Attribute (.Name x px) nm apos) es [] pos) q) env) Q E s:=by
 refine aa λhQ=>?_
 obtain⟨hv,vs,k,hp,hr⟩:=fi.vis x i hy.1 _ e2
 (refine hQ ?_;clear hQ)
 have hk:=dI so.ek
 refine wpAny_Expr ?_ (by unfold interactive;rw[hk];rfl) rfl
 refine wpAny_Call_method_lateS rfl ?_ hl (fe ho hk hv ?_)
 ·rw[H.allPlain]
  simp[hn,backToKw,vb]
 ·refine⟨"list",id,PySem.F.plainAttrs_list,hs,ht,⟨_,hp,rfl⟩,λ_ e=>by cases e;exact⟨_,hp,rfl⟩,?_⟩
  refine Calls.callWith_builtin (H.plain _ _) (dR H (fi.cx so ctr rm) e1 λvals s₂ x2 r2=>?_)
  refine bA (h vals s₂ x2 r2) (λv s' hv=>?_) λ_ _ x=>x
  obtain⟨rfl,hq⟩:=hv
  exact hq
theorem IB{a:Expr}(ho:bI x=true)(hl:(apos.endLine==pos.line)=true)(hst:eg a=false)(ha:bJ W Γ sc a c)(hy:f9 Γ sc x i) :
  dg W Γ sc (.Expr (.Call (.Attribute (.Name x px) (Str.ofString "append") apos) [a] [] pos) q) (.app i c):=λn Φ fu A env s₀ s M₀ M own ρ ρ' f E Q ctr rm so fi e h=>by
 obtain⟨v,e1,e⟩:=aJ e
 obtain⟨d,e2,e⟩:=aJ e
 obtain⟨xs,hx,e⟩:=aJ e
 obtain⟨sz,e⟩:=cq e
 rw[eO e2] at e1
 have hx:=mW hx
 refine FB ho hl (by show 1<30;decide) (.cons hst ha .nil) PySem.slot_list_append PySem.type_list_append hy ctr rm so fi (us:=[.d d]) (bc e1 rfl) hx λvals s₁ x1 r1=>?_
 obtain⟨w,hw,ra⟩:=HF r1
 rw[hw]
 have fi1:=fi.ext x1
 obtain⟨_,vs,k,hp,hr⟩:=fi1.vis x i hy.1 _ hx
 refine iU hp (by rw[←aD,hr.length];exact ab (cW sz) (by decide)) λh' hp' hk'=>⟨rfl,?_⟩
 obtain⟨fi2,st2⟩:=fi1.mut (tk:=s₁.toks) so hy.1 hx hk' hp' (ys:=xs++[d]) (by rw[Array.toList_push];exact hr.append (.cons ra .nil))
 exact eU h (congrArg some e) fi2 ((fk.of_SX x1).trans st2) trivial
theorem I1(ho:bI x=true)(hl:(apos.endLine==pos.line)=true)(hy:f9 Γ sc x i) :
  dg W Γ sc (.Expr (.Call (.Attribute (.Name x px) (Str.ofString "reverse") apos) [] [] pos) q) (.rev i):=λn Φ fu A env s₀ s M₀ M own ρ ρ' f E Q ctr rm so fi e h=>by
 obtain⟨xs,hx,e⟩:=aJ e
 obtain⟨sz,e⟩:=cq e
 have hx:=mW hx
 refine FB ho hl (by show 0<30;decide) .nil PySem.F.slot_list_reverse PySem.F.type_list_reverse hy ctr rm so fi (us:=[]) rfl hx λvals s₁ x1 r1=>?_
 cases r1
 have fi1:=fi.ext x1
 obtain⟨_,vs,k,hp,hr⟩:=fi1.vis x i hy.1 _ hx
 have hs1:vs.size≤sizeLine:=by rw[←aD,hr.length];exact ab (cW sz) (by decide)
 refine call_meets PySem.F.slot_list_reverse ⟨_,hp,rfl⟩ PySem.F.entry_list_reverse (PySem.F.args_list_reverse_1 _) (AutoSeq1.list_reverse_list_0 _ vs k hs1) ⟨hp,rfl,?_⟩
 have em:Obj.mapSeq (λx=>x.reverse) (bU vs k)=bU vs.reverse (if vs.reverse.size==vs.size then k else k+1):=rfl
 have hp':(s₁.heap.update (own i) (Obj.mapSeq λx=>x.reverse)).get? (own i)=some (bU vs.reverse (if vs.reverse.size==vs.size then k else k+1)):=by
  rw[cX _ hp (by rw[em];rfl),em]
 obtain⟨fi2,st2⟩:=fi1.mut (tk:=s₁.toks) so hy.1 hx (Heap.SameBut.update ..).extBut hp' (ys:=xs.reverse) (by rw[Array.toList_reverse];exact hr.reverse)
 exact eU h (congrArg some e) fi2 ((fk.of_SX x1).trans st2) trivial
theorem Reps.eraseIdx{vs:List Value}(r:Reps h M vs ds):∀k:Nat,Reps h M (vs.eraseIdx k) (ds.eraseIdx k) :=
 Reps.ind (P:=λvs ds=>∀k:Nat,Reps h M (vs.eraseIdx k) (ds.eraseIdx k)) (λ_=>.nil)
  (λ_ _ _ _ b t ih i=>by
   cases i with
   |zero=>exact t
   |succ i=>exact .cons b (ih i)) r
theorem Jg{last:Bool}{a:Expr}(ho:bI x=true)(ha:bJ W Γ sc a c)(hc:∀(Φ:jU) (ρ:Ev),ak Φ c ρ=some (.d (.int (if last then -1 else 0))))(hy:f9 Γ sc x i) :
  dg W Γ sc (.Delete [.Subscript (.Name x px) a p] q) (.delAt i last):=λn Φ fu A env s₀ s M₀ M own ρ ρ' f E Q ctr rm so fi e h=>by
 obtain⟨xs,hx,e⟩:=aJ e
 obtain⟨sz,e⟩:=cq e
 simp only[ag,Bool.not_eq_true'] at sz
 have hx:=mW hx
 obtain⟨hv,_⟩:=fi.vis x i hy.1 _ hx
 refine wpAny_Delete (wpAny_deleteEach_cons (wpAny_delete_Subscript (fe ho (dI so.ek) hv (ha n Φ A s env M ρ _ E _ (fi.cx so ctr rm) (hc Φ ρ) λxv s₁ x1 r1=>iX r1 λt=>?_))))
 have fi1:=fi.ext x1
 obtain⟨_,vs,k,hp,hr⟩:=fi1.vis x i hy.1 _ hx
 have hln:=hr.length
 simp only[aD] at hln
 have hpos:0<xs.length:=List.length_pos_iff.mpr λz=>by replace sz:=z▸sz;cases sz.1
 have hs1:vs.size≤sizeLine:=by rw[hln];exact ab (cW sz.2) (by decide)
 have key:∀j:Nat,seqIndex? (if last then -1 else 0) vs.size=some j→xs.eraseIdx j=(if last then xs.dropLast else xs.tail)→j<vs.size →
   wpAny (model W.prog W.w) A (delItem (.ref (own i)) (.int (if last then -1 else 0) t)) (λ_ s₁=>wpAny (model W.prog W.w) A (deleteEach [] env) (λ_ s₁=>Q .next s₁) E s₁) E s₁:=λj hj hx' hlt=>by
  refine wpAny_delItem_plain ⟨k,hp⟩ (by cases last<;>rfl) hj (λh' hp' hsb=>?_) hs1
  obtain⟨k',hp'⟩:=hp'
  refine wpAny_deleteEach_nil ?_
  obtain⟨fi2,st2⟩:=fi1.mut (tk:=s₁.toks) so hy.1 hx hsb.extBut hp' (ys:=xs.eraseIdx j) (by
   rw[Array.eraseIdxIfInBounds,dif_pos hlt,Array.toList_eraseIdx]
   exact hr.eraseIdx j)
  simp only[hx'] at fi2
  exact eU h (congrArg some e) fi2 ((fk.of_SX x1).trans st2) trivial
 clear h hp hr fi1 hx hv
 cases last with
 |false =>
  refine key 0 ?_ List.eraseIdx_zero (hln▸hpos)
  show(if(decide ((0:Int)≤0)&&decide ((0:Int)<(vs.size:Int)))=true then some (0:Int).toNat else none)=some 0
  rw[if_pos (by rw[ag,ar,ar];lia)];rfl
 |true =>
  refine key (vs.size-1) ?_ ?_ (Nat.sub_lt (hln▸hpos) Nat.one_pos)
  ·have e1:(if(-1:Int)<0 then(-1:Int)+(vs.size:Int) else -1)=((vs.size-1:Nat):Int):=by rw[if_pos (by decide)];lia
   show(if(decide (0≤(if(-1:Int)<0 then(-1:Int)+(vs.size:Int) else -1))&&decide ((if(-1:Int)<0 then(-1:Int)+(vs.size:Int) else -1)<(vs.size:Int)))=true then some (if(-1:Int)<0 then(-1:Int)+(vs.size:Int) else -1).toNat else none)=_
   rw[e1,if_pos (by rw[ag,ar,ar];lia)];rfl
  ·rw[hln];exact List.eraseIdx_length_sub_one
end
section
variable{prog:Program}{w:World}
theorem gJ{l:Addr}{k:Int}{Q:Unit→Shared→Prop}(ho:s.heap.get? l=some (bU items n))
  (h0:0≤k) (hfit:k<2^63) (hn:k<items.size)
  (hQ:∀h' n',h'.get? l=some (bU (items.setIfInBounds k.toNat v) n')→Heap.SameBut l s.heap h'→Q () {s with heap:=h'}) :
  wpAny (model prog w) A (setItem (.ref l) (.int k t) v) Q E s:=by
 have hl:s.heap.IsList l items:=⟨_,ho,rfl,n,rfl⟩
 have hd:(bU items n).data=.seq items n:=rfl
 unfold setItem
 try with_reducible refine aX ?_
 first | refine ac (aB ?_) | skip
 refine ac (wpAny_sequenceKey hl.typeIs (by decide) ?_)
 refine ac (b9 (name:=Str.ofString "__setitem__") hl.typeIs slot_list_setitem
  (cF slot_list_setitem hl.typeIs entry_list_setitem ?_ (args_list_setitem _ _ _)))
 show wpAny _ _ (Builtin.List.listSubscript? (.int k t)>>=_) _ _ s
 refine ac (wpAny_listSubscript_int (fitsIndex_of h0 hfit) ?_)
 clear hfit
 obtain⟨j,rfl⟩:=Int.eq_ofNat_of_zero_le h0
 have hj:j<items.size:=by exact cR.mp hn
 have hx':items[j]?=some items[j]:=Array.getElem?_eq_getElem hj
 show wpAny _ _ ((seqItemAt l j>>=λr=>pure (r.map (j,·)))>>=_) _ _ s
 refine ac (ac (wpAny_seqItemAt ho hd (aB ?_)))
 rw[hx']
 show wpAny _ _ (setSeqItemAt l j v>>=_) _ _ s
 have em:Obj.mapSeq (λx=>x.setIfInBounds j v) (bU items n)=bU (items.setIfInBounds j v) (if(items.setIfInBounds j v).size==items.size then n else n+1):=rfl
 have hfin:(s.heap.update l (Obj.mapSeq (·.setIfInBounds j v))).get? l=some (bU (items.setIfInBounds j v) (if(items.setIfInBounds j v).size==items.size then n else n+1)):=by
  rw[cX _ ho (by rw[em];rfl),em]
 refine ac (wpAny_setSeqItemAt ho hd ?_)
 first
  |exact ac (aB (aB ⟨.none,rfl,aB (hQ _ _ hfin (Heap.SameBut.update ..))⟩))
  |exact aB ⟨.none,rfl,aB (hQ _ _ hfin (Heap.SameBut.update ..))⟩
end
section
variable{W:Wd}{Γ:eX}{sc:Scope}
theorem Jh{ps:Pos}{a y:Expr}{ck:CE}(ho:bI x=true)(hy:f9 Γ sc x i)(hn:jE y=true)(ha:bJ W Γ sc a ck)(hv:bJ W Γ sc y ce) :
  dg W Γ sc (.Assign [.Subscript (.Name x px) a ps] y p) (.put i ck ce):=λn Φ fu A env s₀ s M₀ M own ρ ρ' f E Q ctr rm so fi e h=>by
 refine aa λhQ=>?_
 obtain⟨v,e1,e⟩:=aJ e
 obtain⟨d,e2,e⟩:=aJ e
 obtain⟨kv,e3,e⟩:=aJ e
 obtain⟨j,e4,e⟩:=aJ e
 obtain⟨xs,hx,e⟩:=aJ e
 obtain⟨⟨j0,j1,sz⟩,e⟩:=cq e
 (refine hQ ?_;clear hQ)
 rw[eO e2] at e1
 rw[dk e4] at e3
 have hx:=mW hx
 have szl:=cW sz
 refine wpAny_Assign_Subscript (hv n Φ A s env M ρ _ E _ (fi.cx so ctr rm) e1 λxv s₁ x1 r1=>?_) (lR hn _ _ _)
 obtain⟨hvar,_⟩:=(fi.ext x1).vis x i hy.1 _ hx
 refine fe ho (dI so.ek) hvar (ha n Φ A s₁ env M ρ _ E _ ((fi.ext x1).cx so ctr rm) e3 λkv s₂ x2 r2=>iX r2 λt=>?_)
 have fi2:=(fi.ext x1).ext x2
 refine aa λhQ=>?_
 obtain⟨_,vs,k,hp,hr⟩:=fi2.vis x i hy.1 _ hx
 (refine hQ ?_;clear hQ)
 have hln:=hr.length
 rw[aD] at hln
 refine gJ hp j0 (by lia) (by rw[hln];exact j1) λh' n' hp' hsb=>?_
 obtain⟨fi3,st3⟩:=fi2.mut (tk:=s₂.toks) so hy.1 hx hsb.extBut hp' (ys:=xs.set j.toNat d) (by
  rw[Array.toList_setIfInBounds]
  exact Reps.set (Rep.ext x2 r1) hr _)
 exact eU h (congrArg some e) fi3 ((fk.of_SX (x1.trans x2)).trans st3) trivial
theorem Et{a b:Expr}{cb:CE}(ha:bJ W Γ sc a ca)(hb:bJ W Γ sc b cb)(hl:∀(Φ:jU) (ρ:Ev) v,ak Φ ca ρ=some v→∃xs,v=.d (.list xs)):n8 W Γ sc (.BinOp a .Mult b p) (.bin .Mult ca cb):=λn Φ A s env M ρ xs E Q c e h=>by
 refine aa λhQ=>?_
 obtain⟨u,e1,e⟩:=aJ e
 obtain⟨w,e2,e⟩:=aJ e
 obtain⟨ds,hu⟩:=hl _ _ _ e1
 rw[hu] at e1 e
 obtain⟨d1,e3,e⟩:=aJ e
 obtain⟨d2,e4,e⟩:=aJ e
 (refine hQ ?_;clear hQ)
 cases e3
 rw[eO e4] at e2
 refine aa λhQ=>?_
 obtain⟨k,hk,e⟩:=aJ e
 obtain⟨q,e⟩:=cq e
 (refine hQ ?_;clear hQ)
 rw[ag,ag,ar] at q
 rw[gL hk] at e2
 have q1:=cW q.1.2
 have q0:=q.1.1
 refine wpAny_BinOp (ha n Φ A s env M ρ _ E _ c e1 λxv s₁ x1 r1=>hb n Φ A s₁ env M ρ _ E _ (c.ext x1) e2 λyv s₂ x2 r2=>?_)
 refine vO (r1.ext x2) λl vs m g1 g2 g3=>iX r2 λt=>?_
 have hln:=g3.length
 rw[aD] at hln
 refine o7 g2 (by exact Int.le_trans (by decide) q0) (by(clear hln g3 g2 g1 r2 x2 r1 x1 q0 e q hk e2 e4 hu e1 h c hl hb ha;lia)) (by rw[hln];exact ab (cW q.2) (by decide)) ?_
 have x3:SX W s₂ {s₂ with heap:=s₂.heap.push (bU (List.foldl (λx1 x2=>x1++x2) #[] (List.replicate (if vs.isEmpty=true then 0 else k.toNat) vs)) 0)}:=SX.push (tk:=s₂.toks) x2.good
 refine h _ _ _ _ ((x1.trans x2).trans x3) ((x1.trans x2).fresh (bD _)) (aI _ rfl) ?_
 rw[rH]
 have e:=PyData.list.inj (vp e)
 rw[←e]
 exact((Reps.replicate g3 _).mono (λb o _ e n=>x3.keep b o e n) λa ha=>(ah.mp ha).elim (λq=>.inr (q▸bD _)) .inl)
end
section
variable{W:Wd}{Γ:eX}{sc:Scope}{own:Nat→Addr}
theorem FI.storeAnyS{Q:Unit→Shared→Prop}{Md:Model}(so:lD Γ sc env)(fi:FI W Γ sc s₀ env M₀ own M ρ s)(hy:Γ.vars.lookup y=some i)
  (hk:sc.names.lookup y=some .local∨sc.names.lookup y=some .cell) (hu:ρ[i]?=some .un)
  (h:∀s',FI W Γ sc s₀ env M₀ own M ρ s'→c_ s'.heap env y v→(∀b o,b≠locOf env y→s.heap.get? b=some o→s'.heap.get? b=some o)→fk M₀ M s M s'→Q () s'):wpAny Md A (storeName env y v) Q E s:=by
 have sl0:=dB fi.lay so.ek hk
 obtain⟨lM,lM0,lf⟩:=fi.loc y hk
 refine ii so.ek fi.lay hk λh' tk hkp lay' hv' hoth=>?_
 have hn:∃o,h'.get? (locOf env y)=some o∧¬b_ o:=(dB (s:={s with heap:=h'}) lay' so.ek hk).2.1
 refine aa λhQ=>?_
 obtain⟨x',mok',vr,ow,rs⟩:=fi.chg (tk:=tk) hkp lM lf sl0.1 hn
 (refine hQ ?_;clear hQ)
 refine h _ ⟨fi.g₀,x',lay',mok',fi.sub,fi.apart,fi.loc,fi.ownM,fi.inj,λz j hz sz hs=>?_,fi.len,λj xs hj=>ow (λq=>(fi.rows j xs hj).elim λvs r=>r.elim λn r=>sl0.2.2 vs n (by rw[←q];exact r.1)) (fi.rows j xs hj),fi.mxs⟩ hv' hkp
  (fk.chg hkp lM lM0 (hn.imp λ_ q=>q.1))
 have hf:=fi.vis z j hz sz hs
 by_cases q:i=j
 ·subst q
  replace hs:=hu▸hs;cases hs;trivial
 ·have zy:z≠y:=λe=>by subst e;replace hz:=hy▸hz;cases hz;exact q rfl
  refine FS.mono_chg (λb o hb e=>hkp b o (λq=>hb (q▸lM)) e) vr ow (λw hw=>hoth z w zy hw) (λxs e=>?_) hf
  subst e
  intro e
  obtain⟨vs,n,e',_⟩:=hf.2
  exact sl0.2.2 vs n (by rw[←e];exact e')
theorem FI.row(fi:FI W Γ sc s₀ env M₀ own M ρ s)(hno:∀y,Γ.vars.lookup y≠some k)(nomx:∀(i k n:Nat),ρ[i]?≠some (.mx k n))(ha:a∈M)(ha0:a∉M₀)(hs:s₀.heap.get? a=none)
  (hne:∀(j:Nat) ys,ρ[j]?=some (.ow ys)→own j≠a) (ho:fU s.heap M a xs):FI W Γ sc s₀ env M₀ (λj=>if j=k then a else own j) M (ρ.set k (.ow xs)) s:=by
 have cv:∀{P:Prop} (j:Nat) (zs:List PyData),(ρ.set k (Slot.ow xs))[j]?=some (.ow zs)→(j=k→zs=xs→P)→(j≠k→ρ[j]?=some (.ow zs)→P)→P:=λ{P} j zs hj h1 h2=>by
  by_cases q:k=j
  ·subst q;exact h1 rfl (by cases bW hj;rfl)
  ·exact h2 (Ne.symm q) (bC hj q)
 refine⟨fi.g₀,fi.x,fi.lay,fi.mok,fi.sub,fi.apart,fi.loc,λj zs hj=>?_,λi j zs us hi hj hne'=>?_,λy j hy sl hs'=>?_,by rw[List.length_set];exact fi.len,λj zs hj=>?_,λj k' n hj=>?_⟩
 ·refine cv j zs hj (λq _=>?_) λq h=>?_
  ·simp only[q,if_true];exact⟨ha,ha0,hs⟩
  ·simp only[q,if_false];exact fi.ownM j zs h
 ·refine cv i zs hi (λq _=>cv j us hj (λq2 _=>absurd (q.trans q2.symm) hne') λq2 h2=>?_) λq h=>cv j us hj (λq2 _=>?_) λq2 h2=>?_
  ·simp only[q,q2,if_true,if_false];exact Ne.symm (hne j us h2)
  ·simp only[q,q2,if_true,if_false];exact hne i zs h
  ·simp only[q,q2,if_false];exact fi.inj i j zs us h h2 hne'
 ·by_cases q:k=j
  ·exact absurd (q▸hy) (hno y)
  ·have hs':=bC hs' q
   simp only[Ne.symm q,if_false]
   exact FS.own (λk' n e=>absurd (e▸hs') (nomx j k' n)) (fi.vis y j hy sl hs')
 ·refine cv j zs hj (λq e=>?_) λq h=>?_
  ·simp only[q,if_true];simp only[e];exact ho
  ·simp only[q,if_false];exact fi.rows j zs h
 ·by_cases q:k=j
  ·subst q;cases bW hj
  ·exact absurd (bC hj q) (nomx j k' n)
theorem FI.rowsSet:∀(as:List Addr) (rs:List (List PyData)) (k:Nat) (own:Nat→Addr) (ρ:Ev),FI W Γ sc s₀ env M₀ own M ρ s→as.length=rs.length→(∀j,j<as.length→∀y,Γ.vars.lookup y≠some (k+j))→(∀(i k n:Nat),ρ[i]?≠some (.mx k n)) →
  as.Nodup→(∀a∈as,a∈M∧a∉M₀∧s₀.heap.get? a=none∧∀(j:Nat) ys,ρ[j]?=some (.ow ys)→own j≠a)→(∀(j:Nat) a r,as[j]?=some a→rs[j]?=some r→fU s.heap M a r) →
  ∃own',FI W Γ sc s₀ env M₀ own' M (nK k rs ρ) s∧(∀(j:Nat) a,as[j]?=some a→own' (k+j)=a)∧∀j,j<k→own' j=own j
 |[],rs,k,own,ρ,fi,hl,_,_,_,_,_=>by
  rw[List.length_eq_zero_iff.mp hl.symm]
  exact⟨own,fi,λ_ _ h=>(nomatch h),λ_ _=>rfl⟩
 |a::as,[],_,_,_,_,hl,_,_,_,_,_=>nomatch hl
 |a::as,r::rs,k,own,ρ,fi,hl,hno,nomx,nd,hm,ho=>by
  refine aa λhQ=>?_
  obtain⟨h1,h2,h3,h4⟩:=hm a al
  obtain⟨n1,n2⟩:=List.nodup_cons.mp nd
  (refine hQ ?_;clear hQ)
  obtain⟨own',fi',h5,h6⟩:=FI.rowsSet as rs (k+1) _ _ (fi.row (k:=k) (hno 0 (Nat.succ_pos _)) nomx h1 h2 h3 h4 (ho 0 a r rfl rfl)) (Nat.succ.inj hl) (λj hj y=>by rw[Nat.add_assoc,Nat.add_comm 1];exact hno (j+1) (Nat.succ_lt_succ hj) y)
   (λi k' n hi=>by
    by_cases q:k=i
    ·subst q;cases bW hi
    ·exact nomx i k' n (bC hi q)) n2
   (λb hb=>by
    refine aa λhQ=>?_
    obtain⟨g1,g2,g3,g4⟩:=hm b (aj _ hb)
    (refine hQ ?_;clear hQ)
    refine⟨g1,g2,g3,λj ys hj=>?_⟩
    by_cases q:k=j
    ·subst q;simp only[if_true];exact λe=>n1 (e▸hb)
    ·simp only[Ne.symm q,if_false];exact g4 j ys (bC hj q)) λj b c hb hc=>ho (j+1) b c hb hc
  refine⟨own',fi',λj b hb=>?_,λj hj=>?_⟩
  ·cases j with
   |zero=>cases hb;rw[Nat.add_zero,h6 k (bO k)];exact if_pos rfl
   |succ j=>simp only[←h5 j b hb];congr 1;lia
  ·rw[h6 j (Nat.lt_succ_of_lt hj)];exact if_neg (bQ hj)
theorem FI.setMx(so:lD Γ sc env)(fi:FI W Γ sc s₀ env M₀ own M ρ s){m:Nat}(hy:Γ.vars.lookup y=some i)(hu:ρ[i]?=some .un)(hv:c_ s.heap env y (.ref (own i)))(hD:own i∉M)(hc:s.heap.get? (own i)=some (bU (jW own k n) m))
  (hno:∀j,j<n→∀y,Γ.vars.lookup y≠some (k+j)):FI W Γ sc s₀ env M₀ own M (ρ.set i (.mx k n)) s:=by
 have cv:∀{j:Nat} {zs:List PyData},(ρ.set i (Slot.mx k n))[j]?=some (.ow zs)→ρ[j]?=some (.ow zs):=λ{j zs} hj=>by
  by_cases q:i=j
  ·subst q;cases bW hj
  ·exact bC hj q
 refine⟨fi.g₀,fi.x,fi.lay,fi.mok,fi.sub,fi.apart,fi.loc,λj zs hj=>fi.ownM j zs (cv hj),λi j zs us hi hj hne=>fi.inj i j zs us (cv hi) (cv hj) hne,λz j hz sl hs=>?_,by rw[List.length_set];exact fi.len,λj zs hj=>fi.rows j zs (cv hj),λj k' n' hj=>?_⟩
 ·by_cases q:i=j
  ·subst q
   have ez:=so.inj z y i hz hy
   subst ez
   cases bW hs
   exact⟨hv,hD,m,hc⟩
  ·exact fi.vis z j hz sl (bC hs q)
 ·by_cases q:i=j
  ·subst q;cases bW hj;exact hno
  ·exact fi.mxs j k' n' (bC hj q)
end
section
variable{W:Wd}{Γ:eX}{sc:Scope}{D:Addr}{m:Nat}{ys:Array Value}{done:List PyData}
noncomputable def xz(s₁:Shared)(D:Addr)(s:Shared):Prop:=∃(vs:Array Value) (k:Nat) (as:List Addr),s.heap.get? D=some (bU vs k)∧vs.toList=as.map .ref∧as.Nodup∧(∀a∈as,s₁.heap.get? a=none)∧D∉as
theorem Es(r:Rep h M (.ref a) d):∃o,h.get? a=some o:=by cases r<;>exact⟨_,by assumption⟩
theorem z0{as:List Addr}(r:Reps h M (as.map .ref) ds)(ha:a∈as):∃o,h.get? a=some o:=by
 obtain⟨j,hj⟩:=List.mem_iff_getElem?.mp ha
 obtain⟨d,_,rd⟩:=r.at j (.ref a) (by rw[az,hj];rfl)
 exact Es rd
theorem pT{as:List Addr}(r:Reps h M (as.map .ref) ds)(ha:a∈as):a∉M:=by
 obtain⟨j,hj⟩:=List.mem_iff_getElem?.mp ha
 obtain⟨d,_,rd⟩:=r.at j (.ref a) (by rw[az,hj];rfl)
 cases rd<;>assumption
theorem yg(co:dL sc scope)(tk:ux W Γ Γi sc scope tgt 0)
  (helt:n8 W Γi (c7 scope sc) elt celt)
  (a:CA W Γ sc scope n Φ A s₁ s₂ env M M' ρ I C D xs fp P St) (hlet:∀(i:Nat) (s:Shared) (v:Value) (Q:Unit→Shared→Prop) (E:Value→Shared→Prop),St i s.heap→Q () s→wpAny (model W.prog W.w) A (letOwnedTupleGo tgt (.ref I) v) Q E s)
  (hfm:∀d y,fm d=some y→∃l,y=.list l∧ak Φ celt (ρ++[.sh (.d d)])=some (.d (.list l))) (m4:CM W s₁ (bq scope sc env C) M' D St 0 #[] 0 [] s) (e:fx (λ_=>some true) fm xs=some total)
  (hR:∀s' m,SX W s₁ s'→s'.heap.Ns C m→Rep s'.heap (C::M) (.ref D) (.list total)→xz s₁ D s'→R (.ok .next) s') :
  codeAny (model W.prog W.w) A (.compLoop (.ListComp elt [⟨tgt,iter,[],0⟩] scope pos) 0 (.ref I) (.ref D) (bq scope sc env C)) R s:=by
 have key:∀Inv:Nat→Shared→Prop,(∀k s,Inv k s→∃z:(Nat×Nat)×Array Value×List PyData×List PyData×List Nat,k=xs.length+1-z.1.1∧CM W s₁ (bq scope sc env C) M' D St z.1.1 z.2.1 z.1.2 z.2.2.1 s∧CP (λ_=>some true) fm xs total z.1.1 z.2.1.size z.2.2.1 z.2.2.2.1
    ∧ z.2.1.toList=List.map Value.ref z.2.2.2.2∧List.Nodup z.2.2.2.2∧∀a∈z.2.2.2.2,s₁.heap.get? a=none) →
   (∀i m ys done rest (as:List Nat) s,CM W s₁ (bq scope sc env C) M' D St i ys m done s→CP (λ_=>some true) fm xs total i ys.size done rest→ys.toList=as.map .ref→as.Nodup→(∀a∈as,s₁.heap.get? a=none)→Inv (xs.length+1-i) s) →
   codeAny (model W.prog W.w) A (.compLoop (.ListComp elt [⟨tgt,iter,[],0⟩] scope pos) 0 (.ref I) (.ref D) (bq scope sc env C)) R s:=by
  intro Inv hi ho
  refine mi rfl rfl Inv (λk s' hh=>?_) _ (ho 0 0 #[] [] total [] s m4 ⟨bo _,e,rfl,aF _⟩ rfl List.nodup_nil λ_ h=>nomatch h)
  obtain⟨⟨⟨i,m⟩,ys,done,rest,as⟩,hk,hm,hp,h1,h2,h3⟩:=hi k s' hh
  clear hi hh m4
  by_cases hlt:i<xs.length
  ·have hd:xs[i]?=some xs[i]:=aQ hlt
   generalize xs[i]=xd at hd
   refine a.T.walks.item i s' _ _ hlt hm.st λv h' tk1 hP st6 hk6=>?_
   refine hlet (i+1) _ v _ _ st6 ?_
   rcases hp.step hd with⟨et,hp⟩ | ⟨et,y,rest',ey,hp⟩
   ·cases et
   ·refine tk a (hm.next (tk:=tk1) co a st6 hk6) ((a.T.rep i v _ hP hd).mono (λb o _ e n=>(hm.next (tk:=tk1) co a st6 hk6).x.keep b o e n) a.hM) rfl λs₇ m7 cx7=>?_
    refine mC .nil cx7 rfl λs₈ x8=>?_
    have m8:=m7.ext a x8
    obtain⟨l,hl,ec⟩:=hfm _ _ ey
    subst hl
    refine helt n Φ A s₈ _ M' _ l _ _ (cx7.ext x8) ec λb vs kk s₉ x9 hb hpb r9=>?_
    refine iU (m8.ext a x9).d (by have:=cW a.sz;have:=hp.sz;have:=hp.le;unfold sizeLine;lia) λh₁₀ d10 hk10=>?_
    refine⟨_,(by simp only[hk];exact Nat.sub_lt_sub_left (Nat.lt_succ_of_lt hlt) (bO i)),ho _ _ _ _ _ (as++[b]) _ ((m8.ext a x9).app a (.list (λq=>(m8.mok b q).elim λo e=>Option.some_ne_none o (e.1.symm.trans hb)) hpb (r9.sub λc hc=>aj _ hc)) d10 hk10) (by rw[Array.size_push];exact hp) (by rw[Array.toList_push,h1,bM];rfl) ?_ λc hc=>?_⟩
    ·refine List.nodup_append.mpr ⟨h2,by simp,λc hc d hd=>?_⟩
     simp only[aq.mp hd]
     intro q
     obtain⟨o,e⟩:=z0 (h1▸m8.r) hc
     simp only[q,hb] at e;cases e
    ·rcases aP.mp hc with hc | hc
     ·exact h3 c hc
     ·rw[aq.mp hc];exact m8.x.fresh hb
  ·refine a.T.walks.done s' _ _ (a.T.hd _ hm.x.good) (Nat.le_antisymm hp.le (be hlt)▸hm.st) λh' tk hk6=>?_
   have hk6:∀b o,b≠I→s'.heap.get? b=some o→h'.get? b=some o:=λb o hb e=>hk6 b o (λq=>hb (aq.mp q)) e
   obtain⟨q,hq⟩:=hm.lay.ns
   refine hR _ q (hm.x.upd hk6 a.T.new (λo=>a.T.soft i s'.heap o hm.st) a.c.good) (hq.extBut (b:=I) (λb o hb e=>hk6 b o hb e) a.hCI) ?_ ⟨ys,m,as,hk6 _ _ a.hDI hm.d,h1,h2,h3,λq=>pT (h1▸hm.r) q a.hD⟩
   rw[hp.last hlt]
   refine .list ?_ (hk6 _ _ a.hDI hm.d) ?_
   ·intro z
    rcases ah.mp z with z | z
    ·exact a.hDC z
    ·obtain⟨o,e,_⟩:=a.c.mok D z;replace e:=a.hDn▸e;cases e
   ·refine hm.r.mono (λb o hb e _=>hk6 b o (λq=>hb (by simp only[q];exact a.hI)) e) λb hb=>?_
    rcases ah.mp hb with rfl | hb
    ·exact .inl a.hC
    ·exact .inl (a.hMM b hb)
 exact key _ (λ_ _ h=>h) λi m ys done rest as s h1 h2 h3 h4 h5=>⟨⟨⟨i,m⟩,ys,done,rest,as⟩,rfl,h1,h2,h3,h4,h5⟩
end
section
variable{W:Wd}{Γ:eX}{sc:Scope}
theorem ox:∀{xs:List PyData} {ts:List Str},iZ xs=some ts→xs=ts.map .str
 |[],bs,h=>by cases h;rfl
 |x::r,bs,h=>by
  obtain⟨i,h1,h2⟩:=aJ h
  obtain⟨js,h3,rfl⟩:=aH.mp h2
  rw[ox h3,kl h1];rfl
theorem pn:∀{xs:List PyData} {rs:List (List PyData)},we xs=some rs→xs=rs.map .list∧∀r∈rs,∃ts:List Str,r=ts.map .str
 |[],rs,h=>by cases h;exact⟨rfl,λ_ h=>nomatch h⟩
 |x::r,rs,h=>by
  refine aa λhQ=>?_
  obtain⟨l,h1,h2⟩:=aJ h
  obtain⟨ts,h3,h2⟩:=aJ h2
  obtain⟨js,h4,rfl⟩:=aH.mp h2
  obtain⟨h5,h6⟩:=pn h4
  (refine hQ ?_;clear hQ)
  refine⟨by rw[h5,nQ h1];rfl,λr hr=>?_⟩
  rcases ah.mp hr with rfl | hr
  ·exact⟨ts,ox h3⟩
  ·exact h6 r hr
theorem oN:∀(rs:List (List PyData)) (k:Nat) (ρ:Ev) (i:Nat),i<k→(nK k rs ρ)[i]?=ρ[i]?
 |[],_,_,_,_=>rfl
 |r::rs,k,ρ,i,h=>(oN rs (k+1) _ i (Nat.lt_succ_of_lt h)).trans (List.getElem?_set_ne (bV h))
theorem Aa(h:ρ.all Iq=true)(i k n:Nat):ρ[i]?≠some (.mx k n):=λe=>by
 have:=ap.mp h _ (aW e)
 cases this
theorem vh(ek:fD env sc)(hy:sc.names.lookup y=some .local)(hl:(p.line==pos.line)=true)(hno:(scope.names.any λ(n,k)=>n==y&&(k==.local||k==.cell))=false) :
  swapsWith (.ListComp elt [⟨.Name x px,iter,ifs,0⟩] scope pos) (some (.Name y p)) q.line env=pure true:=by
 have hk:env.blockKind=.function:=by unfold Env.blockKind;rw[dI ek];rfl
 show pure (env.blockKind==.function&&env.kindOf y==some .local&&p.line==pos.line&&!(scope.names.any λ(n,k)=>n==y&&(k==.local||k==.cell)))=_
 rw[hk,cJ ek,hy,hl,hno];rfl
theorem I3{m:Nat}(hy:f9 Γ sc y i)(hyl:sc.names.lookup y=some .local)(hl:(p.line==pos.line)=true)(hno:(scope.names.any λ(n,k)=>n==y&&(k==.local||k==.cell))=false)
  (hfree:∀j,j<m→∀z,Γ.vars.lookup z≠some (k+j)) (co:dL sc scope) (hx:scope.names.lookup x=some .local∨scope.names.lookup x=some .cell) (hs:eY iter=false) (hit:bJ W Γ sc iter cit) (helt:n8 W (f7 Γ scope x) (c7 scope sc) elt celt) :
  dg W Γ sc (.Assign [.Name y p] (.ListComp elt [⟨.Name x px,iter,[],0⟩] scope pos) q) (.mat i k m celt cit):=λn Φ fu A env s₀ s M₀ M own ρ ρ' f E Q ctr rm so fi e h=>by
 refine aa λhQ=>?_
 obtain⟨u,eu,e⟩:=aJ e
 obtain⟨xs,e2,e⟩:=aJ e
 obtain⟨total,e3,e⟩:=aJ e
 obtain⟨rs,e4,e⟩:=aJ e
 obtain⟨⟨hlen,hik,_,hmx⟩,e⟩:=cq e
 obtain⟨htot,hstr⟩:=pn e4
 (refine hQ ?_;clear hQ)
 rw[exec_Assign_Name_used y p _ q (vh so.ek hyl hl hno)]
 refine ac (bP (ac ?_))
 show wpAny _ A (do let _ ←comprehension (.ListComp elt [⟨.Name x px,iter,[],0⟩] scope pos) scope env _ (newList []) (firstAsync _) (firstIter [⟨.Name x px,iter,[],0⟩] env) (some (assign (.Name y p) env))) _ E s
 refine ac ?_
 have c:=fi.cx (A:=A) so ctr rm
 have hclos:closureFor scope env=pure (eG env.cells scope.names []):=fv λp hp hf=>c.env.cells p.1 (co.free p.1 (hf▸hp))
 refine wpAny_comprehension_free (use:=some (assign (.Name y p) env)) rfl (sj hs) hclos co.kind (λp hp hl=>gl co.nd (hl▸hp)) ?_
 refine hit n Φ A s env M ρ u E _ c eu λxv s₁ x1 r1=>?_
 refine(jg (M:=M) c.room x1.good r1 e2 λI s₂ fp P St T=>?_).2
 rw[jA c.env]
 have sz:=(jg (M:=M) (E:=E) (Q:=λ_ _=>True) c.room x1.good r1 e2 λ_ _ _ _ _ _=>trivial).1
 refine comp_coreX (X:=xz s₁) (RR:=λacc C=>compPost (model W.prog W.w) A E (some (assign (.Name y p) env)) _ acc C) co (c.ext x1) T sz
  (λa m4 hR=>yg co (oi co hx) helt a (λ_ _ _ _ _ _ hq=>aB hq) (λd z hz=>?_) m4 e3 hR) λs' D C mm x2 hC hm hD hr hnew=>?_
 ·refine aa λhQ=>?_
  obtain⟨l,h1,h2⟩:=aH.mp hz
  obtain⟨v,h3,h4⟩:=aJ h1
  (refine hQ ?_;clear hQ)
  exact⟨l,h2.symm,by rw[h3,fF h4]⟩
 have fi1:=fi.ext x1
 clear hclos c T sz eu e2 e3 e4
 refine aa λhQ=>?_
 obtain⟨o0,ho0⟩:=en hm
 obtain⟨vs,kk,as,hp,hvs,nd,hfr,hDas⟩:=hnew
 have hrr:Reps s'.heap (C::M) (as.map .ref) (rs.map .list):=by
  rw[htot] at hr
  generalize hd:PyData.list (List.map PyData.list rs)=d at hr
  cases hr with
  |list h1 h2 h3=>rw[hp] at h2;cases h2;cases hd;rw[←hvs];exact h3
  |tuple=>cases hd
 have hln:as.length=rs.length:=by have:=hrr.length;rwa [af,af] at this
 have row:∀(j:Nat) a r,as[j]?=some a→rs[j]?=some r→∃ws kw,s'.heap.get? a=some (bU ws kw)∧Reps s'.heap (C::M) ws.toList r:=λj a r ha hr'=>by
  obtain⟨d,h1,h2⟩:=hrr.at j (.ref a) (by rw[az,ha];rfl)
  rw[az,hr'] at h1
  cases h1
  cases h2 with
  |list _ g2 g3=>exact⟨_,_,g2,g3⟩
 have rowO:∀a∈as,∃ws kw,s'.heap.get? a=some (bU ws kw):=λa ha=>by
  obtain⟨j,hj⟩:=List.mem_iff_getElem?.mp ha
  obtain⟨ws,kw,h1,_⟩:=row j a _ hj (aQ (show j<rs.length by rw[←hln];exact(aS.mp hj).1))
  exact⟨ws,kw,h1⟩
 have asC:∀a∈as,a≠C∧a∉M:=λa ha=>⟨λq=>pT hrr ha (by rw[q];exact al),λq=>pT hrr ha (aj _ q)⟩
 have old1:∀b∈M,∃o,s₁.heap.get? b=some o:=λb hb=>(fi1.mok b hb).imp λo q=>q.1
 have new:∀a∈[C],s₁.heap.get? a=none:=λa ha=>by rw[aq.mp ha];exact hC
 obtain⟨gf,gs⟩:=fi1.guard (N:=C::as) so x2 (λa ha=>by
  rcases ah.mp ha with rfl | ha
  ·exact⟨hC,o0,ho0⟩
  ·obtain⟨ws,kw,h1⟩:=rowO a ha
   exact⟨hfr a ha,_,h1,cV⟩)
 (refine hQ ?_;clear hQ)
 have gd:=(gf.unguard (M₀:=[C]++M₀) (λa ha=>(aP.mp ha).elim (λq=>by rw[aq.mp q];exact bl _ al) λq=>aT _ q)).drop hy.1 D
 have hu:(ρ.set i Slot.un)[i]?=some .un:=List.getElem?_set_self (by rw[fi.len];exact so.wf y i hy.1)
 have sl0:=dB gd.lay so.ek hy.2
 refine wpAny_assign_Name (FI.storeAnyS so gd hy.1 hy.2 hu λs₃ fi3 hv3 keep st3=>?_)
 have keepL:∀{a ws kw},s'.heap.get? a=some (bU ws kw)→s₃.heap.get? a=some (bU ws kw):=λ{a ws kw} e=>keep a _ (λq=>sl0.2.2 ws kw (by rw[←q];exact e)) e
 obtain⟨own',fi4,ho1,ho2⟩:=FI.rowsSet as rs k _ _ fi3 hln (λj hj=>hfree j (by rw[←hlen,←hln];exact hj)) (λj k' n' hj=>by
   by_cases q:i=j
   ·subst q;cases bW hj
   ·exact Aa hmx j k' n' (bC hj q)) nd (λa ha=>by
   refine⟨bl _ (aj _ ha),λq=>(aP.mp q).elim (λq=>(asC a ha).1 (aq.mp q)) λq=>(asC a ha).2 (fi.sub a q),fi1.x.fresh (hfr a ha),λj ys hj=>?_⟩
   by_cases q:i=j
   ·subst q;cases bW hj
   ·simp only[Ne.symm q,if_false]
    exact λz=>(asC a ha).2 (z▸(fi.ownM j ys (bC hj q)).1)) (λj a r ha hr'=>by
   obtain⟨ws,kw,h1,h2⟩:=row j a r ha hr'
   obtain⟨ts,rfl⟩:=hstr r (aW hr')
   exact⟨ws,kw,keepL h1,qw (h2.mono (M':=[]) (h':=s₃.heap) (λb o hb e n=>by
    refine keep b o (λq=>?_) e
    refine hb (aj _ ?_)
    rw[q]
    exact(fi.loc y hy.2).1) λa ha=>nomatch ha)⟩)
 have hoi:own' i=D:=(ho2 i hik).trans (if_pos rfl)
 have hmr:vs=jW own' k m:=by
  refine Array.toList_inj.mp ?_
  show vs.toList=((List.range m).map λj=>Value.ref (own' (k+j)))
  rw[hvs]
  refine List.ext_getElem? λj=>?_
  rw[az,az]
  by_cases q:j<as.length
  ·rw[aQ q,bT (by rw[←hlen,←hln];exact q)]
   exact congrArg (λz=>some (Value.ref z)) (ho1 j _ (aQ q)).symm
  ·rw[List.getElem?_eq_none (be q),List.getElem?_eq_none (by rw[cy,←hlen,←hln];exact be q)];rfl
 have fi5:=fi4.setMx (n:=m) so hy.1 ((oN rs k _ i hik).trans hu) (by rw[hoi];exact hv3) (by
  rw[hoi]
  intro q
  rcases aP.mp q with q | q
  ·rcases ah.mp q with q | q
   ·obtain⟨o,es,ep,e,hd,_⟩:=hm
    rw[←q,hp] at e;cases e;cases hd
   ·exact hDas q
  ·obtain⟨o,e⟩:=old1 D q
   rw[hD] at e;cases e) (by rw[hoi,←hmr];exact keepL hp) hfree
 have hm3:s₃.heap.Ns C mm:=by
  obtain⟨o,es,ep,e,hd,r⟩:=hm
  exact⟨o,es,ep,st3.keep C o (.inr (bl _ (aq.mpr rfl))) e (λt=>t.2.elim λfs q=>by rw[hd] at q;cases q.1),hd,r⟩
 refine⟨mm,hm3,λh' hsb=>aB (aB ?_)⟩
 have xg:=SX.upd (tk:=s₃.toks) fi3.x hsb.extBut (fi1.x.fresh hC) (iM hm3) fi.g₀
 have sd:Sd W [C] s₁.gens.size s₃ {s₃ with heap:=h'}:=Sd.of (λb o hb e=>hsb.extBut b o (λq=>hb (by rw[q];exact aq.mpr rfl)) e) xg.good
 exact eU h (congrArg some e) (fi5.sideEnd sd (nP fi1.x) (λa ha=>fi1.x.fresh (new a ha)) λa ha q=>(fi1.mok a (fi1.sub a ha)).elim λo e=>Option.some_ne_none o (e.1.symm.trans (new a q)))
  ((fk.of_SX x1).trans (((gs.trans (st3.weak λa ha=>aT _ ha)).side (Nn:=[]) sd (aF _) new (λa ha=>by cases ha)).sub (M'':=(((C::as)++M).filter λa=>decide (a∉[C]))) λa ha=>(List.mem_filter.mp ha).1)) trivial
theorem yy{r:Nat}{a:Int}(h:pJ ρ i a=some r):∃k n,ρ[i]?=some (.mx k n)∧0≤a∧a<n∧n<2^20∧r=k+a.toNat:=by
 refine aa λhQ=>?_
 obtain⟨⟨k,n⟩,h1,h2⟩:=aJ h
 obtain⟨sl,h3,h4⟩:=aJ h1
 obtain⟨⟨q1,q2,q3⟩,h5⟩:=cq h2
 (refine hQ ?_;clear hQ)
 cases sl<;>cases h4
 exact⟨k,n,h3,q1,q2,q3,h5.symm⟩
theorem Ha{own:Nat→Addr}(h:j<n):(jW own k n)[j]?=some (.ref (own (k+j))):=by
 unfold jW
 rw[List.getElem?_toArray,az,bT h];rfl
theorem xC{r:Nat}{pa:Pos}{a:Expr}(ho:bI x=true)(hx:Γ.vars.lookup x=some i)(ha:bJ W Γ sc a ca){own:Nat→Addr}{av:V}{p:Int}
  (ctr:i4 W n Φ) (rm:dA W A n) (so:lD Γ sc env) (fi:FI W Γ sc s₀ env M₀ own M ρ s) (e1:ak Φ ca ρ=some av) (e2:dM av=some p) (e3:pJ ρ i p=some r) (h:∀s',SX W s s'→Q (.ref (own r)) s') :
  wpAny (model W.prog W.w) A (eval (.Subscript (.Name x px) a pa) env) Q E s:=by
 refine aa λhQ=>?_
 obtain⟨k,m,hi,p0,p1,p2,hr⟩:=yy e3
 (refine hQ ?_;clear hQ)
 rw[dk e2] at e1
 refine Subscript_ (fe ho (dI so.ek) (fi.vis x i hx _ hi).1 (ha n Φ A s env M ρ _ E _ (fi.cx so ctr rm) e1 λiv s₁ x1 r1=>iX r1 λt=>?_))
 refine aa λhQ=>?_
 obtain⟨_,_,kk,hp⟩:=(fi.ext x1).vis x i hx _ hi
 obtain⟨ops,hs⟩:=fM a (.ref (own i)) (.int p t)
 (refine hQ ?_;clear hQ)
 have g:(jW own k m)[p.toNat]?=some (.ref (own r)):=by rw[hr];exact Ha (by lia)
 exact tail_any ⟨_,hp,rfl⟩ slot_list_getitem.lookup (wpAny_getItem_list ⟨_,hp,rfl,_,rfl⟩ p0 (Int.lt_of_lt_of_le p1 (vo (aE p2) (c8 rfl))) g (h _ x1)) hs
theorem Ga{pa pb:Pos}{a b y:Expr}{cb:CE}(ho:bI x=true)(hx:Γ.vars.lookup x=some i)(hn:jE y=true)(ha:bJ W Γ sc a ca)(hb:bJ W Γ sc b cb)(hv:bJ W Γ sc y ce) :
  dg W Γ sc (.Assign [.Subscript (.Subscript (.Name x px) a pa) b pb] y p) (.mset i ca cb ce):=λn Φ fu A env s₀ s M₀ M own ρ ρ' f E Q ctr rm so fi e h=>by
 refine aa λhQ=>?_
 obtain⟨v,e1,e⟩:=aJ e
 obtain⟨d,e2,e⟩:=aJ e
 obtain⟨av,e3,e⟩:=aJ e
 obtain⟨pp,e4,e⟩:=aJ e
 obtain⟨r,e5,e⟩:=aJ e
 obtain⟨bv,e6,e⟩:=aJ e
 obtain⟨j,e7,e⟩:=aJ e
 obtain⟨xs,e8,e⟩:=aJ e
 obtain⟨⟨j0,j1,sz⟩,e⟩:=cq e
 (refine hQ ?_;clear hQ)
 rw[eO e2] at e1
 rw[dk e7] at e6
 have e8:=mW e8
 have szl:=cW sz
 refine wpAny_Assign_Subscript (hv n Φ A s env M ρ _ E _ (fi.cx so ctr rm) e1 λxv s₁ x1 r1=>?_) (lR hn _ _ _)
 have fi1:=fi.ext x1
 refine xC ho hx ha ctr rm so fi1 e3 e4 e5 λs₂ x2=>?_
 refine hb n Φ A s₂ env M ρ _ E _ ((fi1.ext x2).cx so ctr rm) e6 λkv s₃ x3 r3=>iX r3 λt=>?_
 have fi3:=(fi1.ext x2).ext x3
 refine aa λhQ=>?_
 obtain⟨vs,k,hp,hr⟩:=fi3.rows r _ e8
 (refine hQ ?_;clear hQ)
 have hln:=hr.length
 rw[aD] at hln
 refine gJ hp j0 (Int.lt_of_lt_of_le j1 (vo szl (c8 rfl))) (by rw[hln];exact j1) λh' n' hp' hsb=>?_
 obtain⟨fi4,st4⟩:=fi3.mutA (tk:=s₃.toks) e8 hsb.extBut hp' (ys:=xs.set j.toNat d) (by
  rw[Array.toList_setIfInBounds]
  exact Reps.set (Rep.ext (x2.trans x3) r1) hr _)
 exact eU h (congrArg some e) fi4 ((fk.of_SX (x1.trans (x2.trans x3))).trans st4) trivial
theorem G1{m:Nat}{pz ps pa pb:Pos}{a b y:Expr}{cb ck:CE}(ho:bI x=true)(hy:f9 Γ sc x i)(hoz:bI z=true)(hz:Γ.vars.lookup z=some m)(hk:bJ W Γ sc y ck)(ha:bJ W Γ sc a ca)(hb:bJ W Γ sc b cb) :
  dg W Γ sc (.Assign [.Subscript (.Name x px) y ps] (.Subscript (.Subscript (.Name z pz) a pa) b pb) p) (.putG i ck m ca cb):=λn Φ fu A env s₀ s M₀ M own ρ ρ' f E Q ctr rm so fi e h=>by
 refine aa λhQ=>?_
 obtain⟨av,e3,e⟩:=aJ e
 obtain⟨pp,e4,e⟩:=aJ e
 obtain⟨r,e5,e⟩:=aJ e
 obtain⟨bv,e6,e⟩:=aJ e
 obtain⟨q,e7,e⟩:=aJ e
 obtain⟨ys,e8,e⟩:=aJ e
 obtain⟨d,e9,e⟩:=aJ e
 obtain⟨kv,e10,e⟩:=aJ e
 obtain⟨j,e11,e⟩:=aJ e
 obtain⟨xs,hx,e⟩:=aJ e
 obtain⟨⟨j0,j1,sz⟩,e⟩:=cq e
 (refine hQ ?_;clear hQ)
 rw[dk e7] at e6
 rw[dk e11] at e10
 have e8:=mW e8
 have hx:=mW hx
 have szl:=cW sz
 refine wpAny_Assign_Subscript (Subscript_ (xC hoz hz ha ctr rm so fi e3 e4 e5 λs₁ x1=>?_)) rfl
 refine hb n Φ A s₁ env M ρ _ E _ ((fi.ext x1).cx so ctr rm) e6 λbv s₂ x2 r2=>?_
 have x12:=x1.trans x2
 have fi2:=fi.ext x12
 refine tu (x:=.o ys) (v:=.d d) x12.good ⟨_,rfl,fi2.rows r _ e8⟩ r2 (bc rfl (bc e9 rfl)) λw s₃ x3 r3=>?_
 have fi3:=fi2.ext x3
 obtain⟨hvar,_⟩:=fi3.vis x i hy.1 _ hx
 refine fe ho (dI so.ek) hvar (hk n Φ A s₃ env M ρ _ E _ (fi3.cx so ctr rm) e10 λkv s₄ x4 r4=>iX r4 λt=>?_)
 have fi4:=fi3.ext x4
 refine aa λhQ=>?_
 obtain⟨_,vs,k,hp,hr⟩:=fi4.vis x i hy.1 _ hx
 (refine hQ ?_;clear hQ)
 have hln:=hr.length
 rw[aD] at hln
 refine gJ hp j0 (Int.lt_of_lt_of_le j1 (vo szl (c8 rfl))) (by rw[hln];exact j1) λh' n' hp' hsb=>?_
 obtain⟨fi5,st5⟩:=fi4.mut (tk:=s₄.toks) so hy.1 hx hsb.extBut hp' (ys:=xs.set j.toNat d) (by
  rw[Array.toList_setIfInBounds]
  exact Reps.set (Rep.ext x4 r3) hr _)
 exact eU h (congrArg some e) fi5 ((fk.of_SX (x12.trans (x3.trans x4))).trans st5) trivial
end
set_option tactic.hygienic true
section
variable{W:Wd}{Γ:eX}{sc:Scope}
theorem rS:dg W Γ sc st .stuck:=λn Φ fu A env s₀ s M₀ M own ρ ρ' f E Q ctr rm so fi e h=>by
 cases e
noncomputable def C0(e:Expr):Bool:=e.ctorIdx==25
theorem vU{es:List Expr}{x:Expr}(h:C0 x=false):swappedStores [.Tuple es k p] x env=pure none:=by
 cases x<;>first | rfl | cases h
theorem sJ{es:List Expr}{x:Expr}{line:Nat}:swapsWithSole [.Tuple es k p] x line env=pure false:=by
 cases x<;>rfl
theorem GA{es:List Expr}{x:Expr}(H:zp Γ sc es is)(ht:C0 x=false)(hx:bJ W Γ sc x c):dg W Γ sc (.Assign [.Tuple es k p] x q) (.asgT is c):=λn Φ fu A env s₀ s M₀ M own ρ ρ' f E Q ctr rm so fi e h=>by
 obtain⟨v,e1,e⟩:=aJ e
 obtain⟨d,e2,e⟩:=aJ e
 obtain⟨ρ₁,e3,e⟩:=aJ e
 rw[eO e2] at e1
 refine Assign_Tuple (hx n Φ A s env M ρ _ E _ (fi.cx so ctr rm) e1 λxv s₁ x1 r1=>?_) sJ (vU ht)
 exact vH H A env s₀ s₁ M₀ M own ρ ρ₁ xv d E _ rm.handled so (fi.ext x1) r1 e3 λs' fi' st'=>eU h e fi' ((fk.of_SX x1).trans st') trivial
noncomputable def HE(kind:Str→Option NameKind)(ts:List Expr):List Str :=
 let line:=(ts.head?.map (·.pos.line)).getD 0
 ts.filterMap fun
  |.Name id pos=>if kind id==some .local&&pos.line==line then some id else none
  |_=>none
noncomputable def fq(sc:Scope)(ts:List Expr):List Str:=HE (λid=>sc.names.lookup id) ts
noncomputable def y_(sc:Scope)(ts vs:List Expr):Bool :=
 (ts.length==2||ts.length==3)&&vs.length==ts.length&&!(vs.any λ| .Starred ..=>true | _=>false)&&(fq sc ts).length==ts.length&&(fq sc ts).eraseDups.length==(fq sc ts).length &&
  !(vs.all (foldedForSure 8))&&!(vs.all (constantsAlone 8))
theorem mV{ts vs:List Expr}{k':Nat}{p':Pos}(ek:fD env sc)(h:y_ sc ts vs=true):swappedStores [.Tuple ts k p] (.Tuple vs k' p') env=pure (some (fq sc ts)):=by
 have hk:env.blockKind=.function:=by unfold Env.blockKind;rw[dI ek];rfl
 have hsc:=ek.scope
 have an:∀{a b:Bool},(a&&b)=true→a=true∧b=true:=λh=>cg.mp h
 have nt:∀{a:Bool},(!a)=true→a=false:=λh=>by rw[←Bool.not_eq_true'];exact h
 obtain⟨h,h7⟩:=an h
 obtain⟨h,h6⟩:=an h
 obtain⟨h,h5⟩:=an h
 obtain⟨h,h4⟩:=an h
 obtain⟨h,h3⟩:=an h
 obtain⟨h1,h2⟩:=an h
 have hn:HE env.kindOf ts=fq sc ts:=congrArg (HE · ts) (funext λid=>cJ ek id)
 have e1:(!(ts.length==2||ts.length==3)||vs.length != ts.length||env.blockKind != .function)=false:=by
  simp only[h1,hk,(bH h2)];simp
 refine(if_neg (c:=(!(ts.length==2||ts.length==3)||vs.length != ts.length||env.blockKind != .function)=true) (λz=>Bool.false_ne_true (e1.symm.trans z))).trans ?_
 refine(if_neg (λz=>Bool.false_ne_true ((nt h3).symm.trans z))).trans ?_
 show(if((HE env.kindOf ts).length != ts.length||(HE env.kindOf ts).eraseDups.length != (HE env.kindOf ts).length)=true then _ else _)=_
 rw[hn]
 refine(if_neg (by rw[(bH h5)];simp[(bH h4)])).trans ?_
 refine(if_neg (by rw[(nt h6)];exact Bool.false_ne_true)).trans ?_
 refine(if_neg (by rw[(nt h7)];exact Bool.false_ne_true)).trans ?_
 exact congrArg (λz=>pure (some z)) hn
inductive tY(Γ:eX)(sc:Scope):List Str→List Nat→Prop
 |nil:tY Γ sc [] []
 |cons {y:Str} {i:Nat} {ys:List Str} {is:List Nat}:f9 Γ sc y i→tY Γ sc ys is→tY Γ sc (y::ys) (i::is)
theorem tY.length{ys:List Str}(H:tY Γ sc ys is):ys.length=is.length:=by
 induction H with
 |nil=>rfl
 |cons _ _ ih=>simp[ih]
theorem Ao{ys:List Str}(H:tY Γ sc ys is):∀{A:Around} {env:Env} {s₀ s:Shared} {M₀ M:List Addr} {own:Nat→Addr} {ρ ρ':Ev} {vs:List Value} {ds:List PyData} {E:Value→Shared→Prop} {Q:Unit→Shared→Prop},
  lD Γ sc env→FI W Γ sc s₀ env M₀ own M ρ s→Reps s.heap M vs ds→k9 is ds ρ=some ρ' →
  (∀s',FI W Γ sc s₀ env M₀ own M ρ' s'→fk M₀ M s M s'→Q () s')→wpAny (model W.prog W.w) A (assignInOrder (ys.map λn=>bindName env n) vs) Q E s:=by
 induction H with
 |nil =>
  intro A env s₀ s M₀ M own ρ ρ' vs ds E Q so fi r e h
  obtain⟨q,e⟩:=cq e
  rw[←e] at h
  simp only[List.isEmpty_iff.mp q] at r
  have r:=r.length
  rw[List.length_eq_zero_iff.mp r]
  exact aB (h _ fi fk.refl)
 |@cons y i ys is hy _ ih =>
  intro A env s₀ s M₀ M own ρ ρ' vs ds E Q so fi r e h
  cases ds with
  |nil=>cases e
  |cons d ds =>
   cases r with
   |@cons v vs _ _ r1 r2 =>
    refine ac (aX (wpAny_bindName (FI.store so fi hy.1 hy.2 (.inl ⟨.d d,rfl,rfl,r1⟩) λs' fi' st'=>?_)))
    exact ih so fi' (r2.mono (λb o hb e n=>st'.keep b o (.inl hb) e n) λa ha=>.inl ha) e λs'' fi'' st''=>h _ fi'' (st'.trans st'')
theorem Hy{ts vs:List Expr}{k':Nat}{p':Pos}(hs:y_ sc ts vs=true)(H:tY Γ sc (fq sc ts).reverse is)(hx:bJ W Γ sc (.Tuple vs k' p') c):dg W Γ sc (.Assign [.Tuple ts k p] (.Tuple vs k' p') q) (.asgS is c):=λn Φ fu A env s₀ s M₀ M own ρ ρ' f E Q ctr rm so fi e h=>by
 obtain⟨v,e1,e⟩:=aJ e
 obtain⟨d,e2,e⟩:=aJ e
 obtain⟨xs,e3,e⟩:=aJ e
 obtain⟨ρ₁,e4,e⟩:=aJ e
 obtain⟨e3,hl⟩:=y3 e3
 rw[eO e2,e3] at e1
 clear e2 e3
 refine Assign_Tuple_swapped (names:=fq sc ts) (hx n Φ A s env M ρ _ E _ (fi.cx so ctr rm) e1 λxv s₁ x1 r1=>?_) sJ (mV so.ek hs)
 refine ze r1 λl ws m _ h2 h3=>?_
 have hsz:(fq sc ts).length=ws.size:=by rw[←List.length_reverse,H.length,←hl,←h3.length,aD]
 rw[hsz]
 refine ld (rm.w.hd x1.good) ⟨_,h2,rfl,_,rfl⟩ λh' hb=>?_
 have x2:SX W s₁ {s₁ with heap:=h'}:=SX.heap x1.good λb o e=>hb b o (λq=>by rw[q,bD] at e;cases e) e
 exact Ao H so ((fi.ext x1).ext x2) (h3.ext x2).reverse e4 λs' fi' st'=>eU h e fi' ((fk.of_SX (x1.trans x2)).trans st') trivial
theorem FV{pl p':Pos}{k':Nat}{a:Expr}(hs:y_ sc [.Name x px,.Name y py] [.List [] pl,a]=true)(hnm:fq sc [.Name x px,.Name y py]=[x,y])(hx:f9 Γ sc x i)(hy:f9 Γ sc y j)(hij:i≠j)(hst:eg a=false)(ha:bJ W Γ sc a c) :
  dg W Γ sc (.Assign [.Tuple [.Name x px,.Name y py] k p] (.Tuple [.List [] pl,a] k' p') q) (.asgO i j c):=λn Φ fu A env s₀ s M₀ M own ρ ρ' f E Q ctr rm so fi e h=>by
 obtain⟨v,e1,e⟩:=aJ e
 obtain⟨d,e2,e⟩:=aJ e
 rw[eO e2] at e1
 refine Assign_Tuple_swapped (names:=fq sc [.Name x px,.Name y py]) (wpAny_Tuple (wpAny_items_cons (xw (W:=W) .nil n Φ A s env M ρ [] E _ (fi.cx so ctr rm) rfl λb vs kk s₁ x1 hf hp r1=>?_) (dW rfl))) sJ (mV so.ek hs)
 obtain⟨gf,gs⟩:=fi.guard (N:=[b]) so x1 (λc hc=>by rw[aq.mp hc];exact⟨hf,_,hp,cV⟩)
 refine wpAny_items_cons (ha n Φ A s₁ env ([b]++M) ρ _ E _ (gf.cx so ctr rm) e1 λw s₂ x2 r2=>wpAny_items_nil ?_) (dW hst)
 refine⟨show 2≤sizeLine by decide,?_⟩
 rw[hnm]
 have x3:SX W s₂ {s₂ with heap:=s₂.heap.push (ik #[.ref b,w] 0)}:=SX.push (tk:=s₂.toks) x2.good
 have nM:∀c∈M,c≠b:=λc hc q=>(fi.mok c hc).elim λo e=>Option.some_ne_none o (e.1.symm.trans (q▸hf))
 refine ld (items:=#[.ref b,w]) (rm.w.hd x3.good) ⟨_,aI _ rfl,rfl,_,rfl⟩ λh' hb=>?_
 have x4:SX W {s₂ with heap:=s₂.heap.push (ik #[.ref b,w] 0)} {s₂ with heap:=h'}:=SX.heap x3.good λb o e=>hb b o (λq=>by simp only[q,bD] at e;cases e) e
 have x24:=(x2.trans x3).trans x4
 show wpAny _ _ (assignInOrder [bindName env y,bindName env x] [w,.ref b]) _ _ _
 refine ac (aX (wpAny_bindName (FI.store so (gf.ext x24) hy.1 hy.2 (.inl ⟨.d d,rfl,rfl,(r2.ext (x3.trans x4))⟩) λs5 fi5 st5=>?_)))
 refine ac (aX (wpAny_bindName (FI.store so ((fi5.unguard λc hc=>aT [b] hc).drop hx.1 b) hx.1 hx.2 (.inr ⟨[],rfl,?_⟩) λs6 fi7 st6=>aB ?_)))
 ·rw[if_pos rfl]
  refine⟨rfl,⟨vs,kk,(st5.keep b _ (.inr (bl _ (aq.mpr rfl))) (x24.keep b _ hp cV) cV),by rw[(List.length_eq_zero_iff.mp r1.length)];exact .nil⟩,bl _ (aq.mpr rfl),λq=>nM b (fi.sub b q) rfl,fi.x.fresh hf,λm ys hne hm=>?_⟩
  rw[if_neg hne]
  have hm1:=bC hm (Ne.symm hne)
  exact Ne.symm (nM _ (fi.ownM m ys (bC hm1 (Ne.symm (λq=>by replace hm1:=q▸hm1;cases bW hm1)))).1)
 ·simp only[List.set_set] at fi7
  exact eU h e fi7 (gs.trans (((fk.of_SX x24).trans (st5.weak λc hc=>aT _ hc)).trans st6)) trivial
theorem G8{p2:Pos}{a:Expr}{b:List Stmt}(hy:f9 Γ sc y i)(ho:bI x=true)(hk:sc.names.lookup x=some .globalImplicit)(hf:(x,Value.type "reversed")∈W.blts)
  (hst:eg a=false) (ha:bJ W Γ sc a c) (hb:fL W Γ sc b cb):dg W Γ sc (.For (.Name y p) (.Call (.Name x p2) [a] [] pos) b [] q) (.forR i c cb):=λn Φ fu A env s₀ s M₀ M own ρ ρ' f E Q ctr rm so fi e h=>by
 obtain⟨v,e1,e⟩:=aJ e
 obtain⟨xs,e2,e⟩:=aJ e
 obtain⟨sz,e⟩:=dn e
 replace e1:=fF e2▸e1
 have H':fC W Γ sc [a] [c]:=.cons hst ha .nil
 refine wpAny_For (gx fi.x.good so.ek ho hk (.inr (W.bltG _ hf)) (kO (first:=[]) H' (.inr ⟨_,rfl⟩) (dR H' (fi.cx so ctr rm) (xs:=[.d (.list xs)]) (bc e1 rfl) λvals s₁ x1 r1=>?_)))
 obtain⟨w,hw,ra⟩:=HF r1
 rw[hw]
 refine vO ra λl vs k hm h2 h3=>?_
 have hln:=h3.length
 simp only[aD] at hln
 have W0:=fS.listRev (A:=A) (prog:=W.prog) (w:=W.w) s₁.heap.objs.size l (λq=>by simp only[q,bD] at h2;cases h2) vs
 rw[hln] at W0
 refine call_reversed_list ⟨_,h2,rfl,_,rfl⟩ ?_
 refine wpAny_pyIter_revIter (⟨_,aI _ rfl,rfl,rfl⟩) ?_
 have T:zq W A M s₁ {s₁ with heap:=s₁.heap.push (revObj l ((vs.size:Int)-1))} s₁.heap.objs.size xs.reverse [s₁.heap.objs.size,l] (λi v=>vs[xs.length-1-i]?=some v)
   (λi h=>i≤xs.length∧h.IsRevIter s₁.heap.objs.size l ((xs.length:Int)-1-(i:Int))∧h.IsList l vs):=by
  refine⟨by rw[List.length_reverse];exact W0,λ_=>rm.w.hd,⟨bo _,by rw[←hln];simpa using(⟨_,aI _ rfl,rfl,rfl⟩),⟨_,aC _ h2,rfl,_,rfl⟩⟩,bD _,SX.push (tk:=s₁.toks) x1.good,zT hm h2 cV,λi v d hv hd=>h3.pair hv ?_,
   λi h o st e=>st.2.1.elim λo' q=>ig q.1 (gK q.2.1 q.2.2 λ_ _ z=>nomatch z) o e,λi h st=>st.2.1.elim λo q=>⟨o,q.1⟩⟩
  have hlt:=(aS.mp hd).1
  simp only[List.length_reverse] at hlt
  rwa [List.getElem?_reverse hlt] at hd
 exact lN hb (uy hy) ctr rm so (fi.ext x1) (T.toS x1.good) (λ_ _ _ _ _ _ _ hq=>aB hq) e λown' M' s' fl fi' st' fr=>h _ _ _ _ fi' ((fk.of_SX x1).trans st') fr
noncomputable def s_(W:Wd)(g:Str):Prop :=
 ∃a,W.mg g=some (.ref a)∧(∀{h},W.ok h→∃o fd,h.get? a=some o∧o.data=.func fd) ∧
  ∀(n:Nat) (A:Around) (s:Shared) (M:List Addr) (x:Str) (t:Tok) (E:Value→Shared→Prop) (Q:Value→Shared→Prop),dA W A n→cU W s→kQ s.heap M→(c0 x.length&&PyData.strOk x)=true →
   (∀I s' N fp St,Jl W A M s s' I (gn 0 false x.cps.toList) N fp St→(∀i N s,St i N s→∃o,s.heap.get? I=some o∧o.cls=.type "generator")→Q (.ref I) s') →
   wpAny (model W.prog W.w) A (call (.ref a) [.str x t] []) (λv s'=>wpAny (model W.prog W.w) A (pyIter v) Q E s') E s
theorem GJ{es:List Expr}{T:Addr}{Q:Unit→Shared→Prop}(hc:∃o,s.heap.get? I=some o∧o.cls=.type "generator")(h:Q () s) :
  wpAny (model W.prog W.w) A (letOwnedTupleGo (.Tuple es k p) (.ref I) (.ref T)) Q E s:=by
 refine aa λhQ=>?_
 obtain⟨o,ho,hcl⟩:=hc
 obtain⟨cls,dict,data,slots⟩:=o
 (refine hQ ?_;clear hQ)
 subst hcl
 unfold letOwnedTupleGo
 refine ac (wpAny_load ho ?_)
 cases data
 case fields vs =>
  dsimp only
  have e:(["enumerate","zip","dict_itemiterator","dict_reverseitemiterator","odict_iterator","itertools.zip_longest","itertools.pairwise"].contains "generator"&&vs[0]?==some (rawInt T))=false:=by
   rw[show(["enumerate","zip","dict_itemiterator","dict_reverseitemiterator","odict_iterator","itertools.zip_longest","itertools.pairwise"].contains "generator")=false by decide];rfl
  rw[if_neg (by rw[e];exact Bool.false_ne_true)]
  exact aB h
 all_goals exact aB h
theorem Gb{g:Str}{es:List Expr}{p2:Pos}{a:Expr}{b:List Stmt}(G:s_ W g)(H:zp Γ sc es [i,j])(ho:bI g=true)(hk:sc.names.lookup g=some .globalImplicit)
  (hst:eg a=false) (ha:bJ W Γ sc a c) (hb:fL W Γ sc b cb):dg W Γ sc (.For (.Tuple es k p) (.Call (.Name g p2) [a] [] pos) b [] q) (.forG i j c cb):=λn Φ fu A env s₀ s M₀ M own ρ ρ' f E Q ctr rm so fi e h=>by
 obtain⟨v,e1,e⟩:=aJ e
 obtain⟨x,e2,e⟩:=aJ e
 obtain⟨sz,e⟩:=dn e
 rw[fH e2] at e1
 have H':fC W Γ sc [a] [c]:=.cons hst ha .nil
 obtain⟨ad,g1,g2,g3⟩:=G
 refine wpAny_For (gx fi.x.good so.ek ho hk (.inl g1) ?_)
 refine callWith_of (P:=FnAt ad) (by rw[H'.plain];rfl) keeps_F (dR H' (fi.cx so ctr rm) (xs:=[.d (.str x)]) (bc e1 rfl) λvals s₁ x1 r1=>⟨?_,?_⟩)
 ·exact(g2 x1.good.ok).elim λo q=>q.elim λfd q=>⟨o.cls,o.dict,fd,o.slots,by rw[←q.2];exact q.1⟩
 ·obtain⟨w,hw,ra⟩:=HF r1
  rw[hw]
  refine jZ ra λt=>?_
  refine g3 n A s₁ M x t E (λv s₂=>codeAny (model W.prog W.w) A (.forLoop (.Tuple es k p) v b [] env) (λr s'=>match r with | .ok f=>Q f s' | .error e=>cameBackBy (model W.prog W.w) A env E e s') s₂) rm x1.good (fi.mok.ext x1) sz λI s₂ N fp St T hcl=>?_
  refine lN hb (vH H) ctr rm so (fi.ext x1) T (λi N s v Q E st hq=>?_) e λown' M' s' fl fi' st' fr=>h _ _ _ _ fi' ((fk.of_SX x1).trans st') fr
  cases v with
  |ref T=>exact GJ (hcl i N s st) hq
  |_=>exact aB hq
end
set_option backward.match.sparseCases false
structure Cs where
 K:Cc
 own:List Str
 gen:Option Str
 mat:Option (Str×Nat×Nat):=none
noncomputable def dO:Nat→CE→List Nat
 |0,_=>[]
 |n+1,c=>match c with
  |.lit _=>[]
  |.var i=>[i]
  |.bin _ a b=>dO n a++dO n b
  |.un _ a=>dO n a
  |.cmp _ a b=>dO n a++dO n b
  |.cmp2 _ _ a b d=>dO n a++dO n b++dO n d
  |.boolop _ a b=>dO n a++dO n b
  |.ite t a b=>dO n t++dO n a++dO n b
  |.list es=>es.flatMap (dO n)
  |.tup es=>es.flatMap (dO n)
  |.item (.var _) k=>dO n k
  |.item a k=>dO n a++dO n k
  |.slice (.var _) lo hi st=>(lo.toList++hi.toList++st.toList).flatMap (dO n)
  |.slice a lo hi st=>(a::lo.toList++hi.toList++st.toList).flatMap (dO n)
  |.call _ es=>es.flatMap (dO n)
  |.prim .len [.var _]=>[]
  |.prim _ es=>es.flatMap (dO n)
  |.meth _ o es=>(o::es).flatMap (dO n)
  |.comp _ elt it ifs=>(elt::it::ifs).flatMap (dO n)
  |.compT elt it=>dO n elt++dO n it
  |.comp2 elt a b=>dO n elt++dO n a++dO n b
noncomputable def Hc:CS→List Nat
 |.asg _ e=>dO 20 e
 |.own _ e=>dO 20 e
 |.asgT _ e=>dO 20 e
 |.asgS _ e=>dO 20 e
 |.aug _ _ e=>dO 20 e
 |.app _ e=>dO 20 e
 |.put _ k e=>dO 20 k++dO 20 e
 |.asgO _ _ e=>dO 20 e
 |.mset _ a b e=>dO 20 a++dO 20 b++dO 20 e
 |.putG _ k _ a b=>dO 20 k++dO 20 a++dO 20 b
 |.ret e=>dO 20 e
 |.assert e=>dO 20 e
 |.ite e _ _=>dO 20 e
 |.for1 _ e _=>dO 20 e
 |.forT _ e _=>dO 20 e
 |.forG _ _ e _=>dO 20 e
 |.forR _ e _=>dO 20 e
 |_=>[]
noncomputable def Fq(Γ:eX)(l:List Str):List Nat:=l.filterMap λy=>Γ.vars.lookup y
noncomputable def Gy(is:List Nat)(c:CS)(r:List CS):List CS:=(is.filter λi=>(Hc c).contains i).foldr (λi l=>.frz i::l) (c::r)
noncomputable def FM(Γ:eX)(sc:Scope)(y:Str):Option Nat:=if jN sc y then Γ.vars.lookup y else none
structure p8(C:Cs)(W:Wd):Prop where
 k:yI C.K W
 gen:∀g,C.gen=some g→s_ W g
noncomputable def Gr(C:Cs)(y:Str):Option (Nat×Nat):=C.mat.bind λm=>if m.1=y then some m.2 else none
noncomputable def IQ(Γ:eX)(sc scope:Scope)(y z:Str)(py p:Pos)(g:Comprehension)(k:Nat):Bool:=decide ((g.is_async=0∧g.ifs=[]∧eY g.iter=false)∧mF sc scope=true∧jN scope z=true∧(sc.names.lookup y=some .local∧(py.line==p.line)=true)∧(scope.names.any λ(n,k)=>n==y&&(k==.local||k==.cell))=false∧(Γ.vars.all λq=>decide (q.2<k))=true)
noncomputable def JZ(sc:Scope)(ts vs:List Expr)(x y:Str)(v:Expr):Bool:=decide (y_ sc ts vs=true∧fq sc ts=[x,y]∧eg v=false)
section
variable{W:Wd}{Γ:eX}{sc:Scope}
theorem Eu(h:FM Γ sc y=some i):f9 Γ sc y i:=by
 unfold FM at h
 split at h
 ·rename_i q;exact⟨h,gG q⟩
 ·cases h
theorem yl{l:List Str}(h:i∈Fq Γ l):∃y,Γ.vars.lookup y=some i:=(List.mem_filterMap.mp h).imp λ_ h=>h.2
theorem EP{c:CS}{cs:List CS}(hi:∀i∈is,∃y,Γ.vars.lookup y=some i)(h1:dg W Γ sc st c)(h2:fL W Γ sc sts cs):fL W Γ sc (st::sts) (Gy is c cs):=by
 unfold Gy
 have hf:∀i∈is.filter λi=>(Hc c).contains i,∃y,Γ.vars.lookup y=some i:=λi h=>hi i (List.mem_filter.mp h).1
 generalize is.filter (λi=>(Hc c).contains i)=l at hf ⊢
 induction l with
 |nil=>exact xB h1 h2
 |cons i r ih =>
  obtain⟨y,hy⟩:=hf i al
  exact Hb hy (ih λj hj=>hf j (aj _ hj))
theorem Hm{t1 t2 v1 v2:Expr}{x y:Str×Pos}{z:Pos}{k':Nat}{p':Pos}(e1:t1=.Name x.1 x.2)(e2:t2=.Name y.1 y.2)(e3:v1=.List [] z)(h1:y_ sc [t1,t2] [v1,v2]=true)(h2:fq sc [t1,t2]=[x.1,y.1])(h3:f9 Γ sc x.1 i)(h4:f9 Γ sc y.1 j)(hij:i≠j)(h5:eg v2=false)(H:bJ W Γ sc v2 c):dg W Γ sc (.Assign [.Tuple [t1,t2] k p] (.Tuple [v1,v2] k' p') q) (.asgO i j c):=by
 subst e1
 subst e2
 subst e3
 exact FV h1 h2 h3 h4 hij h5 H
theorem zl(h:(Γ.vars.all λq=>decide (q.2<k))=true)(j:Nat)(hj:j<n)(z:Str)(e:Γ.vars.lookup z=some (k+j)):False :=
 Nat.lt_irrefl _ (au (ay k j) (of_decide_eq_true (ap.mp h _ (mem_of_lookup e))))
theorem G2{f o a:Expr}{nm:Str}{co:CE}(e:f=.Attribute o nm apos)(e2:nm=Str.ofString "split")(h1:ja o=true)(h2:(apos.endLine==pos.line)=true)(h3:eg a=false)(H:bJ W Γ sc o co)(H2:bJ W Γ sc a ca):n8 W Γ sc (.Call f [a] [] pos) (.meth .split co [ca]):=by
 subst e
 subst e2
 exact A2 h1 h2 h3 H H2
theorem Ie{l b:Expr}{es:List Expr}{pl:Pos}{cb:CE}(e:l=.List es pl)(H:fC W Γ sc es cs)(H2:bJ W Γ sc b cb):n8 W Γ sc (.BinOp l .Mult b p) (.bin .Mult (.list cs) cb):=by
 subst e
 refine Et (oC H) H2 λΦ ρ v e=>?_
 obtain⟨xs,_,e⟩:=aJ e
 exact⟨xs,(cq e).2.symm⟩
theorem tG{es:List CE}{v:V}(e:ak Φ (.prim .sorted es) ρ=some v):∃xs,v=.d (.list xs):=by
 refine aa λhQ=>?_
 obtain⟨us,_,e⟩:=aJ e
 obtain⟨u,_,e⟩:=aJ e
 obtain⟨xs,_,e⟩:=aJ e
 obtain⟨_,e⟩:=dn e
 rcases Option.or_eq_some_iff.mp e with e | ⟨_,e⟩
 ·obtain⟨ns,_,e⟩:=aJ e
  exact hQ ⟨_,(am e).symm⟩
 ·obtain⟨ls,_,e⟩:=aJ e
  exact hQ ⟨_,(cq e).2.symm⟩
end
noncomputable def Id(a b:Str):Option (PLift (a=b)):=if h:a=b then some ⟨h⟩ else none
noncomputable def listOf(e:Expr):Option {p:List Expr×Pos // e=.List p.1 p.2}:=match e with
 |.List es p=>some ⟨(es,p),rfl⟩
 |_=>none
noncomputable def C4(e:Expr):Option {p:Expr×Expr×Pos // e=.Subscript p.1 p.2.1 p.2.2}:=match e with
 |.Subscript a b p=>some ⟨(a,b,p),rfl⟩
 |_=>none
noncomputable def IW(c:CE):Oc λx=>c=.lit x:=match c with
 |.lit x=>some ⟨x,rfl⟩
 |_=>none
noncomputable def Ix(c:CE):Oc λa=>c=.un .USub a:=match c with
 |.un .USub a=>some ⟨a,rfl⟩
 |_=>none
noncomputable def Co(c:CE):Oc λes=>c=.prim .sorted es:=match c with
 |.prim .sorted es=>some ⟨es,rfl⟩
 |_=>none
noncomputable def FE(c:CE)(k:Int):Option (PLift (c=.lit (.int k))):=(IW c).bind λx=>(Bf (t9 x.1)).bind λi=>if h:i.1=k then some ⟨x.2.trans (congrArg CE.lit ((gL i.2).trans (congrArg PyData.int h)))⟩ else none
noncomputable def GR(c:CE):Oc λl=>∀(Φ:jU) (ρ:Ev),ak Φ c ρ=some (.d (.int (if l=true then -1 else 0))):=match FE c 0 with
 |some h=>some ⟨false,λ_ _=>by rw[h.1];rfl⟩
 |none=>(Ix c).bind λa=>(FE a.1 1).map λh=>⟨true,λ_ _=>by rw[a.2,h.1];rfl⟩
noncomputable def zM(Γ:eX)(sc:Scope)(y:Str):Oc λi=>f9 Γ sc y i:=(Bf (FM Γ sc y)).map λi=>⟨i.1,Eu i.2⟩
noncomputable def FP(Γ:eX)(sc:Scope):(es:List Expr)→Oc λis=>zp Γ sc es is
 |[]=>some ⟨[],.nil⟩
 |e::r=>(eJ e).bind λy=>(zM Γ sc y.1.1).bind λi=>(FP Γ sc r).map λis=>⟨i.1::is.1,Eq.substr (p:=λe=>zp Γ sc (e::r) _) y.2 (.cons i.2 is.2)⟩
noncomputable def Fm(Γ:eX)(sc:Scope):(ys:List Str)→Oc λis=>tY Γ sc ys is
 |[]=>some ⟨[],.nil⟩
 |y::r=>(zM Γ sc y).bind λi=>(Fm Γ sc r).map λis=>⟨i.1::is.1,.cons i.2 is.2⟩
section
variable{W:Wd}{C:Cs}(ok:p8 C W)(Γ:eX)(sc:Scope)
noncomputable def zH(x:Expr):Oc λc=>n8 W Γ sc x c:=match x with
 |.List es _=>(cL ok.k 40 Γ sc es).map λcs=>⟨.list cs.1,xw cs.2⟩
 |.Call f es kws pos=>(vV f).bind λz=>match es,kws with
  |[a],[]=>(Id z.1.2.1 (Str.ofString "split")).bind λe=>(iL (ja z.1.1)).bind λh1=>(iL (z.1.2.2.endLine==pos.line)).bind λh2=>(iL (!eg a)).bind λh3=>(cE ok.k 40 Γ sc z.1.1).bind λco=>(cE ok.k 40 Γ sc a).map λca=>⟨.meth .split co.1 [ca.1],G2 z.2 e.1 h1.1 h2.1 (yM h3.1) co.2.1 ca.2.1⟩
  |_,_=>none
 |.BinOp l .Mult b _=>(listOf l).bind λz=>(cL ok.k 40 Γ sc z.1.1).bind λcs=>(cE ok.k 40 Γ sc b).map λcb=>⟨.bin .Mult (.list cs.1) cb.1,Ie z.2 cs.2 cb.2.1⟩
 |_=>none
noncomputable def EB(y:Str)(py q:Pos)(i:Nat)(hy:f9 Γ sc y i)(own:Bool)(x:Expr):Oc λc=>dg W Γ sc (.Assign [.Name y py] x q) c:=match own with
 |true=>(iL (jE x)).bind λhn=>(zH ok Γ sc x).map λc=>⟨.own i c.1,FK hy hn.1 c.2⟩
 |false=>match x with
  |.ListComp elt gens scope p=>(KH (Fk ok.k 39) Γ sc elt gens scope p).map λc=>⟨.asg i c.1,wF hy c.2⟩
  |x=>(iL (jE x)).bind λhn=>(cE ok.k 40 Γ sc x).map λc=>⟨.asg i c.1,oA hy hn.1 c.2.1⟩
theorem JF{z:Str×Pos}{ci:CE}(hy:f9 Γ sc y i)(e:g.target=.Name z.1 z.2)(q':IQ Γ sc scope y z.1 py p g k=true)(H:bJ W Γ sc g.iter ci)(F:n8 W (f7 Γ scope z.1) (c7 scope sc) elt ce):dg W Γ sc (.Assign [.Name y py] (.ListComp elt [g] scope p) q) (.mat i k n ce ci) :=
 have q:=of_decide_eq_true q'
 Eq.substr (p:=λg=>dg W Γ sc (.Assign [.Name y py] (.ListComp elt [g] scope p) _) _) (lw e q.1.1 q.1.2.1) (I3 hy q.2.2.2.1.1 q.2.2.2.1.2 q.2.2.2.2.1 (zl q.2.2.2.2.2) (dL.of q.2.1) (gG q.2.2.1) q.1.2.2 H F)
noncomputable def Gg(y:Str)(py q:Pos)(i k n:Nat)(hy:f9 Γ sc y i)(x:Expr):Oc λc=>dg W Γ sc (.Assign [.Name y py] x q) c:=match x with
 |.ListComp elt gens scope p=>(match gens with
  |[g]=>(eJ g.target).bind λz=>(iL (IQ Γ sc scope y z.1.1 py p g k)).bind λh=>(cE ok.k 40 Γ sc g.iter).bind λci=>(zH ok (f7 Γ scope z.1.1) (c7 scope sc) elt).map λce=>⟨.mat i k n ce.1 ci.1,JF Γ sc hy z.2 h.1 ci.2.1 ce.2⟩
  |_=>none)
 |_=>none
noncomputable def HD(ts vs:List Expr)(k k':Nat)(p p' q:Pos):Oc λc=>dg W Γ sc (.Assign [.Tuple ts k p] (.Tuple vs k' p') q) c:=match ts,vs with
 |[t1,t2],[v1,v2]=>(eJ t1).bind λx=>(eJ t2).bind λy=>(listOf v1).bind λz=>match z with
  |⟨([],_),e⟩=>(iL (C.own.contains x.1.1)).bind λ_=>(iL (JZ sc [t1,t2] [v1,v2] x.1.1 y.1.1 v2)).bind λh=>(zM Γ sc x.1.1).bind λi=>(zM Γ sc y.1.1).bind λj=>if hij:i.1≠j.1 then(cE ok.k 40 Γ sc v2).map λc=>⟨.asgO i.1 j.1 c.1,have q:=of_decide_eq_true h.1;Hm x.2 y.2 e q.1 q.2.1 i.2 j.2 hij q.2.2 c.2.1⟩ else none
  |_=>none
 |_,_=>none
noncomputable def G5(ts:List Expr)(k:Nat)(p q:Pos)(x:Expr):Oc λc=>dg W Γ sc (.Assign [.Tuple ts k p] x q) c:=match x with
 |.Tuple vs k' p'=>(HD ok Γ sc ts vs k k' p p' q).or ((iL (y_ sc ts vs)).bind λhs=>(Fm Γ sc (fq sc ts).reverse).bind λis=>(cE ok.k 40 Γ sc (.Tuple vs k' p')).map λc=>⟨.asgS is.1 c.1,Hy hs.1 is.2 c.2.1⟩)
 |x=>(iL (!C0 x)).bind λhn=>(FP Γ sc ts).bind λis=>(cE ok.k 40 Γ sc x).map λc=>⟨.asgT is.1 c.1,GA is.2 (yM hn.1) c.2.1⟩
theorem HU{y a:Expr}{v t:Expr}{z:Str×Pos}{b:Expr}{ps pa pb:Pos}{m:Nat}{ck cb:CE}(e:v=.Subscript t b pb)(e2:t=.Subscript (.Name z.1 z.2) a pa)(ho:bI x=true)(hy:f9 Γ sc x i)(hoz:bI z.1=true)(hz:Γ.vars.lookup z.1=some m)(hk:bJ W Γ sc y ck)(ha:bJ W Γ sc a ca)(hb:bJ W Γ sc b cb):dg W Γ sc (.Assign [.Subscript (.Name x px) y ps] v p) (.putG i ck m ca cb):=by
 subst e2
 subst e
 exact G1 ho hy hoz hz hk ha hb
noncomputable def HO(x:Str)(px ps p:Pos)(a y:Expr):Oc λc=>dg W Γ sc (.Assign [.Subscript (.Name x px) a ps] y p) c :=
 ((C4 y).bind λs1=>(C4 s1.1.1).bind λs2=>(eJ s2.1.1).bind λz=>(iL (Gr C z.1.1).isSome).bind λ_=>(iL (bI x)).bind λh1=>(iL (bI z.1.1)).bind λh2=>(zM Γ sc x).bind λi=>(Bf (Γ.vars.lookup z.1.1)).bind λm=>(cE ok.k 40 Γ sc a).bind λck=>(cE ok.k 40 Γ sc s2.1.2.1).bind λca=>(cE ok.k 40 Γ sc s1.1.2.1).map λcb =>
  ⟨.putG i.1 ck.1 m.1 ca.1 cb.1,HU Γ sc s1.2 (s2.2.trans (congrArg (λz=>Expr.Subscript z _ _) z.2)) h1.1 i.2 h2.1 m.2 ck.2.1 ca.2.1 cb.2.1⟩).or
 ((iL (bI x)).bind λh1=>(iL (jE y)).bind λh2=>(zM Γ sc x).bind λi=>(cE ok.k 40 Γ sc a).bind λck=>(cE ok.k 40 Γ sc y).map λce=>⟨.put i.1 ck.1 ce.1,Jh h1.1 i.2 h2.1 ck.2.1 ce.2.1⟩)
noncomputable def F4(x:Str)(px pa pb p:Pos)(a b y:Expr):Oc λc=>dg W Γ sc (.Assign [.Subscript (.Subscript (.Name x px) a pa) b pb] y p) c :=
 (iL (Gr C x).isSome).bind λ_=>(iL (bI x)).bind λh1=>(iL (jE y)).bind λh2=>(Bf (Γ.vars.lookup x)).bind λi=>(cE ok.k 40 Γ sc a).bind λca=>(cE ok.k 40 Γ sc b).bind λcb=>(cE ok.k 40 Γ sc y).map λce=>⟨.mset i.1 ca.1 cb.1 ce.1,Ga h1.1 i.2 h2.1 ca.2.1 cb.2.1 ce.2.1⟩
noncomputable def HY(ts:List Expr)(x:Expr)(q:Pos):Oc λc=>dg W Γ sc (.Assign ts x q) c:=match ts with
 |[.Name y py]=>(zM Γ sc y).bind λi=>(match Gr C y with
  |some m=>Gg ok Γ sc y py q i.1 m.1 m.2 i.2 x
  |none=>EB ok Γ sc y py q i.1 i.2 (C.own.contains y) x)
 |[.Tuple ts k p]=>G5 ok Γ sc ts k p q x
 |[.Subscript t b pb]=>((eJ t).bind λz=>(HO ok Γ sc z.1.1 z.1.2 pb q b x).map λc=>⟨c.1,Eq.substr (p:=λt=>dg W Γ sc (.Assign [.Subscript t b pb] x q) _) z.2 c.2⟩).or
  ((C4 t).bind λs=>(eJ s.1.1).bind λz=>(F4 ok Γ sc z.1.1 z.1.2 s.1.2.2 pb q s.1.2.1 b x).map λc=>⟨c.1,Eq.substr (p:=λt=>dg W Γ sc (.Assign [.Subscript t b pb] x q) _) (s.2.trans (congrArg (λz=>Expr.Subscript z _ _) z.2)) c.2⟩)
 |_=>none
noncomputable def H9(t:Expr)(op:Operator)(x:Expr)(p:Pos):Oc λc=>dg W Γ sc (.AugAssign t op x p) c:=(eJ t).bind λy=>(iL (bI y.1.1)).bind λho=>(zM Γ sc y.1.1).bind λi=>(cE ok.k 40 Γ sc x).bind λc=>match op with
 |.Add=>some ⟨.aug false i.1 c.1,Eq.substr (p:=λt=>dg W Γ sc (.AugAssign t _ x p) _) y.2 (FG (neg:=false) ho.1 i.2 c.2.1)⟩
 |.Sub=>some ⟨.aug true i.1 c.1,Eq.substr (p:=λt=>dg W Γ sc (.AugAssign t _ x p) _) y.2 (FG (neg:=true) ho.1 i.2 c.2.1)⟩
 |_=>none
theorem Ko{f t a:Expr}{x:Str×Pos}{n:Str}(e:f=.Attribute t n apos)(e2:t=.Name x.1 x.2)(e3:n=Str.ofString "append")(ho:bI x.1=true)(hl:(apos.endLine==pos.line)=true)(hs:eg a=false)(H:bJ W Γ sc a c)(hy:f9 Γ sc x.1 i):dg W Γ sc (.Expr (.Call f [a] [] pos) q) (.app i c):=by
 subst e2
 subst e3
 subst e
 exact IB ho hl hs H hy
theorem Kb{f t:Expr}{x:Str×Pos}{n:Str}(e:f=.Attribute t n apos)(e2:t=.Name x.1 x.2)(e3:n=Str.ofString "reverse")(ho:bI x.1=true)(hl:(apos.endLine==pos.line)=true)(hy:f9 Γ sc x.1 i):dg W Γ sc (.Expr (.Call f [] [] pos) q) (.rev i):=by
 subst e2
 subst e3
 subst e
 exact I1 ho hl hy
noncomputable def GP(e:Expr)(q:Pos):Oc λc=>dg W Γ sc (.Expr e q) c:=match e with
 |.Call f es kws pos=>(vV f).bind λz=>(eJ z.1.1).bind λx=>(iL (z.1.2.2.endLine==pos.line)).bind λhl=>(iL (bI x.1.1)).bind λho=>(zM Γ sc x.1.1).bind λi=>match es,kws with
  |[],[]=>(Id z.1.2.1 (Str.ofString "reverse")).map λe=>⟨.rev i.1,Kb Γ sc z.2 x.2 e.1 ho.1 hl.1 i.2⟩
  |[a],[]=>(Id z.1.2.1 (Str.ofString "append")).bind λe=>(iL (!eg a)).bind λhs=>(cE ok.k 40 Γ sc a).map λc=>⟨.app i.1 c.1,Ko Γ sc z.2 x.2 e.1 ho.1 hl.1 (yM hs.1) c.2.1 i.2⟩
  |_,_=>none
 |_=>none
noncomputable def Ib(ts:List Expr)(q:Pos):Oc λc=>dg W Γ sc (.Delete ts q) c:=match ts with
 |[.Subscript t a p]=>(eJ t).bind λx=>(iL (bI x.1.1)).bind λho=>(zM Γ sc x.1.1).bind λi=>(cE ok.k 40 Γ sc a).bind λc=>(GR c.1).map λl=>⟨.delAt i.1 l.1,Eq.substr (p:=λt=>dg W Γ sc (.Delete [.Subscript t a p] q) _) x.2 (Jg ho.1 c.2.1 l.2 i.2)⟩
 |_=>none
section
variable{b:List Stmt}(hb:fL W Γ sc b cb)
theorem HC{y g:Str×Pos}{t f a:Expr}(e:t=.Name y.1 y.2)(e2:f=.Name g.1 g.2)(e3:g.1=Str.ofString "reversed")(hg:gq sc g.1=true)(hs:eg a=false)(hy:f9 Γ sc y.1 i)(H:bJ W Γ sc a c)(hb:fL W Γ sc b cb)(ok:p8 C W):dg W Γ sc (.For t (.Call f [a] [] pos) b [] p) (.forR i c cb):=by
 subst e
 subst e2
 exact G8 hy (dY hg).1 (dY hg).2 (by rw[e3,ok.k.blts];exact aW (i:=8) rfl) hs H hb
theorem Gw{g:Str×Pos}{es:List Expr}{f a:Expr}(G:s_ W g.1)(e2:f=.Name g.1 g.2)(hg:gq sc g.1=true)(hs:eg a=false)(hy:zp Γ sc es [i,j])(H:bJ W Γ sc a c)(hb:fL W Γ sc b cb):dg W Γ sc (.For (.Tuple es k pt) (.Call f [a] [] pos) b [] p) (.forG i j c cb):=by
 subst e2
 exact Gb G hy (dY hg).1 (dY hg).2 hs H hb
noncomputable def Fh(e:Expr):Option {p:(Str×Pos)×Expr×Expr×Pos // e=.Call p.2.1 [p.2.2.1] [] p.2.2.2∧p.2.1=.Name p.1.1 p.1.2}:=match e with
 |.Call f [a] [] pos=>(eJ f).map λg=>⟨(g.1,f,a,pos),rfl,g.2⟩
 |_=>none
noncomputable def JR(t it:Expr)(p:Pos):Oc λc=>dg W Γ sc (.For t it b [] p) c:=(eJ t).bind λy=>(zM Γ sc y.1.1).bind λi =>
 ((Fh it).bind λz=>(Id z.1.1.1 (Str.ofString "reversed")).bind λe=>(iL (gq sc z.1.1.1)).bind λhg=>(iL (!eg z.1.2.2.1)).bind λhs=>(cE ok.k 40 Γ sc z.1.2.2.1).map λc=>⟨.forR i.1 c.1 cb,Eq.substr (p:=λit=>dg W Γ sc (.For t it b [] p) _) z.2.1 (HC Γ sc y.2 z.2.2 e.1 hg.1 (yM hs.1) i.2 c.2.1 hb ok)⟩).or
 ((iL (!eY it)).bind λhs=>(cE ok.k 40 Γ sc it).map λc=>⟨.for1 i.1 c.1 cb,Eq.substr (p:=λt=>dg W Γ sc (.For t it b [] p) _) y.2 (FN i.2 (yM hs.1) c.2.1 hb)⟩)
noncomputable def forT(es:List Expr)(k:Nat)(pt:Pos)(it:Expr)(p:Pos):Oc λc=>dg W Γ sc (.For (.Tuple es k pt) it b [] p) c:=(FP Γ sc es).bind λis =>
 ((Fh it).bind λz=>match is with
  |⟨[i,j],hy⟩=>(Bf C.gen).bind λg=>(Id g.1 z.1.1.1).bind λe=>(iL (gq sc z.1.1.1)).bind λhg=>(iL (!eg z.1.2.2.1)).bind λhs=>(cE ok.k 40 Γ sc z.1.2.2.1).map λc=>⟨.forG i j c.1 cb,Eq.substr (p:=λit=>dg W Γ sc (.For (.Tuple es k pt) it b [] p) _) z.2.1 (Gw Γ sc (ok.gen _ (g.2.trans (congrArg some e.1))) z.2.2 hg.1 (yM hs.1) hy c.2.1 hb)⟩
  |_=>none).or
 (((listOf it).bind λz=>(cL ok.k 40 Γ sc z.1.1).map λc=>⟨.forT is.1 (.list c.1) cb,Eq.substr (p:=λit=>dg W Γ sc (.For (.Tuple es k pt) it b [] p) _) z.2 (zG is.2 rfl (λ_ _ _ e=>(aJ e).elim λxs e=>⟨xs,(cq e.2).2.symm⟩) (oC c.2) hb)⟩).or
 ((cE ok.k 40 Γ sc it).bind λc=>(Co c.1).bind λz=>(iL (!eY it)).map λhs=>⟨.forT is.1 c.1 cb,zG is.2 (yM hs.1) (λ_ _ _ e=>tG (z.2▸e)) c.2.1 hb⟩))
end
noncomputable def Ef{st:Stmt}(o:Oc λc=>dg W Γ sc st c):{c:CS // dg W Γ sc st c}:=o.getD ⟨.stuck,rS⟩
structure Rs(W:Wd)(Γ:eX)(sc:Scope) where
 S:∀st,{c:CS // dg W Γ sc st c}
 B:∀sts,{cs:List CS // fL W Γ sc sts cs}
noncomputable def KT(r:Rs W Γ sc)(st:Stmt):{c:CS // dg W Γ sc st c}:=match st with
 |.If t a b _=>Ef Γ sc ((cE ok.k 40 Γ sc t).map λct=>⟨.ite ct.1 (r.B a).1 (r.B b).1,H6 ct.2.2 (r.B a).2 (r.B b).2⟩)
 |.While t b [] _=>Ef Γ sc ((cE ok.k 40 Γ sc t).map λct=>⟨.wh ct.1 (r.B b).1,DP ct.2.2 (r.B b).2⟩)
 |.Return (some x) _=>Ef Γ sc ((cE ok.k 40 Γ sc x).map λc=>⟨.ret c.1,Fw c.2.1⟩)
 |.Assert t _ _=>Ef Γ sc ((cE ok.k 40 Γ sc t).map λc=>⟨.assert c.1,AK c.2.2⟩)
 |.Assign ts x q=>Ef Γ sc (HY ok Γ sc ts x q)
 |.AugAssign t op x p=>Ef Γ sc (H9 ok Γ sc t op x p)
 |.Expr e q=>Ef Γ sc (GP ok Γ sc e q)
 |.Delete ts q=>Ef Γ sc (Ib ok Γ sc ts q)
 |.For t it b [] p=>Ef Γ sc (match t with
  |.Tuple es k pt=>forT ok Γ sc (r.B b).2 es k pt it p
  |t=>JR ok Γ sc (r.B b).2 t it p)
 |_=>⟨.stuck,rS⟩
noncomputable def Ke(C:Cs)(r:Rs W Γ sc):(sts:List Stmt)→{cs:List CS // fL W Γ sc sts cs}
 |[]=>⟨[],vg⟩
 |st::rest=>⟨Gy (Fq Γ C.own) (r.S st).1 (r.B rest).1,EP (λ_ h=>yl h) (r.S st).2 (r.B rest).2⟩
noncomputable def JM:Nat→Rs W Γ sc
 |0=>⟨λ_=>⟨.stuck,rS⟩,λ_=>⟨[.stuck],λn Φ fu A env s₀ s M₀ M own ρ ρ' f E Q ctr rm so fi e h=>nomatch (show(none:Option (Ev×Fl))=some _ from e)⟩⟩
 |n+1=>⟨KT ok Γ sc (JM n),Ke Γ sc C (JM n)⟩
noncomputable def qg(n:Nat)(sts:List Stmt):{cs:List CS // fL W Γ sc sts cs}:=(JM ok Γ sc n).B sts
end
set_option tactic.hygienic false
set_option backward.match.sparseCases true
theorem qr{k:Str→Option NameKind}{y:Str}:∀(b:List (Str×Value)) (m:Str→Option Value),(∀p∈b,p.1≠y)→bindL k b m y=m y
 |[],_,_=>rfl
 |(n,v)::r,m,h=>by
  unfold bindL
  rw[qr r _ λp hp=>h p (aj _ hp)]
  by_cases q:k n=some .local
  ·rw[if_pos q]
   exact if_neg λe=>h (n,v) al e.symm
  ·rw[if_neg q]
theorem q_{k:Str→Option NameKind}{y:Str}:∀(b:List (Str×Value)) (m:Str→Option Value),(∀p∈b,p.1≠y)→bindC k b m y=m y
 |[],_,_=>rfl
 |(n,v)::r,m,h=>by
  unfold bindC
  rw[q_ r _ λp hp=>h p (aj _ hp)]
  by_cases q:k n=some .local
  ·rw[if_pos q]
  ·rw[if_neg q]
   exact if_neg λe=>h (n,v) al e.symm
theorem xk{ps:List Str}{vs:List Value}(h:y∉ps)(p)(hp:p∈ps.zip vs):p.1≠y:=λe=>h (e▸(List.of_mem_zip hp).1)
theorem DF{k:Str→Option NameKind}{ps:List Str}:∀{vs:List Value} {m:Str→Option Value} {i:Nat} {y:Str} {v:Value},ps.Nodup→ps[i]?=some y→vs[i]?=some v →
  (k y=some .local→bindL k (ps.zip vs) m y=some v)∧(k y≠some .local→bindC k (ps.zip vs) m y=some v):=by
 induction ps with
 |nil=>exact λ_ h _=>nomatch h
 |cons x ps ih =>
 intro vs m i y v nd h1 h2
 cases vs with
 |nil=>exact nomatch h2
 |cons w vs =>
 cases i with
 |zero =>
  obtain rfl:=am h1;obtain rfl:=am h2
  have hn:=(List.nodup_cons.mp nd).1
  refine⟨λhk=>?_,λhk=>?_⟩
  ·show bindL k (ps.zip vs) (if k x=some .local then λy=>if y=x then some w else m y else m) x=some w
   rw[qr _ _ (xk hn),if_pos hk];simp
  ·show bindC k (ps.zip vs) (if k x=some .local then m else λy=>if y=x then some w else m y) x=some w
   rw[q_ _ _ (xk hn),if_neg hk];simp
 |succ i =>
  exact⟨λhk=>(ih (List.nodup_cons.mp nd).2 h1 h2).1 hk,λhk=>(ih (List.nodup_cons.mp nd).2 h1 h2).2 hk⟩
noncomputable def numbered:List Str→Nat→List (Str×Nat)
 |[],_=>[]
 |x::r,n=>(x,n)::numbered r (n+1)
theorem dw{l:List Str}:∀{n:Nat},(numbered l n).lookup y=some i→n≤i∧l[i-n]?=some y:=by
 induction l with
 |nil =>
  intro _ h
  exact nomatch h
 |cons x r ih =>
  intro n h
  replace h:((x,n)::numbered r (n+1)).lookup y=some i:=h
  rw[List.lookup_cons] at h
  cases q:y==x with
  |true=>simp only[q] at h;cases h;have:=bH q;subst this;simp
  |false =>
   rw[q] at h
   obtain⟨h1,h2⟩:=ih h
   refine⟨by exact aE h1,?_⟩
   have:i-n=(i-(n+1))+1:=by lia
   rw[this]
   simpa using h2
noncomputable def fI(ns:List Str):eX:={vars:=numbered ns 0,size:=ns.length}
noncomputable def fP(ns:List Str)(ex:Nat):eX:={vars:=numbered ns 0,size:=ns.length+ex}
noncomputable def Gc:Flow→Value
 |.ret v=>v
 |_=>.none
structure ud(sc:Scope)(ps ns:List Str):Prop where
 kind:sc.kind=.function
 co:sc.isCoroutine=false
 gen:sc.isGenerator=false
 nd:ps.Nodup
 pre:ps=ns.take ps.length
 loc:∀y∈ps,sc.names.lookup y=some .local∨sc.names.lookup y=some .cell
 free:∀p∈sc.names,p.2≠.free
section
variable{W:Wd}
theorem fN{sc:Scope}{k:NameKind}(h:sc.names.lookup y=some k):(y,k)∈sc.names:=mem_of_lookup h
theorem kr{ps ns:List Str}(ex:Nat)(fo:ud fd.scope ps ns)
  (hF:∀{h},W.ok h→∃o,h.get? a=some o∧o.data=.func fd) (hcd:∀{h},W.ok h→h.CodeRec fd.code fd.qualname) (hbody:fd.body=.stmts body)
  (hbind:∀vals:List Value,vals.length=ps.length→bindArgs fd ⟨vals,[]⟩=pure (ps.zip vals)) (hclo:fd.closure=[]) (hg:fd.globals=mainGlobals) (hb:fd.builtins=builtinsNs)
  {vs:List V} (rm:dA W A (n+1)) (g:cU W s) (mok:kQ s.heap M) (hv:dN s.heap M vals vs) (hown:(vs.all λv=>!v.own)=true) (hlen:vs.length=ps.length)
  (h:∀env s₁ M',env.code=fd.code→env.qual=fd.qualname++Str.ofString ".<locals>."→env.frame=some env.locals→s.heap.get? env.locals=none→lD (fP ns ex) fd.scope env→SX W s s₁→FI W (fP ns ex) fd.scope s env M (λ_=>0) M' (vs.map Mine.Slot.sh++List.replicate (ns.length+ex-ps.length) Mine.Slot.un) s₁→dA W (A.deeper env) n →
   wpAny (model W.prog W.w) (A.deeper env) (execs body env) (λfl s'=>Q (Gc fl) s') (λe s'=>wpAny (model W.prog W.w) (A.deeper env) (leaving env e) (λ_ s''=>E e s'') (λe' s''=>E e' s'') s') s₁) :
  wpAny (model W.prog W.w) A (call (.ref a) vals []) Q E s:=by
 have hvl:vals.length=ps.length:=by simp only[hv.length,hlen]
 refine aa λhQ=>?_
 obtain⟨o,ho,hd⟩:=hF g.ok
 (refine hQ ?_;clear hQ)
 refine wpAny_call ?_
 have hdep:A.depth<recursionLimit:=by have:=rm.depth;show A.depth<1000;exact au (ay (Around.depth A) (n+1))   (au this (c8 rfl))
 have psns:∀{y:Str},y∈ps→∃k,fd.scope.names.lookup y=some k:=λhy=>(fo.loc _ hy).elim (λh=>⟨_,h⟩) λh=>⟨_,h⟩
 refine codeAny_call_cells hdep ho hd (W.lim g.ok) (hcd g.ok) hbody (hbind vals hvl) hclo (λp hp=>?_) (λs₁ ic=>?_) fo.co fo.gen fo.kind
 ·have hm:p.1∈ps:=(List.of_mem_zip hp).1
  rcases fo.loc _ hm with q | q
  ·exact .inl q
  ·refine .inr ⟨q,?_⟩
   refine aa λhQ=>?_
   obtain⟨c,hc,_⟩:=i7 (y:=p.1) fd.scope.names (s.heap.objs.size+1) [] ⟨_,fN q,rfl⟩
   (refine hQ ?_;clear hQ)
   rw[hc];rfl
 generalize hev:callEnvC fd s.heap.objs.size a=env at ic ⊢
 have hcode:env.code=fd.code:=by subst hev;rfl
 have hqual:env.qual=fd.qualname++Str.ofString ".<locals>.":=by subst hev;rfl
 have hfrm:env.frame=some env.locals:=by subst hev;rfl
 have ek:fD env fd.scope:=by
  subst hev
  refine⟨rfl,fo.kind,hg,hb,λx hx=>?_,λx y c hx hy=>?_,λx c hx=>?_⟩
  ·rcases hx with hx | hx
   ·obtain⟨c,hc,_⟩:=i7 (y:=x) fd.scope.names (s.heap.objs.size+1) [] ⟨_,fN hx,rfl⟩
    exact⟨c,hc⟩
   ·exact absurd rfl (fo.free _ (fN hx))
  ·exact name_of_addr ic.apart (mem_of_lookup hx) (mem_of_lookup hy)
  ·exact bV (ic.above x c (mem_of_lookup hx))
 have hL:env.locals=s.heap.objs.size:=by subst hev;rfl
 have x1:SX W s s₁:=SX.of_inCall g ic.toInCall
 have hLf:s.heap.get? env.locals=none:=by rw[hL];exact bD _
 have hcf:∀y c,env.cells.lookup y=some c→s.heap.get? c=none:=λy c hc=>Heap.get?_none_of_le (by have:=ic.above y c (mem_of_lookup hc);rw[hL] at this;exact aE this)
 have m0:∀b∈M,∃o,s.heap.get? b=some o:=λb hb=>let⟨o,e,_⟩:=mok b hb;⟨o,e⟩
 have so:lD (fP ns ex) fd.scope env:=by
  refine⟨ek,λy i hy=>?_,λx y i hx hy=>?_⟩
  ·obtain⟨_,h2⟩:=dw (n:=0) hy
   have:=(aS.mp h2).1
   simp[fP] at this ⊢;exact ae this (ay _ _)
  ·obtain⟨_,h1⟩:=dw (n:=0) hx
   obtain⟨_,h2⟩:=dw (n:=0) hy
   rw[h1] at h2;exact am h2
 have lay:rg env s₁.heap:=⟨⟨_,ic.toInCall.ns⟩,λy c hc=>⟨_,ic.cell y c hc⟩⟩
 have hle:ps.length≤ns.length:=by
  have:=congrArg List.length fo.pre
  rw[bx] at this
  exact ab (aw this) (Nat.min_le_right (List.length ps) (List.length ns))
 have hget:∀{i:Nat} {sl:Mine.Slot},(vs.map Mine.Slot.sh++List.replicate (ns.length+ex-ps.length) Mine.Slot.un)[i]?=some sl→(∃v,vs[i]?=some v∧sl=.sh v)∨sl=.un:=λ{i sl} hi=>by
  by_cases q:i<vs.length
  ·rw[a_ (by simpa using q),az] at hi
   obtain⟨v,h1,h2⟩:=aH.mp hi
   exact .inl ⟨v,h1,h2.symm⟩
  ·rw[aM (by simpa using q)] at hi
   have:=aS.mp hi
   obtain⟨hh,e⟩:=this
   rw[List.getElem_replicate] at e
   exact .inr e.symm
 have hvg:∀{h:Heap} {M:List Addr} {vals:List Value} {vs:List V},dN h M vals vs→∀{i:Nat} {v:V},vs[i]?=some v→∃x,vals[i]?=some x∧cQ h M x v:=by
  intro h M vals vs hv
  induction hv with
  |nil=>intro i v hi;simp at hi
  |cons r _ ih =>
   intro i v hi
   cases i with
   |zero=>simp at hi;subst hi;exact⟨_,rfl,r⟩
   |succ i=>simp at hi;simpa using ih hi
 have fi:FI W (fP ns ex) fd.scope s env M (λ_=>0) (env.locals::(fd.scope.names.filterMap (λp=>env.cells.lookup p.1)++M)) (vs.map Mine.Slot.sh++List.replicate (ns.length+ex-ps.length) Mine.Slot.un) s₁:=by
  refine⟨g,x1,lay,?_,?_,?_,?_,?_,?_,?_,?_,?_,?_⟩
  ·intro b hb
   rcases ah.mp hb with rfl | hb
   ·exact en ic.toInCall.ns
   rcases aP.mp hb with hb | hb
   ·obtain⟨p,hp,hc⟩:=List.mem_filterMap.mp hb
    obtain⟨o,e,hd⟩:=ic.cell p.1 b hc
    exact⟨o,e,λt=>by obtain⟨fs,q,_⟩:=t.2;replace q:=hd▸q;cases q⟩
   ·exact(mok.ext x1) b hb
  ·exact λb hb=>aj _ (aT _ hb)
  ·intro b hb
   obtain⟨o,e⟩:=m0 b hb
   exact⟨λq=>(by rw[q,hLf] at e;cases e),λy c hc q=>(by rw[q,hcf y c hc] at e;cases e)⟩
  ·intro y hy
   have:locOf env y=env.locals∨∃c,fd.scope.names.lookup y=some .cell∧env.cells.lookup y=some c∧locOf env y=c:=by
    unfold locOf
    rcases hy with hy | hy
    ·left;rw[if_pos (by rw[cJ ek];exact hy)]
    ·right
     obtain⟨c,hc⟩:=ek.cells y (.inl hy)
     exact⟨c,hy,hc,by rw[if_neg (by rw[cJ ek,hy];decide),hc];rfl⟩
   rcases this with q | ⟨c,hyc,hc,q⟩
   ·rw[q];exact⟨al,λhb=>(by obtain⟨o,e⟩:=m0 _ hb;replace e:=hLf▸e;cases e),hLf⟩
   ·rw[q]
    exact⟨aj _ (bl _ (List.mem_filterMap.mpr ⟨(y,.cell),fN hyc,hc⟩)),λhb=>(by obtain⟨o,e⟩:=m0 _ hb;replace e:=hcf y c hc▸e;cases e),hcf y c hc⟩
  ·intro i xs hi
   rcases hget hi with⟨v,_,q⟩ | q<;>cases q
  ·intro i j xs ys hi
   rcases hget hi with⟨v,_,q⟩ | q<;>cases q
  ·intro y i hy sl hi
   rcases hget hi with⟨v,h1,rfl⟩ | rfl
   ·have hov:v.own=false:=by
     have:=ap.mp hown v (aW h1)
     simpa using this
    obtain⟨x,h2,h3⟩:=hvg hv h1
    obtain⟨_,hn⟩:=dw (n:=0) hy
    have hi':i<ps.length:=by simp only[←hlen];exact(aS.mp h1).1
    have hp:ps[i]?=some y:=by
     rw[fo.pre,List.getElem?_take_of_lt hi']
     simpa using hn
    obtain⟨b1,b2⟩:=DF (k:=env.kindOf) (m:=λ_=>none) fo.nd hp h2
    refine⟨hov,x,?_,?_⟩
    ·rcases fo.loc y (aW hp) with q | q
     ·have hk:env.kindOf y=some .local:=by rw[cJ ek];exact q
      exact .inl ⟨hk,_,ic.toInCall.ns,b1 hk⟩
     ·have hk:env.kindOf y=some .cell:=by rw[cJ ek];exact q
      obtain⟨c,hc⟩:=ek.cells y (.inl q)
      have:=ic.cell y c hc
      simp only[b2 (by rw[hk];decide)] at this
      exact .inr ⟨.inl hk,c,hc,this⟩
    ·refine cQ.mono (λb o _ e n=>x1.keep b o e n) (λb hb=>?_) hov h3
     rcases ah.mp hb with rfl | hb
     ·exact .inr hLf
     rcases aP.mp hb with hb | hb
     ·obtain⟨p,hp,hc⟩:=List.mem_filterMap.mp hb
      exact .inr (hcf _ _ hc)
     ·exact .inl hb
   ·trivial
  ·show _=ns.length+ex
   simp[hlen];exact cw (ab hle (ay (List.length ns) ex))
  ·intro i xs hi
   rcases hget hi with⟨v,_,q⟩ | q<;>cases q
  ·intro i k n hi
   rcases hget hi with⟨v,_,q⟩ | q<;>cases q
 have rm':dA W (A.deeper env) n:=rm.deeper
 exact h env s₁ _ hcode hqual hfrm hLf so x1 fi rm'
theorem uH{ps ns:List Str}(fo:ud fd.scope ps ns)
  (hF:∀{h},W.ok h→∃o,h.get? a=some o∧o.data=.func fd) (hcd:∀{h},W.ok h→h.CodeRec fd.code fd.qualname) (hbody:fd.body=.stmts body)
  (hbind:∀vals:List Value,vals.length=ps.length→bindArgs fd ⟨vals,[]⟩=pure (ps.zip vals)) (hclo:fd.closure=[]) (hg:fd.globals=mainGlobals) (hb:fd.builtins=builtinsNs)
  {vs:List V} (rm:dA W A (n+1)) (g:cU W s) (mok:kQ s.heap M) (hv:dN s.heap M vals vs) (hown:(vs.all λv=>!v.own)=true) (hlen:vs.length=ps.length)
  (h:∀env s₁ M',env.code=fd.code→env.qual=fd.qualname++Str.ofString ".<locals>."→lD (fI ns) fd.scope env→SX W s s₁→FI W (fI ns) fd.scope s env M (λ_=>0) M' (vs.map Mine.Slot.sh++List.replicate (ns.length-ps.length) Mine.Slot.un) s₁→dA W (A.deeper env) n →
   ∀E':Value→Shared→Prop,wpAny (model W.prog W.w) (A.deeper env) (execs body env) (λfl s'=>Q (Gc fl) s') E' s₁) :
  wpAny (model W.prog W.w) A (call (.ref a) vals []) Q E s :=
 kr 0 fo hF hcd hbody hbind hclo hg hb rm g mok hv hown hlen λenv s₁ M' h1 h2 _ _ h3 h4 h5 h6=>h env s₁ M' h1 h2 h3 h4 h5 h6 _
theorem ctr_of{C:Cs}(ok:p8 C W){ps ns:List Str}{m:Nat}(ex:Nat)(fo:ud fd.scope ps ns)
  (hF:∀{h},W.ok h→∃o,h.get? a=some o∧o.data=.func fd) (hcd:∀{h},W.ok h→h.CodeRec fd.code fd.qualname) (hbody:fd.body=.stmts body)
  (hbind:∀vals:List Value,vals.length=ps.length→bindArgs fd ⟨vals,[]⟩=pure (ps.zip vals)) (hclo:fd.closure=[]) (hg:fd.globals=mainGlobals) (hb:fd.builtins=builtinsNs)
  (ct:i4 W n Φ):zr W (n+1) a (runF Φ fu {par:=ps.length,size:=ns.length+ex,body:=(qg ok (fP ns ex) fd.scope m body).1}):=by
 intro A s M vals vs r E Q rm g mok hv hown e h
 refine aa λhQ=>?_
 obtain⟨hlen,e⟩:=dn e
 obtain⟨⟨ρ',f⟩,e1,e2⟩:=aJ e
 (refine hQ ?_;clear hQ)
 refine kr ex fo hF hcd hbody hbind hclo hg hb rm g mok hv hown hlen λenv s₁ M' _ _ _ _ so x1 fi rm'=>?_
 refine(qg ok (fP ns ex) fd.scope m body).2 n Φ fu (A.deeper env) env s s₁ M M' _ _ ρ' f _ _ ct rm' so fi e1 λown' M' s' fl fi' _ fr=>?_
 cases f with
 |nx =>
  obtain rfl:=am e2
  cases fl<;>first | exact fr.elim | exact h _ _ fi'.x rfl .none
 |bk=>cases e2
 |ct=>cases e2
 |rt v =>
  cases e2
  cases fl<;>first | exact fr.elim | exact h _ _ fi'.x fr.1 fr.2
end
section
variable{M:Model}{R:GenEnd}{Y:Protocol}{c:Code}{fs:List Frame}{K:Flow→Sem Fin}{H:Value→Sem Fin}{gd:Bool→Bool}{lv:List Value→List Value}
theorem vX{test:Expr}
  (h:wpAny M (A.over c fs) (isTrue test env (eval test env)) (λb s'=>Seg M A R Y n s₀ c ((execs (if b=true then body else orelse) env).wrap K H gd lv) fs s') (λx s'=>Seg M A R Y n s₀ c (H x) fs s') s) :
  Seg M A R Y n s₀ c ((exec (.If test body orelse pos) env).wrap K H gd lv) fs s:=by
 rw[arm_exec_If]
 refine seg_bind_wrap (bP ?_)
 refine seg_bind_wrap (bA h (λb s' hb=>?_) λ_ _ x=>x)
 cases b<;>exact hb
noncomputable def ft(K:Flow→Sem Fin)(H:Value→Sem Fin)(gd:Bool→Bool)(lv:List Value→List Value)(env:Env)(c:Code)(p:Pos):Frame :=
 .ret (λr=>((match r with | .ok f=>(.pure f:Sem Flow) | .error e=>.raise e).onRaise λ(x:Value)=>do
  if(←field x 1)==Value.none then unsupported "frame.own-activation:exception-without-traceback"
  setFlight x env.frame).wrap K H gd lv) none (gd false) (lv []) c p []
theorem ED(hs:∀x,foldedSetIterable iter env x=pure x)
  (h:wpAny M (A.over c fs) (eval iter env) (λx s₁=>wpAny M (A.over c fs) (pyIter x) (λit s₂=>∀p,Seg M A R Y n s₀ (.forLoop target it body orelse env) (M.den (.forLoop target it body orelse env)) (ft K H gd lv env c p::fs) s₂)
   (λx s'=>Seg M A R Y n s₀ c (H x) fs s') s₁) (λx s'=>Seg M A R Y n s₀ c (H x) fs s') s) :
  Seg M A R Y n s₀ c ((exec (.For target iter body orelse pos) env).wrap K H gd lv) fs s:=by
 rw[exec_For]
 refine seg_bind_wrap (bP ?_)
 refine seg_bind_wrap (bA h (λx s₁ h₁=>?_) λ_ _ x=>x)
 refine seg_bind_wrap (wpAny_of_eq (hs x) ?_)
 refine seg_bind_wrap (bP ?_)
 refine seg_bind_wrap (aX (bA h₁ (λit s₂ h₂=>?_) λ_ _ x=>x))
 exact seg_call h₂
end
section
variable{prog:Program}{w:World}{R:GenEnd}{Y:Protocol}{fs:List Frame}
noncomputable abbrev Fy(env:Env):Value→Sem Fin:=λe=>(do noteFrame e env;theTreesLotGoes e:Sem Unit).wrap (λ_=>.raise e) .raise id id
noncomputable abbrev Ft(target:Expr)(it:Value)(body:List Stmt)(env:Env):Flow→Sem Fin:=λf=>match f with
 |.next | .cont=>.pure (.again (.forLoop target it body [] env))
 |.brk=>.pure (.done .next)
 |.ret v=>.pure (.done (.ret v))
theorem nr{it:Value}
  (h:∀E:Value→Shared→Prop,wpAny (model prog w) (A.over (.forLoop target it body [] env) fs) (pyNext it) (λr s'=>match r with
   |none=>∀c,Seg (model prog w) A R Y n s₀ c (leafOf (.ok .next)) fs s'
   |some v=>∀E:Value→Shared→Prop,wpAny (model prog w) (A.over (.forLoop target it body [] env) fs) (letOwnedTupleGo target it v) (λ_ s₁=>∀E:Value→Shared→Prop,wpAny (model prog w) (A.over (.forLoop target it body [] env) fs) (assign target env v) (λ_ s₂ =>
     Seg (model prog w) A R Y n s₀ (.forLoop target it body [] env) ((execs body env).wrap (Ft target it body env) (Fy env) id id) fs s₂) E s₁) E s') E s) :
  Seg (model prog w) A R Y n s₀ (.forLoop target it body [] env) ((model prog w).den (.forLoop target it body [] env)) fs s:=by
 show Seg _ A R Y n s₀ _ ((forTurn target it body [] env).onRaise (λx=>do noteFrame x env;theTreesLotGoes x)) fs s
 unfold forTurn
 rw[Sem.onRaise_eq_wrap]
 refine seg_bind_wrap (bP ?_)
 refine seg_bind_wrap (wpAny_onRaise (bA (h _) (λr s' hr=>?_) λ_ _ x=>bP x))
 cases r with
 |none =>
  refine seg_again rfl ?_
  exact hr (.block [] env)
 |some v =>
  refine seg_bind_wrap (bA (hr _) (λ_ s₁ h₁=>?_) λ_ _ x=>x)
  refine seg_bind_wrap (bA (h₁ _) (λ_ s₂ h₂=>?_) λ_ _ x=>x)
  rw[Sem.bind_eq_wrap',Sem.wrap_wrap]
  rw[Sem.wrap_congr (execs body env) _ _ (K':=Ft target it body env) (H':=Fy env) (λf=>by cases f<;>rfl)
    (λe=>by first | exact Sem.bind_eq_wrap _ _ | (show(do noteFrame e env;theTreesLotGoes e:Sem Unit).bind (λ_=>.raise e)=_;rw[Sem.bind_eq_wrap]))]
  exact h₂
end
set_option backward.match.sparseCases false
noncomputable def l6:PyData→Bool
 |.none=>true
 |.bool _=>true
 |.int _=>true
 |.str _=>true
 |_=>false
theorem Rep.flat:∀{v:Value} {d:PyData},l6 d=true→Rep h M v d→Rep h' M' v d:=by
 intro v d f r
 cases r<;>first | (cases f;done) | constructor
noncomputable def iH:Slot→Bool
 |.un=>true
 |.sh (.d d)=>l6 d
 |_=>false
section
variable{W:Wd}{Γ:eX}{sc:Scope}
structure GI(W:Wd)(Γ:eX)(env:Env)(s:Shared)(ρ:Ev):Prop where
 good:cU W s
 ns:∃m,s.heap.Ns env.locals m
 vis:Ip Γ env [] s.heap ρ
 flat:∀sl∈ρ,iH sl=true
 len:ρ.length=Γ.size
structure GE(W:Wd)(Γ:eX)(sc:Scope)(env:Env):Prop where
 so:lD Γ sc env
 cells:env.cells=[]
 ns:¬W.stat env.locals
 nx:W.exc=none
theorem GI.cx(gi:GI W Γ env s ρ)(ge:GE W Γ sc env)(rm:j3 W A 0):Cx W Γ sc 0 (λ_ _=>none) A s env [] ρ :=
 ⟨λ_ _ _ _ _ e=>(by cases e),rm,gi.good,ge.so.ek,λ_ h=>(by cases h),gi.vis,⟨gi.ns,λy c e=>(by rw[ge.cells] at e;cases e)⟩,gi.len,ge.so.wf⟩
theorem c_.local(ge:GE W Γ sc env)(x:c_ h env y v):env.kindOf y=some .local∧∃m,h.Ns env.locals m∧m y=some v:=by
 rcases x with x | ⟨_,c,e,_⟩
 ·exact x
 ·rw[ge.cells] at e;cases e
theorem GI.move(ge:GE W Γ sc env)(gi:GI W Γ env s ρ)(g:cU W s')(k:∀o,s.heap.get? env.locals=some o→s'.heap.get? env.locals=some o):GI W Γ env s' ρ:=by
 have kn:∀{m},s.heap.Ns env.locals m→s'.heap.Ns env.locals m:=λn=>n.imp λo h=>h.imp λ_ h=>h.imp λ_ h=>⟨k o h.1,h.2⟩
 refine⟨g,gi.ns.imp λ_=>kn,λy i hy sl hs=>?_,gi.flat,gi.len⟩
 have hv:=gi.vis y i hy sl hs
 have hf:=gi.flat sl (aW hs)
 cases sl with
 |un=>trivial
 |sh u =>
  refine aa λhQ=>?_
  obtain⟨h1,v,h2,h3⟩:=hv
  obtain⟨k1,m,k2,k3⟩:=c_.local ge h2
  (refine hQ ?_;clear hQ)
  refine⟨h1,v,.inl ⟨k1,m,kn k2,k3⟩,?_⟩
  cases u with
  |d d=>exact Rep.flat hf h3
  |_=>cases hf
 |ow _=>cases hf
 |mx _ _=>trivial
theorem GI.ext(ge:GE W Γ sc env)(gi:GI W Γ env s ρ)(x:SX W s s'):GI W Γ env s' ρ:=gi.move ge x.good λo e=>by
 obtain⟨m,n⟩:=gi.ns
 exact x.keep _ _ e (by obtain⟨o',e',n'⟩:=en n;rw[e] at e';cases e';exact n')
theorem GI.goodC(gi:GI W Γ env s ρ)(ge:GE W Γ sc env)(hk:∀b o,b≠env.locals→s.heap.get? b=some o→h'.get? b=some o):cU W {s with heap:=h',toks:=tk} :=
 ⟨W.mono gi.good.ok λb o q e=>hk b o (λz=>by
  subst z
  rcases q with q | q
  ·exact ge.ns q
  ·obtain⟨m,n⟩:=gi.ns
   exact q (iM n o e)) e,gi.good.bare⟩
theorem GI.store{Q:Unit→Shared→Prop}{Md:Model}(ge:GE W Γ sc env)(gi:GI W Γ env s ρ)(hy:Γ.vars.lookup y=some i)
  (hk:sc.names.lookup y=some .local) (hd:l6 d=true) (r:Rep s.heap [] v d)
  (h:∀h' tk,GI W Γ env {s with heap:=h',toks:=tk} (ρ.set i (.sh (.d d)))→h'.objs.size=s.heap.objs.size→(∀b o,b≠env.locals→s.heap.get? b=some o→h'.get? b=some o)→Q () {s with heap:=h',toks:=tk}):wpAny Md A (storeName env y v) Q E s:=by
 have hkl:env.kindOf y=some .local:=by rw[cJ ge.so.ek];exact hk
 obtain⟨m,n⟩:=gi.ns
 refine wpAny_storeName_local hkl n (λh' n' sb=>?_) (by rw[dI ge.so.ek];rfl)
 refine h h' _ ⟨gi.goodC ge sb.extBut,⟨_,n'⟩,λz j hz sl hs=>?_,λsl hs=>?_,by rw[List.length_set];exact gi.len⟩ sb.1 sb.extBut
 ·by_cases q:i=j
  ·subst q
   have ez:=ge.so.inj z y i hz hy
   subst ez
   have:=bW hs
   subst this
   exact⟨rfl,v,.inl ⟨hkl,_,n',by simp⟩,Rep.flat hd r⟩
  ·have hs':=bC hs q
   have zy:z≠y:=λe=>by subst e;rw[hy] at hz;cases hz;exact q rfl
   have hv:=gi.vis z j hz sl hs'
   have hf:=gi.flat sl (aW hs')
   cases sl with
   |un=>trivial
   |sh u =>
    refine aa λhQ=>?_
    obtain⟨h1,w,h2,h3⟩:=hv
    obtain⟨k1,m2,k2,k3⟩:=c_.local ge h2
    (refine hQ ?_;clear hQ)
    refine⟨h1,w,.inl ⟨k1,_,n',?_⟩,?_⟩
    ·rw[if_neg zy]
     refine aa λhQ=>?_
     obtain⟨o,es,ep,e1,e2,_,e4⟩:=n
     obtain⟨o',es',ep',f1,f2,_,f4⟩:=k2
     (refine hQ ?_;clear hQ)
     rw[e1] at f1;cases f1;rw[e2] at f2;cases f2
     rw[←e4,f4];exact k3
    ·cases u with
     |d d=>exact Rep.flat hf h3
     |_=>cases hf
   |ow _=>cases hf
   |mx _ _=>trivial
 ·rcases List.mem_or_eq_of_mem_set hs with q | q
  ·exact gi.flat sl q
  ·subst q;exact hd
end
noncomputable def oj:Str:=Str.ofString "pos"
noncomputable def ou:Str:=Str.ofString "escape"
noncomputable def Ay:Str:=Str.ofString "ch"
noncomputable def fV:Str:=Str.ofString "addr"
noncomputable def lU:Str:=Str.ofString "enumerate"
noncomputable def bs:Str:=Str.ofString "\\"
noncomputable def kN(q:Nat→Pos)(k:Nat→Nat):List Stmt :=
 [.If (.Name ou (q 13))
  [.Expr (.Yield (some (.Tuple [.Name oj (q 14),.BinOp (.Constant (.str bs) (k 4) (q 15)) .Add (.Name Ay (q 16)) (q 17)] (k 5) (q 18))) (q 19)) (q 20),
   .Assign [.Name ou (q 21)] (.Constant (.bool false) (k 6) (q 22)) (q 23)]
  [.If (.Compare (.Name Ay (q 24)) [.Eq] [.Constant (.str bs) (k 7) (q 25)] (q 26))
    [.Assign [.Name ou (q 27)] (.Constant (.bool true) (k 8) (q 28)) (q 29)]
    [.Expr (.Yield (some (.Tuple [.Name oj (q 30),.Name Ay (q 31)] (k 9) (q 32))) (q 33)) (q 34)] (q 35)] (q 36)]
noncomputable def qf(q:Nat→Pos)(k:Nat→Nat):Expr:=.Tuple [.Name oj (q 7),.Name Ay (q 8)] (k 3) (q 9)
noncomputable def FY(q:Nat→Pos)(k:Nat→Nat):List Stmt :=
 [.If (.Name ou (q 38)) [.Expr (.Yield (some (.Tuple [.Name oj (q 39),.Constant (.str bs) (k 10) (q 40)] (k 11) (q 41))) (q 42)) (q 43)] [] (q 44)]
noncomputable def lX(q:Nat→Pos)(k:Nat→Nat):List Stmt :=
 [.Assign [.Name oj (q 1)] (.Constant (.int 0) (k 1) (q 2)) (q 3),
  .Assign [.Name ou (q 4)] (.Constant (.bool false) (k 2) (q 5)) (q 6),
  .For (qf q k) (.Call (.Name lU (q 10)) [.Name fV (q 11)] [] (q 12)) (kN q k) [] (q 37)]++FY q k
noncomputable def gI:eX:=fI [fV,oj,ou,Ay]
structure HJ(sc:Scope):Prop where
 kind:sc.kind=.function
 co:sc.isCoroutine=false
 gen:sc.isGenerator=true
 addr:sc.names.lookup fV=some .local
 pos:sc.names.lookup oj=some .local
 esc:sc.names.lookup ou=some .local
 ch:sc.names.lookup Ay=some .local
 enum:sc.names.lookup lU=some .globalImplicit
 noc:∀p∈sc.names,p.2≠.cell
 nof:∀p∈sc.names,p.2≠.free
structure oE(N:List Addr)(s s':Shared):Prop where
 keep:∀b o,b∉N→s.heap.get? b=some o→¬b_ o→s'.heap.get? b=some o
 occ:∀b o,b∉N→s.heap.get? b=some o→∃o',s'.heap.get? b=some o'
 os:s'.os=s.os
 gens:∀(i:Nat) g,s.gens[i]?=some g→s'.gens[i]?=some g
theorem oE.refl:oE N s s:=⟨λ_ _ _ e _=>e,λ_ o _ e=>⟨o,e⟩,rfl,λ_ _ e=>e⟩
theorem oE.step(x:oE N s s')(hk:∀b o,b∉N→s'.heap.get? b=some o→h'.get? b=some o):oE N s {s' with heap:=h',toks:=tk} :=
 ⟨λb o hb e n=>hk b o hb (x.keep b o hb e n),λb o hb e=>(let⟨o',e'⟩:=x.occ b o hb e;⟨o',hk b o' hb e'⟩),x.os,x.gens⟩
theorem oE.ext{W:Wd}{s'':Shared}(x:oE N s s')(y:SX W s' s''):oE N s s'' :=
 ⟨λb o hb e n=>y.keep b o (x.keep b o hb e n) n,λb o hb e=>(let⟨o',e'⟩:=x.occ b o hb e;y.occ b o' e'),y.os.trans x.os,λi g e=>y.gens i g (x.gens i g e)⟩
noncomputable def qm(W:Wd)(C e it:Addr)(ys:List PyData):Protocol:=λm s₀ v s kap =>
 (∃d,ys[ys.length-1-m]?=some d∧(e≠it∧(∃o,s.heap.get? e=some o∧eW o)∧∃o,s.heap.get? it=some o∧eW o)∧∀M',kQ s₀.heap M'→Rep s.heap M' v d∧Rep s.heap (e::it::M') v d)∧oE [C,e,it] s₀ s∧(cU W s∧∃m,s.heap.Ns C m) ∧
  ∀s'':Shared,cU W s''→(∀b∈[C,e,it],∀o,s.heap.get? b=some o→s''.heap.get? b=some o)→kap (.send .none) s''
noncomputable def qk(W:Wd)(C e it:Addr):GenEnd:=λn s₀ r s=>r=.ok (.ret .none)∧(n=0∧oE [C,e,it] s₀ s∧cU W s)
set_option backward.match.sparseCases true
theorem AA{prog:Program}{w:World}(hh:A.handled=none)(it:Addr)(x:Str)(t:Tok) :
  Draws prog w A it [it] x.cps.size (λi v=>∃c u,x.cps[i]?=some c∧v=.str ⟨#[c]⟩ u) (λi h=>h.IsStrIter it (strIterType x) x t i):=by
 unfold strIterType
 cases ha:x.cps.all (·<128)
 ·exact Draws.strWide hh it x t
 ·exact Draws.strAscii hh it x t
noncomputable def R4(x:Str)(po:Int)(es:Bool)(ch:Slot):Ev:=[.sh (.d (.str x)),.sh (.d (.int po)),.sh (.d (.bool es)),ch]
theorem ku{e:Addr}{i:Int}{old:Value}(x:IsEnum h e it i old):∃o,h.get? e=some o∧eW o :=
 ⟨_,x,λt=>(by cases t.1),λvs q t hd=>(by cases hd;intro z;cases z)⟩
theorem jI{T:String}(z:h.IsStrIter it T x t i):∃o,h.get? it=some o∧eW o:=by
 refine aa λhQ=>?_
 obtain⟨o,h1,h2,h3⟩:=z
 (refine hQ ?_;clear hQ)
 exact⟨o,h1,λt=>(by have:=t.1;rw[h2] at this;cases this),λvs q t hd=>(by rw[h3] at hd;cases hd;intro z;cases z)⟩
section
variable{W:Wd}{sc:Scope}
variable{q:Nat→Pos}{k:Nat→Nat}{xt:Tok}{e:Addr}{K:Flow→Sem Fin}{H:Value→Sem Fin}{gd:Bool→Bool}{lv:List Value→List Value}{fb:List Stmt}
theorem Fu:bI oj=true∧bI ou=true∧bI Ay=true∧bI fV=true∧bI lU=true:=by decide +kernel
theorem gy:gI.vars.lookup fV=some 0∧gI.vars.lookup oj=some 1∧gI.vars.lookup ou=some 2∧gI.vars.lookup Ay=some 3:=by decide +kernel
theorem G_{c:Nat}(hc:c<0x110000):vT .Eq (.str ⟨#[c]⟩) (.str bs)=some (decide (c=92)):=by
 by_cases h:c=92
 ·subst h;decide +kernel
 ·rw[ba h]
  have:PyData.eqv (.str ⟨#[c]⟩) (.str bs)=false:=by
   cases hq:PyData.eqv (.str ⟨#[c]⟩) (.str bs) with
   |false=>rfl
   |true =>
    exfalso
    apply h
    have hb:bs=⟨#[92]⟩:=by decide +kernel
    rw[hb] at hq
    simpa [PyData.eqv] using hq
  show(if fY (.str ⟨#[c]⟩)&&fY (.str bs) then some (PyData.eqv (.str ⟨#[c]⟩) (.str bs)) else none)=some false
  have s1:fY (.str ⟨#[c]⟩)=true:=by simp[fY,SeqAt.shaped,PyData.canLay0,PyData.depth,PyData.strOk,hc]
  have s2:fY (.str bs)=true:=by decide +kernel
  rw[this,s1,s2];rfl
end
section
variable{prog:Program}{w:World}
theorem pi{T:String}{oc:Addr}{ob ob':Obj}(ho:h.get? it=some o)(hc:o.cls=.type T)(hd:o.data=.fields #[.str x t,.int i 0]) :
  ∃o',(((h.update it λob=>Obj.mapFields (λvs=>vs.setIfInBounds 0 .none) ob).push ob).push ob').get? it=some o'∧eW o':=by
 have hnew:(Obj.mapFields (λvs=>vs.setIfInBounds 0 .none) o).data=.fields #[.none,.int i 0]:=by rw[dz hd];rfl
 refine⟨_,aC _ (aC _ (cX (h:=h) (λob=>Obj.mapFields (λvs=>vs.setIfInBounds 0 .none) ob) ho (Obj.isFreed_of_fields hnew))),?_,λvs q t' hq=>?_⟩
 ·intro tb
  have h1:=tb.1
  rw[Obj.cls_mapFields,hc] at h1;cases h1
 ·rw[hnew] at hq;cases hq;intro z;cases z
theorem mr(hh:A.handled=none)
  (hit:s.heap.IsStrIter it "str_ascii_iterator" x t i) (hx:x.cps[i]?=none)
  (hE:∀h' e,Heap.ExtBut it s.heap h'→(∃o,h'.get? it=some o∧eW o)→(∃o,h'.get? e=some o∧o.cls=.type "StopIteration")→E (.ref e) {s with heap:=h'}) :
  wpAny (model prog w) A (Builtin.SmallTypes.nextOf (.ref it)) Q E s:=by
 refine aa λhQ=>?_
 obtain⟨o,ho,hc,hd⟩:=id hit
 (refine hQ ?_;clear hQ)
 unfold Builtin.SmallTypes.nextOf
 refine ac (b9 (name:=Str.ofString "__next__") hit.typeIs F.slot_str_ascii_iterator_next
  (cF F.slot_str_ascii_iterator_next hit.typeIs F.entry_str_ascii_iterator_next ?_ (F.args_str_ascii_iterator_next_1 _)))
 show wpAny _ _ (field (.ref it) 0>>=_) _ _ s
 refine ac (bY ho hd (x:=.str x t) rfl ?_)
 show wpAny _ _ (field (.ref it) 1>>=_) _ _ s
 refine ac (bY ho hd (x:=.int i 0) rfl ?_)
 simp only[aR,hx]
 refine ac (wpAny_rule (ac (wpAny_setField ho hd (by simp) (ac (wpAny_letGo ?_)))))
 show wpAny _ _ (newExc (.type "StopIteration") []>>=_) _ _ _
 refine ac ?_
 simp only[newExc,newTuple]
 refine ac (bF ?_ (by size_fits))
 refine ac (m:=firstArgMember _ _) (wpAny_of_eq (a:=Value.none) (by first | rfl | (simp only[firstArgMember];rfl)) ?_)
 refine bF ?_ (by size_fits)
 dsimp only[raiseNew]
 refine ac (wpAny_handled ?_)
 first | rw[show A.in1.handled=none from hh] | rw[hh]
 refine ac (aB (wpAny_throw ?_))
 exact hE _ _ (((Heap.SameBut.update ..).extBut.push _).push _) (pi (oc:=it) ho hc hd) ⟨_,aI _ rfl,rfl⟩
theorem nw(hh:A.handled=none)
  (hit:s.heap.IsStrIter it "str_iterator" x t i) (hx:x.cps[i]?=none)
  (hE:∀h' e,Heap.ExtBut it s.heap h'→(∃o,h'.get? it=some o∧eW o)→(∃o,h'.get? e=some o∧o.cls=.type "StopIteration")→E (.ref e) {s with heap:=h'}) :
  wpAny (model prog w) A (Builtin.SmallTypes.nextOf (.ref it)) Q E s:=by
 refine aa λhQ=>?_
 obtain⟨o,ho,hc,hd⟩:=id hit
 (refine hQ ?_;clear hQ)
 unfold Builtin.SmallTypes.nextOf
 refine ac (b9 (name:=Str.ofString "__next__") hit.typeIs F.slot_str_iterator_next
  (cF F.slot_str_iterator_next hit.typeIs F.entry_str_iterator_next ?_ (F.args_str_iterator_next_1 _)))
 show wpAny _ _ (field (.ref it) 0>>=_) _ _ s
 refine ac (bY ho hd (x:=.str x t) rfl ?_)
 show wpAny _ _ (field (.ref it) 1>>=_) _ _ s
 refine ac (bY ho hd (x:=.int i 0) rfl ?_)
 simp only[aR,hx]
 refine ac (wpAny_rule (ac (wpAny_setField ho hd (by simp) (ac (wpAny_letGo ?_)))))
 show wpAny _ _ (newExc (.type "StopIteration") []>>=_) _ _ _
 refine ac ?_
 simp only[newExc,newTuple]
 refine ac (bF ?_ (by size_fits))
 refine ac (m:=firstArgMember _ _) (wpAny_of_eq (a:=Value.none) (by first | rfl | (simp only[firstArgMember];rfl)) ?_)
 refine bF ?_ (by size_fits)
 dsimp only[raiseNew]
 refine ac (wpAny_handled ?_)
 first | rw[show A.in1.handled=none from hh] | rw[hh]
 refine ac (aB (wpAny_throw ?_))
 exact hE _ _ (((Heap.SameBut.update ..).extBut.push _).push _) (pi (oc:=it) ho hc hd) ⟨_,aI _ rfl,rfl⟩
theorem B2{e:Addr}{i:Int}{old:Value}{Q:Option Value→Shared→Prop}(hh:A.handled=none)
  (he:IsEnum s.heap e it i old) (hst:s.heap.IsStrIter it (strIterType x) x t x.cps.size) (hne:e≠it)
  (hQ:∀h',Heap.ExtBut it s.heap h'→(∃o,h'.get? it=some o∧eW o)→Q none {s with heap:=h'}):wpAny (model prog w) A (pyNext (.ref e)) Q E s:=by
 have hT:s.TypeIs (.ref e) "enumerate":=⟨_,he,rfl⟩
 unfold pyNext
 refine ac (wpAny_attempt (b9 (name:=Str.ofString "__next__") hT F.slot_enumerate_next
  (cF F.slot_enumerate_next hT F.entry_enumerate_next ?_ (F.args_enumerate_next_1 _))))
 show wpAny _ _ (field (.ref e) 2>>=_) _ _ _
 refine ac (bY he rfl (x:=.ref it) rfl ?_)
 have key:∀{Q':Value→Shared→Prop} {E':Value→Shared→Prop},(∀h' e,Heap.ExtBut it s.heap h'→(∃o,h'.get? it=some o∧eW o)→(∃o,h'.get? e=some o∧o.cls=.type "StopIteration")→E' (.ref e) {s with heap:=h'}) →
   wpAny (model prog w) A.in1 (Builtin.SmallTypes.nextOf (.ref it)) Q' E' s:=λ{Q' E'} hE=>by
  unfold strIterType at hst
  cases ha:x.cps.all (·<128)
  ·rw[ha] at hst;exact nw (A:=A.in1) hh hst (by simp) hE
  ·rw[ha] at hst;exact mr (A:=A.in1) hh hst (by simp) hE
 refine ac (key λh' x he' hsf hx'=>?_)
 refine aa λhQ=>?_
 obtain⟨o,ho,hc⟩:=hx'
 (refine hQ ?_;clear hQ)
 refine ac (wpAny_isInstance (T:="StopIteration") (b:=true) ⟨o,ho,hc⟩ isSubtype_stop ?_)
 exact aB (hQ _ he' hsf)
end
section
variable{W:Wd}{sc:Scope}{q:Nat→Pos}{k:Nat→Nat}{xt:Tok}{e:Addr}{K:Flow→Sem Fin}{H:Value→Sem Fin}{gd:Bool→Bool}{lv:List Value→List Value}{fb:List Stmt}
theorem GI.off(ge:GE W gI sc env)(gi:GI W gI env s ρ)(g:cU W {s with heap:=h',toks:=tk})(hk:∀b o,b∉[e,it]→s.heap.get? b=some o→h'.get? b=some o)(h1:env.locals∉[e,it]) :
 GI W gI env {s with heap:=h',toks:=tk} ρ:=gi.move ge g λo e=>hk _ o h1 e
theorem pI(g:cU W s)(hk:∀b o,b∉[e,it]→s.heap.get? b=some o→h'.get? b=some o)(hs:∀b∈[e,it],¬W.stat b∧∀o,s.heap.get? b=some o→eW o):cU W {s with heap:=h',toks:=tk} :=
 ⟨W.mono g.ok λb o q e'=>hk b o (λz=>q.elim (hs b z).1 λq=>q ((hs b z).2 o e')) e',g.bare⟩
structure YF(W:Wd)(sc:Scope)(env:Env)(A:Around)(x:Str)(e it:Addr):Prop where
 ge:GE W gI sc env
 sy:HJ sc
 hh:A.handled=none
 depth:A.depth≤910
 units:A.units+170≤cLine
 ne:e≠it
 el:e≠env.locals
 il:it≠env.locals
 se:¬W.stat e
 si:¬W.stat it
 xok:PyData.strOk x=true
 xsz:c0 x.length=true
theorem xW{pre rem:List PyData}(h:ys=pre++d::rem):ys[ys.length-1-rem.length]?=some d:=by
 subst h
 simp
theorem jl:∀{vs:List Value} {ds:List PyData},ds.all l6=true→Reps h M vs ds→Reps h' M' vs ds
 := λhf r=>Reps.ind (P:=λvs ds=>ds.all l6=true→Reps h' M' vs ds) (λ_=>.nil) (λ_ _ _ _ a _ ih hf=>by
  rw[List.all_cons,ag] at hf
  exact .cons (Rep.flat hf.1 a) (ih hf.2)) r hf
theorem wS(r:Reps s.heap [] vals ds)(hf:ds.all l6=true)(hM:∀a∈M,∃o,s.heap.get? a=some o) :
  Rep (s.heap.push (ik vals.toArray 0)) M (.ref s.heap.objs.size) (.tuple ds):=by
 refine .tuple (λz=>?_) (aI _ rfl) ?_
 ·obtain⟨o,e⟩:=hM _ z;rw[bD] at e;cases e
 ·exact jl hf r
theorem iY(F:YF W sc env A x e it){c:Code}{fs:List Frame}{p1 p2 p3:Pos}{rem:List PyData}{K:Flow→Sem Fin}{H:Value→Sem Fin}{gd:Bool→Bool}{lv:List Value→List Value}
  (P:Heap→Prop) (hP:∀h h',P h→(∀b∈[e,it],∀o,h.get? b=some o→h'.get? b=some o)→P h') (hPs:∀h,P h→(∃o,h.get? e=some o∧eW o)∧∃o,h.get? it=some o∧eW o)
  (rm:j3 W (A.over c fs) 0) (hfs:splitAtGen fs=none) (hgd:gd false=false) (hfg:fs.any Frame.guarded=false)
  (gi:GI W gI env s ρ) (hp:P s.heap) (since:oE [env.locals,e,it] s₀ s) (HL:fC W gI sc elts cs) (he:cevalsD (λ_ _=>none) cs ρ=some ds) (hf:ds.all l6=true) (hl:ds.length≤2) (hy:∃pre,ys=pre++.tuple ds::rem)
  (hk:∀s'',GI W gI env s'' ρ→P s''.heap→Seg (model W.prog W.w) A (qk W env.locals e it) (qm W env.locals e it ys) rem.length s'' c (K .next) fs s'') :
  Seg (model W.prog W.w) A (qk W env.locals e it) (qm W env.locals e it ys) (rem.length+1) s₀ c ((exec (.Expr (.Yield (some (.Tuple elts kk p1)) p2) p3) env).wrap K H gd lv) fs s:=by
 have ge:=F.ge
 refine seg_Expr_Yield hfs hgd hfg ?_ (by rw[ge.so.ek.scope];exact F.sy.co) (by unfold interactive;rw[dI ge.so.ek];rfl)
 refine wpAny_Tuple (jj HL (gi.cx ge rm) he λvals s₁ x1 r1=>⟨?_,?_⟩)
 ·rw[r1.length];unfold sizeLine;exact ab hl (ao _ _)
 ·have x2:SX W s₁ {s₁ with heap:=s₁.heap.push (ik vals.toArray 0)}:=SX.push (tk:=s₁.toks) x1.good
  have x12:=x1.trans x2
  have sf:=hPs _ hp
  have hp2:P (s₁.heap.push (ik vals.toArray 0)):=hP _ _ hp λb hb o e'=>x12.keep b o e' (by
   rcases ah.mp hb with rfl | hb
   ·obtain⟨o2,e2,e3⟩:=sf.1;replace e2:=e'▸e2;cases e2;exact e3.1
   ·obtain rfl:=aq.mp hb
    obtain⟨o2,e2,e3⟩:=sf.2;rw[e'] at e2;cases e2;exact e3.1)
  intro kap hkap
  obtain⟨pre,hy⟩:=hy
  have occN:∀a,(∃o,s₀.heap.get? a=some o)∨a∈[e,it]→∃o,s₁.heap.get? a=some o:=λa ha=>by
   by_cases q:a∈[env.locals,e,it]
   ·rcases ah.mp q with rfl | q
    ·obtain⟨m,o,es,ep,e',_⟩:=gi.ns;exact x1.occ _ o e'
    rcases ah.mp q with rfl | q
    ·obtain⟨o,e',_⟩:=sf.1;exact x1.occ _ o e'
    ·obtain rfl:=aq.mp q
     obtain⟨o,e',_⟩:=sf.2;exact x1.occ _ o e'
   ·rcases ha with⟨o,e'⟩ | ha
    ·obtain⟨o',e''⟩:=since.occ a o q e';exact x1.occ _ o' e''
    ·exact absurd (aj _ ha) q
  refine⟨⟨.tuple ds,xW hy,⟨F.ne,hPs _ hp2⟩,λM' hM'=>⟨?_,?_⟩⟩,(since.ext x12),⟨x12.good,(gi.ext ge x12).ns⟩,λs'' g'' k''=>?_⟩
  ·exact wS r1 hf λa ha=>occN a (.inl (let⟨o,e',_⟩:=hM' a ha;⟨o,e'⟩))
  ·refine wS r1 hf λa ha=>?_
   rcases ah.mp ha with rfl | ha
   ·exact occN _ (.inr (by simp))
   rcases ah.mp ha with rfl | ha
   ·exact occN _ (.inr (by simp))
   ·exact occN a (.inl (let⟨o,e',_⟩:=hM' a ha;⟨o,e'⟩))
  ·exact hkap .none s'' (hk s'' ((gi.ext ge x12).move ge g'' λo e'=>k'' _ (by simp) o e') (hP _ _ hp2 λb hb o e'=>k'' b (aj _ hb) o e'))
noncomputable def EI(e it:Addr)(x:Str)(xt:Tok)(i:Nat)(h:Heap):Prop:=(∃old,IsEnum h e it (i:Int) old)∧h.IsStrIter it (strIterType x) x xt i
theorem EI.keep(h h':Heap)(z:EI e it x xt i h)(hk:∀b∈[e,it],∀o,h.get? b=some o→h'.get? b=some o):EI e it x xt i h':=by
 refine aa λhQ=>?_
 obtain⟨⟨old,a⟩,o,b,r⟩:=z
 (refine hQ ?_;clear hQ)
 exact⟨⟨old,hk e (by simp) _ a⟩,o,hk it (by simp) _ b,r⟩
theorem EI.soft(h:Heap)(z:EI e it x xt i h):(∃o,h.get? e=some o∧eW o)∧∃o,h.get? it=some o∧eW o:=by
 refine aa λhQ=>?_
 obtain⟨⟨old,a⟩,b⟩:=z
 (refine hQ ?_;clear hQ)
 exact⟨ku a,jI b⟩
theorem EI.ext(z:EI e it x xt i s.heap)(y:SX W s s'):EI e it x xt i s'.heap:=z.keep _ _ λb hb o e'=>y.keep b o e' (by
 rcases ah.mp hb with rfl | hb
 ·obtain⟨o2,e2,e3⟩:=z.soft.1;replace e2:=e'▸e2;cases e2;exact e3.1
 ·obtain rfl:=aq.mp hb
  obtain⟨o2,e2,e3⟩:=z.soft.2;replace e2:=e'▸e2;cases e2;exact e3.1)
theorem zO(F:YF W sc env A x e it)(hgd:gd false=false)(ys:List PyData)
  (hend:∀(es:Bool) (po:Int) (ch:Slot) (s₀ s:Shared) c,GI W gI env s (R4 x po es ch)→(es=true→po=((x.cps.size-1:Nat):Int))→oE [env.locals,e,it] s₀ s→(∃pre,ys=pre++gn x.cps.size es [])→((∃old i,IsEnum s.heap e it i old)∧∃o,s.heap.get? it=some o∧eW o) →
   Seg (model W.prog W.w) A (qk W env.locals e it) (qm W env.locals e it ys) (gn x.cps.size es []).length s₀ c (leafOf (.ok .next)) [ft K H gd lv env (.func fb env) p] s) :
  ∀(m i:Nat) (es:Bool) (po:Int) (ch:Slot) (s₀ s:Shared),i+m=x.cps.size→GI W gI env s (R4 x po es ch)→(es=true→po=((i-1:Nat):Int))→oE [env.locals,e,it] s₀ s→((∃old,IsEnum s.heap e it i old)∧s.heap.IsStrIter it (strIterType x) x xt i) →
   (∃pre,ys=pre++gn i es (x.cps.toList.drop i)) →
   Seg (model W.prog W.w) A (qk W env.locals e it) (qm W env.locals e it ys) (gn i es (x.cps.toList.drop i)).length s₀
    (.forLoop (qf q k) (.ref e) (kN q k) [] env) ((model W.prog W.w).den (.forLoop (qf q k) (.ref e) (kN q k) [] env)) [ft K H gd lv env (.func fb env) p] s:=by
 have hA:(A.over (.forLoop (qf q k) (.ref e) (kN q k) [] env) [ft K H gd lv env (.func fb env) p]).handled=none:=F.hh
 have rm:j3 W (A.over (.forLoop (qf q k) (.ref e) (kN q k) [] env) [ft K H gd lv env (.func fb env) p]) 0:=⟨by simp only[F.ge.nx];exact hA,by show A.depth+1≤960;have:=F.depth;exact au this (by decide),by show A.units+3+150≤cLine;have:=F.units;lia⟩
 have ge:=F.ge
 refine aa λhQ=>?_
 obtain⟨n1,n2,n3,n4,n5⟩:=Fu
 obtain⟨g0,g1,g2,g3⟩:=gy
 (refine hQ ?_;clear hQ)
 have g2x:=g2
 have hCn:env.locals∉[e,it]:=λz=>by
  rcases ah.mp z with z | z
  ·exact F.el z.symm
  ·exact F.il (aq.mp z).symm
 have WT:=WalksT.enumerateD (AA (prog:=W.prog) (w:=W.w) (A:=(A.over (.forLoop (qf q k) (.ref e) (kN q k) [] env) [ft K H gd lv env (.func fb env) p]).in1) hA it x xt) e F.ne (by simpa using F.ne) (by simp)
 intro m
 induction m with
 |zero =>
  intro i es po ch s₀ s him gi hpo since hst hpre
  have hi:i=x.cps.size:=by exact him
  subst hi
  have hdrop:x.cps.toList.drop x.cps.size=[]:=List.drop_of_length_le (by simp)
  rw[hdrop] at hpre ⊢
  refine aa λhQ=>?_
  obtain⟨⟨old,he⟩,hit⟩:=hst
  (refine hQ ?_;clear hQ)
  refine nr (λE=>B2 hA he hit F.ne λh' hx hsf=>?_)
  intro c
  have hk:∀b o,b∉[e,it]→s.heap.get? b=some o→h'.get? b=some o:=λb o hb e'=>hx b o (λz=>hb (by simp only[z];simp)) e'
  have hs:∀b∈[e,it],¬W.stat b∧∀o,s.heap.get? b=some o→eW o:=λb hb=>by
   rcases ah.mp hb with rfl | hb
   ·obtain⟨o,e1,e2⟩:=ku he
    exact⟨F.se,λo' e'=>by rw[e1] at e';cases e';exact e2⟩
   ·rw[aq.mp hb]
    obtain⟨o,e1,e2⟩:=jI hit
    exact⟨F.si,λo' e'=>by rw[e1] at e';cases e';exact e2⟩
  exact hend es po ch s₀ {s with heap:=h'} c (gi.off ge (tk:=s.toks) (pI gi.good hk hs) hk hCn) hpo (since.step λb o hb e'=>hk b o (λz=>hb (aj _ z)) e') hpre ⟨⟨old,_,hx _ _ F.ne he⟩,hsf⟩
 |succ m ih =>
  intro i es po ch s₀ s him gi hpo since hst hpre
  have hlt:i<x.cps.size:=by exact Nat.lt_of_sub_pos (ae (Nat.succ_pos m) (dG (aw him)))
  have hd:x.cps.toList.drop i=x.cps[i]::x.cps.toList.drop (i+1):=by
   rw[cH (by simpa using hlt)];rfl
  rw[hd] at hpre ⊢
  refine aa λhQ=>?_
  obtain⟨⟨old,he⟩,hit⟩:=hst
  (refine hQ ?_;clear hQ)
  have hcok:x.cps[i]<0x110000:=by
   have:=F.xok
   unfold PyData.strOk at this
   rw[Array.all_eq_true] at this
   simpa using this i hlt
  have hs:∀b∈[e,it],¬W.stat b∧∀o,s.heap.get? b=some o→eW o:=λb hb=>by
   rcases ah.mp hb with rfl | hb
   ·obtain⟨o,e1,e2⟩:=ku he
    exact⟨F.se,λo' e'=>by rw[e1] at e';cases e';exact e2⟩
   ·rw[aq.mp hb]
    obtain⟨o,e1,e2⟩:=jI hit
    exact⟨F.si,λo' e'=>by rw[e1] at e';cases e';exact e2⟩
  refine nr (λE=>WT.item i s _ _ hlt ⟨⟨old,he⟩,hit⟩ λT vals h1 tk1 hP hsz hT hMid hk1=>?_)
  intro E1
  have gd1:=pI (tk:=tk1) gi.good hk1 hs
  have gi1:=gi.off ge (tk:=tk1) gd1 hk1 hCn
  have hs1:∀b∈[e,it],¬W.stat b∧∀o,h1.get? b=some o→eW o:=λb hb=>by
   obtain⟨⟨x',ho⟩,hit',_⟩:=hMid
   rcases ah.mp hb with rfl | hb
   ·exact⟨F.se,λo' e'=>by
     rw[ho] at e';cases e'
     exact⟨λt=>(by cases t.1),λvs q t hd=>(by cases hd;intro z;cases z)⟩⟩
   ·rw[aq.mp hb]
    obtain⟨o,e1,e2⟩:=jI hit'
    exact⟨F.si,λo' e'=>by rw[e1] at e';cases e';exact e2⟩
  refine WT.go _ _ _ i T _ _ _ hMid λh2 hst2 hk2=>?_
  intro E2
  have gd2:=pI (tk:=tk1) gd1 hk2 hs1
  have gi2:=gi1.off ge (tk:=tk1) gd2 hk2 hCn
  have hT2:h2.IsTuple T vals:=by
   obtain⟨o,e1,r⟩:=hT
   exact⟨o,hk2 T o (WT.apart _ _ _ hMid) e1,r⟩
  refine aa λhQ=>?_
  obtain⟨tt,xv,⟨c,u,hc,rfl⟩,rfl⟩:=hP
  (refine hQ ?_;clear hQ)
  have hcx:c=x.cps[i]:=by rw[Array.getElem?_eq_getElem hlt] at hc;exact(am hc).symm
  subst hcx
  refine wpAny_assign_Tuple hA hT2 rfl rfl λh3 hx3=>?_
  have x3:SX W {s with heap:=h2,toks:=tk1} {s with heap:=h3,toks:=tk1}:=SX.heap gd2 λb o e'=>hx3 b o (λz=>by simp only[z,bD] at e';cases e') e'
  have gi3:=gi2.ext ge x3
  show wpAny _ _ (do holding [Value.str ⟨#[x.cps[i]]⟩ u] (assign (.Name oj (q 7)) env (.int (i:Int) tt));assignInOrder [assign (.Name Ay (q 8)) env] [Value.str ⟨#[x.cps[i]]⟩ u]) _ _ _
  refine ac (aX (wpAny_assign_Name (GI.store ge gi3 g1 F.sy.pos (d:=.int (i:Int)) rfl (.int _ _) λh4 tk4 gi4 _ hk4=>?_)))
  show wpAny _ _ (do holding [] (assign (.Name Ay (q 8)) env (.str ⟨#[x.cps[i]]⟩ u));assignInOrder [] []) _ _ _
  refine ac (aX (wpAny_assign_Name (GI.store ge gi4 g3 F.sy.ch (d:=.str ⟨#[x.cps[i]]⟩) rfl (.str _ _) λh5 tk5 gi5 _ hk5=>aB ?_)))
  have gi5:GI W gI env {s with heap:=h5,toks:=tk5} (R4 x (i:Int) es (.sh (.d (.str ⟨#[x.cps[i]]⟩)))):=gi5
  have e5:(∃old,IsEnum h5 e it ((i+1:Nat):Int) old)∧h5.IsStrIter it (strIterType x) x xt (i+1):=by
   obtain⟨⟨old',he'⟩,hit'⟩:=hst2
   have hx3':∀b o,h2.get? b=some o→h3.get? b=some o:=λb o e'=>hx3 b o (λz=>by simp only[z,bD] at e';cases e') e'
   refine⟨⟨old',hk5 _ _ F.el (hk4 _ _ F.el (hx3' _ _ he'))⟩,?_⟩
   obtain⟨o,e1,r⟩:=hit'
   exact⟨o,hk5 _ _ F.il (hk4 _ _ F.il (hx3' _ _ e1)),r⟩
  have since5:oE [env.locals,e,it] s₀ {s with heap:=h5,toks:=tk5}:=since.step λb o hN e'=>by
   have hb:b∉[e,it]:=λz=>hN (aj _ z)
   have:=hk2 b o hb (hk1 b o hb e')
   exact hk5 b o (λz=>hN (by rw[z];exact al)) (hk4 b o (λz=>hN (by rw[z];exact al)) (hx3 b o (λz=>by simp only[z,bD] at this;cases this) this))
  clear gi4 gi3 gi2 gi1 gi hk4 hk5 hk1 hk2 hx3 x3 hT2 hT hMid gd1 gd2 hs hs1 hst2 since he hit
  refine seg_execs_cons (vX ?_)
  refine(km (bK n2 g2) (gh rfl)) 0 _ _ _ env [] _ (.d (.bool es)) es _ _ (gi5.cx ge rm) rfl rfl λs6 x6=>?_
  have gi6:=gi5.ext ge x6
  have e6:EI e it x xt (i+1) s6.heap:=EI.ext (s:={s with heap:=h5,toks:=tk5}) e5 x6
  have since6:=since5.ext x6
  have loop:∀(es:Bool) s₀ s'',GI W gI env s'' (R4 x (i:Int) es (.sh (.d (.str ⟨#[x.cps[i]]⟩))))→EI e it x xt (i+1) s''.heap→oE [env.locals,e,it] s₀ s''→(∃pre,ys=pre++gn (i+1) es (x.cps.toList.drop (i+1))) →
    Seg (model W.prog W.w) A (qk W env.locals e it) (qm W env.locals e it ys) (gn (i+1) es (x.cps.toList.drop (i+1))).length s₀
     (.forLoop (qf q k) (.ref e) (kN q k) [] env) (.pure (.again (.forLoop (qf q k) (.ref e) (kN q k) [] env))) [ft K H gd lv env (.func fb env) p] s'' :=
   λes s₀ s'' g1 g2 g3 g4=>seg_again rfl (ih (i+1) es (i:Int) _ s₀ s'' (by lia) g1 (λ_=>rfl) g3 g2 g4)
  have setEsc:∀(b:Bool) (kk:Nat) (p1 p2 p3:Pos) (es:Bool) s₀ s'' (K':Flow→Sem Fin) (H':Value→Sem Fin) gd' lv' n,GI W gI env s'' (R4 x (i:Int) es (.sh (.d (.str ⟨#[x.cps[i]]⟩))))→EI e it x xt (i+1) s''.heap→oE [env.locals,e,it] s₀ s'' →
    (∀s3,GI W gI env s3 (R4 x (i:Int) b (.sh (.d (.str ⟨#[x.cps[i]]⟩))))→EI e it x xt (i+1) s3.heap→oE [env.locals,e,it] s₀ s3→Seg (model W.prog W.w) A (qk W env.locals e it) (qm W env.locals e it ys) n s₀ (.forLoop (qf q k) (.ref e) (kN q k) [] env) (K' .next) [ft K H gd lv env (.func fb env) p] s3) →
    Seg (model W.prog W.w) A (qk W env.locals e it) (qm W env.locals e it ys) n s₀ (.forLoop (qf q k) (.ref e) (kN q k) [] env) ((exec (.Assign [.Name ou p1] (.Constant (.bool b) kk p2) p3) env).wrap K' H' gd' lv') [ft K H gd lv env (.func fb env) p] s'' :=
   λb kk p1 p2 p3 es s₀ s'' K' H' gd' lv' n g1 g2 g3 hk=>seg_wrap (wpAny_Assign_Name (wpAny_Constant_bool (GI.store ge g1 g2x F.sy.esc (d:=.bool b) rfl (.bool _) λh' tk gi' _ hk' =>
    hk {s'' with heap:=h',toks:=tk} gi' (g2.keep _ _ λb' hb' o e'=>hk' b' o (λz=>hCn (by simp only[←z];exact hb')) e') (g3.step λb' o hb' e'=>hk' b' o (λz=>hb' (by simp only[z];exact al)) e'))))
  cases es with
  |true =>
   have hrem:gn i true (x.cps[i]::x.cps.toList.drop (i+1))=.tuple [.int (i:Int),.str ⟨#[92,x.cps[i]]⟩]::gn (i+1) false (x.cps.toList.drop (i+1)):=rfl
   rw[hrem] at hpre ⊢
   rw[if_pos rfl]
   refine seg_execs_cons ?_
   refine iY F (EI e it x xt (i+1)) EI.keep EI.soft rm rfl rfl (by show(gd false||false)=false;rw[hgd];rfl) gi6 e6 since6
    (.cons rfl (bK n1 g1) (.cons rfl (d9 nJ (bK n3 g3)) .nil)) ?_ rfl (by simp) hpre λs'' gi'' e''=>?_
   ·have hb:bs=⟨#[92]⟩:=by decide +kernel
    have e1:k7 .Add (.d (.str bs)) (.d (.str ⟨#[x.cps[i]]⟩))=some (.d (.str ⟨#[92,x.cps[i]]⟩)):=by
     rw[hb];rfl
    show(Option.bind (some (V.d (.int (i:Int)))) λx0=>(kq x0).bind λy=>Option.map (y::·) (Option.bind ((k7 .Add (.d (.str bs)) (.d (.str ⟨#[x.cps[i]]⟩)))) λx1=>(kq x1).bind λy=>some [y]))=_
    rw[e1];rfl
   ·obtain⟨pre,hpre⟩:=hpre
    exact seg_execs_cons (setEsc false _ _ _ _ true s'' s'' _ _ _ _ _ gi'' e'' oE.refl λs3 g3 e3 since3=>loop false s'' s3 g3 e3 since3 ⟨pre++[.tuple [.int (i:Int),.str ⟨#[92,x.cps[i]]⟩]],by simp only[hpre];simp⟩)
  |false =>
   rw[if_neg Bool.false_ne_true]
   refine seg_execs_cons (vX ?_)
   refine(lT (bK n3 g3) nJ rfl) 0 _ _ s6 env [] _ (.d (.bool (decide (x.cps[i]=92)))) (decide (x.cps[i]=92)) _ _ (gi6.cx ge rm) ?_ rfl λs7 x7=>?_
   ·exact bc rfl (bc rfl (bc rfl (bc rfl (bc (G_ hcok) rfl))))
   ·have gi7:=gi6.ext ge x7
    by_cases h92:x.cps[i]=92
    ·have hrem:gn i false (x.cps[i]::x.cps.toList.drop (i+1))=gn (i+1) true (x.cps.toList.drop (i+1)):=by
      exact if_pos h92
     rw[hrem] at hpre ⊢
     rw[if_pos (aO h92)]
     exact seg_execs_cons (setEsc true _ _ _ _ false s₀ s7 _ _ _ _ _ gi7 (EI.ext e6 x7) (since6.ext x7) λs3 g3 e3 since3=>loop true s₀ s3 g3 e3 since3 hpre)
    ·have hrem:gn i false (x.cps[i]::x.cps.toList.drop (i+1))=.tuple [.int (i:Int),.str ⟨#[x.cps[i]]⟩]::gn (i+1) false (x.cps.toList.drop (i+1)):=by
      exact if_neg h92
     rw[hrem] at hpre ⊢
     rw[if_neg (by simpa using h92)]
     refine seg_execs_cons ?_
     refine iY F (EI e it x xt (i+1)) EI.keep EI.soft rm rfl rfl (by show(gd false||false)=false;rw[hgd];rfl) gi7 (EI.ext e6 x7) (since6.ext x7)
      (.cons rfl (bK n1 g1) (.cons rfl (bK n3 g3) .nil)) rfl rfl (by simp) hpre λs'' gi'' e''=>?_
     obtain⟨pre,hpre⟩:=hpre
     exact loop false s'' s'' gi'' e'' oE.refl ⟨pre++[.tuple [.int (i:Int),.str ⟨#[x.cps[i]]⟩]],by simp only[hpre];simp⟩
end
section
variable{W:Wd}{sc:Scope}{q:Nat→Pos}{k:Nat→Nat}
noncomputable def R0(x:Str):Ev:=[.sh (.d (.str x)),.un,.un,.un]
theorem Ar(ge:GE W gI sc env)(sy:HJ sc)(hh:A.handled=none)(depth:A.depth≤910)(units:A.units+170≤cLine)(xok:PyData.strOk x=true)(xsz:c0 x.length=true)(hb:(lU,Value.type "enumerate")∈W.blts)
  (gi:GI W gI env s (R0 x)) :
  Seg (model W.prog W.w) A (qk W env.locals (s.heap.objs.size+1) s.heap.objs.size) (qm W env.locals (s.heap.objs.size+1) s.heap.objs.size (gn 0 false x.cps.toList)) (gn 0 false x.cps.toList).length s
   (.func (lX q k) env) ((model W.prog W.w).den (.func (lX q k) env)) [] s:=by
 refine aa λhQ=>?_
 obtain⟨n1,n2,n3,n4,n5⟩:=Fu
 obtain⟨g0,g1,g2,g3⟩:=gy
 (refine hQ ?_;clear hQ)
 have rm:j3 W (A.over (.func (lX q k) env) []) 0:=⟨by simp only[ge.nx];exact hh,by show A.depth+1≤960;exact au depth (by decide),by show A.units+3+150≤cLine;lia⟩
 have hCs:env.locals<s.heap.objs.size:=by obtain⟨m,n⟩:=gi.ns;exact n.lt
 generalize hit:s.heap.objs.size=it
 simp only[hit] at hCs
 have fr:∀a,it≤a→s.heap.get? a=none:=λa ha=>Heap.get?_none_of_le (by rw[hit];exact ha)
 have F:YF W sc env A x (it+1) it:=⟨ge,sy,hh,depth,units,Nat.succ_ne_self _,bV (Nat.lt_succ_of_lt hCs),bV hCs,
  λz=>(by obtain⟨o,e⟩:=W.occ gi.good.ok z;rw[fr _ (Nat.le_succ _)] at e;cases e),λz=>(by obtain⟨o,e⟩:=W.occ gi.good.ok z;rw[fr _ (aF _)] at e;cases e),xok,xsz⟩
 refine seg_func ?_
 show Seg _ _ _ _ _ _ _ ((execs (_::_::_::FY q k) env).wrap _ _ _ _) _ _
 refine seg_execs_cons (seg_wrap (wpAny_Assign_Name (wpAny_Constant_int (GI.store ge (gi.ext ge (SX.toks gi.good)) g1 sy.pos (d:=.int 0) rfl (.int _ _) λh1 tk1 gi1 z1 k1=>?_))))
 refine seg_execs_cons (seg_wrap (wpAny_Assign_Name (wpAny_Constant_bool (GI.store ge gi1 g2 sy.esc (d:=.bool false) rfl (.bool _) λh2 tk2 gi2 z2 k2=>?_))))
 have gi2:GI W gI env {s with heap:=h2,toks:=tk2} (R4 x 0 false .un):=gi2
 have hz:h2.objs.size=it:=by simp only[z2];exact z1.trans hit
 refine seg_execs_cons (ED (λ_=>rfl) ?_)
 refine aa λhQ=>?_
 obtain⟨_,val,hv1,hv2⟩:=(gi2.vis fV 0 g0 _ rfl)
 obtain⟨xt,rfl⟩:=jb hv2
 (refine hQ ?_;clear hQ)
 refine gx gi2.good ge.so.ek n5 sy.enum (.inr (W.bltG _ hb)) ?_
 refine callWith_type1 (Calls.spliced_cons (fe n4 (dI ge.so.ek) hv1 (Calls.spliced_nil ?_)))
 refine call_enumerate_str λh3 he3 hs3 z3 k3=>?_
 rw[show({s with heap:=h2,toks:=tk2}:Shared).heap.objs.size=it from hz] at he3 hs3 z3 ⊢
 refine wpAny_pyIter_enum he3 λp=>?_
 have x3:SX W {s with heap:=h2,toks:=tk2} {s with heap:=h3,toks:=tk2}:=SX.heap gi2.good k3
 have since3:oE [env.locals,it+1,it] s {s with heap:=h3,toks:=tk2}:=oE.refl.step λb o hb' e'=>k3 b o (k2 b o (λz=>hb' (by rw[z];simp)) (k1 b o (λz=>hb' (by rw[z];simp)) e'))
 refine zO F rfl _ ?_ x.cps.size 0 false 0 .un s _ (by exact Nat.zero_add _) (gi2.ext ge x3) (λz=>by cases z) since3 ⟨⟨.none,he3⟩,hs3⟩ ⟨[],rfl⟩
 intro es po ch s₀ s' c gi' hpo since' hpre hP
 refine seg_leaf (.ok .next) ?_
 show Seg _ _ _ _ _ _ _ ((execs (FY q k) env).wrap _ _ _ _) _ _
 refine seg_execs_cons (vX ?_)
 refine(km (bK n2 g2) (gh rfl)) 0 _ _ s' env [] _ (.d (.bool es)) es _ _ (gi'.cx ge rm) rfl rfl λs6 x6=>?_
 let P:Heap→Prop:=λh=>(∃old i,IsEnum h (it+1) it i old)∧∃o,h.get? it=some o∧eW o
 have hPs:∀h,P h→(∃o,h.get? (it+1)=some o∧eW o)∧∃o,h.get? it=some o∧eW o:=λh z=>⟨(by obtain⟨⟨old,i,a⟩,_⟩:=z;exact ku a),z.2⟩
 have hPk:∀h h',P h→(∀b∈[it+1,it],∀o,h.get? b=some o→h'.get? b=some o)→P h':=λh h' z hk=>by
  obtain⟨⟨old,i,a⟩,o,b,r⟩:=z
  exact⟨⟨old,i,hk _ (by simp) _ a⟩,o,hk _ (by simp) _ b,r⟩
 have hP6:P s6.heap:=hPk _ _ hP λb hb o e'=>x6.keep b o e' (by
  rcases ah.mp hb with rfl | hb
  ·obtain⟨o2,e2,e3⟩:=(hPs _ hP).1;replace e2:=e'▸e2;cases e2;exact e3.1
  ·obtain rfl:=aq.mp hb
   obtain⟨o2,e2,e3⟩:=(hPs _ hP).2;replace e2:=e'▸e2;cases e2;exact e3.1)
 cases es with
 |false =>
  rw[if_neg Bool.false_ne_true]
  exact seg_end (.ok (.ret .none)) ⟨rfl,rfl,(since'.ext x6),(gi'.ext ge x6).good⟩
 |true =>
  rw[if_pos rfl]
  have hrem:gn x.cps.size true []=[.tuple [.int ((x.cps.size-1:Nat):Int),.str ⟨#[92]⟩]]:=rfl
  rw[hrem] at hpre ⊢
  have hb':bs=⟨#[92]⟩:=by decide +kernel
  refine seg_execs_cons ?_
  refine iY (rem:=[]) F P hPk hPs rm rfl rfl rfl (gi'.ext ge x6) hP6 (since'.ext x6) (.cons rfl (bK n1 g1) (.cons rfl nJ .nil)) ?_ rfl (by simp) hpre λs'' gi'' e''=>?_
  ·rw[←hpo rfl,←hb'];rfl
  ·exact seg_end (.ok (.ret .none)) ⟨rfl,rfl,oE.refl,gi''.good⟩
end
section
variable{prog:Program}{w:World}
theorem oY{g:Nat}{P:Nat→Shared→Shared→Prop}{Y:Protocol}{Q:Option Value→Shared→Prop}(hh:A.handled=none)
  (hl:s.heap.NoLimit) (hroom:A.depth<recursionLimit)
  (hg:s.heap.IsGen a g) (hgs:s.gens[g]?=some gs)
  (hgo:gs.Goes (model prog w) A.in1 (λn s₀ r s₁=>r=.ok (.ret .none)∧P n s₀ s₁) Y n (.send .none) (s.setGen g .running))
  (hY:∀v s₁ gs',gs'.bare=true→Y (n-1) (s.setGen g .running) v s₁ (λr' s''=>match n with
    |0=>False
    |m+1=>gs'.Goes (model prog w) A.in1 (λn s₀ r s₁=>r=.ok (.ret .none)∧P n s₀ s₁) Y m r' s'')→Q (some v) (s₁.setGen g gs'))
  (hP:∀s₁,P n (s.setGen g .running) s₁→∀h',(∀b o,s₁.heap.get? b=some o→h'.get? b=some o)→Q none {s₁.setGen g .finished with heap:=h'}) :
  wpAny (model prog w) A (pyNext (.ref a)) Q E s:=by
 unfold pyNext
 refine ac (wpAny_attempt (b9 (name:=Str.ofString "__next__") hg.typeIs slot_gen_next
  (cF slot_gen_next hg.typeIs entry_gen_next ?_ (args_gen_next _))))
 show wpAny _ A.in1 (Builtin.Generator.genWake (.ref a) (.send .none)) _ _ s
 unfold Builtin.Generator.genWake
 refine ac (aX (wpAny_genNumber hg (ac (wpAny_genState hgs ?_))))
 cases gs with
 |running=>exact hgo.elim
 |finished=>exact hgo.elim
 |_ =>
  refine ac (wpAny_roomToWake hl hroom ?_)
  show wpAny _ A.in1 (.resume g (.send .none) [] _) _ _ s
  refine wpAny_resumeQ hgs hgo (λx s₁ hx=>?_) (λv s₁ gs' hb hv=>?_)
  ·obtain⟨rfl,hp⟩:=hx
   show wpAny _ A.in1 (newExc (.type "StopIteration") []>>=_) _ _ _
   refine ac ?_
   simp only[newExc,newTuple]
   refine ac (bF ?_ (by size_fits))
   refine ac (m:=firstArgMember _ _) (wpAny_of_eq (a:=Value.none) (by first | rfl | (simp only[firstArgMember];rfl)) ?_)
   refine bF ?_ (by size_fits)
   rw[raiseNew]
   refine ac (ac (wpAny_handled ?_))
   first | rw[show A.in1.handled=none from hh] | rw[hh]
   refine wpAny_throw ?_
   refine ac (wpAny_isInstance (T:="StopIteration") (b:=true) ⟨_,aI _ rfl,rfl⟩ isSubtype_stop ?_)
   exact aB (hP s₁ hp _ λb o hb=>aC _ (aC _ hb))
  ·exact aB ⟨v,rfl,aB (hY v s₁ gs' hb hv)⟩
end
theorem yJ(names:List (Str×NameKind)):∀(n:Nat),(∀p∈names,p.2≠.cell)→cellsFrom n names []=[]:=by
 induction names with
 |nil =>
  intro _ _
  exact rfl
 |cons hd0 r ih =>
  obtain⟨x,k⟩:=hd0
  intro n h
  unfold cellsFrom
  have:¬(k==NameKind.cell)=true:=λq=>h (x,k) al (bH q)
  rw[if_neg this]
  exact ih n λp hp=>h p (aj _ hp)
structure FJ(W:Wd)(a:Addr)(fd:FuncData)(q:Nat→Pos)(k:Nat→Nat):Prop where
 at_:∀{h},W.ok h→∃o,h.get? a=some o∧o.data=.func fd
 cd:∀{h},W.ok h→h.CodeRec fd.code fd.qualname
 body:fd.body=.stmts (lX q k)
 sc:HJ fd.scope
 clo:fd.closure=[]
 glob:fd.globals=mainGlobals
 blt:fd.builtins=builtinsNs
 bind:∀v:Value,bindArgs fd ⟨[v],[]⟩=pure [(fV,v)]
section
variable{W:Wd}{q:Nat→Pos}{k:Nat→Nat}
theorem uw(h1:gI.vars.lookup x=some i)(h2:gI.vars.lookup y=some i):x=y:=by
 obtain⟨_,h1⟩:=dw (n:=0) h1
 obtain⟨_,h2⟩:=dw (n:=0) h2
 rw[h1] at h2;exact am h2
theorem Ja(g:cU W s)(n:s.heap.Ns env.locals m)(e:m fV=some (.str x t))(hk:env.kindOf fV=some .local):GI W gI env s (R0 x):=by
 refine⟨g,⟨m,n⟩,λy i hy sl hs=>?_,λsl hs=>?_,rfl⟩
 ·have hlt:i<4:=(aS.mp hs).1
  rcases i with _ | _ | _ | _ | i
  ·obtain rfl:=am hs
   have:=uw hy gy.1
   subst this
   exact⟨rfl,_,.inl ⟨hk,m,n,e⟩,.str _ _⟩
  ·cases hs;trivial
  ·cases hs;trivial
  ·cases hs;trivial
  ·(clear hs hy hk e n g;lia)
 ·simp only[R0,ah,List.not_mem_nil,or_false] at hs
  rcases hs with rfl | rfl | rfl | rfl<;>rfl
end
section
variable{W:Wd}{q:Nat→Pos}{k:Nat→Nat}
theorem lW{g:Nat}{x:GenState}(h:i≠g):(s.setGen g x).gens[i]?=s.gens[i]?:=by
 simp -iota [Shared.setGen,Ne.symm h]
theorem mY{g:Nat}{x:GenState}(h:cU W s)(hx:x.bare=true):cU W (s.setGen g x):=by
 refine⟨h.ok,λy hy=>?_⟩
 rcases Array.mem_or_eq_of_mem_setIfInBounds hy with q | rfl
 ·exact h.bare y q
 ·exact hx
structure HK(W:Wd)(env:Env)(x:Str)(ys:List PyData)(s₁:Shared)(A:Around)(body:List Stmt)(I:Addr)(γ:Nat)(i:Nat)(N:List Addr)(s:Shared):Prop where
 gen:s.heap.IsGen I γ
 ns:∃m t,s.heap.Ns env.locals m∧(N=[env.locals,I]→m fV=some (.str x t))
 old:∀b∈N,s₁.heap.get? b=none∧∃o,s.heap.get? b=some o∧¬b_ o
 occ:∀b o,s₁.heap.get? b=some o→∃o',s.heap.get? b=some o'
 le:s₁.gens.size≤γ
 run:∃gs,s.gens[γ]?=some gs∧((i=0∧N=[env.locals,I]∧gs=.fresh (.func body env)) ∨
  ∃e it,N=[e,it,env.locals,I]∧I≠e∧I≠it∧∀s'':Shared,cU W s''→(∀b∈[env.locals,e,it],∀o,s.heap.get? b=some o→s''.heap.get? b=some o) →
   gs.Goes (model W.prog W.w) A.in1 (qk W env.locals e it) (qm W env.locals e it ys) (ys.length-i) (.send .none) s'')
structure FH(C e it I:Addr)(N:List Addr)(s:Shared):Prop where
 ne:I≠e
 nit:I≠it
 or:(N=[C,I]∧s.heap.get? e=none∧s.heap.get? it=none)∨N=[e,it,C,I]
theorem EM{e b:Addr}(h:b∈[C,e,it]):b=C∨b=e∨b=it:=by
 rcases ah.mp h with z | z
 ·exact .inl z
 ·rcases ah.mp z with z | z
  ·exact .inr (.inl z)
  ·exact .inr (.inr (aq.mp z))
theorem FH.off{e:Addr}(h:FH C e it I N s){b:Addr}(hb:b∉N)(e':s.heap.get? b=some o):b∉[C,e,it]:=λz=>by
 rcases h.or with⟨hn,f1,f2⟩ | hn<;>rw[hn] at hb<;>rcases EM z with z | z | z
 ·exact hb (z▸al ..)
 ·rw[z,f1] at e';cases e'
 ·rw[z,f2] at e';cases e'
 ·exact hb (z▸.tail _ (.tail _ (.head _)))
 ·exact hb (z▸.head _)
 ·exact hb (z▸.tail _ (.head _))
theorem FH.offI{e:Addr}(h:FH C e it I N s)(hCI:C≠I):I∉[C,e,it]:=λz =>
 (EM z).elim (λz=>hCI z.symm) λz=>z.elim h.ne h.nit
theorem FH.new{e:Addr}(h:FH C e it I N s)(old:∀b∈N,s₁.heap.get? b=none∧∃o,s.heap.get? b=some o∧¬b_ o)(occ:∀b o,s₁.heap.get? b=some o→∃o',s.heap.get? b=some o')
  {b:Addr} (hb:b∈[e,it,C,I]):s₁.heap.get? b=none:=by
 have none1:∀b,s.heap.get? b=none→s₁.heap.get? b=none:=λb hb=>by
  cases z:s₁.heap.get? b with
  |none=>rfl
  |some o=>obtain⟨o',e'⟩:=occ b o z;rw[hb] at e';cases e'
 rcases h.or with⟨hn,f1,f2⟩ | hn
 ·rw[hn] at old
  rcases ah.mp hb with z | z
  ·rw[z];exact none1 _ f1
  ·rcases ah.mp z with z | z
   ·rw[z];exact none1 _ f2
   ·exact(old b z).1
 ·rw[hn] at old;exact(old b hb).1
section
variable{sc:Scope}{γ:Nat}
theorem qB(ge:GE W gI sc env)(sy:HJ sc)(hh:A.handled=none)(depth:A.depth≤900)(units:A.units+200≤cLine)(xok:PyData.strOk x=true)(xsz:c0 x.length=true)
  (hb:(lU,Value.type "enumerate")∈W.blts) (hys:gn 0 false x.cps.toList=ys) (g:cU W s) (st:HK W env x ys s₁ A (lX q k) I γ i N s) :
  ∃gs e it,s.gens[γ]?=some gs∧gs.Goes (model W.prog W.w) A.in1 (qk W env.locals e it) (qm W env.locals e it ys) (ys.length-i) (.send .none) (s.setGen γ .running)∧FH env.locals e it I N s:=by
 obtain⟨gs,h4,h5⟩:=st.run
 have gr:cU W (s.setGen γ .running):=mY g rfl
 rcases h5 with⟨hi,hn,hgs⟩ | ⟨e,it,hn,hIe,hIt,hgo⟩
 ·obtain⟨m,t,n,hm⟩:=st.ns
  have hI:I<s.heap.objs.size:=by obtain⟨o,_,_,e',_⟩:=st.gen;exact bL e'
  refine⟨gs,s.heap.objs.size+1,s.heap.objs.size,h4,?_,bQ (Nat.lt_succ_of_lt hI),bQ hI,.inl ⟨hn,Heap.get?_none_of_le (Nat.le_succ _),bD _⟩⟩
  rw[hgs,hi]
  refine⟨rfl,?_⟩
  have hkl:env.kindOf fV=some .local:=by rw[cJ ge.so.ek];exact sy.addr
  have:=Ar (q:=q) (k:=k) (A:=A.in1) (s:=s.setGen γ .running) ge sy hh (ab depth (by decide)) (by show A.units+1+170≤cLine;exact oF   (bd (c8 rfl)     (Nat.le_of_add_le_add_right (ab units (c8 rfl))))) xok xsz hb (Ja gr n (hm hn) hkl)
  rw[hys] at this
  exact this
 ·exact⟨gs,e,it,h4,hgo _ gr (λ_ _ _ e'=>e'),hIe,hIt,.inr hn⟩
theorem AW{e:Addr}{s₃:Shared}(le:s₁.gens.size≤γ)(off:FH C e it I N s)(hsn:oE [C,e,it] (s.setGen γ .running) s₃)(occ3:∀b o,b∉N→s.heap.get? b=some o→∃o',s₃.heap.get? b=some o')
  (hg3:cU W s₃) (hbare:gs.bare=true):Sd W N s₁.gens.size s (s₃.setGen γ gs) :=
 ⟨λb o hb e' nt=>hsn.keep b o (off.off hb e') e' nt,occ3,hsn.os,λj g' hj e'=>by
  have hjg:j≠γ:=bQ (ae hj le)
  rw[lW hjg]
  exact hsn.gens j g' (by rw[lW hjg];exact e'),mY hg3 hbare⟩
theorem xY(st:HK W env x ys s₁ A (lX q k) I γ i N s)(hk:∀b∈N,∀o,s.heap.get? b=some o→s'.heap.get? b=some o)(hgens:∀(k:Nat) g,s.gens[k]?=some g→s'.gens[k]?=some g)
  (hoc:∀b o,s.heap.get? b=some o→∃o',s'.heap.get? b=some o'):HK W env x ys s₁ A (lX q k) I γ i N s':=by
 obtain⟨gs,h4,h5⟩:=st.run
 have hI:I∈N:=by rcases h5 with⟨_,h,_⟩ | ⟨e,it,h,_⟩<;>rw[h]<;>simp -iota
 have hC:env.locals∈N:=by rcases h5 with⟨_,h,_⟩ | ⟨e,it,h,_⟩<;>rw[h]<;>simp -iota
 refine⟨?_,?_,λb hb=>(st.old b hb).imp id λh=>h.imp λo h=>⟨hk _ hb _ h.1,h.2⟩,λb o e'=>(st.occ b o e').elim λo'=>hoc b o',st.le,gs,hgens _ _ h4,h5.imp id ?_⟩
 ·obtain⟨o,nm,qn,e',r⟩:=st.gen;exact⟨o,nm,qn,hk _ hI _ e',r⟩
 ·obtain⟨m,t,⟨o,es,ep,e',r⟩,hm⟩:=st.ns;exact⟨m,t,⟨o,es,ep,hk _ hC _ e',r⟩,hm⟩
 ·rintro⟨e,it,hn,a1,a2,hgo⟩
  refine⟨e,it,hn,a1,a2,λs'' g'' k''=>hgo s'' g'' λb hb o e'=>k'' b hb o (hk b ?_ o e')⟩
  rw[hn]
  rcases EM hb with z | z | z
  ·exact z▸.tail _ (.tail _ (.head _))
  ·exact z▸.head _
  ·exact z▸.tail _ (.head _)
theorem Dp(ge:GE W gI sc env)(sy:HJ sc)(hh:A.handled=none)(depth:A.depth≤900)(units:A.units+200≤cLine)(xok:PyData.strOk x=true)(xsz:c0 x.length=true)
  (hb:(lU,Value.type "enumerate")∈W.blts) (hCI:env.locals≠I) (x12:SX W s₁ s₂) (hys:gn 0 false x.cps.toList=ys) (st0:HK W env x ys s₁ A (lX q k) I γ 0 [env.locals,I] s₂) :
  Jl W A M s₁ s₂ I ys [env.locals,I] [] (HK W env x ys s₁ A (lX q k) I γ):=by
 refine⟨λi N s d Q E hd g st h=>?_,λN s Q E g st h=>?_,λi N s s' st hk hgens hoc=>xY st (λb hb=>hk b (bl _ hb)) hgens hoc,st0,λi N s st b hb=>(st.old b hb).1,λi N s st b hb=>(st.old b hb).2,x12,λb hb=>by cases hb⟩
 ·obtain⟨gs,e,it,hgs,hgo,off⟩:=qB ge sy hh depth units xok xsz hb hys g st
  clear ge sy xok xsz hb hys st0 units
  have hlt:i<ys.length:=(aS.mp hd).1
  refine oY hh (W.lim g.ok) (au depth (by decide)) st.gen hgs hgo (λv s₃ gs' hbare hY=>?_) (λs₃ hP=>absurd hP.1 (Nat.sub_ne_zero_of_lt hlt))
  obtain⟨⟨d',hd',⟨hne,he,hit⟩,hrep⟩,hsn,⟨hg3,m3,hns3⟩,hcont⟩:=hY
  rw[show ys.length-1-(ys.length-i-1)=i from(congrArg (ys.length-1-·) (Nat.sub_right_comm ys.length i 1)).trans (Nat.sub_sub_self (Nat.le_sub_one_of_lt hlt))] at hd'
  have hdd:d'=d:=am (hd'.symm.trans hd)
  rw[hdd] at hrep
  clear hd' hdd hd
  have occ3:∀b o,s.heap.get? b=some o→∃o',s₃.heap.get? b=some o':=λb o e'=>by
   by_cases z:b∈[env.locals,e,it]
   ·rcases EM z with z | z | z
    ·rw[z];obtain⟨o,es,ep,e',_⟩:=hns3;exact⟨o,e'⟩
    ·rw[z];exact he.imp λ_ h=>h.1
    ·rw[z];exact hit.imp λ_ h=>h.1
   ·exact hsn.occ b o z e'
  have sd:Sd W N s₁.gens.size s (s₃.setGen γ gs'):=AW st.le off hsn (λb o _=>occ3 b o) hg3 hbare
  have hgenI:s₃.heap.IsGen I γ:=by
   obtain⟨o,nm,qn,e',hc,r⟩:=st.gen
   exact⟨o,nm,qn,hsn.keep I o (off.offI hCI) e' (λt=>by have:=t.1;rw[hc] at this;cases this),hc,r⟩
  have st':HK W env x ys s₁ A (lX q k) I γ (i+1) [e,it,env.locals,I] (s₃.setGen γ gs'):=by
   refine⟨hgenI,⟨m3,0,hns3,λz=>by cases z⟩,λb hb=>⟨off.new st.old st.occ hb,?_⟩,λb o e'=>(st.occ b o e').elim λo'=>occ3 b o',st.le,gs',setGen_self (hsn.gens γ _ (setGen_self hgs)),.inr ⟨e,it,rfl,off.ne,off.nit,λs'' g'' k''=>?_⟩⟩
   ·rcases ah.mp hb with z | hb
    ·rw[z];exact he.imp λo h=>⟨h.1,h.2.1⟩
    rcases ah.mp hb with z | hb
    ·rw[z];exact hit.imp λo h=>⟨h.1,h.2.1⟩
    rcases ah.mp hb with z | hb
    ·rw[z];exact en hns3
    ·rw[aq.mp hb]
     obtain⟨o,nm,qn,e',hc,r⟩:=hgenI
     exact⟨o,e',λt=>by have:=t.1;rw[hc] at this;cases this⟩
   ·have:=hcont s'' g'' k''
    rw[show ys.length-i=ys.length-(i+1)+1 from(Nat.sub_one_add_one (bV (Nat.sub_pos_of_lt hlt))).symm] at this
    exact this
  clear hcont hns3 hgenI occ3 hsn hg3
  rcases off.or with⟨hn,f1,f2⟩ | hn
  ·refine h v _ [e,it] (hn▸st') (λb hb=>?_) sd λM' hM' _=>hrep M' hM'
   rcases ah.mp hb with z | hb
   ·rw[z];exact f1
   ·rw[aq.mp hb];exact f2
  ·exact h v _ [] (hn▸st') (λb hb=>by cases hb) sd λM' hM' _=>⟨(hrep M' hM').1,(hrep M' hM').1⟩
 ·obtain⟨gs,e,it,hgs,hgo,off⟩:=qB ge sy hh depth units xok xsz hb hys g st
  clear ge sy xok xsz hb hys st0 units
  rw[Nat.sub_self] at hgo
  refine oY hh (W.lim g.ok) (au depth (by decide)) st.gen hgs hgo (λv s₃ gs' hbare hY=>(hY.2.2.2 s₃ hY.2.2.1.1 λ_ _ _ e'=>e').elim) (λs₃ hP h' hk=>?_)
  have sd:Sd W N s₁.gens.size s (s₃.setGen γ .finished):=AW st.le off hP.2.1 (λb o hb e'=>hP.2.1.occ b o (off.off hb e') e') hP.2.2 rfl
  exact h _ ⟨λb o hb e' nt=>hk b o (sd.keep b o hb e' nt),λb o hb e'=>(sd.occ b o hb e').imp λo'=>hk b o',sd.os,sd.gens,⟨W.keep hP.2.2.ok hk,sd.good.bare⟩⟩
end
theorem DT{g:Str}(nx:W.exc=none)(G:FJ W a fd q k)(hm:W.mg g=some (.ref a))(hb:(lU,Value.type "enumerate")∈W.blts):s_ W g:=by
 refine⟨a,hm,λok=>(let⟨o,e,d⟩:=G.at_ ok;⟨o,fd,e,d⟩),?_⟩
 intro n A s M x t E Q rm g mok hsz h
 rw[ag] at hsz
 refine aa λhQ=>?_
 obtain⟨o,ho,hd⟩:=G.at_ g.ok
 (refine hQ ?_;clear hQ)
 refine wpAny_call (codeAny_of_tree ?_)
 show wpAny _ A.in1 (callAny (.ref a) ⟨[.str x t],[]⟩) _ _ s
 (simp -iota -iota only[callAny];dsimp only)
 refine ac (wpAny_load ho ?_)
 refine aa λhQ=>?_
 obtain⟨c,oc,vs,tq,hc,hoc,hdc,hq⟩:=G.cd g.ok
 (refine hQ ?_;clear hQ)
 rw[hd]
 dsimp only
 unfold callFunction
 rw[G.sc.co,G.sc.gen,G.body,hc]
 dsimp only
 refine ac (m:=field (.ref c) 1) (bY hoc hdc hq (ac (aB ?_)))
 rw[G.bind,G.clo]
 refine ac (aB (ac (wpAny_newFunctionEnv_cells G.sc.kind ?_ λenv he s' ic=>?_)))
 ·intro p hp
  rw[aq.mp hp]
  exact .inl G.sc.addr
 have hL:env.locals=s.heap.objs.size:=by subst he;rfl
 have hcells:env.cells=[]:=by subst he;exact yJ _ _ G.sc.noc
 have ek:fD env fd.scope:=by
  refine⟨by subst he;rfl,G.sc.kind,by subst he;exact G.glob,by subst he;exact G.blt,λy hy=>?_,λy z c h1=>?_,λy c h1=>?_⟩
  ·rcases hy with hy | hy
   ·exact absurd rfl (G.sc.noc _ (mem_of_lookup hy))
   ·exact absurd rfl (G.sc.nof _ (mem_of_lookup hy))
  ·rw[hcells] at h1;cases h1
  ·rw[hcells] at h1;cases h1
 have ge:GE W gI fd.scope env:=⟨⟨ek,λy i hy=>(by
   obtain⟨_,h2⟩:=dw (n:=0) hy
   have:=(aS.mp h2).1
   simpa -iota [gI,fI] using this),λy z i h1 h2=>uw h1 h2⟩,hcells,(λz=>by obtain⟨o,e⟩:=W.occ g.ok z;rw[hL,bD] at e;cases e),nx⟩
 have x1:SX W s s':=SX.of_inCall g ic.toInCall
 have hkl:env.kindOf fV=some .local:=by rw[cJ ek];exact G.sc.addr
 have hm0:bindL env.kindOf [(fV,Value.str x t)] (λ_=>none) fV=some (.str x t):=by
  show(if env.kindOf fV=some .local then λy=>if y=fV then some (Value.str x t) else none else λ_=>none) fV=_
  rw[if_pos hkl];simp -iota
 refine ac (wpAny_enterFrame (W.lim x1.good.ok) (by show A.depth<1000;have:=rm.depth;exact au (ay (Around.depth A) n)   (au this (c8 rfl))) ?_)
 simp -iota only[newGenerator,newFields]
 refine ac (ac (wpAny_newGen (ac (wpAny_mkText (ac (wpAny_mkText (bF ?_ (by size_fits))))))))
 refine aB ?_
 have hCs:env.locals<s'.heap.objs.size:=ic.toInCall.ns.lt
 have hI1:s.heap.get? s'.heap.objs.size=none:=x1.fresh (bD _)
 have keepP:∀b o,s'.heap.get? b=some o→(s'.heap.push {cls:=.type "generator",data:=.fields #[.int s'.gens.size 0,.str fd.name s'.toks,.str fd.qualname (s'.toks+1)]}).get? b=some o:=λb o e=>aC _ e
 have x2:SX W s' {s' with gens:=s'.gens.push (.fresh (.func (lX q k) env)),toks:=s'.toks+1+1,heap:=s'.heap.push {cls:=.type "generator",data:=.fields #[.int s'.gens.size 0,.str fd.name s'.toks,.str fd.qualname (s'.toks+1)]}} :=
  ⟨λb o e _=>keepP b o e,λb o e=>⟨o,keepP b o e⟩,rfl,λi g' e=>by
   obtain⟨hl,e'⟩:=Array.getElem?_eq_some_iff.mp e
   show(s'.gens.push _)[i]?=some g'
   rw[Array.getElem?_push_lt hl,e'],⟨W.keep x1.good.ok keepP,x1.good.bare.push rfl⟩⟩
 have hgen:(s'.heap.push {cls:=.type "generator",data:=.fields #[.int s'.gens.size 0,.str fd.name s'.toks,.str fd.qualname (s'.toks+1)]}).IsGen s'.heap.objs.size s'.gens.size:=⟨_,_,_,aI _ rfl,rfl,rfl,rfl⟩
 refine wpAny_pyIter_gen hgen ?_
 have hCI:env.locals≠s'.heap.objs.size:=bQ hCs
 have hle:s.gens.size≤s'.gens.size:=by
  apply be
  intro z
  have:=x1.gens s'.gens.size _ (Array.getElem?_eq_getElem z)
  simp -iota at this
 refine h _ _ _ _ _ (Dp (q:=q) (k:=k) (γ:=s'.gens.size) ge G.sc (rm.w.hn nx) (by have:=rm.depth;exact ab (ay _ _) this) (by have:=rm.units;exact bd (c8 rfl)   (ab (ay (Around.units A) (4*n)) (Nat.le_sub_of_add_le this))) hsz.2 hsz.1 hb hCI (x1.trans x2) rfl ?_) λi N s st=>?_
 ·refine⟨hgen,⟨_,t,ic.toInCall.ns.push _,λ_=>hm0⟩,λb hb=>?_,λb o e=>?_,hle,.fresh (.func (lX q k) env),Array.getElem?_push_size ..,.inl ⟨rfl,rfl,rfl⟩⟩
  ·rcases ah.mp hb with rfl | hb
   ·exact⟨by rw[hL];exact bD _,en (ic.toInCall.ns.push _)⟩
   ·rw[aq.mp hb]
    exact⟨hI1,_,aI _ rfl,λz=>by cases z.1⟩
  ·exact(x1.trans x2).occ b o e
 ·obtain⟨o,_,_,e1,e2,_⟩:=st.gen
  exact⟨o,e1,e2⟩
end
structure Tb where
 c:Addr
 P:Addr
 pos:Pos
 qual:Str
noncomputable def z_(ps:Array Value):Prop:=∀q t,ps[1]?≠some (.str q t)
noncomputable def JG(h:Heap)(t:Tb):Prop:=∃ps,h.get? t.P=some (tabObj ps)∧TriplesOk ps.toList∧z_ ps ∧
 ((ps=#[]∧codeAmong t.pos ps.toList=none)∨∃c',codeAmong t.pos ps.toList=some (.ref c')∧h.CodeRec (.ref c') t.qual)
theorem tV{ps:Array Value}(h:z_ ps):b_ (tabObj ps):=⟨rfl,ps,rfl,h⟩
theorem mB:z_ #[]:=λq t e=>by simp at e
structure eZ where
 prog:Program
 w:World
 mg:Str→Option Value
 mb:Str→Option Value
 h₁:Heap
 tabs:List Tb
 g:h₁.Ns mainGlobals mg
 b:h₁.Ns builtinsNs mb
 lim:h₁.NoLimit
 bm:∃bm ob,mg "__builtins__"=some (.ref bm)∧bm≠builtinsNs∧h₁.get? bm=some ob∧ob.cls=.type "module"∧ob.dict=some builtinsNs∧ob.data=.plain
 tab:∀t∈tabs,CodeHd h₁ t.c t.P∧h₁.get? t.P=some (tabObj #[])
 nd:∀t∈tabs,∀t'∈tabs,t.P=t'.P→t=t'
 csts:List (Str×PyData)
 cstG:∀p∈csts,∃v,mg p.1=some v∧∀d,p.2=d→((∃i t,v=.int i t∧d=.int i)∨(∃x t,v=.str x t∧d=.str x))
 blts:List (Str×Value)
 bltG:∀p∈blts,mg p.1=none∧mb p.1=some p.2
 fns:List (Str×Addr)
 fnG:∀p∈fns,mg p.1=some (.ref p.2)
 fnO:∀p∈fns,∃o fd,h₁.get? p.2=some o∧o.data=.func fd
 ex:Option (Addr×Obj)
 exO:∀p,ex=some p→∃vs,p.2.data=.fields vs∧vs[2]?=some .none
noncomputable def eZ.ok(B:eZ)(h:Heap):Prop:=(∀b o,B.h₁.get? b=some o→b∉B.tabs.map (·.P)→h.get? b=some o)∧(∀t∈B.tabs,JG h t)∧∀p,B.ex=some p→h.get? p.1=some p.2
theorem eZ.keep{B:eZ}(k:B.ok h){b:Addr}(e:B.h₁.get? b=some o)(n:¬b_ o):h.get? b=some o:=k.1 b o e λz=>by
 obtain⟨t,ht,rfl⟩:=List.mem_map.mp z
 have:=(B.tab t ht).2
 replace this:=e▸this
 obtain rfl:=am this
 exact n (tV mB)
theorem fh(h:∀fs,o.data≠.fields fs):¬b_ o:=λz=>by obtain⟨fs,q,_⟩:=z.2;exact h fs q
theorem eZ.ns{B:eZ}(k:B.ok h)(n:B.h₁.Ns a m):h.Ns a m :=
 n.imp λ_ h=>h.imp λ_ h=>h.imp λ_ h=>⟨eZ.keep k h.1 (fh λfs q=>by rw[h.2.1] at q;cases q),h.2⟩
noncomputable def eZ.W(B:eZ):Wd where
 prog:=B.prog
 w:=B.w
 mg:=B.mg
 mb:=B.mb
 stat:=λa=>(∃o,B.h₁.get? a=some o)∨∃p,B.ex=some p∧p.1=a
 ok:=B.ok
 g:=λk=>eZ.ns k B.g
 b:=λk=>eZ.ns k B.b
 lim:=λk=>let⟨mc,n,e⟩:=B.lim;⟨mc,eZ.ns k n,e⟩
 mono:=λ{h h'} k hk=>by
  refine⟨λb o e hb=>hk b o (.inl (.inl ⟨o,e⟩)) (k.1 b o e hb),λt ht=>?_,λp hp=>hk p.1 p.2 (.inl (.inr ⟨p,hp,rfl⟩)) (k.2.2 p hp)⟩
  obtain⟨ps,e1,e2,e3,e4⟩:=k.2.1 t ht
  refine⟨ps,hk _ _ (.inl (.inl ⟨_,(B.tab t ht).2⟩)) e1,e2,e3,e4.imp id λ⟨c',f1,f2⟩=>⟨c',f1,?_⟩⟩
  obtain⟨c,o,vs,tq,g1,g2,g3,g4⟩:=f2
  exact⟨c,o,vs,tq,g1,hk _ _ (.inr λz=>z.2 vs _ tq g3 g4) g2,g3,g4⟩
 occ:=λ{h a} k hs=>by
  rcases hs with⟨o,e⟩ | ⟨p,hp,rfl⟩
  rotate_left
  ·exact⟨_,k.2.2 p hp⟩
  by_cases z:a∈B.tabs.map (·.P)
  ·obtain⟨t,ht,rfl⟩:=List.mem_map.mp z
   obtain⟨ps,e1,_⟩:=k.2.1 t ht
   exact⟨_,e1⟩
  ·exact⟨o,k.1 a o e z⟩
 csts:=B.csts
 cstG:=B.cstG
 blts:=B.blts
 bltG:=B.bltG
 fns:=B.fns
 fnG:=B.fnG
 fnO:=λk p hp=>let⟨o,fd,e,hd⟩:=B.fnO p hp;⟨o,fd,eZ.keep k e (fh λfs q=>by replace q:=hd▸q;cases q),hd⟩
 exc:=B.ex.map (·.1)
 excO:=λ{h e} he k=>by
  obtain⟨p,hp,rfl⟩:=aH.mp he
  obtain⟨vs,h1,h2⟩:=B.exO p hp
  exact⟨p.2,vs,k.2.2 p hp,h1,h2⟩
theorem CodeHd.ok{B:eZ}(k:B.ok h){t:Tb}(ht:t∈B.tabs):CodeHd h t.c t.P:=by
 refine aa λhQ=>?_
 obtain⟨o,vs,file,tf,flags,tg,inF,text,tt,e,hc,r⟩:=(B.tab t ht).1
 (refine hQ ?_;clear hQ)
 exact⟨o,vs,file,tf,flags,tg,inF,text,tt,eZ.keep k e (λz=>by have:=z.1;replace this:=hc▸this;cases this),hc,r⟩
theorem tO{B:eZ}{M:Model}{t:Tb}{name:Str}{fl:Nat}
  (g:cU B.W s) (ht:t∈B.tabs) (hc:env.code=.ref t.c) (hg0:env.globals=mainGlobals) (hcl:closureFor scope env=pure clos)
  (h:∀f s' c' doc pm ctv,SX B.W s s'→s.heap.get? f=none→s'.heap.get? f=some {cls:=.type "function",data:=.func (fnX name t.qual params body scope clos .none .none doc pm none (.ref c') ctv)}→s'.heap.CodeRec (.ref c') t.qual→Q (.ref f) s') :
  wpAny M A (makeFunction name t.qual params (.stmts body) scope env [] [] [] t.pos fl) Q E s:=by
 have ok:B.ok s.heap:=g.ok
 refine aa λhQ=>?_
 obtain⟨ps,hP,h3,h4,h5⟩:=ok.2.1 t ht
 obtain⟨bm,ob,b1,b2,b3,b4,b5,b6⟩:=B.bm
 (refine hQ ?_;clear hQ)
 have gP:mainGlobals≠t.P:=λz=>by
  obtain⟨o,es,ep,e,hd,_⟩:=B.g
  rw[z,(B.tab t ht).2] at e;cases e;cases hd
 have bG:bm≠mainGlobals:=λz=>by
  obtain⟨o,es,ep,e,hd,_⟩:=B.g
  simp only[z,e] at b3;cases b3;replace b6:=hd▸b6;cases b6
 have hba:s.heap.BuiltinsAt B.mg t.P:=⟨bm,ob,b1,b2,bG,(λz=>by simp only[z,(B.tab t ht).2] at b3;cases b3;cases b4),(eZ.keep ok b3 (λz=>by have:=z.1;replace this:=b4▸this;cases this)),b4,b5,b6⟩
 rcases h5 with⟨rfl,hnf⟩ | ⟨c',hf,hcr⟩
 ·refine makeFunction_K (mg:=B.mg) hcl hg0 (eZ.ns ok B.g) hc (CodeHd.ok ok ht) hP h3 hnf gP hba λc' ctv doc h' tk hx hge hlt hrec htb=>?_
  have hkeep:∀b o,b≠t.P→s.heap.get? b=some o→(h'.push (fnMade name t.qual params body scope clos doc ((B.mg "__name__").getD .none) c' ctv)).get? b=some o:=λb o hb e=>aC _ (hx b o hb e)
  have hP':(h'.push (fnMade name t.qual params body scope clos doc ((B.mg "__name__").getD .none) c' ctv)).get? t.P=some (tabObj (#[]++#[rawInt t.pos.line,rawInt t.pos.col,.ref c'])):=aC _ htb
  have sx:SX B.W s {s with heap:=h'.push (fnMade name t.qual params body scope clos doc ((B.mg "__name__").getD .none) c' ctv),toks:=tk}:=by
   refine⟨λb o e n=>hkeep b o (λz=>by subst z;replace e:=hP▸e;cases e;exact n (tV mB)) e,λb o e=>?_,rfl,λ_ _ e=>e,⟨⟨λb o e hb=>?_,λt' ht'=>?_,λp hp=>?_⟩,g.bare⟩⟩
   ·by_cases z:b=t.P
    ·subst z;exact⟨_,hP'⟩
    ·exact⟨o,hkeep b o z e⟩
   ·exact hkeep b o (λz=>hb (by simp only[z];exact List.mem_map_of_mem (f:=(·.P)) ht)) (ok.1 b o e hb)
   ·by_cases z:t'=t
    ·subst z
     refine⟨_,hP',?_,?_,.inr ⟨c',?_,hrec.push _⟩⟩
     ·exact trivial
     ·intro q u e;cases e
     ·show codeAmong t'.pos [rawInt t'.pos.line,rawInt t'.pos.col,.ref c']=_
      simp[codeAmong,rawInt]
    ·obtain⟨ps',e1,e2,e3,e4⟩:=ok.2.1 t' ht'
     refine⟨ps',hkeep _ _ (λy=>z (B.nd _ ht' _ ht y)) e1,e2,e3,e4.imp id λ⟨c₂,f1,f2⟩=>⟨c₂,f1,?_⟩⟩
     obtain⟨c₃,o,vs,tq,g1,g2,g3,g4⟩:=f2
     refine⟨c₃,o,vs,tq,g1,hkeep _ _ (λy=>?_) g2,g3,g4⟩
     simp only[y,hP] at g2;cases g2;cases g3;simp at g4
   ·refine hkeep _ _ (λz=>?_) (ok.2.2 p hp)
    have e:=ok.2.2 p hp
    obtain⟨vs,h1,h2⟩:=B.exO p hp
    simp only[z,hP] at e
    rw[←am e] at h1
    cases h1;cases h2
  refine h _ _ c' doc _ ctv sx ?_ (aI _ rfl) (hrec.push _)
  exact Heap.get?_none_of_le (ab hge (aE hlt))
 ·refine makeFunction_hit (mg:=B.mg) hcl hg0 (eZ.ns ok B.g) hc (CodeHd.ok ok ht) hP h3 hf hba λctv doc h' tk hk hsz=>?_
  have hkeep:∀b o,s.heap.get? b=some o→(h'.push {cls:=.type "function",data:=.func (fnX name t.qual params body scope clos .none .none doc ((B.mg "__name__").getD .none) none (.ref c') ctv)}).get? b=some o:=λb o e=>aC _ (hk b o e)
  exact h _ _ c' doc _ ctv (SX.of_keep (tk:=tk) g hkeep) (Heap.get?_none_of_le hsz) (aI _ rfl) (CodeRec.ext (SX.of_keep (tk:=tk) g hkeep) hcr)
variable{B:eZ}
section
variable{W:Wd}
theorem pZ{ps:List Str}(nd:ps.Nodup):∀{i:Nat} {y:Str} {v:Value},ps[i]?=some y→vals[i]?=some v→(ps.zip vals).reverse.lookup y=some v:=by
 intro i y v h1 h2
 have hm:(y,v)∈(ps.zip vals).reverse:=by
  rw[List.mem_reverse]
  exact aW (i:=i) (by rw[List.getElem?_zip_eq_some];exact⟨h1,h2⟩)
 cases q:(ps.zip vals).reverse.lookup y with
 |none =>
  have:=List.lookup_eq_none_iff.mp q (y,v) hm
  simp -iota at this
 |some w =>
  have hw:=mem_of_lookup q
  rw[List.mem_reverse] at hw
  obtain⟨j,hj⟩:=List.mem_iff_getElem?.mp hw
  rw[List.getElem?_zip_eq_some] at hj
  have:i=j:=by
   obtain⟨hi,e1⟩:=aS.mp h1
   obtain⟨hj',e2⟩:=aS.mp hj.1
   exact(List.getElem_inj nd).mp (e1.trans e2.symm)
  subst this
  have hj2:=hj.2
  simp -iota only at hj2
  rw[h2] at hj2
  rw[am hj2]
theorem tN{f:Addr}{ps ns:List Str}{fs:List (Option PyData)}
  (g:cU W s) (rm:dA W A (n+1)) (ho:s.heap.get? f=some o) (hd:o.data=.func fd) (hcd:s.heap.CodeRec fd.code fd.qualname) (hbody:fd.body=.stmts body) (hbind:bindArgs fd ⟨vals,[]⟩=pure (ps.zip vals))
  (hgl:fd.globals=mainGlobals) (hbl:fd.builtins=builtinsNs) (kind:fd.scope.kind=.function) (co:fd.scope.isCoroutine=false) (gen:fd.scope.isGenerator=false) (noc:∀p∈fd.scope.names,p.2≠.cell)
  (loc:∀y∈ps,fd.scope.names.lookup y=some .local) (nd:ps.Nodup) (hns:ns.Nodup) (pre:ps=ns.take ps.length) (hlen:ns.length=ps.length+fs.length)
  (free:∀x,fd.scope.names.lookup x=some .free→∃c,fd.closure.lookup x=some c) (cinj:∀x y c,fd.closure.lookup x=some c→fd.closure.lookup y=some c→x=y) (hcl:∀x c,fd.closure.lookup x=some c→∃v,s.heap.IsCell c v)
  (hv:Reps s.heap [] vals ds) (hvl:vals.length=ps.length) (hf:ds.all l6=true)
  (hfs:∀i y d,ns[ps.length+i]?=some y→fs[i]?=some (some d)→fd.scope.names.lookup y=some .free∧∃c v,fd.closure.lookup y=some c∧s.heap.IsCell c (some v)∧Rep s.heap [] v d)
  (h:∀env s₁,env.cells=fd.closure→(∀y,env.kindOf y=fd.scope.names.lookup y)→lD (fI ns) fd.scope env→SX W s s₁→FI W (fI ns) fd.scope s env [] (λ_=>0) [env.locals] (ds.map (λd=>Mine.Slot.sh (.d d))++fs.map λx=>match x with | some d=>.sh (.d d) | none=>.un) s₁→dA W (A.deeper env) n →
   wpAny (model W.prog W.w) (A.deeper env) (execs body env) (λfl s'=>Q (Gc fl) s') (λe s'=>wpAny (model W.prog W.w) (A.deeper env) (leaving env e) (λ_ s''=>E e s'') (λe' s''=>E e' s'') s') s₁) :
  wpAny (model W.prog W.w) A (call (.ref f) vals []) Q E s:=by
 refine wpAny_call ?_
 have hdep:A.depth<recursionLimit:=by have:=rm.depth;show A.depth<1000;exact au (ay (Around.depth A) (n+1))   (au this (c8 rfl))
 refine codeAny_call_function hdep ho hd co gen hbody hcd ?_
 rw[hbind]
 refine aB (wpAny_newFunctionEnv noc (λp hp=>loc _ (List.of_mem_zip hp).1) (λh' hn hsb=>?_) kind)
 have hkeep:∀b o,s.heap.get? b=some o→h'.get? b=some o:=λb o e=>hsb.extBut b o (bQ (bL e)) (aC _ e)
 have x1:SX W s {s with heap:=h',toks:=s.toks+(ps.zip vals).length}:=SX.of_keep g hkeep
 refine⟨W.lim x1.good.ok,codeAny_func ?_⟩
 generalize hev:newEnv fd.scope s.heap.objs.size fd.globals fd.closure (fd.qualname++Str.ofString ".<locals>.") (some f) fd.code none fd.builtins=env
 have hL:env.locals=s.heap.objs.size:=by subst hev;rfl
 have hc:env.cells=fd.closure:=by subst hev;rfl
 have ek:fD env fd.scope:=by
  refine⟨by subst hev;rfl,kind,by subst hev;exact hgl,by subst hev;exact hbl,λx hx=>?_,λx y c h1 h2=>cinj x y c (by rw[←hc];exact h1) (by rw[←hc];exact h2),λx c h1=>?_⟩
  ·rw[hc]
   rcases hx with hx | hx
   ·exact absurd rfl (noc _ (mem_of_lookup hx))
   ·exact free x hx
  ·obtain⟨v,o',e,_⟩:=hcl x c (by rw[←hc];exact h1)
   intro z
   simp -iota only[z,hL,bD] at e;cases e
 have so:lD (fI ns) fd.scope env:=by
  refine⟨ek,λy i hy=>?_,λx y i hx hy=>?_⟩
  ·obtain⟨_,h2⟩:=dw (n:=0) hy
   have:=(aS.mp h2).1
   simpa -iota [fI] using this
  ·obtain⟨_,h1⟩:=dw (n:=0) hx
   obtain⟨_,h2⟩:=dw (n:=0) hy
   rw[h1] at h2;exact am h2
 have hn':h'.Ns env.locals (λx=>(ps.zip vals).reverse.lookup x):=by rw[hL];exact hn
 have hLf:s.heap.get? env.locals=none:=by rw[hL];exact bD _
 have hdl:ds.length=ps.length:=by simp -iota only[←hv.length,hvl]
 refine h env _ hc (cJ ek) so x1 ⟨g,x1,⟨⟨_,hn'⟩,λy c hy=>?_⟩,?_,λa ha=>(by cases ha),λa ha=>(by cases ha),λy hy=>?_,λi xs hi=>?_,λi j xs ys hi=>?_,λy i hy sl hi=>?_,?_,λi xs hi=>?_,λi k n hi=>?_⟩ rm.deeper
 ·rw[hc] at hy
  obtain⟨v,hv⟩:=hcl y c hy
  exact⟨v,Cell.ext x1 hv⟩
 ·intro a ha
  rw[aq.mp ha];exact en hn'
 ·rcases hy with hy | hy
  ·have:locOf env y=env.locals:=by unfold locOf;rw[if_pos (by rw[cJ ek];exact hy)]
   rw[this];exact⟨aq.mpr rfl,λz=>(by cases z),hLf⟩
  ·exact absurd rfl (noc _ (mem_of_lookup hy))
 ·rcases Nat.lt_or_ge i ds.length with q | q
  ·rw[a_ (by simpa -iota using q),az] at hi
   obtain⟨d,_,e⟩:=aH.mp hi;cases e
  ·rw[aM (by simpa -iota using q),az] at hi
   obtain⟨d,_,e⟩:=aH.mp hi;cases d<;>cases e
 ·rcases Nat.lt_or_ge i ds.length with q | q
  ·rw[a_ (by simpa -iota using q),az] at hi
   obtain⟨d,_,e⟩:=aH.mp hi;cases e
  ·rw[aM (by simpa -iota using q),az] at hi
   obtain⟨d,_,e⟩:=aH.mp hi;cases d<;>cases e
 ·obtain⟨_,hy'⟩:=dw (n:=0) hy
  simp -iota only[Nat.sub_zero] at hy'
  rcases Nat.lt_or_ge i ds.length with q | q
  ·rw[a_ (by simpa -iota using q),az] at hi
   refine aa λhQ=>?_
   obtain⟨d,hd',e⟩:=aH.mp hi
   subst e
   have hp:ps[i]?=some y:=by rw[pre,List.getElem?_take_of_lt (by exact Nat.lt_of_lt_of_eq q hdl)];exact hy'
   obtain⟨v,hv1,hv2⟩:=hv.get i d hd'
   (refine hQ ?_;clear hQ)
   exact⟨rfl,v,.inl ⟨by rw[cJ ek];exact loc y (aW hp),_,hn',pZ nd hp hv1⟩,Rep.flat (ap.mp hf d (aW hd')) hv2⟩
  ·rw[aM (by simpa -iota using q),az] at hi
   refine aa λhQ=>?_
   obtain⟨d,hd',e⟩:=aH.mp hi
   (refine hQ ?_;clear hQ)
   cases d with
   |none=>subst e;trivial
   |some d =>
    subst e
    have hidx:ps.length+(i-ds.length)=i:=by(clear hi hd' hy' hy hLf hn' so ek hc hL hev x1 hkeep hsb hn hdep h hfs hf hvl hv hcl cinj free hlen pre hns nd loc noc gen co kind hbl hgl hbind hbody hcd hd ho rm g;lia)
    rw[af] at hd'
    obtain⟨k1,c,v,k2,k3,k4⟩:=hfs (i-ds.length) y d (by rw[hidx];exact hy') hd'
    refine⟨rfl,v,.inr ⟨.inr (by rw[cJ ek];exact k1),c,by rw[hc];exact k2,Cell.ext x1 k3⟩,k4.mono (λb o _ e n=>x1.keep b o e n) λa ha=>?_⟩
    rw[aq.mp ha];exact .inr hLf
 ·show _=ns.length
  simp -iota [hlen,hdl]
 ·rcases Nat.lt_or_ge i ds.length with q | q
  ·rw[a_ (by simpa -iota using q),az] at hi
   obtain⟨d,_,e⟩:=aH.mp hi;cases e
  ·rw[aM (by simpa -iota using q),az] at hi
   obtain⟨d,_,e⟩:=aH.mp hi;cases d<;>cases e
 ·rcases Nat.lt_or_ge i ds.length with q | q
  ·rw[a_ (by simpa -iota using q),az] at hi
   obtain⟨d,_,e⟩:=aH.mp hi;cases e
  ·rw[aM (by simpa -iota using q),az] at hi
   obtain⟨d,_,e⟩:=aH.mp hi;cases d<;>cases e
theorem ki{Γ:eX}{sc:Scope}{f:Addr}{es:List Expr}{us:List V}
  (ho:bI x=true) (c:Cx W Γ sc n Φ A s env M ρ) (hv:c_ s.heap env x (.ref f)) (hf:∃o fd,s.heap.get? f=some o∧o.data=.func fd) (H:fC W Γ sc es cs) (e:cevals Φ cs ρ=some us)
  (h:∀vals s',SX W s s'→dN s'.heap M vals us→wpAny (model W.prog W.w) A (call (.ref f) vals []) Q E s'):wpAny (model W.prog W.w) A (eval (.Call (.Name x p) es [] pos) env) Q E s:=by
 refine wpAny_Call_NameR (fe ho (by rw[c.env.scope];exact c.env.kind) hv ?_)
 refine callWith_of (P:=FnAt f) (by rw[H.plain];rfl) keeps_F (dR H c e λvals s₁ x1 r1=>⟨?_,h _ _ x1 r1⟩)
 refine aa λhQ=>?_
 obtain⟨o,fd,h1,h2⟩:=hf
 obtain⟨oc,od,dt,sl⟩:=o
 (refine hQ ?_;clear hQ)
 simp -iota only at h2
 subst h2
 exact⟨oc,od,fd,sl,x1.keep _ _ h1 (fh λ_ q=>by cases q)⟩
end
noncomputable def fR(n:Nat):List Int→Int
 |[]=>0
 |d::r=>d+fR n r*2^n
theorem sn:fR n []=0:=rfl
theorem rQ{d:Int}{r:List Int}:fR n (d::r)=d+fR n r*2^n:=rfl
theorem j_(n:Nat)(a:List Int):∀(b:List Int),fR n (a++b)=fR n a+fR n b*2^(n*a.length):=by
 induction a with
 |nil =>
  intro b
  simp[sn]
 |cons d r ih =>
  intro b
  simp only[List.cons_append,rQ,ih b,aU]
  rw[Nat.mul_add,Nat.mul_one,Int.pow_add,Int.add_mul,Int.mul_assoc,Int.add_assoc]
noncomputable def gY(n:Nat)(ds:List Int):Bool:=ds.all λd=>decide (0≤d)&&decide (d<2^n)
theorem wB(n:Nat)(ds:List Int):gY n ds=true→0≤fR n ds∧fR n ds<2^(n*ds.length):=by
 induction ds with
 |nil =>
  intro _
  exact⟨Int.le_refl 0,by rw[sn];exact Int.pow_pos (by decide)⟩
 |cons d r ih =>
  intro h
  unfold gY at h
  rw[List.all_cons,ag,ag,ar,ar] at h
  obtain⟨h1,h2⟩:=ih h.2
  have hp:(0:Int)<2^n:=Int.pow_pos (by decide)
  simp only[rQ,aU]
  refine⟨Int.add_nonneg h.1.1 (Int.mul_nonneg h1 (bn hp)),?_⟩
  rw[Nat.mul_add,Nat.mul_one,Int.pow_add]
  have h3:fR n r+1≤2^(n*r.length):=h2
  have h4:=Int.mul_le_mul_of_nonneg_right h3 (bn hp)
  rw[Int.add_mul] at h4
  have:=h.1.2
  (clear this h3 hp h2 h1;omega)
noncomputable def sL:Str:=Str.ofString "L"
noncomputable def sR:Str:=Str.ofString "R"
noncomputable def ka:Str:=Str.ofString "mid"
noncomputable def gb:Str:=Str.ofString "shift"
noncomputable def cY:Str:=Str.ofString "digits"
noncomputable def sN:Str:=Str.ofString "n"
noncomputable def bR:Str:=Str.ofString "inner"
noncomputable def Im(q:Nat→Pos)(k:Nat→Nat):Stmt:=.If (.Compare (.BinOp (.Name sL (q 1)) .Add (.Constant (.int 1) (k 1) (q 2)) (q 3)) [.Eq] [.Name sR (q 4)] (q 5)) [.Return (some (.Subscript (.Name cY (q 6)) (.Name sL (q 7)) (q 8))) (q 9)] [] (q 10)
noncomputable def Fs(q:Nat→Pos)(k:Nat→Nat):Stmt:=.Assign [.Name ka (q 11)] (.BinOp (.BinOp (.Name sL (q 12)) .Add (.Name sR (q 13)) (q 14)) .RShift (.Constant (.int 1) (k 2) (q 15)) (q 16)) (q 17)
noncomputable def wL(q:Nat→Pos):Stmt:=.Assign [.Name gb (q 18)] (.BinOp (.BinOp (.Name ka (q 19)) .Sub (.Name sL (q 20)) (q 21)) .Mult (.Name sN (q 22)) (q 23)) (q 24)
noncomputable def Jc(q:Nat→Pos):Stmt:=.Return (some (.BinOp (.BinOp (.Call (.Name bR (q 25)) [.Name ka (q 26),.Name sR (q 27)] [] (q 28)) .LShift (.Name gb (q 29)) (q 30)) .Add (.Call (.Name bR (q 31)) [.Name sL (q 32),.Name ka (q 33)] [] (q 34)) (q 35))) (q 36)
noncomputable def pS(q:Nat→Pos)(k:Nat→Nat):List Stmt:=[Im q k,Fs q k,wL q,Jc q]
noncomputable def EW:List Str:=[sL,sR,ka,gb,cY,sN]
noncomputable def oP:eX:=fI EW
theorem gd:oP.vars.lookup sL=some 0∧oP.vars.lookup sR=some 1∧oP.vars.lookup ka=some 2∧oP.vars.lookup gb=some 3∧oP.vars.lookup cY=some 4∧oP.vars.lookup sN=some 5:=by decide +kernel
theorem Ht:bI sL=true∧bI sR=true∧bI ka=true∧bI gb=true∧bI cY=true∧bI sN=true∧bI bR=true:=by decide +kernel
structure Jv(sc:Scope):Prop where
 kind:sc.kind=.function
 co:sc.isCoroutine=false
 gen:sc.isGenerator=false
 l:sc.names.lookup sL=some .local
 r:sc.names.lookup sR=some .local
 mid:sc.names.lookup ka=some .local
 shift:sc.names.lookup gb=some .local
 dig:sc.names.lookup cY=some .free
 n:sc.names.lookup sN=some .free
 inner:sc.names.lookup bR=some .free
 noc:∀p∈sc.names,p.2≠.cell
 frees:∀x,sc.names.lookup x=some .free→x=cY∨x=sN∨x=bR
theorem uz{a:Int}:vT .Eq (.int a) (.int b)=some (decide (a=b)):=by
 have s1:∀z:Int,fY (.int z)=true:=λz=>by simp[fY,SeqAt.shaped,PyData.canLay0,PyData.depth]
 show(if fY (.int a)&&fY (.int b) then some (PyData.eqv (.int a) (.int b)) else none)=_
 rw[s1,s1]
 have:(a==b)=decide (a=b):=rfl
 simp[PyData.eqv,this]
structure D2(W:Wd)(f:Addr)(fd:FuncData)(cD cI cN:Addr)(ds:List Int)(n:Nat)(s:Shared):Prop where
 good:cU W s
 ho:∃o,s.heap.get? f=some o∧o.data=.func fd
 hcd:s.heap.CodeRec fd.code fd.qualname
 cellD:∃v,s.heap.IsCell cD (some v)∧Rep s.heap [] v (.list (ds.map .int))
 cellI:s.heap.IsCell cI (some (.ref f))
 cellN:∃t,s.heap.IsCell cN (some (.int (n:Int) t))
theorem D2.ext{W:Wd}{f:Addr}{cN:Addr}{ds:List Int}(d:D2 W f fd cD cI cN ds n s)(x:SX W s s'):D2 W f fd cD cI cN ds n s' :=
 ⟨x.good,(let⟨o,e,h⟩:=d.ho;⟨o,x.keep _ _ e (fh λfs q=>by rw[h] at q;cases q),h⟩),CodeRec.ext x d.hcd,(let⟨v,a,b⟩:=d.cellD;⟨v,Cell.ext x a,b.ext x⟩),Cell.ext x d.cellI,(let⟨t,a⟩:=d.cellN;⟨t,Cell.ext x a⟩)⟩
structure Jz(fd:FuncData)(cD cI cN:Addr)(q:Nat→Pos)(k:Nat→Nat):Prop where
 body:fd.body=.stmts (pS q k)
 sc:Jv fd.scope
 glob:fd.globals=mainGlobals
 blt:fd.builtins=builtinsNs
 bind:∀u v:Value,bindArgs fd ⟨[u,v],[]⟩=pure [(sL,u),(sR,v)]
 c1:fd.closure.lookup cY=some cD
 c2:fd.closure.lookup bR=some cI
 c3:fd.closure.lookup sN=some cN
 only:∀x c,fd.closure.lookup x=some c→x=cY∨x=sN∨x=bR
 n1:cD≠cI
 n2:cD≠cN
 n3:cI≠cN
noncomputable def lh:jU:=λ_ _=>none
theorem fJ{W:Wd}:i4 W n lh:=λf p _ A s M vals vs r E Q _ _ _ _ _ e=>by cases e
theorem IX{L m:Nat}:((L:Int)+((L:Int)+(m:Int))).fdiv (2^(1:Int).toNat)=((L+m / 2:Nat):Int):=by
 have h:((L:Int)+((L:Int)+(m:Int)))=((2*L+m:Nat):Int):=by push_cast;lia
 rw[h]
 show((2*L+m:Nat):Int).fdiv 2=_
 rw[Int.fdiv_eq_ediv_of_nonneg _ (by decide)]
 lia
theorem oh{a:Int}(h0:0≤a)(h:a<2^k)(hk:k≤3000):iz a=true:=by
 unfold iz
 rw[ar]
 have h1:(a.natAbs:Int)<((2^k:Nat):Int):=by push_cast;lia
 have h2:a.natAbs<2^k:=by exact_mod_cast h1
 exact ae h2 (Nat.pow_le_pow_right (by decide) hk)
theorem lJ{a:Nat}(h:a<2^60):iz (a:Int)=true:=oh (k:=60) (by exact aK _) (by exact_mod_cast h) (by decide)
section
variable{W:Wd}{f:Addr}{cN:Addr}{ds:List Int}{q:Nat→Pos}{k:Nat→Nat}
noncomputable def Fr:CE:=.cmp .Eq (.bin .Add (.var 0) (.lit (.int 1))) (.var 1)
noncomputable def Ki:CS:=.ite Fr [.ret (.item (.var 4) (.var 0))] []
noncomputable def I7:CS:=.asg 2 (.bin .RShift (.bin .Add (.var 0) (.var 1)) (.lit (.int 1)))
noncomputable def Ce:CS:=.asg 3 (.bin .Mult (.bin .Sub (.var 2) (.var 0)) (.var 5))
noncomputable def rD(L R:Int)(mid shift:Mine.Slot)(ds:List Int)(n:Nat):Ev:=[.sh (.d (.int L)),.sh (.d (.int R)),mid,shift,.sh (.d (.list (ds.map .int))),.sh (.d (.int (n:Int)))]
theorem tP(sc:Scope)(S:Jv sc):dg W oP sc (Im q k) Ki∧dg W oP sc (Fs q k) I7∧dg W oP sc (wL q) Ce:=by
 refine aa λhQ=>?_
 obtain⟨g0,g1,g2,g3,g4,g5⟩:=gd
 obtain⟨o0,o1,o2,o3,o4,o5,o6⟩:=Ht
 (refine hQ ?_;clear hQ)
 refine⟨H6 (lT (d9 (bK o0 g0) hG) (bK o1 g1) rfl) (xB (Fw (tT (bK o4 g4) (bK o0 g0))) vg) vg,
  oA ⟨g2,.inl S.mid⟩ rfl (d9 (d9 (bK o0 g0) (bK o1 g1)) hG),oA ⟨g3,.inl S.shift⟩ rfl (d9 (d9 (bK o2 g2) (bK o0 g0)) (bK o5 g5))⟩
theorem yd{L:Nat}(hL:xs[L]?=some d)(hlen:(L:Int)<2^62):iT xs (L:Int)=some d:=by
 unfold iT
 rw[if_pos (And.intro (aK L) hlen),aR,hL]
theorem tX{L m:Nat}:ak lh Fr (rD L ((L+m:Nat):Int) .un .un ds n)=some (.d (.bool (decide (m=1)))):=by
 have h1:decide (((L:Int)+1)=((L+m:Nat):Int))=decide (m=1):=by
  by_cases h:m=1
  ·subst h;rw[aO rfl,aO (by push_cast;rfl)]
  ·rw[ba h,ba (by push_cast;lia)]
 exact(du (gZ (bi rfl) cu rfl) (bi rfl) (uz)).trans (by rw[h1])
theorem AL{L:Nat}{R:Int}{d:Int}(hL:ds[L]?=some d)(hlen:(L:Int)<2^62):ak lh (.item (.var 4) (.var 0)) (rD L R .un .un ds n)=some (.d (.int d)) :=
 sZ (bi rfl) (bi rfl) (yd (by rw[az,hL];rfl) hlen)
theorem ER{L:Nat}{d:Int}(h:ak lh (.item (.var 4) (.var 0)) (rD L ((L+1:Nat):Int) .un .un ds n)=some (.d (.int d))):gS lh 0 Ki (rD L ((L+1:Nat):Int) .un .un ds n)=some (rD L ((L+1:Nat):Int) .un .un ds n,.rt (.d (.int d))) :=
 (ed (tX (m:=1)) rfl).trans (d5 (AX h rfl))
theorem zZ{L m:Nat}(hm:m≠1):gS lh 0 Ki (rD L ((L+m:Nat):Int) .un .un ds n)=some (rD L ((L+m:Nat):Int) .un .un ds n,.nx) :=
 cx_no (tX (m:=m)) (by rw[ba hm];rfl)
theorem Ec{L m:Nat}:gS lh 0 I7 (rD L ((L+m:Nat):Int) .un .un ds n)=some (rD L ((L+m:Nat):Int) (.sh (.d (.int ((L+m / 2:Nat):Int)))) .un ds n,.nx):=by
 refine(ev_asg (v:=.d (.int ((L+m / 2:Nat):Int))) (gZ (gZ (bi rfl) (bi rfl) rfl) cu ?_) rfl)
 show some (((L:Int)+((L+m:Nat):Int)).fdiv (2^(1:Int).toNat))=_
 rw[←IX (L:=L) (m:=m)]
 push_cast
 rfl
theorem yj{L m:Nat}{R:Int}(hm:m<2^60)(hn:n<2^60):gS lh 0 Ce (rD L R (.sh (.d (.int ((L+m:Nat):Int)))) .un ds n)=some (rD L R (.sh (.d (.int ((L+m:Nat):Int)))) (.sh (.d (.int ((m*n:Nat):Int)))) ds n,.nx):=by
 have h1:((L+m:Nat):Int)-(L:Int)=(m:Int):=by push_cast;lia
 refine(ev_asg (v:=.d (.int ((m*n:Nat):Int))) (gZ (gZ (bi rfl) (bi rfl) rfl) (bi rfl) ?_) rfl)
 rw[h1,rC,lJ hm,lJ hn,Int.natCast_mul]
 rfl
end
theorem pO{a:Int}{k:Nat}(h:iz a=true)(hk:(k:Int)≤8000):i_ .LShift a (k:Int)=some (a*2^k):=by
 show(if iz a&&decide (0≤(k:Int))&&decide ((k:Int)≤8000) then some (a*2^(k:Int).toNat) else none)=_
 rw[h,aO (aK k),aO hk,aR]
 rfl
section
variable{W:Wd}{f:Addr}{cN:Addr}{ds:List Int}{q:Nat→Pos}{k:Nat→Nat}
theorem D2.cells(F:Jz fd cD cI cN q k)(d:D2 W f fd cD cI cN ds n s):(∀x c,fd.closure.lookup x=some c→∃v,s.heap.IsCell c v)∧(∀x y c,fd.closure.lookup x=some c→fd.closure.lookup y=some c→x=y):=by
 have key:∀x c,fd.closure.lookup x=some c→(x=cY∧c=cD)∨(x=bR∧c=cI)∨(x=sN∧c=cN):=λx c e=>by
  rcases F.only x c e with rfl | rfl | rfl
  ·rw[F.c1] at e;cases e;exact .inl ⟨rfl,rfl⟩
  ·rw[F.c3] at e;cases e;exact .inr (.inr ⟨rfl,rfl⟩)
  ·rw[F.c2] at e;cases e;exact .inr (.inl ⟨rfl,rfl⟩)
 refine⟨λx c e=>?_,λx y c e1 e2=>?_⟩
 ·rcases key x c e with⟨_,rfl⟩ | ⟨_,rfl⟩ | ⟨_,rfl⟩
  ·obtain⟨v,a,_⟩:=d.cellD;exact⟨_,a⟩
  ·exact⟨_,d.cellI⟩
  ·obtain⟨t,a⟩:=d.cellN;exact⟨_,a⟩
 ·have n1:=F.n1;have n2:=F.n2;have n3:=F.n3
  rcases key x c e1 with⟨rfl,rfl⟩ | ⟨rfl,rfl⟩ | ⟨rfl,rfl⟩<;>rcases key y _ e2 with⟨rfl,h⟩ | ⟨rfl,h⟩ | ⟨rfl,h⟩<;>first | rfl | exact absurd h ‹_› | exact absurd h.symm ‹_›
theorem tW(F:Jz fd cD cI cN q k){lv:Nat}{R L:Int}{tl tr:Tok}(rm:dA W A (lv+1))(d:D2 W f fd cD cI cN ds n s)
  (h:∀env s₁,lD oP fd.scope env→SX W s s₁→FI W oP fd.scope s env [] (λ_=>0) [env.locals] (rD L R .un .un ds n) s₁→(∀s',SX W s s'→c_ s'.heap env bR (.ref f))→dA W (A.deeper env) lv →
   ∀E':Value→Shared→Prop,wpAny (model W.prog W.w) (A.deeper env) (execs (pS q k) env) (λfl s'=>Q (Gc fl) s') E' s₁) :
  wpAny (model W.prog W.w) A (call (.ref f) [.int L tl,.int R tr] []) Q E s:=by
 refine aa λhQ=>?_
 obtain⟨o,ho,hd⟩:=d.ho
 obtain⟨hcl,cinj⟩:=d.cells F
 (refine hQ ?_;clear hQ)
 refine tN (ps:=[sL,sR]) (ns:=EW) (ds:=[.int L,.int R]) (fs:=[none,none,some (.list (ds.map .int)),some (.int (n:Int))]) d.good rm ho hd d.hcd F.body (F.bind _ _) F.glob F.blt F.sc.kind F.sc.co F.sc.gen F.sc.noc
  ?_ (by decide +kernel) (by decide +kernel) rfl rfl ?_ cinj hcl (.cons (.int _ _) (.cons (.int _ _) .nil)) rfl rfl ?_ λenv s₁ hcells hkind so x1 fi rm'=>?_
 ·intro y hy
  simp only[ah,List.not_mem_nil,or_false] at hy
  rcases hy with rfl | rfl
  ·exact F.sc.l
  ·exact F.sc.r
 ·intro x hx
  rcases F.sc.frees x hx with rfl | rfl | rfl
  ·exact⟨_,F.c1⟩
  ·exact⟨_,F.c3⟩
  ·exact⟨_,F.c2⟩
 ·intro i y dd hy hi
  rcases i with _ | _ | _ | _ | i
  ·simp at hi
  ·simp at hi
  ·simp at hi;subst hi
   have:y=cY:=by simp[EW] at hy;exact hy.symm
   subst this
   refine aa λhQ=>?_
   obtain⟨v,a,b⟩:=d.cellD
   (refine hQ ?_;clear hQ)
   exact⟨F.sc.dig,_,v,F.c1,a,b⟩
  ·simp at hi;subst hi
   have:y=sN:=by simp[EW] at hy;exact hy.symm
   subst this
   obtain⟨t,a⟩:=d.cellN
   exact⟨F.sc.n,_,_,F.c3,a,.int _ _⟩
  ·simp at hi
 ·exact h env s₁ so x1 fi (λs' x'=>.inr ⟨.inr (by rw[hkind];exact F.sc.inner),cI,by rw[hcells];exact F.c2,Cell.ext x' d.cellI⟩) rm' _
theorem zX(F:Jz fd cD cI cN q k)(hdig:gY n ds=true)(hsz:n*ds.length≤2900)(hn:1≤n):∀(lv:Nat) (L m:Nat) (A:Around) (s:Shared) (tl tr:Tok) (E Q:Value→Shared→Prop),1≤m→m≤2^lv→L+m≤ds.length →
  dA W A (lv+1)→D2 W f fd cD cI cN ds n s→(∀s' t,SX W s s'→Q (.int (fR n ((ds.drop L).take m)) t) s')→wpAny (model W.prog W.w) A (call (.ref f) [.int (L:Int) tl,.int ((L+m:Nat):Int) tr] []) Q E s:=by
 have hlen:ds.length≤2900:=ab (Nat.le_mul_of_pos_left _ hn) hsz
 refine aa λhQ=>?_
 obtain⟨g0,g1,g2,g3,g4,g5⟩:=gd
 obtain⟨o0,o1,o2,o3,o4,o5,o6⟩:=Ht
 (refine hQ ?_;clear hQ)
 have one:∀(lv:Nat) (L:Nat) (A:Around) (s:Shared) (tl tr:Tok) (E Q:Value→Shared→Prop),L+1≤ds.length →
  dA W A (lv+1)→D2 W f fd cD cI cN ds n s→(∀s' t,SX W s s'→Q (.int (fR n ((ds.drop L).take 1)) t) s')→wpAny (model W.prog W.w) A (call (.ref f) [.int (L:Int) tl,.int ((L+1:Nat):Int) tr] []) Q E s:=by
  intro lv L A s tl tr E Q h3 rm d h
  refine tW F rm d λenv s₁ so x1 fi hv rm' E'=>?_
  have hL:ds[L]?=some ds[L]:=aQ (by assumption)
  have hb:(L:Int)<2^62:=Int.lt_of_lt_of_le (b:=4000) (iy (Nat.le_of_succ_le h3) (iy hlen (c8 rfl))) (by decide)
  refine aV ((tP (W:=W) (q:=q) (k:=k) fd.scope F.sc).1 lv lh 0 _ env s s₁ [] _ _ _ _ _ _ _ fJ rm' so fi (ER (AL hL hb)) λown' M' s' fl fi' st' fr=>?_)
  cases fl with
  |ret v =>
   obtain⟨_,hr⟩:=fr
   obtain⟨t,rfl⟩:=cG hr
   have:fR n ((ds.drop L).take 1)=ds[L]:=by
    rw[cH (by assumption),List.take_succ_cons,List.take_zero]
    show ds[L]+0*2^n=ds[L]
    rw[Int.zero_mul,Int.add_zero]
   rw[this] at h
   exact h s' t fi'.x
  |_=>exact fr.elim
 intro lv
 induction lv with
 |zero =>
  intro L m A s tl tr E Q h1 h2 h3 rm d h
  have:m=1:=by have:(2:Nat)^0=1:=rfl;exact Nat.le_antisymm h2 h1
  subst this
  exact one 0 L A s tl tr E Q h3 rm d h
 |succ lv ih =>
  intro L m A s tl tr E Q h1 h2 h3 rm d h
  by_cases hm:m=1
  ·subst hm;exact one _ L A s tl tr E Q h3 rm d h
  refine tW F rm d λenv s₁ so x1 fi hv rm' E'=>?_
  refine aa λhQ=>?_
  obtain⟨S1,S2,S3⟩:=tP (W:=W) (q:=q) (k:=k) fd.scope F.sc
  (refine hQ ?_;clear hQ)
  refine aV (S1 (lv+1) lh 0 _ env s s₁ [] _ _ _ _ _ _ _ fJ rm' so fi (zZ hm) λown2 M2 s2 fl2 fi2 st2 fr2=>?_)
  rw[fr2.next]
  refine aV (S2 (lv+1) lh 0 _ env s s2 [] _ _ _ _ _ _ _ fJ rm' so fi2 Ec λown3 M3 s3 fl3 fi3 st3 fr3=>?_)
  rw[fr3.next]
  have hn60:n<2^60:=by
   have h1:n≤n*ds.length:=Nat.le_mul_of_pos_right _ (ae (Nat.lt_of_succ_lt_succ (cK h1)) (ab (ao m L) h3))
   exact ae (m:=3000) (au h1 (au hsz (c8 rfl))) (by decide)
  refine aV (S3 (lv+1) lh 0 _ env s s3 [] _ _ _ _ _ _ _ fJ rm' so fi3 (yj (ae (m:=3000) (by lia) (by decide)) hn60) λown4 M4 s4 fl4 fi4 st4 fr4=>?_)
  rw[fr4.next]
  have hpow:2^(lv+1)=2*2^lv:=by rw[Nat.pow_succ];exact Nat.mul_comm _ _
  refine aV (wpAny_Return_some (wpAny_BinOp (wpAny_BinOp ?_)))
  have d4:=d.ext fi4.x
  have hf4:∃o fd,s4.heap.get? f=some o∧o.data=.func fd:=let⟨o,a,b⟩:=d4.ho;⟨o,_,a,b⟩
  have dsub:∀a b:Nat,gY n ((ds.drop a).take b)=true:=λa b=>by
   unfold gY at hdig ⊢
   rw[ap] at hdig ⊢
   exact λx hx=>hdig x (List.mem_of_mem_drop (List.mem_of_mem_take hx))
  have bnd:∀a b:Nat,iz (fR n ((ds.drop a).take b))=true:=λa b=>by
   obtain⟨b1,b2⟩:=wB n _ (dsub a b)
   refine oh b1 b2 ?_
   have:((ds.drop a).take b).length≤ds.length:=by rw[bx,aY];exact ab (Nat.min_le_right b (List.length ds-a)) (cO (List.length ds) a)
   have:=Nat.mul_le_mul_left n this
   exact ab this (ab hsz (c8 rfl))
  have hsplit:fR n ((ds.drop L).take m)=fR n ((ds.drop (L+m / 2)).take (m-m / 2))*2^(m / 2*n)+fR n ((ds.drop L).take (m / 2)):=by
   have e:(ds.drop L).take m=(ds.drop L).take (m / 2)++(ds.drop (L+m / 2)).take (m-m / 2):=by
    rw[←List.drop_drop,←List.take_add]
    congr 1;exact sr m
   rw[e,j_,bx,aY,Nat.min_eq_left (ab (Nat.div_le_self m 2) (dG h3)),Nat.mul_comm n,Int.add_comm]
  refine ki o6 (fi4.cx so fJ rm') (hv s4 fi4.x) hf4 (.cons rfl (bK o2 g2) (.cons rfl (bK o1 g1) .nil)) rfl λvals s5 x5 r5=>?_
  cases r5 with
  |cons ra rb =>
  cases rb with
  |cons rb rc =>
  cases rc
  obtain⟨t1,rfl⟩:=cG ra
  obtain⟨t2,rfl⟩:=cG rb
  have hR:L+m=(L+m / 2)+(m-m / 2):=by exact ua L m
  have x05:=fi4.x.trans x5
  have ih1:∀(A:Around) (s:Shared) (tl tr:Tok) (E Q:Value→Shared→Prop),dA W A (lv+1)→D2 W f fd cD cI cN ds n s→(∀s' t,SX W s s'→Q (.int (fR n ((ds.drop (L+m / 2)).take (m-m / 2))) t) s') →
    wpAny (model W.prog W.w) A (call (.ref f) [.int ((L+m / 2:Nat):Int) tl,.int ((L+m:Nat):Int) tr] []) Q E s:=λA s tl tr E Q a b c=>by
   have:=ih (L+m / 2) (m-m / 2) A s tl tr E Q (xx h1) (w9 (ab h2 (aw hpow))) (by exact hR▸h3) a b c
   rw[←hR] at this
   exact this
  refine ih1 _ s5 t1 t2 _ _ rm' (d.ext x05) λs6 t6 x6=>?_
  have fi6:=fi4.ext (x5.trans x6)
  refine(bK o3 g3) (lv+1) lh _ s6 env _ _ _ _ _ (fi6.cx so fJ rm') rfl λxv s7 x7 r7=>?_
  obtain⟨t7,rfl⟩:=cG r7
  have hsh:i_ .LShift (fR n ((ds.drop (L+m / 2)).take (m-m / 2))) ((m / 2*n:Nat):Int)=some (fR n ((ds.drop (L+m / 2)).take (m-m / 2))*2^(m / 2*n)):=by
   have h8:m / 2*n≤8000:=by
    have:m / 2*n≤ds.length*n:=Nat.mul_le_mul_right n (ab (ao (m / 2) L)   (ab (ay (L+m / 2) (m-m / 2)) (ab (aw (Eq.symm hR)) h3)))
    rw[Nat.mul_comm ds.length] at this
    exact ab this (ab hsz (c8 rfl))
   refine pO (bnd _ _) ?_
   generalize m / 2*n=z at h8 ⊢
   exact cC.mpr h8
  refine p7 hsh λtk8 tk8'=>?_
  have x78:SX W s7 {s7 with toks:=tk8'}:=SX.toks x7.good
  have x48:=((x5.trans x6).trans x7).trans x78
  have fi8:=fi4.ext x48
  have d8:=d.ext fi8.x
  have hf8:∃o fd,s7.heap.get? f=some o∧o.data=.func fd:=let⟨o,a,b⟩:=d8.ho;⟨o,_,a,b⟩
  refine ki o6 (fi8.cx so fJ rm') (hv _ fi8.x) hf8 (.cons rfl (bK o0 g0) (.cons rfl (bK o2 g2) .nil)) rfl λvals s9 x9 r9=>?_
  cases r9 with
  |cons ra9 rb9 =>
  cases rb9 with
  |cons rb9 rc9 =>
  cases rc9
  obtain⟨t3,rfl⟩:=cG ra9
  obtain⟨t4,rfl⟩:=cG rb9
  refine ih L (m / 2) _ s9 t3 t4 _ _ (wJ h1 hm) (Nat.div_le_of_le_mul (ab h2 (aw hpow))) (ab (ay (L+m / 2) (m-m / 2)) (ab (aw (Eq.symm hR)) h3)) rm' (d.ext (fi8.x.trans x9)) λs10 t10 x10=>?_
  refine p7 (op:=.Add) rfl λtk11 tk11'=>?_
  rw[←hsplit]
  exact h _ _ (((fi8.x.trans x9).trans x10).trans (SX.toks x10.good))
end
section
variable{W:Wd}
end
set_option tactic.hygienic true
set_option backward.match.sparseCases false
section
variable{W:Wd}{Γ:eX}{sc:Scope}{own:Nat→Addr}
theorem FI.storeAny{Q:Unit→Shared→Prop}{Md:Model}(so:lD Γ sc env)(fi:FI W Γ sc s₀ env M₀ own M ρ s)(hy:Γ.vars.lookup y=some i)
  (hk:sc.names.lookup y=some .local∨sc.names.lookup y=some .cell) (hu:ρ[i]?=some .un)
  (h:∀s',FI W Γ sc s₀ env M₀ own M ρ s'→c_ s'.heap env y v→(∀b o,b≠locOf env y→s.heap.get? b=some o→s'.heap.get? b=some o)→Q () s'):wpAny Md A (storeName env y v) Q E s :=
 fi.storeAnyS so hy hk hu λs' a b c _=>h s' a b c
theorem CodeRec.chg{b:Addr}(hk:∀a o,a≠b→h.get? a=some o→h'.get? a=some o)(hs:∀o,h.get? b=some o→eW o){q:Str}(x:h.CodeRec cd q):h'.CodeRec cd q:=by
 refine aa λhQ=>?_
 obtain⟨c,o,vs,t,e1,e2,e3,e4⟩:=x
 (refine hQ ?_;clear hQ)
 exact⟨c,o,vs,t,e1,hk c o (λz=>by subst z;exact(hs o e2).2 vs q t e3 e4) e2,e3,e4⟩
end
noncomputable def mh(as:List V):Option V:=(zA as).bind λp=>(g8 p.1).bind λxs=>(dM p.2).bind λn=>(gA xs).bind λds=>if decide (1≤n)&&decide (n.toNat*ds.length≤2900)&&gY n.toNat ds then some (.d (.int (fR n.toNat ds))) else none
noncomputable def oW:List Str:=[cY,sN,bR]
noncomputable def rU:Str:=Str.ofString "len"
structure Kw(B:eZ)(a:Addr)(fd:FuncData)(t:Tb)(params:Arguments)(isc:Scope)(q q':Nat→Pos)(k k':Nat→Nat):Prop where
 at_:∀{h},B.W.ok h→∃o,h.get? a=some o∧o.data=.func fd
 cd:∀{h},B.W.ok h→h.CodeRec fd.code fd.qualname
 body:fd.body=.stmts [.FunctionDef bR params (pS q k) [] none [] isc none bR t.pos,
  .Return (some (.IfExp (.Name cY (q' 1)) (.Call (.Name bR (q' 2)) [.Constant (.int 0) (k' 1) (q' 3),.Call (.Name rU (q' 4)) [.Name cY (q' 5)] [] (q' 6)] [] (q' 7)) (.Constant (.int 0) (k' 2) (q' 8)) (q' 9))) (q' 10)]
 fo:ud fd.scope [cY,sN] oW
 cdig:fd.scope.names.lookup cY=some .cell
 cn:fd.scope.names.lookup sN=some .cell
 cin:fd.scope.names.lookup bR=some .cell
 len:fd.scope.names.lookup rU=some .globalImplicit
 bind:∀vals:List Value,vals.length=2→bindArgs fd ⟨vals,[]⟩=pure ([cY,sN].zip vals)
 clo:fd.closure=[]
 glob:fd.globals=mainGlobals
 blt:fd.builtins=builtinsNs
 code:fd.code=.ref t.c
 qual:fd.qualname++Str.ofString ".<locals>."++bR=t.qual
 tab:t∈B.tabs
 isok:Jv isc
 ifree:∀p∈isc.names,p.2=.free→p.1=cY∨p.1=sN∨p.1=bR
 pd:params.defaults=[]
 pk:params.kw_defaults=[]
 pa:∀env,annTrees params none env=[]
 ibind:∀(fd':FuncData) (u v:Value),fd'.params=params→fd'.defaults=.none→fd'.kwdefaults=.none→bindArgs fd' ⟨[u,v],[]⟩=pure [(sL,u),(sR,v)]
theorem EF{t:Tb}{q q':Nat→Pos}{k k':Nat→Nat}(F:Kw B a fd t params isc q q' k k')(hb:B.blts=dQ)(n:Nat):zr B.W (n+16) a mh:=by
 intro A s M vals vs r E Q rm g mok hv hown e h
 refine aa λhQ=>?_
 obtain⟨p,z1,e⟩:=aJ e
 obtain⟨xs,z2,e⟩:=aJ e
 obtain⟨ni,z3,e⟩:=aJ e
 obtain⟨ds,e1,e⟩:=aJ e
 obtain⟨hc,e2⟩:=cq e
 have hvs:vs=[.d (.list xs),.d (.int ni)]:=by rw[sF z1,fF z2,dk z3]
 (refine hQ ?_;clear hQ)
 clear z1 z2 z3 e
 cases hvs;cases e2
 rw[ag,ag,ar,ar] at hc
 obtain⟨⟨hn1,hsz⟩,hdig⟩:=hc
 have hxs:=la e1
 subst hxs
 have hni:((ni.toNat:Nat):Int)=ni:=Int.toNat_of_nonneg (by exact bn hn1)
 have hn1':1≤ni.toNat:=by lia
 have hlen:ds.length≤2900:=ab (Nat.le_mul_of_pos_left _ hn1') hsz
 refine uH (n:=n+15) F.fo F.at_ F.cd F.body F.bind F.clo F.glob F.blt rm g mok hv hown rfl λenv s₁ M' hcode hqual so x1 fi rm' E'=>?_
 have gm:(fI oW).vars.lookup cY=some 0∧(fI oW).vars.lookup sN=some 1∧(fI oW).vars.lookup bR=some 2:=by decide +kernel
 refine aa λhQ=>?_
 obtain⟨g0,g1,g2⟩:=gm
 obtain⟨o0,o1,o2,o3,o4,o5,o6⟩:=Ht
 (refine hQ ?_;clear hQ)
 have kin:env.kindOf bR=some .cell:=by rw[cJ so.ek];exact F.cin
 have hq:qualnameIn env bR bR=t.qual:=by
  unfold qualnameIn
  rw[kin,hqual]
  exact F.qual
 have hcl:closureFor isc env=pure (eG env.cells isc.names []):=fv λp hp hf=>by
  rcases F.ifree p hp hf with h1 | h1 | h1
  ·rw[h1];exact so.ek.cells _ (.inl F.cdig)
  ·rw[h1];exact so.ek.cells _ (.inl F.cn)
  ·rw[h1];exact so.ek.cells _ (.inl F.cin)
 refine aV (nestDef_K F.pd F.pk (F.pa env) ?_)
 rw[hq]
 refine tO (B:=B) fi.x.good F.tab (by rw[hcode];exact F.code) so.ek.globals hcl λf s₂ c' doc pm ctv x2 hf0 hfo hcr=>?_
 have fi2:=fi.ext x2
 refine FI.storeAny so fi2 g2 (.inr F.cin) rfl λs₃ fi3 hvi hk3=>?_
 have x13:∀b o,b≠locOf env bR→s₂.heap.get? b=some o→s₃.heap.get? b=some o:=hk3
 refine aa λhQ=>?_
 obtain⟨slS,slN,slL⟩:=dB fi2.lay so.ek (.inr F.cin)
 (refine hQ ?_;clear hQ)
 have cellOf:∀y v,fd.scope.names.lookup y=some .cell→c_ s₃.heap env y v→∃c,env.cells.lookup y=some c∧s₃.heap.IsCell c (some v):=λy v hy hv=>by
  rcases hv with⟨k1,_⟩ | ⟨_,c,e,hc⟩
  ·rw[cJ so.ek,hy] at k1;cases k1
  ·exact⟨c,e,hc⟩
 refine aa λhQ=>?_
 obtain⟨_,dv,hdv,hdr⟩:=fi3.vis cY 0 g0 _ rfl
 obtain⟨_,nv,hnv,hnr⟩:=fi3.vis sN 1 g1 _ rfl
 obtain⟨nt,rfl⟩:=cG hnr
 obtain⟨cD,eD,hcD⟩:=cellOf _ _ F.cdig hdv
 obtain⟨cN,eN,hcN⟩:=cellOf _ _ F.cn hnv
 obtain⟨cI,eI,hcI⟩:=cellOf _ _ F.cin hvi
 (refine hQ ?_;clear hQ)
 have memF:∀y,isc.names.lookup y=some .free→(eG env.cells isc.names []).lookup y=some ((env.cells.lookup y).getD 0):=λy hy=>jD (mem_of_lookup hy)
 have ne12:cY≠bR∧cY≠sN∧bR≠sN:=by decide +kernel
 generalize hfd:(fnX bR t.qual params (pS q k) isc (eG env.cells isc.names []) .none .none doc pm none (.ref c') ctv)=fd' at hfo
 have FD:Jz fd' cD cI cN q k:=by
  subst hfd
  exact⟨rfl,F.isok,rfl,rfl,λu v=>F.ibind _ u v rfl rfl rfl,by rw[memF _ F.isok.dig,eD];rfl,by rw[memF _ F.isok.inner,eI];rfl,by rw[memF _ F.isok.n,eN];rfl,
   λx c hx=>(by
    rcases jt _ _ (mem_of_lookup hx) with z | ⟨z,_⟩
    ·cases z
    ·exact F.ifree _ z rfl),
   λz=>ne12.1 (so.ek.inj _ _ cD eD (by rw[z];exact eI)),λz=>ne12.2.1 (so.ek.inj _ _ cD eD (by rw[z];exact eN)),λz=>ne12.2.2 (so.ek.inj _ _ cI eI (by rw[z];exact eN))⟩
 have hf3:s₃.heap.get? f=some {cls:=.type "function",data:=.func fd'}:=x13 f _ (λz=>by
  obtain⟨o,e,_⟩:=(dB fi.lay so.ek (.inr F.cin)).2.1
  rw[←z,hf0] at e;cases e) hfo
 have D3:D2 B.W f fd' cD cI cN ds ni.toNat s₃:=by
  refine⟨fi3.x.good,⟨_,hf3,rfl⟩,?_,⟨dv,hcD,Rep.sub (λa ha=>by cases ha) hdr⟩,hcI,⟨nt,by rw[hni];exact hcN⟩⟩
  subst hfd
  exact CodeRec.chg x13 slS hcr
 clear hk3
 refine aV (wpAny_Return_some ?_)
 have cx:=fi3.cx (A:=A.deeper env) so (fJ (n:=n+15)) rm'
 have tst:gu B.W (fI oW) fd.scope (.Name cY (q' 1)) (.var 0):=km (bK o4 g0) (gh rfl)
 have hsl:c0 (ds.map PyData.int).length=true:=by
  unfold c0
  rw[ar,af]
  exact ab hlen (by decide)
 refine wpAny_IfExp (tst (n+15) _ _ s₃ env _ _ _ (!(ds.map PyData.int).isEmpty) _ _ cx rfl (by show(if c0 (ds.map PyData.int).length then some (!(ds.map PyData.int).isEmpty) else none)=_;rw[hsl];rfl) λs₄ x4=>?_)
 have fin:∀(s':Shared) tk,SX B.W s s'→Q (.int (fR ni.toNat ds) tk) s':=λs' tk z=>h _ _ z rfl (.int _ _)
 cases hemp:(ds.map PyData.int).isEmpty with
 |true =>
  have:ds=[]:=by simpa using hemp
  subst this
  refine wpAny_Constant_int ?_
  exact fin _ _ ((fi3.x.trans x4).trans (SX.toks x4.good))
 |false =>
  have hpos:1≤ds.length:=by
   cases ds with
   |nil=>simp at hemp
   |cons=>simp
  have fi4:=fi3.ext x4
  have cx4:=fi4.cx (A:=A.deeper env) so (fJ (n:=n+15)) rm'
  have hvi4:c_ s₄.heap env bR (.ref f):=hvi.ext x4
  have okLen:bI rU=true:=by decide +kernel
  refine ki o6 cx4 hvi4 ⟨_,fd',x4.keep _ _ hf3 (fh λ_ z=>by cases z),rfl⟩ (.cons rfl hG (.cons rfl (snd_prim (f:=.len) okLen F.len (by show(rU,_)∈B.blts;rw[hb];exact .head _) rfl (λh=>nomatch h) (.cons rfl (bK o4 g0) .nil)) .nil)) (us:=[.d (.int 0),.d (.int (ds.length:Int))]) ?_ λvals s₅ x5 r5=>?_
  ·have hl62:(ds.map PyData.int).length<2^62:=by rw[af];exact au hlen (by decide)
   have hp:gQ .len [.d (.list (ds.map PyData.int))]=some (.d (.int (ds.length:Int))):=by
    show(if(ds.map PyData.int).length<2^62 then some (V.d (.int ((ds.map PyData.int).length:Int))) else none)=_
    rw[if_pos hl62,af]
   show(Option.bind (some (V.d (.int 0))) λx=>Option.map (x::·) (Option.bind (Option.bind (some [V.d (.list (ds.map PyData.int))]) λxs=>gQ .len xs) λx=>some [x]))=_
   simp only[bB,hp,Option.map_some]
  ·cases r5 with
   |cons ra rb =>
   cases rb with
   |cons rb rc =>
   cases rc
   obtain⟨t1,rfl⟩:=cG ra
   obtain⟨t2,rfl⟩:=cG rb
   have D5:=D3.ext (x4.trans x5)
   have:=zX FD hdig hsz hn1' 12 0 ds.length (A.deeper env) s₅ t1 t2 E' (λv s'=>Q v s') hpos (ab hlen (by decide)) (bd (aF (List.length ds)) (bo (List.length ds-List.length ds))) ⟨rm'.handled,by have:=rm'.depth;lia,by have:=rm'.units;lia⟩ D5 λs' tk x6=>by
    rw[List.drop_zero,List.take_length]
    exact fin _ _ (((fi3.x.trans x4).trans x5).trans x6)
   rw[Nat.zero_add] at this
   exact this
set_option tactic.hygienic false
set_option backward.match.sparseCases true
noncomputable def dig(n:Nat):Nat→Nat→List Int
 |0,_=>[]
 |m+1,x=>((x % 2^n:Nat):Int)::dig n m (x / 2^n)
theorem wI{m x:Nat}:dig n (m+1) x=((x % 2^n:Nat):Int)::dig n m (x / 2^n):=rfl
theorem kS(n:Nat)(m):∀x,(dig n m x).length=m:=by
 induction m with
 |zero =>
  intro _
  exact rfl
 |succ m ih =>
  intro x
  exact congrArg Nat.succ (ih _)
theorem yU(n r:Nat)(p):∀x,dig n (p+r) x=dig n p (x % 2^(n*p))++dig n r (x / 2^(n*p)):=by
 induction p with
 |zero =>
  intro x
  rw[Nat.zero_add,Nat.mul_zero,Nat.pow_zero,Nat.div_one];rfl
 |succ p ih =>
  intro x
  rw[show p+1+r=(p+r)+1 by exact Nat.add_right_comm _ _ _]
  simp only[wI,List.cons_append]
  rw[ih (x / 2^n)]
  have e:2^(n*(p+1))=2^n*2^(n*p):=by rw[Nat.mul_add,Nat.mul_one,Nat.pow_add,Nat.mul_comm]
  rw[e,Nat.mod_mul_right_div_self,Nat.mod_mod_of_dvd _ (Nat.dvd_mul_right _ _),Nat.div_div_eq_div_mul]
theorem AH(x s:Nat):x &&& (x / 2^s*2^s)=x / 2^s*2^s:=by
 apply Nat.eq_of_testBit_eq
 intro i
 have e:x / 2^s*2^s=(x >>> s) <<< s:=by rw[Nat.shiftRight_eq_div_pow,Nat.shiftLeft_eq]
 rw[e,Nat.testBit_and,Nat.testBit_shiftLeft,Nat.testBit_shiftRight]
 by_cases h:s≤i
 ·have:s+(i-s)=i:=by exact cw h
  simp[h,this]
 ·simp[h]
theorem wk(x s:Nat):Builtin.bitXor (x:Int) ((x / 2^s*2^s:Nat):Int)=((x % 2^s:Nat):Int):=by
 rw[bitXor_and]
 have e:Builtin.bitAnd (x:Int) ((x / 2^s*2^s:Nat):Int)=((x / 2^s*2^s:Nat):Int):=by
  unfold Builtin.bitAnd
  rw[aO (aK _),aO (aK _)]
  show((((x:Int).toNat &&& ((x / 2^s*2^s:Nat):Int).toNat:Nat)):Int)=_
  rw[aR,aR,AH]
 rw[e]
 have:=Nat.mod_add_div x (2^s)
 rw[Nat.mul_comm] at this
 (clear e;lia)
theorem E8(n:Nat)(m):∀x,x<2^(n*m)→fR n (dig n m x)=(x:Int):=by
 induction m with
 |zero =>
  intro x h
  have:x=0:=by simpa using h
  subst this;rfl
 |succ m ih =>
  intro x h
  have e:2^(n*(m+1))=2^n*2^(n*m):=by rw[Nat.mul_add,Nat.mul_one,Nat.pow_add,Nat.mul_comm]
  rw[e] at h
  rw[wI,rQ]
  rw[ih (x / 2^n) (Nat.div_lt_of_lt_mul h)]
  have:=Nat.mod_add_div x (2^n)
  rw[Nat.mul_comm] at this
  exact_mod_cast this
theorem Hx(n:Nat)(m):∀x,gY n (dig n m x)=true:=by
 induction m with
 |zero =>
  intro _
  exact rfl
 |succ m ih =>
  intro x
  rw[wI];unfold gY
  rw[List.all_cons,ag,ag,ar,ar]
  refine⟨⟨aK _,?_⟩,ih _⟩
  exact_mod_cast Nat.mod_lt _ (Nat.pow_pos (by decide))
theorem Ew{x:Nat}(h:x<2^n):dig n 1 x=[(x:Int)]:=by
 rw[wI,Nat.mod_eq_of_lt h];rfl
structure Cg(ad:Addr)(s s':Shared):Prop where
 keep:∀b o,b≠ad→s.heap.get? b=some o→¬b_ o→s'.heap.get? b=some o
 occ:∀b o,s.heap.get? b=some o→∃o',s'.heap.get? b=some o'
 os:s'.os=s.os
 gens:∀(i:Nat) g,s.gens[i]?=some g→s'.gens[i]?=some g
theorem Cg.of_SX{W:Wd}(x:SX W s s'):Cg ad s s':=⟨λb o _ e n=>x.keep b o e n,x.occ,x.os,x.gens⟩
theorem Cg.trans{s'':Shared}(x:Cg ad s s')(y:Cg ad s' s''):Cg ad s s'' :=
 ⟨λb o h e n=>y.keep b o h (x.keep b o h e n) n,λb o e=>let⟨o',e'⟩:=x.occ b o e;y.occ b o' e',y.os.trans x.os,λi g e=>y.gens i g (x.gens i g e)⟩
noncomputable def f6(h:Heap)(a:Addr)(xs:List Int):Prop:=∃vs k,h.get? a=some (bU vs k)∧Reps h [] vs.toList (xs.map .int)
theorem jf:∀xs:List Int,(xs.map PyData.int).all l6=true
 |[]=>rfl
 |_::r=>by rw[bj,List.all_cons,jf r];rfl
theorem f6.ext{W:Wd}{xs:List Int}(l:f6 s.heap a xs)(x:SX W s s'):f6 s'.heap a xs :=
 let⟨vs,k,e,r⟩:=l;⟨vs,k,x.keep _ _ e cV,jl (jf _) r⟩
structure I2(W:Wd)(f:Addr)(fd:FuncData)(cA cI cN ad:Addr)(n:Nat)(s:Shared):Prop where
 good:cU W s
 ho:∃o,s.heap.get? f=some o∧o.data=.func fd
 hcd:s.heap.CodeRec fd.code fd.qualname
 cellA:s.heap.IsCell cA (some (.ref ad))
 cellI:s.heap.IsCell cI (some (.ref f))
 cellN:∃t,s.heap.IsCell cN (some (.int (n:Int) t))
section
variable{W:Wd}{f:Addr}{cA cN:Addr}
theorem Cell.chg(x:Cg ad s s'){xs:List Int}(l:f6 s.heap ad xs){c:Addr}{v:Option Value}(h:s.heap.IsCell c v):s'.heap.IsCell c v:=by
 refine aa λhQ=>?_
 obtain⟨o,e,hd⟩:=h
 obtain⟨vs,k,e2,_⟩:=l
 (refine hQ ?_;clear hQ)
 exact⟨o,x.keep c o (λz=>by rw[z,e2] at e;cases e;cases hd) e (fh λfs q=>by rw[hd] at q;cases q),hd⟩
theorem Ns.chg(x:Cg ad s s'){xs:List Int}(l:f6 s.heap ad xs)(h:s.heap.Ns a m):s'.heap.Ns a m:=by
 refine aa λhQ=>?_
 obtain⟨o,es,ep,e,hd,r⟩:=h
 obtain⟨vs,k,e2,_⟩:=l
 (refine hQ ?_;clear hQ)
 exact⟨o,es,ep,x.keep a o (λz=>by rw[z,e2] at e;cases e;cases hd) e (fh λfs q=>by rw[hd] at q;cases q),hd,r⟩
theorem I2.chg(d:I2 W f fd cA cI cN ad n s)(g:cU W s')(x:Cg ad s s'){xs:List Int}(l:f6 s.heap ad xs):I2 W f fd cA cI cN ad n s':=by
 refine aa λhQ=>?_
 obtain⟨vs,k,e2,_⟩:=l
 (refine hQ ?_;clear hQ)
 have l:f6 s.heap ad xs:=⟨vs,k,e2,by assumption⟩
 refine⟨g,?_,?_,Cell.chg x l d.cellA,Cell.chg x l d.cellI,(let⟨t,c⟩:=d.cellN;⟨t,Cell.chg x l c⟩)⟩
 ·obtain⟨o,e,h⟩:=d.ho
  exact⟨o,x.keep f o (λz=>by rw[z,e2] at e;cases e;cases h) e (fh λfs q=>by rw[h] at q;cases q),h⟩
 ·refine aa λhQ=>?_
  obtain⟨c,o,v,t,e1,e3,e4,e5⟩:=d.hcd
  (refine hQ ?_;clear hQ)
  exact⟨c,o,v,t,e1,x.keep c o (λz=>by rw[z,e2] at e3;cases e3;cases e4) e3 (λz=>by(obtain⟨fs,f1,f2⟩:=z.2;rw[e4] at f1;cases f1;exact f2 _ _ e5)),e4,e5⟩
theorem I2.ext(d:I2 W f fd cA cI cN ad n s)(x:SX W s s'):I2 W f fd cA cI cN ad n s' :=
 ⟨x.good,(let⟨o,e,h⟩:=d.ho;⟨o,x.keep _ _ e (fh λfs q=>by rw[h] at q;cases q),h⟩),CodeRec.ext x d.hcd,Cell.ext x d.cellA,Cell.ext x d.cellI,(let⟨t,a⟩:=d.cellN;⟨t,Cell.ext x a⟩)⟩
theorem FI.cxMove{Γ:eX}{sc:Scope}{own:Nat→Addr}(fi:FI W Γ sc s₀ env M₀ own M ρ s)(so:lD Γ sc env)(hf:∀sl∈ρ,iH sl=true)(g:cU W s')(x:Cg ad s s'){xs:List Int}(l:f6 s.heap ad xs){m:Nat}(rm:dA W A m) :
  Cx W Γ sc m lh A s' env [] ρ:=by
 refine⟨λ_ _ _ _ _ e=>(by cases e),rm.w,g,so.ek,λ_ h=>(by cases h),λy i hy sl hs=>?_,⟨let⟨m,n⟩:=fi.lay.ns;⟨m,Ns.chg x l n⟩,λy c e=>let⟨v,h⟩:=fi.lay.cell y c e;⟨v,Cell.chg x l h⟩⟩,fi.len,so.wf⟩
 have hv:=fi.vis y i hy sl hs
 have hfl:=hf sl (aW hs)
 cases sl with
 |mx _ _=>trivial
 |un=>trivial
 |sh u =>
  refine aa λhQ=>?_
  obtain⟨h1,v,h2,h3⟩:=hv
  (refine hQ ?_;clear hQ)
  refine⟨h1,v,?_,?_⟩
  ·rcases h2 with⟨k1,m,ns,e⟩ | ⟨k1,c,e,hc⟩
   ·exact .inl ⟨k1,m,Ns.chg x l ns,e⟩
   ·exact .inr ⟨k1,c,e,Cell.chg x l hc⟩
  ·cases u with
   |d d=>exact Rep.flat hfl h3
   |_=>cases hfl
 |ow _=>cases hfl
end
noncomputable def sX:Str:=Str.ofString "x"
noncomputable def Fg:Str:=Str.ofString "upper"
noncomputable def G9:Str:=Str.ofString "lower"
noncomputable def pQ:Str:=Str.ofString "a_digits"
noncomputable def JN(q:Nat→Pos)(k:Nat→Nat):Stmt:=.If (.Compare (.BinOp (.Name sL (q 1)) .Add (.Constant (.int 1) (k 1) (q 2)) (q 3)) [.Eq] [.Name sR (q 4)] (q 5)) [.Assign [.Subscript (.Name pQ (q 6)) (.Name sL (q 7)) (q 8)] (.Name sX (q 9)) (q 10),.Return none (q 11)] [] (q 12)
noncomputable def FC(q:Nat→Pos)(k:Nat→Nat):Stmt:=.Assign [.Name ka (q 13)] (.BinOp (.BinOp (.Name sL (q 14)) .Add (.Name sR (q 15)) (q 16)) .RShift (.Constant (.int 1) (k 2) (q 17)) (q 18)) (q 19)
noncomputable def w7(q:Nat→Pos):Stmt:=.Assign [.Name gb (q 20)] (.BinOp (.BinOp (.Name ka (q 21)) .Sub (.Name sL (q 22)) (q 23)) .Mult (.Name sN (q 24)) (q 25)) (q 26)
noncomputable def IM(q:Nat→Pos):Stmt:=.Assign [.Name Fg (q 27)] (.BinOp (.Name sX (q 28)) .RShift (.Name gb (q 29)) (q 30)) (q 31)
noncomputable def H8(q:Nat→Pos):Stmt:=.Assign [.Name G9 (q 32)] (.BinOp (.Name sX (q 33)) .BitXor (.BinOp (.Name Fg (q 34)) .LShift (.Name gb (q 35)) (q 36)) (q 37)) (q 38)
noncomputable def JE(q:Nat→Pos):Stmt:=.Expr (.Call (.Name bR (q 39)) [.Name G9 (q 40),.Name sL (q 41),.Name ka (q 42)] [] (q 43)) (q 44)
noncomputable def J2(q:Nat→Pos):Stmt:=.Expr (.Call (.Name bR (q 45)) [.Name Fg (q 46),.Name ka (q 47),.Name sR (q 48)] [] (q 49)) (q 50)
noncomputable def oV(q:Nat→Pos)(k:Nat→Nat):List Stmt:=[JN q k,FC q k,w7 q,IM q,H8 q,JE q,J2 q]
noncomputable def GF:List Str:=[sX,sL,sR,ka,gb,Fg,G9,sN]
noncomputable def kR:eX:=fI GF
theorem gi2:kR.vars.lookup sX=some 0∧kR.vars.lookup sL=some 1∧kR.vars.lookup sR=some 2∧kR.vars.lookup ka=some 3∧kR.vars.lookup gb=some 4∧kR.vars.lookup Fg=some 5∧kR.vars.lookup G9=some 6∧kR.vars.lookup sN=some 7:=by decide +kernel
theorem JH:bI sX=true∧bI Fg=true∧bI G9=true∧bI pQ=true:=by decide +kernel
structure Jj(sc:Scope):Prop where
 kind:sc.kind=.function
 co:sc.isCoroutine=false
 gen:sc.isGenerator=false
 x:sc.names.lookup sX=some .local
 l:sc.names.lookup sL=some .local
 r:sc.names.lookup sR=some .local
 mid:sc.names.lookup ka=some .local
 shift:sc.names.lookup gb=some .local
 up:sc.names.lookup Fg=some .local
 lo:sc.names.lookup G9=some .local
 ad:sc.names.lookup pQ=some .free
 n:sc.names.lookup sN=some .free
 inner:sc.names.lookup bR=some .free
 noc:∀p∈sc.names,p.2≠.cell
 frees:∀x,sc.names.lookup x=some .free→x=pQ∨x=sN∨x=bR
structure Jp(fd:FuncData)(cA cI cN:Addr)(q:Nat→Pos)(k:Nat→Nat):Prop where
 body:fd.body=.stmts (oV q k)
 sc:Jj fd.scope
 glob:fd.globals=mainGlobals
 blt:fd.builtins=builtinsNs
 bind:∀u v w:Value,bindArgs fd ⟨[u,v,w],[]⟩=pure [(sX,u),(sL,v),(sR,w)]
 c1:fd.closure.lookup pQ=some cA
 c2:fd.closure.lookup bR=some cI
 c3:fd.closure.lookup sN=some cN
 only:∀x c,fd.closure.lookup x=some c→x=pQ∨x=sN∨x=bR
 n1:cA≠cI
 n2:cA≠cN
 n3:cI≠cN
noncomputable def rI(x L R:Int)(mid shift up lo:Mine.Slot)(n:Nat):Ev:=[.sh (.d (.int x)),.sh (.d (.int L)),.sh (.d (.int R)),mid,shift,up,lo,.sh (.d (.int (n:Int)))]
section
variable{W:Wd}{f:Addr}{cA cN:Addr}{q:Nat→Pos}{k:Nat→Nat}
theorem I2.cells(F:Jp fd cA cI cN q k)(d:I2 W f fd cA cI cN ad n s):(∀x c,fd.closure.lookup x=some c→∃v,s.heap.IsCell c v)∧(∀x y c,fd.closure.lookup x=some c→fd.closure.lookup y=some c→x=y):=by
 have key:∀x c,fd.closure.lookup x=some c→(x=pQ∧c=cA)∨(x=bR∧c=cI)∨(x=sN∧c=cN):=λx c e=>by
  rcases F.only x c e with rfl | rfl | rfl
  ·rw[F.c1] at e;cases e;exact .inl ⟨rfl,rfl⟩
  ·rw[F.c3] at e;cases e;exact .inr (.inr ⟨rfl,rfl⟩)
  ·rw[F.c2] at e;cases e;exact .inr (.inl ⟨rfl,rfl⟩)
 refine⟨λx c e=>?_,λx y c e1 e2=>?_⟩
 ·rcases key x c e with⟨_,rfl⟩ | ⟨_,rfl⟩ | ⟨_,rfl⟩
  ·exact⟨_,d.cellA⟩
  ·exact⟨_,d.cellI⟩
  ·obtain⟨t,a⟩:=d.cellN;exact⟨_,a⟩
 ·have n1:=F.n1;have n2:=F.n2;have n3:=F.n3
  rcases key x c e1 with⟨rfl,rfl⟩ | ⟨rfl,rfl⟩ | ⟨rfl,rfl⟩<;>rcases key y _ e2 with⟨rfl,h⟩ | ⟨rfl,h⟩ | ⟨rfl,h⟩<;>first | rfl | exact absurd h ‹_› | exact absurd h.symm ‹_›
theorem tz(F:Jp fd cA cI cN q k){lv:Nat}{x L R:Int}{tx tl tr:Tok}(rm:dA W A (lv+1))(d:I2 W f fd cA cI cN ad n s)
  (h:∀env s₁,lD kR fd.scope env→SX W s s₁→FI W kR fd.scope s env [] (λ_=>0) [env.locals] (rI x L R .un .un .un .un n) s₁→(∀s',I2 W f fd cA cI cN ad n s'→c_ s'.heap env bR (.ref f)∧c_ s'.heap env pQ (.ref ad))→dA W (A.deeper env) lv →
   ∀E':Value→Shared→Prop,wpAny (model W.prog W.w) (A.deeper env) (execs (oV q k) env) (λfl s'=>Q (Gc fl) s') E' s₁) :
  wpAny (model W.prog W.w) A (call (.ref f) [.int x tx,.int L tl,.int R tr] []) Q E s:=by
 refine aa λhQ=>?_
 obtain⟨o,ho,hd⟩:=d.ho
 obtain⟨hcl,cinj⟩:=d.cells F
 (refine hQ ?_;clear hQ)
 refine tN (ps:=[sX,sL,sR]) (ns:=GF) (ds:=[.int x,.int L,.int R]) (fs:=[none,none,none,none,some (.int (n:Int))]) d.good rm ho hd d.hcd F.body (F.bind _ _ _) F.glob F.blt F.sc.kind F.sc.co F.sc.gen F.sc.noc
  ?_ (by decide +kernel) (by decide +kernel) rfl rfl ?_ cinj hcl (.cons (.int _ _) (.cons (.int _ _) (.cons (.int _ _) .nil))) rfl rfl ?_ λenv s₁ hcells hkind so x1 fi rm'=>?_
 ·intro y hy
  simp only[ah,List.not_mem_nil,or_false] at hy
  rcases hy with rfl | rfl | rfl
  ·exact F.sc.x
  ·exact F.sc.l
  ·exact F.sc.r
 ·intro x hx
  rcases F.sc.frees x hx with rfl | rfl | rfl
  ·exact⟨_,F.c1⟩
  ·exact⟨_,F.c3⟩
  ·exact⟨_,F.c2⟩
 ·intro i y dd hy hi
  rcases i with _ | _ | _ | _ | _ | i
  ·simp at hi
  ·simp at hi
  ·simp at hi
  ·simp at hi
  ·simp at hi;subst hi
   have:y=sN:=by simp[GF] at hy;exact hy.symm
   subst this
   obtain⟨t,a⟩:=d.cellN
   exact⟨F.sc.n,_,_,F.c3,a,.int _ _⟩
  ·simp at hi
 ·exact h env s₁ so x1 fi (λs' d'=>⟨.inr ⟨.inr (by rw[hkind];exact F.sc.inner),cI,by rw[hcells];exact F.c2,d'.cellI⟩,.inr ⟨.inr (by rw[hkind];exact F.sc.ad),cA,by rw[hcells];exact F.c1,d'.cellA⟩⟩) rm' _
end
noncomputable def Fj:CE:=.cmp .Eq (.bin .Add (.var 1) (.lit (.int 1))) (.var 2)
noncomputable def IU:CS:=.asg 3 (.bin .RShift (.bin .Add (.var 1) (.var 2)) (.lit (.int 1)))
noncomputable def Cb:CS:=.asg 4 (.bin .Mult (.bin .Sub (.var 3) (.var 1)) (.var 7))
noncomputable def Ky:CS:=.asg 5 (.bin .RShift (.var 0) (.var 4))
noncomputable def KF:CS:=.asg 6 (.bin .BitXor (.var 0) (.bin .LShift (.var 5) (.var 4)))
section
variable{W:Wd}{q:Nat→Pos}{k:Nat→Nat}
theorem wM(sc:Scope):gu W kR sc (.Compare (.BinOp (.Name sL (q 1)) .Add (.Constant (.int 1) (k 1) (q 2)) (q 3)) [.Eq] [.Name sR (q 4)] (q 5)) Fj:=by
 refine aa λhQ=>?_
 obtain⟨g0,g1,g2,g3,g4,g5,g6,g7⟩:=gi2
 obtain⟨o0,o1,o2,o3,o4,o5,o6⟩:=Ht
 (refine hQ ?_;clear hQ)
 exact lT (d9 (bK o0 g1) hG) (bK o1 g2) rfl
theorem Bb(sc:Scope)(S:Jj sc):dg W kR sc (FC q k) IU∧dg W kR sc (w7 q) Cb∧dg W kR sc (IM q) Ky∧dg W kR sc (H8 q) KF:=by
 refine aa λhQ=>?_
 obtain⟨g0,g1,g2,g3,g4,g5,g6,g7⟩:=gi2
 obtain⟨o0,o1,o2,o3,o4,o5,o6⟩:=Ht
 obtain⟨p0,p1,p2,p3⟩:=JH
 (refine hQ ?_;clear hQ)
 exact⟨oA ⟨g3,.inl S.mid⟩ rfl (d9 (d9 (bK o0 g1) (bK o1 g2)) hG),oA ⟨g4,.inl S.shift⟩ rfl (d9 (d9 (bK o2 g3) (bK o0 g1)) (bK o5 g7)),
  oA ⟨g5,.inl S.up⟩ rfl (d9 (bK p0 g0) (bK o3 g4)),oA ⟨g6,.inl S.lo⟩ rfl (d9 (bK p0 g0) (d9 (bK p1 g5) (bK o3 g4)))⟩
theorem uA{x:Int}{L m:Nat}{a b c d:Mine.Slot}:ak lh Fj (rI x L ((L+m:Nat):Int) a b c d n)=some (.d (.bool (decide (m=1)))):=by
 have h1:decide (((L:Int)+1)=((L+m:Nat):Int))=decide (m=1):=by
  by_cases h:m=1
  ·subst h;rw[aO rfl,aO (by push_cast;rfl)]
  ·rw[ba h,ba (by push_cast;lia)]
 exact(du (gZ (bi rfl) cu rfl) (bi rfl) (uz)).trans (by rw[h1])
theorem D7{x:Int}{L m:Nat}{b c d:Mine.Slot}:gS lh 0 IU (rI x L ((L+m:Nat):Int) .un b c d n)=some (rI x L ((L+m:Nat):Int) (.sh (.d (.int ((L+m / 2:Nat):Int)))) b c d n,.nx):=by
 refine(ev_asg (v:=.d (.int ((L+m / 2:Nat):Int))) (gZ (gZ (bi rfl) (bi rfl) rfl) cu ?_) rfl)
 show some (((L:Int)+((L+m:Nat):Int)).fdiv (2^(1:Int).toNat))=_
 rw[←IX (L:=L) (m:=m)]
 push_cast
 rfl
theorem yT{x:Int}{L m:Nat}{R:Int}{c d:Mine.Slot}(hm:m<2^60)(hn:n<2^60):gS lh 0 Cb (rI x L R (.sh (.d (.int ((L+m:Nat):Int)))) .un c d n)=some (rI x L R (.sh (.d (.int ((L+m:Nat):Int)))) (.sh (.d (.int ((m*n:Nat):Int)))) c d n,.nx):=by
 have h1:((L+m:Nat):Int)-(L:Int)=(m:Int):=by push_cast;lia
 refine(ev_asg (v:=.d (.int ((m*n:Nat):Int))) (gZ (gZ (bi rfl) (bi rfl) rfl) (bi rfl) ?_) rfl)
 rw[h1,rC,lJ hm,lJ hn,Int.natCast_mul]
 rfl
theorem Bw{x s:Nat}:i_ .RShift (x:Int) (s:Int)=some ((x / 2^s:Nat):Int):=by
 rw[Cl,aO (aK s),aR,Int.fdiv_eq_ediv_of_nonneg _ (bn (Int.pow_pos (by decide)))]
 rfl
theorem F1{x s:Nat}{L R:Int}{a d:Mine.Slot}:gS lh 0 Ky (rI x L R a (.sh (.d (.int (s:Int)))) .un d n)=some (rI x L R a (.sh (.d (.int (s:Int)))) (.sh (.d (.int ((x / 2^s:Nat):Int)))) d n,.nx) :=
 ev_asg (v:=.d (.int ((x / 2^s:Nat):Int))) (gZ (bi rfl) (bi rfl) Bw) rfl
theorem Hz{x s:Nat}{L R:Int}{a:Mine.Slot}(hx:iz ((x / 2^s:Nat):Int)=true)(hs:(s:Int)≤8000):gS lh 0 KF (rI x L R a (.sh (.d (.int (s:Int)))) (.sh (.d (.int ((x / 2^s:Nat):Int)))) .un n) =
  some (rI x L R a (.sh (.d (.int (s:Int)))) (.sh (.d (.int ((x / 2^s:Nat):Int)))) (.sh (.d (.int ((x % 2^s:Nat):Int)))) n,.nx):=by
 have hb:i_ .BitXor (x:Int) (((x / 2^s:Nat):Int)*2^s)=some ((x % 2^s:Nat):Int):=by
  have:(((x / 2^s:Nat):Int)*2^s)=((x / 2^s*2^s:Nat):Int):=by push_cast;rfl
  rw[this,←wk];rfl
 exact ev_asg (v:=.d (.int ((x % 2^s:Nat):Int))) (gZ (bi rfl) (gZ (bi rfl) (bi rfl) (pO hx hs)) hb) rfl
end
theorem Ge{xs:List α}{L:Nat}{v:α}(h:L<xs.length):xs.set L v=xs.take L++[v]++xs.drop (L+1):=by
 rw[List.set_eq_take_append_cons_drop,if_pos h];simp
section
variable{W:Wd}{f:Addr}{cA cN:Addr}{q:Nat→Pos}{k:Nat→Nat}
theorem DH{x L R:Int}{a b c d:Mine.Slot}(ha:iH a=true)(hb:iH b=true)(hc:iH c=true)(hd:iH d=true):∀sl∈rI x L R a b c d n,iH sl=true:=by
 intro sl h
 simp only[rI,ah,List.not_mem_nil,or_false] at h
 rcases h with rfl | rfl | rfl | rfl | rfl | rfl | rfl | rfl<;>first | rfl | assumption
theorem Aw(F:Jp fd cA cI cN q k)(hst:¬W.stat ad)(hn:1≤n)(N:Nat)(hsz:n*N≤2900):∀(lv:Nat) (L m x:Nat) (xs:List Int) (A:Around) (s:Shared) (tx tl tr:Tok) (E Q:Value→Shared→Prop),1≤m→m≤2^lv→L+m≤N→xs.length=N→x<2^(n*m) →
  dA W A (lv+1)→I2 W f fd cA cI cN ad n s→f6 s.heap ad xs →
  (∀s',cU W s'→Cg ad s s'→f6 s'.heap ad (xs.take L++dig n m x++xs.drop (L+m))→Q .none s')→wpAny (model W.prog W.w) A (call (.ref f) [.int (x:Int) tx,.int (L:Int) tl,.int ((L+m:Nat):Int) tr] []) Q E s:=by
 have hN:N≤2900:=ab (Nat.le_mul_of_pos_left _ hn) hsz
 refine aa λhQ=>?_
 obtain⟨g0,g1,g2,g3,g4,g5,g6,g7⟩:=gi2
 obtain⟨o0,o1,o2,o3,o4,o5,o6⟩:=Ht
 obtain⟨p0,p1,p2,p3⟩:=JH
 (refine hQ ?_;clear hQ)
 have one:∀(lv:Nat) (L x:Nat) (xs:List Int) (A:Around) (s:Shared) (tx tl tr:Tok) (E Q:Value→Shared→Prop),L+1≤N→xs.length=N→x<2^(n*1) →
   dA W A (lv+1)→I2 W f fd cA cI cN ad n s→f6 s.heap ad xs →
   (∀s',cU W s'→Cg ad s s'→f6 s'.heap ad (xs.take L++dig n 1 x++xs.drop (L+1))→Q .none s')→wpAny (model W.prog W.w) A (call (.ref f) [.int (x:Int) tx,.int (L:Int) tl,.int ((L+1:Nat):Int) tr] []) Q E s:=by
  intro lv L x xs A s tx tl tr E Q h3 hl hx rm d ha h
  refine tz F rm d λenv s₁ so x1 fi hv rm' E'=>?_
  refine aV (wpAny_If (wM fd.scope lv lh _ s₁ env _ _ _ true _ _ (fi.cx so fJ rm') uA rfl λs₂ x2=>?_))
  rw[if_pos rfl]
  have fi2:=fi.ext x2
  have d2:=d.ext (x1.trans x2)
  refine aV (wpAny_Assign_Subscript ((bK p0 g0) lv lh _ s₂ env _ _ _ _ _ (fi2.cx so fJ rm') rfl λxv s₃ x3 r3=>?_))
  have fi3:=fi2.ext x3
  have d3:=d2.ext x3
  refine fe p3 (dI so.ek) (hv s₃ d3).2 ((bK o0 g1) lv lh _ s₃ env _ _ _ _ _ (fi3.cx so fJ rm') rfl λlv' s₄ x4 r4=>?_)
  obtain⟨t3,rfl⟩:=cG r3
  obtain⟨t4,rfl⟩:=cG r4
  have x04:=((x1.trans x2).trans x3).trans x4
  obtain⟨vs,kk,e4,r4'⟩:=ha.ext x04
  have hvl:=r4'.length
  rw[aD,af] at hvl
  refine gJ e4 (aK L) (Int.lt_of_lt_of_le (b:=4000) (iy (Nat.le_of_succ_le h3) (iy hN (c8 rfl))) (by decide)) (by rw[hvl];lia) λh' k' e' hsb=>?_
  refine aV (wpAny_Return_none ?_)
  rw[aR] at e'
  have gd:cU W {s₄ with heap:=h'}:=⟨W.mono x4.good.ok λb o z e=>hsb.extBut b o (λy=>by
   subst y
   rcases z with z | z
   ·exact hst z
   ·rw[e4] at e;cases e;exact z vW) e,x4.good.bare⟩
  refine h _ gd ((Cg.of_SX x04).trans ⟨λb o hb e _=>hsb.extBut b o hb e,λb o e=>?_,rfl,λ_ _ e=>e⟩) ⟨_,k',e',?_⟩
  ·by_cases z:b=ad
   ·subst z;exact⟨_,e'⟩
   ·exact⟨o,hsb.extBut b o z e⟩
  ·rw[Ew (by simpa using hx),←Ge (ae (bO L) (ab h3 (aw (Eq.symm hl)))),Array.toList_setIfInBounds,List.map_set]
   exact jl (by rw[←List.map_set];exact jf _) (Reps.set (.int _ t3) r4' L)
 intro lv
 induction lv with
 |zero =>
  intro L m x xs A s tx tl tr E Q h1 h2 h3 hl hx rm d ha h
  have:m=1:=by have:(2:Nat)^0=1:=rfl;exact Nat.le_antisymm (by assumption) (by assumption)
  subst this
  exact one 0 L x xs A s tx tl tr E Q h3 hl hx rm d ha h
 |succ lv ih =>
  intro L m x xs A s tx tl tr E Q h1 h2 h3 hl hx rm d ha h
  by_cases hm:m=1
  ·subst hm;exact one _ L x xs A s tx tl tr E Q h3 hl hx rm d ha h
  have hpow:2^(lv+1)=2*2^lv:=by rw[Nat.pow_succ];exact Nat.mul_comm _ _
  have hn60:n<2^60:=by
   have h1:n≤n*N:=Nat.le_mul_of_pos_right _ (ae (Nat.lt_of_succ_lt_succ (cK h1)) (ab (ao m L) h3))
   exact ae (m:=3000) (au h1 (au hsz (c8 rfl))) (by decide)
  have hsh:m / 2*n≤n*N:=by rw[Nat.mul_comm];exact Nat.mul_le_mul_left n (ab (Nat.div_le_self m 2) (ab (ao m L) h3))
  have hsh8:((m / 2*n:Nat):Int)≤8000:=by generalize m / 2*n=z at hsh ⊢;exact vo hsh (vo hsz (c8 rfl))
  have hpp:2^(n*m)=2^(m / 2*n)*2^(n*(m-m / 2)):=by
   rw[←Nat.pow_add,Nat.mul_comm (m / 2),←Nat.mul_add];congr 2;exact sr m
  have hup:x / 2^(m / 2*n)<2^(n*(m-m / 2)):=by rw[hpp] at hx;exact Nat.div_lt_of_lt_mul hx
  have hlo:x % 2^(m / 2*n)<2^(n*(m / 2)):=by rw[Nat.mul_comm n];exact Nat.mod_lt _ (Nat.pow_pos (by decide))
  have hfit:iz ((x / 2^(m / 2*n):Nat):Int)=true:=by
   refine oh (k:=n*(m-m / 2)) (aK _) (by exact_mod_cast hup) ?_
   have:=Nat.mul_le_mul_left n (show m-m / 2≤N by exact ab (cO m (m / 2)) (ab (ao m L) h3))
   exact ab this (ab hsz (c8 rfl))
  refine tz F rm d λenv s₁ so x1 fi hv rm' E'=>?_
  refine aV (wpAny_If (wM fd.scope (lv+1) lh _ s₁ env _ _ _ (decide (m=1)) _ _ (fi.cx so fJ rm') uA rfl λs₂ x2=>?_))
  rw[ba hm,if_neg Bool.false_ne_true]
  refine wpAny_execs_nil ?_
  have fi2:=fi.ext x2
  refine aa λhQ=>?_
  obtain⟨S1,S2,S3,S4⟩:=Bb (W:=W) (q:=q) (k:=k) fd.scope F.sc
  (refine hQ ?_;clear hQ)
  refine aV (S1 (lv+1) lh 0 _ env s s₂ [] _ _ _ _ _ _ _ fJ rm' so fi2 D7 λown3 M3 s3 fl3 fi3 st3 fr3=>?_)
  rw[fr3.next]
  refine aV (S2 (lv+1) lh 0 _ env s s3 [] _ _ _ _ _ _ _ fJ rm' so fi3 (yT (ae (m:=3000) (by lia) (by decide)) hn60) λown4 M4 s4 fl4 fi4 st4 fr4=>?_)
  rw[fr4.next]
  refine aV (S3 (lv+1) lh 0 _ env s s4 [] _ _ _ _ _ _ _ fJ rm' so fi4 F1 λown5 M5 s5 fl5 fi5 st5 fr5=>?_)
  rw[fr5.next]
  refine aV (S4 (lv+1) lh 0 _ env s s5 [] _ _ _ _ _ _ _ fJ rm' so fi5 (Hz hfit hsh8) λown6 M6 s6 fl6 fi6 st6 fr6=>?_)
  rw[fr6.next]
  have d6:=d.ext fi6.x
  have a6:=ha.ext fi6.x
  have hk:=dI so.ek
  have hint:interactive env=false:=by unfold interactive;rw[hk];rfl
  refine aV (wpAny_Expr ?_ hint rfl)
  refine ki o6 (fi6.cx so fJ rm') (hv s6 d6).1 (let⟨o,a,b⟩:=d6.ho;⟨o,_,a,b⟩) (.cons rfl (bK p2 g6) (.cons rfl (bK o0 g1) (.cons rfl (bK o2 g3) .nil))) rfl λvals s7 x7 r7=>?_
  cases r7 with
  |cons ra rb =>
  cases rb with
  |cons rb rc =>
  cases rc with
  |cons rc rd' =>
  cases rd'
  obtain⟨t1,rfl⟩:=cG ra
  obtain⟨t2,rfl⟩:=cG rb
  obtain⟨t3,rfl⟩:=cG rc
  refine ih L (m / 2) (x % 2^(m / 2*n)) xs _ s7 t1 t2 t3 _ _ (wJ h1 hm) (Nat.div_le_of_le_mul (ab h2 (aw hpow))) (bz (ab (ay L m) h3)   (ab (Nat.div_le_self m 2) (dG h3))) hl hlo rm' (d6.ext x7) (a6.ext x7) λs8 gd8 cg8 a8=>?_
  have cg68:Cg ad s6 s8:=(Cg.of_SX x7).trans cg8
  have d8:=d6.chg gd8 cg68 a6
  have cx8:=fi6.cxMove so (DH rfl rfl rfl rfl) gd8 cg68 a6 rm'
  refine aV (wpAny_Expr ?_ hint rfl)
  refine ki o6 cx8 (hv s8 d8).1 (let⟨o,a,b⟩:=d8.ho;⟨o,_,a,b⟩) (.cons rfl (bK p1 g5) (.cons rfl (bK o2 g3) (.cons rfl (bK o1 g2) .nil))) rfl λvals s9 x9 r9=>?_
  cases r9 with
  |cons ra9 rb9 =>
  cases rb9 with
  |cons rb9 rc9 =>
  cases rc9 with
  |cons rc9 rd9 =>
  cases rd9
  obtain⟨t4,rfl⟩:=cG ra9
  obtain⟨t5,rfl⟩:=cG rb9
  obtain⟨t6,rfl⟩:=cG rc9
  have hR:L+m=(L+m / 2)+(m-m / 2):=by exact ua L m
  have fin:=ih (L+m / 2) (m-m / 2) (x / 2^(m / 2*n)) (xs.take L++dig n (m / 2) (x % 2^(m / 2*n))++xs.drop (L+m / 2)) (A.deeper env) s9 t4 t5 t6 E' (λv s'=>v=.none∧Q .none s') (xx h1) (w9 (ab h2 (aw hpow))) (ab (aw (Eq.symm hR)) h3)
   (by simp[kS,hl];lia) hup rm' (d8.ext x9) (a8.ext x9) λs10 gd10 cg10 a10=>⟨rfl,by
    refine h s10 gd10 (((Cg.of_SX fi6.x).trans cg68).trans ((Cg.of_SX x9).trans cg10)) ?_
    have hlen:(xs.take L++dig n (m / 2) (x % 2^(m / 2*n))).length=L+m / 2:=by
     rw[aG,bx,kS,Nat.min_eq_left (ab (ay L m) (ab h3 (aw (Eq.symm hl))))]
    have e1:(xs.take L++dig n (m / 2) (x % 2^(m / 2*n))++xs.drop (L+m / 2)).take (L+m / 2)=xs.take L++dig n (m / 2) (x % 2^(m / 2*n)):=List.take_left' hlen
    have e2:(xs.take L++dig n (m / 2) (x % 2^(m / 2*n))++xs.drop (L+m / 2)).drop (L+m / 2+(m-m / 2))=xs.drop (L+m):=by
     rw[←List.drop_drop,List.drop_left' hlen,List.drop_drop,←hR]
    rw[e1,e2] at a10
    have e3:dig n m x=dig n (m / 2) (x % 2^(m / 2*n))++dig n (m-m / 2) (x / 2^(m / 2*n)):=by
     have:=yU n (m-m / 2) (m / 2) x
     rw[show m / 2+(m-m / 2)=m by exact cw (Nat.div_le_self m 2),Nat.mul_comm n (m / 2)] at this
     exact this
    rw[e3,←bu]
    exact a10⟩
  rw[←hR] at fin
  refine bA fin (λv s' hv'=>?_) λ_ _ z=>z
  obtain⟨rfl,hq⟩:=hv'
  exact wpAny_execs_nil hq
end
set_option backward.match.sparseCases false
noncomputable def nn(a n:Nat):Nat:=((ee (a:Int)).toNat+n-1) / n
noncomputable def me(as:List V):Option V:=(zA as).bind λp=>(dM p.1).bind λa=>(dM p.2).bind λn=>if decide (0≤a)&&decide (1≤n)&&decide (ee a+n≤2900) then some (.d (.list ((dig n.toNat (nn a.toNat n.toNat) a.toNat).map .int))) else none
theorem kX(a:Nat):∃b:Nat,ee (a:Int)=(b:Int)∧a<2^b:=by
 by_cases h:a=0
 ·subst h;exact⟨0,rfl,by decide⟩
 ·refine⟨a.log2+1,?_,Nat.lt_log2_self⟩
  unfold ee
  rw[if_neg (xZ (Nat.pos_of_ne_zero h)),Int.natAbs_natCast]
theorem BT{a:Nat}(hn:1≤n)(h:ee (a:Int)+(n:Int)≤2900):n*nn a n≤2900∧a<2^(n*nn a n):=by
 refine aa λhQ=>?_
 obtain⟨b,hb,hl⟩:=kX a
 (refine hQ ?_;clear hQ)
 unfold nn
 rw[hb] at h ⊢
 rw[aR]
 have h1:n*((b+n-1) / n)≤b+n-1:=Nat.mul_div_le _ _
 have h2:b≤n*((b+n-1) / n):=by
  have:=Nat.div_add_mod (b+n-1) n
  have:=Nat.mod_lt (b+n-1) (show 0<n by assumption)
  (clear h1 hl hb h hn;lia)
 exact⟨by(clear h2 hl hb hn;omega),ae hl (Nat.pow_le_pow_right (by decide) h2)⟩
section
variable{W:Wd}{Γ:eX}{sc:Scope}
theorem Hk{es:List Expr}{b:Expr}{cb:CE}{lp:Pos}(H:fC W Γ sc es cs)(hb:bJ W Γ sc b cb):n8 W Γ sc (.BinOp (.List es lp) .Mult b p) (.bin .Mult (.list cs) cb):=λn Φ A s env M ρ xs E Q c e h=>by
 obtain⟨x,e1,e⟩:=aJ e
 obtain⟨y,e2,e⟩:=aJ e
 obtain⟨ys,e3,e1⟩:=aJ e1
 obtain⟨q0,e1⟩:=cq e1
 rw[←e1] at e
 obtain⟨d,hd,e⟩:=aJ (show((kq y).bind λb=>I6 .Mult (.list ys) b)=some (V.d (.list xs)) from e)
 obtain⟨i,hi,e⟩:=aJ e
 obtain⟨q,e⟩:=cq e
 rw[eO hd,gL hi] at e2
 clear e1 hd hi
 rw[ag,ag,ar] at q
 have q1:=cW q.1.2
 have q3:=q.1.1
 refine wpAny_BinOp (wpAny_List (jj H c e3 λvals s₁ x1 r1=>⟨by rw[r1.length];exact ab (cW q0) (by decide),?_⟩))
 have x2:SX W s₁ {s₁ with heap:=s₁.heap.push (bU vals.toArray 0)}:=SX.push (tk:=s₁.toks) x1.good
 refine hb n Φ A _ env M ρ _ E _ (c.ext (x1.trans x2)) e2 λyv s₃ x3 r3=>iX r3 λt=>?_
 refine o7 (x3.keep _ _ (aI _ rfl) cV) (by exact Int.le_trans (by decide) q3) (by(clear r3 x3 x2 r1 x1 q3 e q e2 q0 e1 e3 h c hb H;lia)) (by rw[List.size_toArray,r1.length];exact ab (cW q.2) (by decide)) ?_
 have x4:SX W s₃ {s₃ with heap:=s₃.heap.push (bU (List.foldl (λx1 x2=>x1++x2) #[] (List.replicate (if vals.toArray.isEmpty=true then 0 else i.toNat) vals.toArray)) 0)}:=SX.push (tk:=s₃.toks) x3.good
 refine h _ _ _ _ (((x1.trans x2).trans x3).trans x4) (((x1.trans x2).trans x3).fresh (bD _)) (aI _ rfl) ?_
 rw[rH,←PyData.list.inj (vp e)]
 exact Reps.mono (M:=M) (λb o _ e n=>x4.keep b o e n) (λa ha=>(ah.mp ha).elim (λq=>.inr (q▸bD _)) .inl) (Reps.replicate ((r1.ext x2).ext x3) _)
end
set_option backward.match.sparseCases true
noncomputable def sA:Str:=Str.ofString "a"
noncomputable def j4:List Str:=[sA,sN,pQ,bR]
noncomputable def sM:Str:=Str.ofString "bit_length"
noncomputable def Cv(q:Nat→Pos)(k:Nat→Nat):Stmt:=.Assign [.Name pQ (q 1)] (.BinOp (.List [.Constant (.int 0) (k 1) (q 2)] (q 3)) .Mult
 (.BinOp (.BinOp (.BinOp (.Call (.Attribute (.Name sA (q 4)) sM (q 5)) [] [] (q 6)) .Add (.Name sN (q 7)) (q 8)) .Sub (.Constant (.int 1) (k 2) (q 9)) (q 10)) .FloorDiv (.Name sN (q 11)) (q 12)) (q 13)) (q 14)
noncomputable def Fi(q:Nat→Pos)(k:Nat→Nat):Stmt:=.If (.Name sA (q 15)) [.Expr (.Call (.Name bR (q 16)) [.Name sA (q 17),.Constant (.int 0) (k 3) (q 18),.Call (.Name rU (q 19)) [.Name pQ (q 20)] [] (q 21)] [] (q 22)) (q 23)] [] (q 24)
noncomputable def EG(q:Nat→Pos):Stmt:=.Return (some (.Name pQ (q 25))) (q 26)
structure Kx(B:eZ)(a:Addr)(fd:FuncData)(t:Tb)(params:Arguments)(isc:Scope)(q q':Nat→Pos)(k k':Nat→Nat):Prop where
 at_:∀{h},B.W.ok h→∃o,h.get? a=some o∧o.data=.func fd
 cd:∀{h},B.W.ok h→h.CodeRec fd.code fd.qualname
 body:fd.body=.stmts [Cv q' k',.FunctionDef bR params (oV q k) [] none [] isc none bR t.pos,Fi q' k',EG q']
 fo:ud fd.scope [sA,sN] j4
 ca:fd.scope.names.lookup sA=some .local
 cn:fd.scope.names.lookup sN=some .cell
 cad:fd.scope.names.lookup pQ=some .cell
 cin:fd.scope.names.lookup bR=some .cell
 len:fd.scope.names.lookup rU=some .globalImplicit
 line:((q' 5).endLine==(q' 6).line)=true
 bind:∀vals:List Value,vals.length=2→bindArgs fd ⟨vals,[]⟩=pure ([sA,sN].zip vals)
 clo:fd.closure=[]
 glob:fd.globals=mainGlobals
 blt:fd.builtins=builtinsNs
 code:fd.code=.ref t.c
 qual:fd.qualname++Str.ofString ".<locals>."++bR=t.qual
 tab:t∈B.tabs
 isok:Jj isc
 ifree:∀p∈isc.names,p.2=.free→p.1=pQ∨p.1=sN∨p.1=bR
 pd:params.defaults=[]
 pk:params.kw_defaults=[]
 pa:∀env,annTrees params none env=[]
 ibind:∀(fd':FuncData) (u v w:Value),fd'.params=params→fd'.defaults=.none→fd'.kwdefaults=.none→bindArgs fd' ⟨[u,v,w],[]⟩=pure [(sX,u),(sL,v),(sR,w)]
noncomputable def AR:CE:=.bin .Mult (.list [.lit (.int 0)]) (.bin .FloorDiv (.bin .Sub (.bin .Add (.meth .bitLength (.var 0) []) (.var 1)) (.lit (.int 1))) (.var 1))
theorem vI(N:Nat):(List.replicate N [PyData.int 0]).flatten=(List.replicate N (0:Int)).map .int:=by
 induction N with
 |zero=>rfl
 |succ N ih=>rw[List.replicate_succ,List.flatten_cons,ih,List.replicate_succ];rfl
theorem EO{a:Nat}{u v:Mine.Slot}(hn:1≤n)(h:ee (a:Int)+(n:Int)≤2900) :
  ak lh AR [.sh (.d (.int (a:Int))),.sh (.d (.int (n:Int))),u,v]=some (.d (.list ((List.replicate (nn a n) (0:Int)).map .int))):=by
 refine aa λhQ=>?_
 obtain⟨b,hb,hl⟩:=kX a
 (refine hQ ?_;clear hQ)
 have hN:nn a n=(b+n-1) / n:=by unfold nn;rw[hb,aR]
 rw[hb] at h
 have hn60:n<2^60:=ae (m:=3000) (by lia) (by decide)
 have e1:i_ .FloorDiv ((b:Int)+(n:Int)-1) (n:Int)=some ((nn a n:Nat):Int):=by
  have h1:((b:Int)+(n:Int)-1)=((b+n-1:Nat):Int):=by lia
  have h2:((n:Int) != 0)=true:=by rw[cz];exact xZ (Nat.lt_of_succ_lt_succ (cK hn))
  rw[h1]
  show(if((n:Int) != 0)&&iz (n:Int) then some (((b+n-1:Nat):Int).fdiv (n:Int)) else none)=_
  rw[h2,lJ hn60,Int.fdiv_eq_ediv_of_nonneg _ (aK n),hN]
  rfl
 have hNle:nn a n≤2900:=by rw[hN];exact ab (Nat.div_le_self _ _) (by(clear e1 hn60 hN hl hb hn;omega))
 have e2:k7 .Mult (.d (.list [.int 0])) (.d (.int ((nn a n:Nat):Int)))=some (.d (.list ((List.replicate (nn a n) (0:Int)).map .int))):=by
  have s1:c0 (nn a n)=true:=by unfold c0;rw[ar];exact ab hNle (by decide)
  show(if(decide (0≤((nn a n:Nat):Int))&&c0 (Int.toNat ((nn a n:Nat):Int))&&c0 (1*Int.toNat ((nn a n:Nat):Int)))=true then some (V.d (.list (List.replicate (Int.toNat ((nn a n:Nat):Int)) [PyData.int 0]).flatten)) else none)=_
  rw[aR,Nat.one_mul,s1,aO (aK _),vI];rfl
 have e3:ak lh (.meth .bitLength (.var 0) []) [.sh (.d (.int (a:Int))),.sh (.d (.int (n:Int))),u,v]=some (.d (.int (b:Int))):=by
  show some (V.d (.int (ee (a:Int))))=_
  rw[hb]
 exact(dh (op:=.Mult) (x:=.d (.list [.int 0])) rfl (gZ (gZ (gZ e3 (bi rfl) rfl) cu rfl) (bi rfl) e1)).trans e2
set_option tactic.hygienic true
theorem D8{t:Tb}{q q':Nat→Pos}{k k':Nat→Nat}(F:Kx B a fd t params isc q q' k k')(hb:B.blts=dQ)(n:Nat):zr B.W (n+16) a me:=by
 intro A s M vals vs r E Q rm g mok hv hown e h
 refine aa λhQ=>?_
 obtain⟨p,z1,e⟩:=aJ e
 obtain⟨ai,z2,e⟩:=aJ e
 obtain⟨ni,z3,e⟩:=aJ e
 obtain⟨hc,e2⟩:=cq e
 have hvs:vs=[.d (.int ai),.d (.int ni)]:=by rw[sF z1,dk z2,dk z3]
 (refine hQ ?_;clear hQ)
 clear z1 z2 z3 e
 cases hvs;cases e2
 rw[ag,ag,ar,ar,ar] at hc
 refine aa λhQ=>?_
 obtain⟨⟨ha0,hn1⟩,hbl⟩:=hc
 obtain⟨av,rfl⟩:=Int.eq_ofNat_of_zero_le ha0
 obtain⟨nv,rfl⟩:=Int.eq_ofNat_of_zero_le (show 0≤ni by exact bn hn1)
 have hn1':1≤nv:=by exact cC.mp hn1
 have hbl':ee (av:Int)+(nv:Int)≤2900:=hbl
 obtain⟨hsz,hav⟩:=BT hn1' hbl'
 (refine hQ ?_;clear hQ)
 rw[show((av:Int).toNat)=av from aR av,show((nv:Int).toNat)=nv from aR nv] at h
 generalize hN:nn av nv=N at hsz hav h
 have hN29:N≤2900:=ab (Nat.le_mul_of_pos_left _ hn1') hsz
 refine uH (n:=n+15) F.fo F.at_ F.cd F.body F.bind F.clo F.glob F.blt rm g mok hv hown rfl λenv s₁ M' hcode hqual so x1 fi rm' E'=>?_
 have gm:(fI j4).vars.lookup sA=some 0∧(fI j4).vars.lookup sN=some 1∧(fI j4).vars.lookup pQ=some 2∧(fI j4).vars.lookup bR=some 3:=by decide +kernel
 refine aa λhQ=>?_
 obtain⟨g0,g1,g2,g3⟩:=gm
 obtain⟨o0,o1,o2,o3,o4,o5,o6⟩:=Ht
 obtain⟨p0,p1,p2,p3⟩:=JH
 (refine hQ ?_;clear hQ)
 have okA:bI sA=true:=by decide +kernel
 have okLen:bI rU=true:=by decide +kernel
 have mnm:sM=n9 .bitLength:=by decide +kernel
 have Hf:dg B.W (fI j4) fd.scope (Cv q' k') (.own 2 AR):=by
  have hm:bJ B.W (fI j4) fd.scope (.Call (.Attribute (.Name sA (q' 4)) sM (q' 5)) [] [] (q' 6)) (.meth .bitLength (.var 0) []):=by
   rw[mnm];exact uP rfl F.line (by simp) (bK okA g0) .nil
  exact FK ⟨g2,.inr F.cad⟩ rfl (Hk (.cons rfl hG .nil) (d9 (d9 (d9 hm (bK o5 g1)) hG) (bK o5 g1)))
 have hce:gS lh 0 (.own 2 AR) [.sh (.d (.int (av:Int))),.sh (.d (.int (nv:Int))),.un,.un]=some ([.sh (.d (.int (av:Int))),.sh (.d (.int (nv:Int))),.ow ((List.replicate N (0:Int)).map .int),.un],.nx):=by
  exact bc (EO hn1' hbl') (by rw[hN];rfl)
 refine aV (Hf (n+15) lh 0 _ env s s₁ M M' _ _ _ _ _ _ fJ rm' so fi hce λown2 M2 s2 fl2 fi2 st2 fr2=>?_)
 rw[fr2.next]
 have kin:env.kindOf bR=some .cell:=by rw[cJ so.ek];exact F.cin
 have hq:qualnameIn env bR bR=t.qual:=by
  unfold qualnameIn
  rw[kin,hqual]
  exact F.qual
 have hcl:closureFor isc env=pure (eG env.cells isc.names []):=fv λp hp hf=>by
  rcases F.ifree p hp hf with h1 | h1 | h1
  ·rw[h1];exact so.ek.cells _ (.inl F.cad)
  ·rw[h1];exact so.ek.cells _ (.inl F.cn)
  ·rw[h1];exact so.ek.cells _ (.inl F.cin)
 refine aV (nestDef_K F.pd F.pk (F.pa env) ?_)
 rw[hq]
 refine tO (B:=B) fi2.x.good F.tab (by rw[hcode];exact F.code) so.ek.globals hcl λf s₂ c' doc pm ctv x2 hf0 hfo hcr=>?_
 have fi2':=fi2.ext x2
 refine aa λhQ=>?_
 obtain⟨slS,slN,slL⟩:=dB fi2'.lay so.ek (.inr F.cin)
 (refine hQ ?_;clear hQ)
 refine FI.storeAny so fi2' g3 (.inr F.cin) rfl λs₃ fi3 hvi x13=>?_
 have cellOf:∀y v,fd.scope.names.lookup y=some .cell→c_ s₃.heap env y v→∃c,env.cells.lookup y=some c∧s₃.heap.IsCell c (some v):=λy v hy hv=>by
  rcases hv with⟨k1,_⟩ | ⟨_,c,e,hc⟩
  ·rw[cJ so.ek,hy] at k1;cases k1
  ·exact⟨c,e,hc⟩
 refine aa λhQ=>?_
 obtain⟨_,nvv,hnv,hnr⟩:=fi3.vis sN 1 g1 _ rfl
 obtain⟨nt,rfl⟩:=cG hnr
 obtain⟨hadv,vs0,kk0,hado,hadr⟩:=fi3.vis pQ 2 g2 _ rfl
 obtain⟨_,_,hadf⟩:=fi3.ownM 2 _ rfl
 (refine hQ ?_;clear hQ)
 generalize had:own2 2=ad at hadv hado hadf
 refine aa λhQ=>?_
 obtain⟨cA,eA,hcA⟩:=cellOf _ _ F.cad hadv
 obtain⟨cN,eN,hcN⟩:=cellOf _ _ F.cn hnv
 obtain⟨cI,eI,hcI⟩:=cellOf _ _ F.cin hvi
 (refine hQ ?_;clear hQ)
 have memF:∀y,isc.names.lookup y=some .free→(eG env.cells isc.names []).lookup y=some ((env.cells.lookup y).getD 0):=λy hy=>jD (mem_of_lookup hy)
 have ne12:pQ≠bR∧pQ≠sN∧bR≠sN:=by decide +kernel
 generalize hfd:(fnX bR t.qual params (oV q k) isc (eG env.cells isc.names []) .none .none doc pm none (.ref c') ctv)=fd' at hfo
 have FD:Jp fd' cA cI cN q k:=by
  subst hfd
  exact⟨rfl,F.isok,rfl,rfl,λu v w=>F.ibind _ u v w rfl rfl rfl,by rw[memF _ F.isok.ad,eA];rfl,by rw[memF _ F.isok.inner,eI];rfl,by rw[memF _ F.isok.n,eN];rfl,
   λx c hx=>(by
    rcases jt _ _ (mem_of_lookup hx) with z | ⟨z,_⟩
    ·cases z
    ·exact F.ifree _ z rfl),
   λz=>ne12.1 (so.ek.inj _ _ cA eA (by rw[z];exact eI)),λz=>ne12.2.1 (so.ek.inj _ _ cA eA (by rw[z];exact eN)),λz=>ne12.2.2 (so.ek.inj _ _ cI eI (by rw[z];exact eN))⟩
 have hf3:s₃.heap.get? f=some {cls:=.type "function",data:=.func fd'}:=x13 f _ (λz=>by
  obtain⟨o,e,_⟩:=(dB fi2.lay so.ek (.inr F.cin)).2.1
  rw[←z,hf0] at e;cases e) hfo
 have D3:I2 B.W f fd' cA cI cN ad nv s₃:=by
  refine⟨fi3.x.good,⟨_,hf3,rfl⟩,?_,hcA,hcI,⟨nt,hcN⟩⟩
  subst hfd
  exact CodeRec.chg x13 slS hcr
 have L3:f6 s₃.heap ad (List.replicate N 0):=⟨vs0,kk0,hado,jl (jf _) hadr⟩
 clear x13 hce Hf
 have hst:¬B.W.stat ad:=λz=>by obtain⟨o,e⟩:=B.W.occ g.ok z;rw[hadf] at e;cases e
 have fin:∀(s':Shared),cU B.W s'→Cg ad s₃ s'→f6 s'.heap ad (dig nv N av)→wpAny (model B.W.prog B.W.w) (A.deeper env) (execs [EG q'] env) (λfl s'=>Q (Gc fl) s') E' s':=λs' g' cg' l'=>by
  have va:c_ s'.heap env pQ (.ref ad):=.inr ⟨.inl (by rw[cJ so.ek];exact F.cad),cA,eA,Cell.chg cg' L3 hcA⟩
  refine aV (wpAny_Return_some (fe p3 (dI so.ek) va ?_))
  obtain⟨vs1,k1,e1,r1⟩:=l'
  have hadM:ad∉M:=λz=>by obtain⟨o,e,_⟩:=mok _ z;rw[hadf] at e;cases e
  refine h _ _ ⟨λb o e n=>cg'.keep b o (λz=>by subst z;rw[hadf] at e;cases e) (fi3.x.keep b o e n) n,λb o e=>(let⟨o',e'⟩:=fi3.x.occ b o e;cg'.occ b o' e'),cg'.os.trans fi3.x.os,λi g e=>cg'.gens i g (fi3.x.gens i g e),g'⟩ rfl
   (.list hadM e1 (jl (jf _) r1))
 have tst:gu B.W (fI j4) fd.scope (.Name sA (q' 15)) (.var 0):=km (bK okA g0) (gh rfl)
 have cx:=fi3.cx (A:=A.deeper env) so (fJ (n:=n+15)) rm'
 refine aV (wpAny_If (tst (n+15) _ _ s₃ env _ _ _ ((av:Int) != 0) _ _ cx rfl rfl λs₄ x4=>?_))
 have D4:=D3.ext x4
 have L4:=L3.ext x4
 by_cases hz:av=0
 ·subst hz
  have hN0:N=0:=by
   rw[←hN]
   show((ee ((0:Nat):Int)).toNat+nv-1) / nv=0
   show(0+nv-1) / nv=0
   rw[Nat.zero_add];exact Nat.div_eq_of_lt (Nat.sub_lt_left_of_lt_add hn1' (Nat.lt_add_of_pos_left (c8 rfl)))
  subst hN0
  rw[if_neg (by simp)]
  exact wpAny_execs_nil (fin s₄ x4.good (Cg.of_SX x4) L4)
 ·rw[if_pos (by rw[cz];exact xZ (Nat.pos_of_ne_zero hz))]
  have hNpos:1≤N:=by
   rcases Nat.eq_zero_or_pos N with z | z
   ·rw[z] at hav;simp at hav;exact absurd hav hz
   ·exact z
  have fi4:=fi3.ext x4
  have cx4:=fi4.cx (A:=A.deeper env) so (fJ (n:=n+15)) rm'
  have hint:interactive env=false:=by unfold interactive;rw[dI so.ek];rfl
  refine aV (wpAny_Expr ?_ hint rfl)
  refine ki o6 cx4 (hvi.ext x4) (let⟨o,a,b⟩:=D4.ho;⟨o,_,a,b⟩) (.cons rfl (bK okA g0) (.cons rfl hG (.cons rfl (snd_prim (f:=.len) okLen F.len (by show(rU,_)∈B.blts;rw[hb];exact .head _) rfl (λh=>nomatch h) (.cons rfl (bK p3 g2) .nil)) .nil))) (us:=[.d (.int (av:Int)),.d (.int 0),.d (.int (N:Int))]) ?_ λvals s₅ x5 r5=>?_
  ·have hl62:((List.replicate N (0:Int)).map PyData.int).length<2^62:=by rw[af,List.length_replicate];exact au hN29 (by decide)
   have hp:gQ .len [.o ((List.replicate N (0:Int)).map PyData.int)]=some (.d (.int (N:Int))):=by
    show(if((List.replicate N (0:Int)).map PyData.int).length<2^62 then some (V.d (.int (((List.replicate N (0:Int)).map PyData.int).length:Int))) else none)=_
    rw[if_pos hl62,af,List.length_replicate]
   show(Option.bind (some (V.d (.int (av:Int)))) λx=>Option.map (x::·) (Option.bind (some (V.d (.int 0))) λx=>Option.map (x::·) (Option.bind (Option.bind (some [V.o ((List.replicate N (0:Int)).map PyData.int)]) λxs=>gQ .len xs) λx=>some [x])))=_
   simp only[bB,hp,Option.map_some]
  ·cases r5 with
   |cons ra rb =>
   cases rb with
   |cons rb rc =>
   cases rc with
   |cons rc rd' =>
   cases rd'
   obtain⟨t1,rfl⟩:=cG ra
   obtain⟨t2,rfl⟩:=cG rb
   obtain⟨t3,rfl⟩:=cG rc
   have:=Aw FD hst hn1' N hsz 12 0 N av (List.replicate N 0) (A.deeper env) s₅ t1 t2 t3 E' (λv s'=>v=.none∧wpAny (model B.W.prog B.W.w) (A.deeper env) (execs [EG q'] env) (λfl s'=>Q (Gc fl) s') E' s') hNpos (ab hN29 (by decide)) (bd (aF N) (bo (N-N))) (by simp) hav
    ⟨rm'.handled,by have:=rm'.depth;lia,by have:=rm'.units;lia⟩ (D4.ext x5) (L4.ext x5) λs' g' cg' l'=>⟨rfl,fin s' g' ((Cg.of_SX (x4.trans x5)).trans cg') (by
     have:(List.replicate N (0:Int)).take 0++dig nv N av++(List.replicate N (0:Int)).drop (0+N)=dig nv N av:=by simp
     rw[this] at l'
     exact l')⟩
   rw[Nat.zero_add] at this
   refine bA this (λv s' hv'=>?_) λ_ _ z=>z
   obtain⟨rfl,hq'⟩:=hv'
   exact wpAny_execs_nil hq'
set_option backward.match.sparseCases false
inductive lj where
 |hand (φ:List V→Option V)
 |code (F:CF)
noncomputable def Ds(g:CF→List V→Option V):lj→List V→Option V
 |.hand φ=>φ
 |.code F=>g F
noncomputable def gt(es:List lj)(fu:Nat):Nat→jU
 |0,f=>λvs=>es[f]?.bind λe=>Ds (λ_ _=>none) e vs
 |k+1,f=>λvs=>es[f]?.bind λe=>Ds (runF (gt es fu k) fu) e vs
theorem uk{W:Wd}{es:List lj}{fu:Nat}(hh:∀(f:Nat) (p:Str×Addr) φ,W.fns[f]?=some p→es[f]?=some (lj.hand φ)→∀n,zr W (n+16) p.2 φ)
  (hc:∀(f:Nat) (p:Str×Addr) F,W.fns[f]?=some p→es[f]?=some (lj.code F)→∀n Φ,i4 W n Φ→zr W (n+1) p.2 (runF Φ fu F)):∀k,i4 W (k+16) (gt es fu k)
 |0=>λf p hp=>by
  show zr W 16 p.2 λvs=>es[f]?.bind λe=>Ds (λ_ _=>none) e vs
  cases h:es[f]? with
  |none=>exact λA s M vals vs r E Q _ _ _ _ _ e=>nomatch e
  |some e=>cases e with
   |hand φ=>exact hh f p φ hp h 0
   |code F=>exact λA s M vals vs r E Q _ _ _ _ _ e=>nomatch e
 |k+1=>λf p hp=>by
  show zr W (k+16+1) p.2 λvs=>es[f]?.bind λe=>Ds (runF (gt es fu k) fu) e vs
  cases h:es[f]? with
  |none=>exact λA s M vals vs r E Q _ _ _ _ _ e=>nomatch e
  |some e=>cases e with
   |hand φ=>exact hh f p φ hp h (k+1)
   |code F=>exact hc f p F hp h (k+16) _ (uk hh hc k)
noncomputable def HP(sc:Scope)(y:Str):Bool:=sc.names.lookup y==some .local||sc.names.lookup y==some .cell
noncomputable def im(sc:Scope)(ps ns:List Str):Bool :=
 sc.kind==.function&&!sc.isCoroutine&&!sc.isGenerator&&decide ps.Nodup&&decide (ps=ns.take ps.length)&&ps.all (HP sc)&&sc.names.all λp=>p.2 != .free
theorem lz{sc:Scope}{ps ns:List Str}(h:im sc ps ns=true):ud sc ps ns:=by
 unfold im at h
 simp only[ag,Bool.not_eq_true',ar,beq_iff_eq,ap,cz] at h
 refine aa λhQ=>?_
 obtain⟨⟨⟨⟨⟨⟨h1,h2⟩,h3⟩,h4⟩,h5⟩,h6⟩,h7⟩:=h
 (refine hQ ?_;clear hQ)
 refine⟨h1,h2,h3,h4,h5,λy hy=>?_,λp hp=>h7 p hp⟩
 have:=h6 y hy
 unfold HP at this
 rw[Bool.or_eq_true] at this
 exact this.imp bH bH
noncomputable abbrev jV(d:DefRec)(pm cd doc:Value):FuncData:=Calls.docDef d.name d.params d.body d.scope pm cd doc
structure IY(B:eZ)(a:Addr)(d:DefRec)(pm cd doc:Value):Prop where
 at_:∀{h},B.W.ok h→∃o,h.get? a=some o∧o.data=.func (jV d pm cd doc)
 code:∀{h},B.W.ok h→h.CodeRec cd d.name
theorem CN{C:Cs}{d:DefRec}{pm:Value}{ps ns:List Str}{m:Nat}(ex:Nat)(F:IY B a d pm cd doc)(ok:p8 C B.W)(h:im d.scope ps ns=true)(hbind:∀vals:List Value,vals.length=ps.length→bindArgs (jV d pm cd doc) ⟨vals,[]⟩=pure (ps.zip vals))
  (ct:i4 B.W n Φ):zr B.W (n+1) a (runF Φ fu {par:=ps.length,size:=ns.length+ex,body:=(qg ok (fP ns ex) d.scope m d.body).1}) :=
 ctr_of (fd:=jV d pm cd doc) ok ex (lz h) F.at_ F.code rfl hbind rfl rfl rfl ct
set_option tactic.hygienic false
set_option backward.match.sparseCases true
noncomputable def th(sc:Scope)(y:Str):Bool:=sc.names.lookup y==some .local
noncomputable def tv(sc:Scope)(y:Str):Bool:=sc.names.lookup y==some .free
noncomputable def KE(sc:Scope)(y:Str):Bool:=sc.names.lookup y==some .globalImplicit
noncomputable def mn(sc:Scope):Bool:=sc.names.all λp=>p.2 != .cell
noncomputable def zD(sc:Scope):Bool:=sc.names.all λp=>p.2 != .free
noncomputable def rR(sc:Scope)(xs:List Str):Bool:=sc.names.all λp=>p.2 != .free||xs.contains p.1
noncomputable def Da(sc:Scope):Bool:=sc.kind==.function&&!sc.isCoroutine&&sc.isGenerator&&th sc fV&&th sc oj&&th sc ou&&th sc Ay&&KE sc lU&&mn sc&&zD sc
theorem F6{sc:Scope}(h:Da sc=true):HJ sc:=by
 unfold Da th KE mn zD at h
 simp only[ag,Bool.not_eq_true',beq_iff_eq,ap,cz] at h
 refine aa λhQ=>?_
 obtain⟨⟨⟨⟨⟨⟨⟨⟨⟨h1,h2⟩,h3⟩,h4⟩,h5⟩,h6⟩,h7⟩,h8⟩,h9⟩,h10⟩:=h
 (refine hQ ?_;clear hQ)
 exact⟨h1,h2,h3,h4,h5,h6,h7,h8,λp hp=>h9 p hp,λp hp=>h10 p hp⟩
theorem to{sc:Scope}{xs:List Str}(h:rR sc xs=true):∀p∈sc.names,p.2=.free→p.1∈xs:=by
 unfold rR at h
 simp only[ap,Bool.or_eq_true,cz] at h
 intro p hp hf
 rcases h p hp with z | z
 ·exact absurd hf z
 ·exact List.contains_iff_mem.mp z
noncomputable def GM(sc:Scope):Bool:=sc.kind==.function&&!sc.isCoroutine&&!sc.isGenerator&&th sc sL&&th sc sR&&th sc ka&&th sc gb&&tv sc cY&&tv sc sN&&tv sc bR&&mn sc&&rR sc [cY,sN,bR]
theorem CK{sc:Scope}(h:GM sc=true):Jv sc∧∀p∈sc.names,p.2=.free→p.1=cY∨p.1=sN∨p.1=bR:=by
 unfold GM th tv mn at h
 simp only[ag,Bool.not_eq_true',beq_iff_eq,ap,cz] at h
 refine aa λhQ=>?_
 obtain⟨⟨⟨⟨⟨⟨⟨⟨⟨⟨⟨h1,h2⟩,h3⟩,h4⟩,h5⟩,h6⟩,h7⟩,h8⟩,h9⟩,h10⟩,h11⟩,h12⟩:=h
 (refine hQ ?_;clear hQ)
 have hm:∀p∈sc.names,p.2=.free→p.1=cY∨p.1=sN∨p.1=bR:=λp hp hf=>by
  have:=to h12 p hp hf
  simpa using this
 exact⟨⟨h1,h2,h3,h4,h5,h6,h7,h8,h9,h10,λp hp=>h11 p hp,λx hx=>hm _ (mem_of_lookup hx) rfl⟩,hm⟩
noncomputable def F7(sc:Scope):Bool:=sc.kind==.function&&!sc.isCoroutine&&!sc.isGenerator&&th sc sX&&th sc sL&&th sc sR&&th sc ka&&th sc gb&&th sc Fg&&th sc G9&&tv sc pQ&&tv sc sN&&tv sc bR&&mn sc&&rR sc [pQ,sN,bR]
theorem C3{sc:Scope}(h:F7 sc=true):Jj sc∧∀p∈sc.names,p.2=.free→p.1=pQ∨p.1=sN∨p.1=bR:=by
 unfold F7 th tv mn at h
 simp only[ag,Bool.not_eq_true',beq_iff_eq,ap,cz] at h
 refine aa λhQ=>?_
 obtain⟨⟨⟨⟨⟨⟨⟨⟨⟨⟨⟨⟨⟨⟨h1,h2⟩,h3⟩,h4⟩,h5⟩,h6⟩,h7⟩,h8⟩,h9⟩,h10⟩,h11⟩,h12⟩,h13⟩,h14⟩,h15⟩:=h
 (refine hQ ?_;clear hQ)
 have hm:∀p∈sc.names,p.2=.free→p.1=pQ∨p.1=sN∨p.1=bR:=λp hp hf=>by
  have:=to h15 p hp hf
  simpa using this
 exact⟨⟨h1,h2,h3,h4,h5,h6,h7,h8,h9,h10,h11,h12,h13,λp hp=>h14 p hp,λx hx=>hm _ (mem_of_lookup hx) rfl⟩,hm⟩
theorem F3{d:DefRec}{pm:Value}{q:Nat→Pos}{k:Nat→Nat}(F:IY B a d pm cd doc)(h:Da d.scope=true)(hb:d.body=lX q k)(hbind:∀v:Value,bindArgs (jV d pm cd doc) ⟨[v],[]⟩=pure [(fV,v)]):FJ B.W a (jV d pm cd doc) q k :=
 ⟨F.at_,F.code,congrArg FuncBody.stmts hb,F6 h,rfl,rfl,rfl,hbind⟩
set_option tactic.hygienic true
noncomputable def Ed:Value→Option Addr
 |.ref a=>some a
 |_=>none
noncomputable def lb(mg:Str→Option Value)(x:Str):Addr:=((mg x).bind Ed).getD 0
noncomputable def iQ:DefRec:=⟨Str.ofString "",⟨[],[],none,[],[],none,[]⟩,[],⟨.module,[],false,false,[]⟩,⟨0,0,0,0⟩⟩
noncomputable def nB(q:Program)(x:Str):DefRec:=((recsOf q).find? λd=>d.name==x).getD iQ
noncomputable def kg(q:Program)(x:Str):Bool:=((recsOf q).find? λd=>d.name==x).isSome
theorem Bq{q:Program}(h:kg q x=true):nB q x∈recsOf q∧(nB q x).name=x:=by
 unfold kg at h
 unfold nB
 cases e:(recsOf q).find? λd=>d.name==x with
 |none=>rw[e] at h;cases h
 |some d=>exact⟨List.mem_of_find?_eq_some e,by simpa using List.find?_some e⟩
section
variable{q:Program}
theorem oO(T:Top q loose mean mg mb h)(hx:kg q x=true):mg x=some (.ref (lb mg x))∧∃o pm cd doc,h.get? (lb mg x)=some o∧o.data=.func (jV (nB q x) pm cd doc)∧h.CodeRec cd (nB q x).name:=by
 refine aa λhQ=>?_
 obtain⟨hm,hn⟩:=Bq hx
 obtain⟨a,o,pm,cd,doc,h1,h2,h3,h4⟩:=T.fn _ hm
 (refine hQ ?_;clear hQ)
 rw[hn] at h1
 have e:lb mg x=a:=by unfold lb;rw[h1];rfl
 rw[e]
 exact⟨h1,o,pm,cd,doc,h2,h3,h4⟩
theorem Dw(T:Top q loose mean mg mb h)(hx:kg q x=true):∃c P,(∀o fd,h.get? (lb mg x)=some o→o.data=.func fd→fd.code=.ref c)∧CodeHd h c P∧h.get? P=some (tabObj #[]):=by
 refine aa λhQ=>?_
 obtain⟨hm,hn⟩:=Bq hx
 obtain⟨a,o,fd,c,P,h1,h2,h3,h4,h5,h6⟩:=T.tab _ hm
 (refine hQ ?_;clear hQ)
 rw[hn] at h1
 have e:lb mg x=a:=by unfold lb;rw[h1];rfl
 rw[e]
 refine⟨c,P,λo' fd' e1 e2=>?_,CodeHd.of h5 h6,h6.2⟩
 rw[h2] at e1;cases e1
 rw[h3] at e2;cases e2
 exact h4
theorem Dt(T:Top q loose mean mg mb h)(hv:valOf q x=some d)(hd:(∃i,d=.int i)∨∃y,d=.str y):∃v,mg x=some v∧∀d',d=d'→((∃i t,v=.int i t∧d'=.int i)∨(∃y t,v=.str y t∧d'=.str y)):=by
 refine aa λhQ=>?_
 obtain⟨v,h1,h2⟩:=T.const x d hv
 (refine hQ ?_;clear hQ)
 refine⟨v,h1,λd' e=>?_⟩
 subst e
 have r:=h2 h
 rcases hd with⟨i,rfl⟩ | ⟨y,rfl⟩
 ·cases r;exact .inl ⟨_,_,rfl,rfl⟩
 ·cases r;exact .inr ⟨_,_,rfl,rfl⟩
noncomputable def tS(q:Program)(loose:List Str)(x:Str):Bool:=!startupNames.contains x&&!loose.contains x&&!((recsOf q).map (·.name)).contains x&&!((litsOf q).map (·.1)).contains x&&!((clssOf q loose).map (·.name)).contains x
theorem u7(T:Top q loose mean mg mb h)(hf:tS q loose x=true):mg x=none:=by
 unfold tS at hf
 simp only[ag,Bool.not_eq_true'] at hf
 refine aa λhQ=>?_
 obtain⟨⟨⟨⟨h1,h2⟩,h3⟩,h4⟩,h5⟩:=hf
 (refine hQ ?_;clear hQ)
 have nm:∀{l:List Str},l.contains x=false→x∉l:=λh hm=>by rw[List.contains_iff_mem.mpr hm] at h;cases h
 exact T.free x (nm h1) (nm h2) (nm h3) (nm h4) (nm h5)
end
theorem ng:∀p∈dQ,p.1≠Str.ofString "__name__"∧bootBuiltins p.1=some p.2:=by
 have h:(dQ.all λp=>(!p.1==Str.ofString "__name__")&&bootBuiltins p.1==some p.2)=true:=by decide +kernel
 intro p hp
 have:=ap.mp h p hp
 simpa using this
noncomputable def G0(prog:Program)(w:World){q:Program}{loose:List Str}{mean:ExcName→Option Value}{mg mb:Str→Option Value}{h:Heap}(T:Top q loose mean mg mb h)(tabs:List Tb)(ht:∀t∈tabs,CodeHd h t.c t.P∧h.get? t.P=some (tabObj #[]))
  (nd:∀t∈tabs,∀t'∈tabs,t.P=t'.P→t=t') (csts:List (Str×PyData)) (hc:∀p∈csts,valOf q p.1=some p.2∧((∃i,p.2=.int i)∨∃y,p.2=.str y)) (hb:(dQ.all λp=>tS q loose p.1)=true) (names:List Str) (hf:(names.all (kg q))=true):eZ where
 prog:=prog
 w:=w
 mg:=mg
 mb:=mb
 h₁:=h
 tabs:=tabs
 g:=T.g
 b:=T.b
 lim:=T.nolimit
 bm:=T.bmain
 tab:=ht
 nd:=nd
 csts:=csts
 cstG:=λp hp=>Dt T (hc p hp).1 (hc p hp).2
 blts:=dQ
 bltG:=λp hp=>⟨u7 T (ap.mp hb p hp),by rw[T.builtins _ (ng p hp).1];exact(ng p hp).2⟩
 fns:=names.map λx=>(x,lb mg x)
 fnG:=λp hp=>by
  obtain⟨x,hx,rfl⟩:=List.mem_map.mp hp
  exact(oO T (ap.mp hf x hx)).1
 fnO:=λp hp=>by
  obtain⟨x,hx,rfl⟩:=List.mem_map.mp hp
  obtain⟨_,o,pm,cd,doc,h1,h2,_⟩:=oO T (ap.mp hf x hx)
  exact⟨o,_,h1,h2⟩
 ex:=none
 exO:=λ_ h=>nomatch h
theorem yV{q:Program}(T:Top q loose mean B.mg B.mb B.h₁)(hx:kg q x=true):∃pm cd doc,IY B (lb B.mg x) (nB q x) pm cd doc∧∃o,B.h₁.get? (lb B.mg x)=some o∧o.data=.func (jV (nB q x) pm cd doc):=by
 refine aa λhQ=>?_
 obtain⟨_,o,pm,cd,doc,h2,h3,h4⟩:=oO T hx
 (refine hQ ?_;clear hQ)
 refine⟨pm,cd,doc,⟨λ{h} k=>⟨o,eZ.keep k h2 (fh λfs q=>by rw[h3] at q;cases q),h3⟩,λ{h} k=>?_⟩,o,h2,h3⟩
 refine aa λhQ=>?_
 obtain⟨c,o',vs,t,e1,e2,e3,e4⟩:=h4
 (refine hQ ?_;clear hQ)
 exact⟨c,o',vs,t,e1,eZ.keep k e2 (λz=>by(obtain⟨fs,f1,f2⟩:=z.2;rw[e3] at f1;cases f1;exact f2 _ _ e4)),e3,e4⟩
theorem Db(B:eZ)(hx:B.ex=none):B.ok B.h₁:=⟨λ_ _ e _=>e,λt ht=>⟨#[],(B.tab t ht).2,trivial,mB,.inl ⟨rfl,rfl⟩⟩,λp hp=>nomatch hx.symm.trans hp⟩
theorem zm(B:eZ)(hx:B.ex=none)(hs:s.heap=B.h₁)(hg:s.gens=#[]):cU B.W s:=⟨by rw[hs];exact Db B hx,.of_eq hg⟩
noncomputable def KJ(o:Obj):Option FuncData:=match o.data with
 |.func fd=>some fd
 |_=>none
noncomputable def H7(o:Obj):Option (Array Value):=match o.data with
 |.fields vs=>some vs
 |_=>none
noncomputable def j9(h:Heap)(x:Str):Option Addr:=(h.nsMap mainGlobals x).bind λv=>(Ed v).bind λa=>(h.get? a).bind λo=>(KJ o).bind λfd=>(Ed fd.code).bind λc=>(h.get? c).bind λo=>(H7 o).bind λvs=>vs[11]?.bind Ed
theorem yo{c P:Addr}(h1:h.nsMap mainGlobals x=some (.ref a))(h2:h.get? a=some o)(h3:o.data=.func fd)(h4:fd.code=.ref c)(h5:CodeHd h c P):j9 h x=some P:=by
 refine aa λhQ=>?_
 obtain⟨o',vs,_,_,_,_,_,_,_,e1,_,e3,e4,_⟩:=h5
 (refine hQ ?_;clear hQ)
 exact bc h1 (bc rfl (bc h2 (bc (by unfold KJ;rw[h3]) (bc (by rw[h4];rfl) (bc e1 (bc (by unfold H7;rw[e3]) (bc e4 rfl)))))))
theorem wn(k:∀b o,h.get? b=some o→h'.get? b=some o)(e:h.nsMap mainGlobals x=some v):h'.nsMap mainGlobals x=some v:=by
 unfold Heap.nsMap at e ⊢
 cases q:h.get? mainGlobals with
 |none=>rw[q] at e;cases e
 |some o=>rw[q] at e;rw[k _ _ q];exact e
theorem nj{P:Addr}(k:∀b o,h.get? b=some o→h'.get? b=some o)(e:j9 h x=some P):j9 h' x=some P:=by
 refine aa λhQ=>?_
 obtain⟨v,h1,e⟩:=aJ e
 obtain⟨a,h2,e⟩:=aJ e
 obtain⟨o,h3,e⟩:=aJ e
 obtain⟨fd,h4,e⟩:=aJ e
 obtain⟨c,h5,e⟩:=aJ e
 obtain⟨o',h6,e⟩:=aJ e
 exact hQ (bc (wn k h1) (bc h2 (bc (k _ _ h3) (bc h4 (bc h5 (bc (k _ _ h6) e))))))
noncomputable def Dm(x y:Str)(P Q:Addr):Hook where
 α:=Option Addr×Option Addr
 obs:=λs=>(j9 s.heap x,j9 s.heap y)
 val:=λ_=>(some P,some Q)
 says:=λ_ h=>j9 h x=some P∧j9 h y=some Q
 of:=λ_ _ e=>Prod.mk.inj e
 keeps:=λ_ _ _ x k=>⟨nj k x.1,nj k x.2⟩
theorem uC{q:Program}(T:Top q loose mean mg mb h)(hx:kg q x=true){P:Addr}(hY:j9 h x=some P):∃c,(∀o fd,h.get? (lb mg x)=some o→o.data=.func fd→fd.code=.ref c)∧CodeHd h c P∧h.get? P=some (tabObj #[]):=by
 refine aa λhQ=>?_
 obtain⟨c,P',k,hd,t⟩:=Dw T hx
 obtain⟨m,o,pm,cd,doc,g,d,_⟩:=oO T hx
 (refine hQ ?_;clear hQ)
 have e:=(yo (by rw[←T.g.eq_nsMap];exact m) g d (k _ _ g d) hd).symm.trans hY
 cases e
 exact⟨c,k,hd,t⟩
noncomputable def vL(W:Wd)(p:Str×Addr):lj→Prop
 |.hand φ=>∀n,zr W (n+16) p.2 φ
 |.code F=>∀n Φ fu,i4 W n Φ→zr W (n+1) p.2 (runF Φ fu F)
noncomputable def wE(W:Wd):List (Str×Addr)→List lj→Prop
 |p::ps,e::es=>vL W p e∧wE W ps es
 |_,_=>True
theorem cP{W:Wd}{f:Str→Str×Addr}{xs:List Str}{e:lj}{es:List lj}(h:vL W (f x) e)(t:wE W (xs.map f) es):wE W ((x::xs).map f) (e::es):=⟨h,t⟩
theorem uB{W:Wd}{ps:List (Str×Addr)}:∀{es:List lj} {f:Nat} {p:Str×Addr} {e:lj},wE W ps es→ps[f]?=some p→es[f]?=some e→vL W p e:=by
 induction ps with
 |nil=>exact λ_ h _=>nomatch h
 |cons _ _ ih =>
  intro es f p e h h1 h2
  cases es with
  |nil=>exact nomatch h2
  |cons _ _=>cases f with
   |zero=>exact am h1▸am h2▸h.1
   |succ _=>exact ih h.2 h1 h2
theorem uJ{W:Wd}{es:List lj}(H:wE W W.fns es)(fu k:Nat):i4 W (k+16) (gt es fu k) :=
 uk (λ_ _ _ h1 h2=>uB H h1 h2) (λ_ _ _ h1 h2 n Φ ct=>uB H h1 h2 n Φ fu ct) k
theorem li{W:Wd}{p:Str×Addr}:vL W p (.hand λ_=>none):=λ_ _ _ _ _ _ _ _ _ _ _ _ _ _ e=>nomatch e
theorem eE{q:Program}{C:Cs}{ps ns:List Str}{par size m ex:Nat}{code:List CS}(T:Top q loose mean B.mg B.mb B.h₁)(hx:kg q x=true)(ok:p8 C B.W)(hok:im (nB q x).scope ps ns=true)
  (hbind:∀(pm cd doc:Value) (vals:List Value),vals.length=ps.length→bindArgs (jV (nB q x) pm cd doc) ⟨vals,[]⟩=pure (ps.zip vals)) (hb:(qg ok (fP ns ex) (nB q x).scope m (nB q x).body).1=code) (hp:ps.length=par) (hs:ns.length+ex=size):vL B.W (x,lb B.mg x) (.code ⟨par,size,code⟩):=by
 intro n Φ fu ct
 obtain⟨pm,cd,doc,F,_⟩:=yV T hx
 have:=CN (fu:=fu) (m:=m) ex F ok hok (hbind pm cd doc) ct
 rw[hb,hp,hs] at this
 exact this
set_option tactic.hygienic false
theorem ta{P:Params}{xs:List Int}:∀{vs:List Value},WellAll P h vs (ofPys (xs.map .int))→Reps h [] vs (xs.map .int):=by
 induction xs with
 |nil =>
  intro vs r
  cases r;exact .nil
 |cons x xs ih =>
  intro vs r
  rcases r with _ | ⟨r1,r2⟩
  cases r1
  exact .cons (.int _ _) (ih r2)
theorem uY{P:Params}{xs:List Int}(r:WellAll P h [.ref a] [ofPy (.list (xs.map .int))]):dN h [] [.ref a] [.d (.list (xs.map .int))]:=by
 rcases r with _ | ⟨r1,r2⟩
 rcases r1 with _ | _ | _ | _ | _ | _ | _ | ⟨e,r⟩
 exact .cons (.list (by simp) e (by simpa using ta r)) .nil
theorem E7(hs:s.heap=B.h₁)(x:SX B.W s s'):OldK s.heap s'.heap:=by
 refine⟨λb o e=>?_,x.occ⟩
 by_cases hb:b∈B.tabs.map (·.P)
 ·obtain⟨t,ht,rfl⟩:=List.mem_map.mp hb
  obtain⟨c1,c2⟩:=B.tab t ht
  rw[hs] at e ⊢
  have e0:=e
  rw[c2] at e;cases e
  have ok:B.ok s'.heap:=x.good.ok
  refine aa λhQ=>?_
  obtain⟨ps,hP,_⟩:=ok.2.1 t ht
  (refine hQ ?_;clear hQ)
  exact .inr (.inl ⟨(c1.tab c2).isCodeTable,rfl,#[],ps,rfl,by rw[Array.empty_append];exact hP⟩)
 ·have ok:B.ok s'.heap:=x.good.ok
  rw[hs] at e
  exact .inl (ok.1 b o e hb)
theorem yO(l:OpenLaw)(args:List WData):l.row.claim.post args (.bool true) args=true :=
 postW_of (r:=l.row.toRowW) (X:=true) (by wrow_shape) (w_eq_bool (k:=true) (l:=true) (w_res rfl) w_lit) rfl
structure Eg(base:Heap)(l:List Env)(e:Addr)(X:String)(fl:Value)(h:Heap):Prop where
 st:base.StaysIn h
 new:base.get? e=none
 fr:h.FunFrames base l
 tr:∃oe vs T oT ts,h.get? e=some oe∧oe.cls=.type X∧oe.data=.fields vs∧vs[1]?=some (.ref T)∧vs[2]?=some .none∧base.get? T=none∧T≠e∧h.get? T=some oT∧oT.data=.fields ts∧ts[3]?=some fl
section
variable{M:Model}{base:Heap}{outer:List Env}{L e:Addr}{X:String}{Q:Unit→Shared→Prop}
theorem qu{oe:Obj}{head:Value}{hadNext:Bool}(hfr:A.frames=some (env::outer))(hl:s.heap.FunFrames base (env::outer))(hf:env.frame=some L)(he:s.heap.get? e=some oe)(hx:oe.cls=.type X)(hd:oe.data=.fields vs)
  (h2:vs[2]?=some .none) (hk:base.StaysIn s.heap) (hen:base.get? e=none) (h:∀h',Eg base (env::outer) e X (rawInt L) h'→s.heap.UpToSlots h'→Q () {s with heap:=h'}) :
  wpAny M A (do let a ←frameOf env;let pl ←entryPlaceOf L hadNext;let b ←EntryCells.newEntry head a .none (rawInt L) .none pl;setField (.ref e) 1 b) Q E s:=by
 have rec0:∀b o,s.heap.get? b=some o→(∀ws,o.data≠.fields ws)→b≠e:=λb o hb hnf q=>by
  rw[q,he] at hb;cases hb;exact hnf vs hd
 have hene:e∉(env::outer).filterMap (·.frame):=λhm=>by
  obtain⟨_,o,ho,hnf⟩:=hl.mem hm
  exact rec0 e o ho hnf rfl
 refine ac (wpAny_frameOf_fun hfr hl hf λh₁ hs₁=>?_)
 have he₁:h₁.get? e=some oe:=(hs₁.2.1 e hene).trans he
 have k₁:base.StaysIn h₁:=λb o hbo=>(hs₁.2.1 b λhm=>by replace hbo:=(hl.mem hm).1▸hbo;cases hbo).trans (hk b o hbo)
 refine ac (wpAny_entryPlaceOf λpl hpl=>?_)
 unfold EntryCells.newEntry newFields
 refine ac (bF ?_ (hpl.sizeOk5 _ _ _ _ _))
 generalize ht:([head,.ref L,.none,rawInt L,.none]++(if pl.isEmpty then List.replicate 6 Value.none else pl)).toArray=ts
 have t3:ts[3]?=some (rawInt L):=by
  rw[←ht];first | (simp;done) | (rcases hpl with rfl | ⟨_,_,_,_,_,_,_,rfl⟩<;>simp)
 generalize hH:h₁.push {cls:=.type "traceback",dict:=none,data:=.fields ts}=H
 have hT₂:H.get? h₁.objs.size=some {cls:=.type "traceback",dict:=none,data:=.fields ts}:=by simp only[←hH];exact aI h₁ rfl
 refine wpAny_setField (by rw[←hH];exact aC _ he₁) hd (Nat.lt_of_succ_lt ((Array.getElem?_eq_some_iff.mp h2).1)) (h _ ?_ λb o hb hnf=>?_)
 ·refine⟨λb o hbo=>?_,hen,hl.of_keeps λb o hb hnf=>?_,⟨_,_,h₁.objs.size,{cls:=.type "traceback",dict:=none,data:=.fields ts},ts,cX _ (by rw[←hH];exact aC _ he₁) (Obj.isFreed_of_fields (dz hd _)),(Obj.cls_mapFields _ _).trans hx,dz hd _,by simp[Nat.lt_of_succ_lt ((Array.getElem?_eq_some_iff.mp h2).1)],by rw[Array.getElem?_setIfInBounds_ne (by decide)];exact h2,k₁.fresh,(bV (bL he₁)),?_,rfl,t3⟩⟩
  ·rw[Heap.get?_update_other _ _ (λq=>by rw[←q,hen] at hbo;cases hbo),←hH]
   exact aC _ (k₁ b o hbo)
  ·obtain⟨sl,hs⟩:=hs₁.2.2 b o hb
   refine⟨{o with slots:=sl},?_,rfl⟩
   rw[Heap.get?_update_other _ _ (Ne.symm (rec0 b o hb hnf)),←hH]
   exact aC _ hs
  ·rw[Heap.get?_update_other _ _ (Ne.symm (bV (bL he₁)))];exact hT₂
 ·obtain⟨sl,hs⟩:=hs₁.2.2 b o hb
  refine⟨sl,?_⟩
  rw[Heap.get?_update_other _ _ (Ne.symm (rec0 b o hb hnf)),←hH]
  exact aC _ hs
theorem vx(hfr:A.frames=some (env::outer))(hl:h.FunFrames base (env::outer))(hf:env.frame=some L)(hk:base.StaysIn h)(hx:Heap.NewExc h s.heap e X)
  (hq:∀h',Eg base (env::outer) e X (rawInt L) h'→s.heap.UpToSlots h'→Q () {s with heap:=h'}):wpAny M A (noteFrame (.ref e) env) Q E s:=by
 refine aa λhQ=>?_
 obtain⟨ob,t,he,hc,hd⟩:=hx.there
 (refine hQ ?_;clear hQ)
 have hen:base.get? e=none:=by
  cases q:base.get? e with
  |none=>rfl
  |some o=>have:=hk e o q;replace this:=hx.new▸this;cases this
 unfold noteFrame
 rw[hf]
 refine ac (bY he hd (x:=.none) rfl ?_)
 rw[if_neg (by decide)]
 exact qu hfr (hl.of_keeps λb o hb _=>⟨o,hx.keeps b o hb,rfl⟩) hf he hc hd rfl (λb o q=>hx.keeps b o (hk b o q)) hen hq
theorem yX(hfr:A.frames=some (env::outer))(hf:env.frame=some L)(x:Eg base (env::outer) e X .none s.heap)
  (hq:∀h',Eg base (env::outer) e X (rawInt L) h'→s.heap.UpToSlots h'→Q () {s with heap:=h'}):wpAny M A (noteFrame (.ref e) env) Q E s:=by
 refine aa λhQ=>?_
 obtain⟨oe,vs,T,oT,ts,he,hc,hd,h1,h2,hT0,hTe,hT,hdT,h3⟩:=x.tr
 (refine hQ ?_;clear hQ)
 unfold noteFrame
 simp only[hf]
 refine ac (bY he hd h1 ?_)
 rw[if_pos (show(Value.ref T != Value.none)=true from rfl)]
 refine ac (bY hT hdT h3 ?_)
 rw[if_neg (show¬((Value.none==rawInt L)=true) from by simp[rawInt])]
 refine ac (wpAny_setField hT hdT (Array.getElem?_eq_some_iff.mp h3).1 ?_)
 have other:∀b,b≠T→(s.heap.update T (Obj.mapFields (·.setIfInBounds 3 Value.none))).get? b=s.heap.get? b:=λb hb=>Heap.get?_update_other _ _ (Ne.symm hb)
 have rec0:∀b o,s.heap.get? b=some o→(∀vs,o.data≠.fields vs)→b≠T:=λb o hb hnf q=>by
  rw[q,hT] at hb;cases hb;exact hnf ts hdT
 refine qu hfr (x.fr.of_keeps λb o hb hnf=>⟨o,(other b (rec0 b o hb hnf)).trans hb,rfl⟩) hf ((other e (Ne.symm hTe)).trans he) hc hd h2 (λb o q=>(other b λz=>by rw[z,hT0] at q;cases q).trans (x.st b o q)) x.new λh' y1 y2=>hq h' y1 λb o hb hnf=>y2 b o ((other b (rec0 b o hb hnf)).trans hb) hnf
theorem k_{l:List Env}{fl:Value}(x:Eg base l e X fl s.heap)(hq:∀h',Eg base l e X .none h'→s.heap.UpToSlots h'→Q () {s with heap:=h'}):wpAny M A (setFlight (.ref e) none) Q E s:=by
 refine aa λhQ=>?_
 obtain⟨oe,vs,T,oT,ts,he,hc,hd,h1,h2,hT0,hTe,hT,hdT,h3⟩:=x.tr
 (refine hQ ?_;clear hQ)
 have other:∀b,b≠T→(s.heap.update T (Obj.mapFields (·.setIfInBounds 3 ((none:Option Addr).elim Value.none λf=>rawInt f)))).get? b=s.heap.get? b:=λb hb=>Heap.get?_update_other _ _ (Ne.symm hb)
 have rec0:∀b o,s.heap.get? b=some o→(∀vs,o.data≠.fields vs)→b≠T:=λb o hb hnf q=>by
  rw[q,hT] at hb;cases hb;exact hnf ts hdT
 unfold setFlight
 refine ac (bY he hd h1 ?_)
 rw[if_pos (show(Value.ref T != Value.none)=true from by rfl)]
 refine wpAny_setField hT hdT ((Array.getElem?_eq_some_iff.mp h3).1) (hq _ ⟨λb o q=>(other b λz=>by rw[z,hT0] at q;cases q).trans (x.st b o q),x.new,x.fr.of_keeps λb o hb hnf=>⟨o,(other b (rec0 b o hb hnf)).trans hb,rfl⟩,?_⟩ λb o hb hnf=>⟨o.slots,(other b (rec0 b o hb hnf)).trans hb⟩)
 exact⟨oe,vs,T,_,_,(other e (Ne.symm hTe)).trans he,hc,hd,h1,h2,hT0,hTe,cX _ hT (Obj.isFreed_of_fields (dz hdT _)),dz hdT _,by simp[((Array.getElem?_eq_some_iff.mp h3).1)]⟩
end
theorem yN(a b:List Stmt)(env:Env):execs (a++b) env=(execs a env>>=λf=>match f with | .next=>execs b env | f=>pure f):=by
 induction a with
 |nil =>
  show execs b env=(pure Flow.next>>=λf=>match f with | .next=>execs b env | f=>pure f)
  rw[pure_bind]
 |cons st a ih =>
  show(exec st env>>=λf=>match f with | .next=>execs (a++b) env | f=>pure f)=((exec st env>>=λf=>match f with | .next=>execs a env | f=>pure f)>>=λf=>match f with | .next=>execs b env | f=>pure f)
  rw[bind_assoc]
  refine bind_congr λf=>?_
  cases f
  case next=>exact ih
  all_goals exact(pure_bind _ _).symm
theorem yY{M:Model}{a b:List Stmt}{Q:Flow→Shared→Prop}
  (h:wpAny M A (execs a env) (λf s=>match f with | .next=>wpAny M A (execs b env) Q E s | f=>Q f s) E s):wpAny M A (execs (a++b) env) Q E s:=by
 rw[yN]
 exact ac (bA h (λf s hf=>by cases f<;>first | exact hf | exact aB hf) λ_ _ x=>x)
section
variable{W:Wd}
noncomputable def tL(h:Heap)(l:List Env):Prop:=∀env∈l,env.scope.kind≠.module∧∃L m,env.frame=some L∧h.Ns L m
theorem lA{h base:Heap}:∀{l:List Env},tL h l→(∀env∈l,∀L,env.frame=some L→base.get? L=none)→h.FunFrames base l
 |[],_,_=>trivial
 |env::l,o,hb=>by
  refine aa λhQ=>?_
  obtain⟨h1,L,m,h2,o',es,ep,e,hd,_⟩:=o env al
  (refine hQ ?_;clear hQ)
  exact⟨h1,⟨L,o',h2,hb env al L h2,e,λvs q=>by rw[hd] at q;cases q⟩,lA (λx hx=>o x (aj _ hx)) λx hx=>hb x (aj _ hx)⟩
theorem wG{ps ns:List Str}{t:Expr}{X N I:String}{np rp ip:Pos}{els rest:List Stmt}(fo:ud fd.scope ps ns)
  (hF:∀{h},W.ok h→∃o,h.get? a=some o∧o.data=.func fd) (hcd:∀{h},W.ok h→h.CodeRec fd.code fd.qualname) (hbody:fd.body=.stmts (.If t [.Raise (some (.Name x np)) none rp] els ip::rest))
  (hbind:∀vals:List Value,vals.length=ps.length→bindArgs fd ⟨vals,[]⟩=pure (ps.zip vals)) (hclo:fd.closure=[]) (hg:fd.globals=mainGlobals) (hb:fd.builtins=builtinsNs)
  (ht:gu W (fP ns 0) fd.scope t ct) (hox:bI x=true) (hkx:fd.scope.names.lookup x=some .globalImplicit) (hmx:W.mg x=none∧W.mb x=some (.type X)) (hc:ExcClass X N I) (hself:isSubtype (.type X) (.type X)=pure true)
  {M:List Addr} {vs:List V} {Q:Value→Shared→Prop} {outer:List Env} (nx:W.exc=none) (ctr:i4 W n Φ) (rm:dA W A (n+1)) (g:cU W s) (mok:kQ s.heap M) (hv:dN s.heap M vals vs) (hown:(vs.all λv=>!v.own)=true) (hlen:vs.length=ps.length)
  {v:V} (e1:ak Φ ct (vs.map Mine.Slot.sh++List.replicate (ns.length+0-ps.length) Mine.Slot.un)=some v) (e2:dC v=some true) (hfr:A.frames=some outer) (ho:tL s.heap outer)
  (h:∀e s₂ L' base h',SX W s s₂→s.heap.get? L'=none→(∃m,s₂.heap.Ns L' m)→(∀b o,s₂.heap.get? b=some o→b≠L'→b∉outer.filterMap (·.frame)→base.get? b=some o)→Eg base outer e X .none h'→s₂.heap.UpToSlots h'→E (.ref e) {s₂ with heap:=h'}) :
  wpAny (model W.prog W.w) A (call (.ref a) vals []) Q E s:=by
 refine kr 0 fo hF hcd hbody hbind hclo hg hb rm g mok hv hown hlen λenv s₁ M' _ _ hf hLn so x1 fi rm'=>?_
 refine aV (wpAny_If (ht n Φ (A.deeper env) s₁ env M' _ v true _ _ (fi.cx so ctr rm') e1 e2 λs₂ x2=>?_))
 refine aV (Raise_classB (rm'.w.hn nx) hc hself (kh x2.good so.ek hox hkx (.inr hmx) ⟨rfl,rfl⟩) λh₃ e hx=>?_)
 have x12:=x1.trans x2
 obtain⟨m2,ns2⟩:=(fi.ext x2).lay.ns
 have o2:tL s₂.heap outer:=λz hz=>let⟨q1,L,m,q2,q3⟩:=ho z hz;⟨q1,L,m,q2,Ns.ext x12 q3⟩
 show wpAny _ _ (leaving env (.ref e)) _ _ _
 unfold leaving
 refine ac (vx (s:={s₂ with heap:=h₃}) (Around.frames_deeper hfr) (lA (λz hz=>(ah.mp hz).elim (λq=>by rw[q];exact⟨by rw[so.ek.scope,so.ek.kind];decide,_,m2,hf,ns2⟩) (o2 z)) λz hz L hL=>hideAll_none _ ((ah.mp hz).elim (λq=>by rw[q,hf] at hL;simp only[←am hL];exact al) λq=>aj _ (List.mem_filterMap.mpr ⟨z,q,hL⟩))) hf (λb o q=>of_hideAll _ q) hx λh₄ y1 u1=>k_ y1 λh₅ y2 u2=>?_)
 refine aa λhQ=>?_
 obtain⟨q1,_,q2⟩:=y2.fr
 (refine hQ ?_;clear hQ)
 exact h e s₂ env.locals _ h₅ x12 hLn ⟨m2,ns2⟩ (λb o hb h1 h2=>hideAll_get _ hb λq=>(ah.mp q).elim h1 h2) ⟨y2.st,y2.new,q2,y2.tr⟩ (((Heap.UpToSlots.of_keeps hx.keeps).trans u1).trans u2)
end
noncomputable def eZ.withEx(B:eZ)(p:Addr×Obj)(hp:∃vs,p.2.data=.fields vs∧vs[2]?=some .none):eZ:={B with ex:=some p,exO:=λq hq=>by cases hq;exact hp}
noncomputable def jK:Slot→Bool
 |.un=>true
 |.sh _=>true
 |_=>false
section
variable{Γ:eX}{sc:Scope}{own:Nat→Addr}{M:List Addr}{Φ':jU}{n':Nat}{Q:Flow→Shared→Prop}
structure lc(B:eZ)(s₀ s s₂:Shared)(env:Env)(L':Addr)(h':Heap):Prop where
 x:SX B.W s s₂
 new:s.heap.get? L'=none
 ns:∃m,s₂.heap.Ns L' m
 keep:∀b o,s₂.heap.get? b=some o→b≠L'→b≠env.locals→h'.get? b=some o
 up:s₂.heap.UpToSlots h'
theorem lc.good(so:lD Γ sc env)(fi:FI B.W Γ sc s₀ env [] own M ρ s)(hL0:s₀.heap.get? env.locals=none){s₂:Shared}{L':Addr}{h':Heap}(c:lc B s₀ s s₂ env L' h'):cU B.W {s₂ with heap:=h'}:=by
 refine⟨B.W.mono c.x.good.ok λb o hb e=>?_,c.x.good.bare⟩
 by_cases q:b=L'
 ·subst q
  exfalso
  rcases hb with hb | hb
  ·obtain⟨o',e'⟩:=B.W.occ fi.x.good.ok hb
   rw[c.new] at e';cases e'
  ·exact c.ns.elim λm n=>hb (iM n o e)
 by_cases q2:b=env.locals
 ·subst q2
  exfalso
  rcases hb with hb | hb
  ·obtain⟨o',e'⟩:=B.W.occ fi.g₀.ok hb
   rw[hL0] at e';cases e'
  ·obtain⟨m,n⟩:=(fi.ext c.x).lay.ns
   exact hb (iM n o e)
 exact c.keep b o e q q2
theorem lc.cx(so:lD Γ sc env)(fi:FI B.W Γ sc s₀ env [] own M ρ s)(hL0:s₀.heap.get? env.locals=none)(hM:env.locals∈M)(hpl:ρ.all jK=true)(c:lc B s₀ s s₂ env L' h'){p:Addr×Obj}(hp:∃vs,p.2.data=.fields vs∧vs[2]?=some .none)(hpe:h'.get? p.1=some p.2)
  (ctr:i4 (B.withEx p hp).W n' Φ') (rm:dA (B.withEx p hp).W A n'):Cx (B.withEx p hp).W Γ sc n' Φ' A {s₂ with heap:=h'} env M ρ:=by
 have g:=c.good so fi hL0
 have neL:∀{b o},s.heap.get? b=some o→b≠L':=λe q=>by rw[q,c.new] at e;cases e
 have kns:∀{m},s.heap.Ns env.locals m→h'.Ns env.locals m:=λn=>c.up.ns (Ns.ext c.x n)
 have kcell:∀y a v,env.cells.lookup y=some a→s.heap.IsCell a v→h'.IsCell a v:=λy a v hy n=>by
  obtain⟨o,e,hd⟩:=n
  exact⟨o,c.keep a o (c.x.keep a o e (fh λfs q=>by replace q:=hd▸q;cases q)) (neL e) (so.ek.apart y a hy),hd⟩
 refine⟨λf p vs r hf e=>⟨rm,ctr f p hf⟩,rm.w,⟨⟨g.ok.1,g.ok.2.1,λq hq=>by cases hq;exact hpe⟩,g.bare⟩,so.ek,λa ha=>?_,λy i hy sl hs=>?_,⟨fi.lay.ns.imp λm n=>kns n,λy a hy=>(fi.lay.cell y a hy).imp λv n=>kcell y a v hy n⟩,fi.len,so.wf⟩
 ·by_cases q:a=env.locals
  ·rw[q];exact fi.lay.ns.elim λm n=>en (kns n)
  ·obtain⟨o,e,nt⟩:=fi.mok a ha
   exact⟨o,c.keep a o (c.x.keep a o e nt) (neL e) q,nt⟩
 ·have hv:=fi.vis y i hy sl hs
  have hsh:=ap.mp hpl sl (aW hs)
  cases sl with
  |un=>trivial
  |ow _=>cases hsh
  |mx _ _=>cases hsh
  |sh v =>
   obtain⟨h1,val,h2,h3⟩:=hv
   refine⟨h1,val,?_,cQ.mono (λb o hb e nt=>c.keep b o (c.x.keep b o e nt) (neL e) λq=>hb (q▸hM)) (λa ha=>.inl ha) h1 h3⟩
   exact h2.imp (λq=>⟨q.1,q.2.imp λm q=>⟨kns q.1,q.2⟩⟩) λq=>⟨q.1,q.2.imp λa q=>⟨q.1,kcell y a _ q.1 q.2⟩⟩
theorem lc.sx(nx:B.ex=none)(fi:FI B.W Γ sc s₀ env [] own M ρ s)(hL0:s₀.heap.get? env.locals=none){s₆:Shared}(c:lc B s₀ s s₂ env L' h'){p:Addr×Obj}(hp:∃vs,p.2.data=.fields vs∧vs[2]?=some .none)
  (x6:SX (B.withEx p hp).W {s₂ with heap:=h'} s₆):SX B.W s₀ s₆:=by
 have x02:=fi.x.trans c.x
 have ne:∀{b o},s₀.heap.get? b=some o→b≠L'∧b≠env.locals:=λ{b o} e=>⟨λq=>(fi.x.occ b o e).elim λo' e'=>Option.some_ne_none o' (e'.symm.trans (q▸c.new)),λq=>Option.some_ne_none o (e.symm.trans (q▸hL0))⟩
 refine⟨λb o e nt=>x6.keep b o (c.keep b o (x02.keep b o e nt) (ne e).1 (ne e).2) nt,λb o e=>?_,x6.os.trans x02.os,λi gg e=>x6.gens i gg (x02.gens i gg e),⟨⟨x6.good.ok.1,x6.good.ok.2.1,λq hq=>nomatch nx.symm.trans hq⟩,x6.good.bare⟩⟩
 obtain⟨o',e'⟩:=x02.occ b o e
 exact x6.occ b o' (c.keep b o' e' (ne e).1 (ne e).2)
theorem Dr{f:Str}{X T:String}{pf pc pe pr ph:Pos}{es:List Expr}{us:List V}{rx:Expr}(nx:B.ex=none)(so:lD Γ sc env)(fi:FI B.W Γ sc s₀ env [] own M ρ s)(hL0:s₀.heap.get? env.locals=none)(hM:env.locals∈M)(hpl:ρ.all jK=true)
  (hf:env.frame=some env.locals) (hfr:A.frames=some [env]) (ctr:i4 B.W n Φ) (rm:dA B.W A n) (hof:bI f=true) (hkf:sc.names.lookup f=some .globalImplicit) (hmem:(f,ad)∈B.fns) (H:fC B.W Γ sc es cs) (eus:cevals Φ cs ρ=some us)
  (RC:∀(vals:List Value) (s₁:Shared) (E' Q':Value→Shared→Prop),cU B.W s₁→kQ s₁.heap M→dN s₁.heap M vals us→tL s₁.heap [env] →
   (∀e s₂ L' base h',SX B.W s₁ s₂→s₁.heap.get? L'=none→(∃m,s₂.heap.Ns L' m)→(∀b o,s₂.heap.get? b=some o→b≠L'→b∉[env].filterMap (·.frame)→base.get? b=some o)→Eg base [env] e X .none h'→s₂.heap.UpToSlots h'→E' (.ref e) {s₂ with heap:=h'}) →
   wpAny (model B.W.prog B.W.w) A (call (.ref ad) vals []) Q' E' s₁)
  (hox:bI x=true) (hkx:sc.names.lookup x=some .globalImplicit) (hmx:B.W.mg x=none∧B.W.mb x=some (.type T)) (hexc:isSubtype (.type T) (.type "BaseException")=pure true) (hnt:isSubtype (.type ((Manifest.find? T).elim "type" λx=>x.metatype)) (.type "tuple")=pure false)
  (hsub:isSubtype (.type X) (.type T)=pure true) (HR:∀p hp,bJ (B.withEx p hp).W Γ sc rx cr) (ctr':∀p hp,i4 (B.withEx p hp).W n' Φ') (rn:∀e hp,dA (B.withEx e hp).W (A.mark (some (.ref e.1))) n') (e':ak Φ' cr ρ=some (.d (.bool true))) (h:∀s',SX B.W s₀ s'→Q (.ret (.bool true)) s') :
  wpAny (model B.W.prog B.W.w) A (exec (.Try [.Expr (.Call (.Name f pf) es [] pc) pe] [.ExceptHandler (some (.Name x px)) none [.Return (some rx) pr] ph] [] [] pt) env) Q E s:=by
 refine wpAny_Try_except (aV (wpAny_Expr_any ?_ (by unfold interactive;rw[dI so.ek];rfl) rfl))
 refine gx fi.x.good so.ek hof hkf (.inl (B.W.fnG _ hmem)) (callWith_of (P:=FnAt ad) (by rw[H.plain];rfl) keeps_F (dR H (fi.cx so ctr rm) eus λvals s₁ x1 r1=>⟨?_,?_⟩))
 ·refine aa λhQ=>?_
  obtain⟨o,fd,h1,h2⟩:=B.W.fnO x1.good.ok _ hmem
  obtain⟨oc,od,dt,sl⟩:=o
  (refine hQ ?_;clear hQ)
  simp only at h2
  subst h2
  exact⟨oc,od,fd,sl,h1⟩
 ·have fi1:=fi.ext x1
  refine RC vals s₁ _ _ x1.good fi1.mok r1 (λz hz=>by
   rw[aq.mp hz]
   obtain⟨m,n⟩:=fi1.lay.ns
   exact⟨by rw[so.ek.scope,so.ek.kind];decide,_,m,hf,n⟩) λe s₂ L' base h₃ x2 hL' nsL' hb fly u2=>?_
  have mk:∀{h'},base.StaysIn h'→s₂.heap.UpToSlots h'→lc B s₀ s₁ s₂ env L' h':=λk u=>⟨x2,hL',nsL',λb o q q1 q2=>k b o (hb b o q q1 (by simp[hf];exact q2)),u⟩
  refine yX (s:={s₂ with heap:=h₃}) hfr hf fly λh₄ y4 u4=>k_ y4 λh₅ y5 u5=>wpAny_handleBy_builtin (X:=X) (b:=true) hexc hnt hsub (kh ((mk y5.st ((u2.trans u4).trans u5)).good so fi1 hL0) so.ek hox hkx (.inr hmx) ⟨rfl,?_,k_ y5 λh₆ y6 u6=>?_⟩)
  ·refine aa λhQ=>?_
   obtain⟨oe,_,_,_,_,he,hc,_⟩:=y5.tr
   (refine hQ ?_;clear hQ)
   exact⟨oe,he,hc⟩
  ·refine aa λhQ=>?_
   obtain⟨oe,vs,_,_,_,he,_,hd,_,h2,_⟩:=y6.tr
   (refine hQ ?_;clear hQ)
   have c6:=mk y6.st (((u2.trans u4).trans u5).trans u6)
   have hp:∃vs,(e,oe).2.data=.fields vs∧vs[2]?=some .none:=⟨vs,hd,h2⟩
   refine aV (wpAny_Return_some (HR (e,oe) hp n' Φ' _ _ env M ρ _ _ _ (c6.cx so fi1 hL0 hM hpl hp he (ctr' _ hp) (rn (e,oe) hp)) e' λxv s₇ x7 r7=>?_))
   have hx:xv=.bool true:=by cases(show Rep s₇.heap M xv (.bool true) from r7);rfl
   simp only[hx]
   exact h s₇ (c6.sx nx fi1 hL0 hp x7)
end
theorem Ch{C:Cs}(nx:B.ex=none)(ok:p8 C B.W){ps ns:List Str}{front:List Stmt}{y₀ f:Str}{X T:String}{pf pc pe pr ph:Pos}{es:List Expr}{us:List V}{rx:Expr}{last:List Stmt}{m n':Nat}{Φ':jU}
  (fo:ud fd.scope ps ns) (hF:∀{h},B.W.ok h→∃o,h.get? a=some o∧o.data=.func fd) (hcd:∀{h},B.W.ok h→h.CodeRec fd.code fd.qualname)
  (hbody:fd.body=.stmts (front++.Try [.Expr (.Call (.Name f pf) es [] pc) pe] [.ExceptHandler (some (.Name x px)) none [.Return (some rx) pr] ph] [] [] pt::last))
  (hbind:∀vals:List Value,vals.length=ps.length→bindArgs fd ⟨vals,[]⟩=pure (ps.zip vals)) (hclo:fd.closure=[]) (hg:fd.globals=mainGlobals) (hb:fd.builtins=builtinsNs) (hy:fd.scope.names.lookup y₀=some .local)
  {vs:List V} {Q:Value→Shared→Prop} (hfr:A.frames=some []) (rm:dA B.W A (n+1)) (g:cU B.W s) (hv:dN s.heap [] vals vs) (hown:(vs.all λv=>!v.own)=true) (hlen:vs.length=ps.length) (ctr:i4 B.W n Φ)
  (e1:cexs Φ fu (qg ok (fP ns 0) fd.scope m front).1 (vs.map Mine.Slot.sh++List.replicate (ns.length+0-ps.length) Mine.Slot.un)=some (ρ,.nx)) (hpl:ρ.all jK=true)
  (hof:bI f=true) (hkf:fd.scope.names.lookup f=some .globalImplicit) (hmem:(f,ad)∈B.fns) (H:fC B.W (fP ns 0) fd.scope es cs) (eus:cevals Φ cs ρ=some us)
  (RC:∀(A:Around) (env:Env) (M:List Addr) (vals:List Value) (s₁:Shared) (E' Q':Value→Shared→Prop),dA B.W A n→A.frames=some [env]→cU B.W s₁→kQ s₁.heap M→dN s₁.heap M vals us→tL s₁.heap [env] →
   (∀e s₂ L' base h',SX B.W s₁ s₂→s₁.heap.get? L'=none→(∃m,s₂.heap.Ns L' m)→(∀b o,s₂.heap.get? b=some o→b≠L'→b∉[env].filterMap (·.frame)→base.get? b=some o)→Eg base [env] e X .none h'→s₂.heap.UpToSlots h'→E' (.ref e) {s₂ with heap:=h'}) →
   wpAny (model B.W.prog B.W.w) A (call (.ref ad) vals []) Q' E' s₁)
  (hox:bI x=true) (hkx:fd.scope.names.lookup x=some .globalImplicit) (hmx:B.W.mg x=none∧B.W.mb x=some (.type T)) (hexc:isSubtype (.type T) (.type "BaseException")=pure true) (hnt:isSubtype (.type ((Manifest.find? T).elim "type" λx=>x.metatype)) (.type "tuple")=pure false)
  (hsub:isSubtype (.type X) (.type T)=pure true) (HR:∀p hp,bJ (B.withEx p hp).W (fP ns 0) fd.scope rx cr) (ctr':∀p hp,i4 (B.withEx p hp).W n' Φ') (hn:n'≤n) (e':ak Φ' cr ρ=some (.d (.bool true))) (h:∀s',SX B.W s s'→Q (.bool true) s') :
  wpAny (model B.W.prog B.W.w) A (call (.ref a) vals []) Q E s:=by
 refine kr (M:=[]) 0 fo hF hcd hbody hbind hclo hg hb rm g (λ_ h=>nomatch h) hv hown hlen λenv s₁ M' _ _ hf hLn so x1 fi rm'=>?_
 refine yY ((qg ok (fP ns 0) fd.scope m front).2 n Φ fu (A.deeper env) env s s₁ [] M' _ _ ρ .nx _ _ ctr rm' so fi e1 λown M s₂ fl fi2 _ fr=>?_)
 rw[fr.next]
 have hM:env.locals∈M:=by
  have:=(fi2.loc y₀ (.inl hy)).1
  rwa [show locOf env y₀=env.locals from if_pos (by rw[cJ so.ek];exact hy)] at this
 have hfr':(A.deeper env).frames=some [env]:=Around.frames_deeper hfr
 refine aV (Dr nx so fi2 hLn hM hpl hf hfr' ctr rm' hof hkf hmem H eus (λvals s₁ E' Q' g m v o k=>RC (A.deeper env) env M vals s₁ E' Q' rm' hfr' g m v o k) hox hkx hmx hexc hnt hsub HR ctr' (λp hp=>⟨rfl,?_,?_⟩) e' λs' sx=>h s' sx)
 ·have:=rm'.depth;show(A.deeper env).depth+n'≤900;exact ab (Nat.add_le_add_left hn _) this
 ·have:=rm'.units;show(A.deeper env).units+4*n'+200≤cLine;exact ab (Nat.add_le_add_right (Nat.add_le_add_left (Nat.mul_le_mul_left 4 hn) _) _) this
theorem BN{fa:Addr}{P:Params}{xs:List Int}{l:OpenLaw}
  (hc:∀(E Q:Value→Shared→Prop),cU B.W s→dN s.heap [] [.ref a] [.d (.list (xs.map .int))]→(∀s',SX B.W s s'→Q (.bool true) s')→wpAny (model B.prog B.w) callerA (call (.ref fa) [.ref a] []) Q E s)
  (hx:B.ex=none) (hs:s.heap=B.h₁) (hg:s.gens=#[]) (hr:WellAll P s.heap [.ref a] [ofPy (.list (xs.map .int))]) :
  wpAny (model B.prog B.w) callerA (call (.ref fa) [.ref a] []) (λv s'=>GoodWG l.row.claim cl mean [ofPy (.list (xs.map .int))] s (.ok (.ret v)) s') (λe s'=>GoodWG l.row.claim cl mean [ofPy (.list (xs.map .int))] s (.error e) s') s :=
 hc _ _ (zm B hx hs hg) (uY hr) λs' sx=>⟨.inl ⟨_,.bool true,[],rfl,λ_=>rfl,.bool true,yO _ _,λ_=>⟨.nil,λ_ h=>nomatch h⟩⟩,E7 hs sx,sx.os,sx.good.bare⟩
section
open PySem.StrLaws Builtin Builtin.Str
noncomputable def S(l:List Nat):Str:=⟨l.toArray⟩
theorem KQ(a:Array Nat):(⟨a⟩:Str)=S a.toList:=rfl
theorem Ku(x:Str):S x.cps.toList=x:=rfl
theorem Lb(x:Str):∃l,x=S l:=⟨x.cps.toList,rfl⟩
theorem uQ(l:List Nat):(S l).cps.toList=l:=rfl
theorem JX(l:List Nat):(S l).cps.size=l.length:=rfl
theorem gv(l:List Nat):(S l).length=l.length:=rfl
theorem zx(a b:List Nat):S a++S b=S (a++b):=by
 apply Str.ext';simp only[Str.cps_append];simp[S]
theorem IS{a b:List Nat}:S a=S b↔a=b:=⟨λh=>by have:=congrArg (λx:Str=>x.cps.toList) h;exact this,λh=>by rw[h]⟩
theorem IN(a b:List Nat):(S a==S b)=(a==b):=by
 rw[Bool.eq_iff_iff,beq_iff_eq,beq_iff_eq,IS]
theorem GT(l:List Nat):PyData.strOk (S l)=l.all (·<0x110000):=by
 simp[PyData.strOk,S]
theorem uo(l:List Nat)(i j:Nat):strSub (S l) i j=S ((l.drop i).take (j-i)):=by
 apply Str.ext';apply Array.toList_inj.mp
 simp only[strSub_toList];rfl
noncomputable def d_(sep:List Nat):List (List Nat)→List Nat
 |[]=>[]
 |[x]=>x
 |x::y::r=>x++sep++d_ sep (y::r)
theorem mO{x y:List Nat}{r:List (List Nat)}:d_ sep (x::y::r)=x++sep++d_ sep (y::r):=rfl
theorem A9(sep:List Nat):∀ls:List (List Nat),Txt.join (S sep) (ls.map S)=S (d_ sep ls):=by
 intro ls
 show glued _ _=_
 rw[glued_eq_join]
 induction ls with
 |nil=>rfl
 |cons x r ih =>
  cases r with
  |nil=>rfl
  |cons y r =>
   show S x++S sep++Str.join (S sep) ((y::r).map S)=_
   rw[ih,zx,zx];rfl
theorem jp:∀ls:List (List Nat),d_ [] ls=ls.flatten
 |[]=>rfl
 |[x]=>(bE x).symm
 |x::y::r=>by rw[mO,jp (y::r),bE];rfl
theorem jo{x:List Nat}{r:List (List Nat)}(h:r≠[]):d_ sep (x::r)=x++sep++d_ sep r:=by
 cases r with
 |nil=>exact absurd rfl h
 |cons y r=>rfl
theorem j8{w:List Nat}{hi:Nat}(_hh:hi≤l.length):At (S l) (S w) hi i↔i+w.length≤hi∧w <+: (l.take hi).drop i:=by
 unfold At
 rw[subAt_eq,gv]
 show(i+w.length≤hi∧((l.drop i).take w.length==w)=true)↔_
 refine and_congr_right λh1=>?_
 rw[beq_iff_eq,List.prefix_iff_eq_take,List.drop_take,List.take_take,show min w.length (hi-i)=w.length by exact Nat.min_eq_left (dG h1)]
 exact eq_comm
noncomputable def jM(w:List Nat):List Nat→Option Nat
 |[]=>if w.isPrefixOf [] then some 0 else none
 |c::r=>if w.isPrefixOf (c::r) then some 0 else(jM w r).map (·+1)
theorem w5{w:List Nat}:jM w []=if w.isPrefixOf [] then some 0 else none:=rfl
theorem pK{w r:List Nat}{c:Nat}:jM w (c::r)=if w.isPrefixOf (c::r) then some 0 else(jM w r).map (·+1):=rfl
theorem jr{w:List Nat}:∀{i:Nat},jM w l=some i→w <+: l.drop i∧(∀k,k<i→¬w <+: l.drop k)∧i≤l.length:=by
 induction l with
 |nil =>
  intro i h
  rw[w5] at h
  split at h
  ·rename_i q;cases h;exact⟨b8.mp q,λk hk=>absurd hk (Nat.not_lt_zero _),aF _⟩
  ·cases h
 |cons c r ih =>
  intro i h
  rw[pK] at h
  split at h
  ·rename_i q;cases h;exact⟨b8.mp q,λk hk=>absurd hk (Nat.not_lt_zero _),bo _⟩
  ·rename_i q
   refine aa λhQ=>?_
   obtain⟨j,hj,rfl⟩:=aH.mp h
   obtain⟨h1,h2,h3⟩:=ih hj
   (refine hQ ?_;clear hQ)
   refine⟨by simpa using h1,λk hk=>?_,by simpa using h3⟩
   cases k with
   |zero=>exact λz=>q (b8.mpr (by simpa using z))
   |succ k=>simpa using h2 k (by exact Nat.lt_of_succ_lt_succ hk)
theorem pM{w:List Nat}:jM w l=none→∀k,k≤l.length→¬w <+: l.drop k:=by
 induction l with
 |nil =>
  intro h k hk
  rw[w5] at h
  split at h
  ·cases h
  ·rename_i q
   have:k=0:=by simpa using hk
   subst this
   exact λz=>q (b8.mpr (by simpa using z))
 |cons c r ih =>
  intro h k hk
  rw[pK] at h
  split at h
  ·cases h
  ·rename_i q
   cases k with
   |zero=>exact λz=>q (b8.mpr (by simpa using z))
   |succ k=>simpa using ih (Option.map_eq_none_iff.mp h) k (by simpa using hk)
theorem Ek{w:List Nat}{a b:Nat}(hab:a≤b)(hb:b≤l.length):oz (S l) (S w) a b=match jM w ((l.take b).drop a) with
  |some i=>((a+i:Nat):Int)
  |none=>-1:=by
 unfold oz
 rw[occ_eq]
 rcases occ_first (S l) (S w) b 1 (aF 1) (List.range' a (b+1-a)) a (λi hi=>by have:=List.mem_range'_1.mp hi;exact And.left this) with⟨h0,hn⟩ | ⟨pre,i,post,e,h0,ha,hn⟩
 ·rw[h0]
  cases q:jM w ((l.take b).drop a) with
  |none=>rfl
  |some i =>
   exfalso
   obtain⟨h1,h2,h3⟩:=jr q
   have hl:((l.take b).drop a).length=b-a:=by rw[aY,bx,Nat.min_eq_left hb]
   have h4:=h1.length_le
   rw[aY,hl] at h4
   refine hn (a+i) (by rw[List.mem_range'_1];exact⟨ay _ _,Nat.add_lt_add_left (au (ab h3 (aw hl)) (Nat.sub_lt_sub_right hab (bO b))) a⟩) ((j8 hb).mpr ⟨(Nat.le_sub_iff_add_le' ((Nat.le_sub_iff_add_le' hab).mp (ab h3 (aw hl)))).mp (ab h4 (aw (Nat.sub_sub b a i))),?_⟩)
   rw[List.drop_drop] at h1;exact h1
 ·have hs:=range'_split_from e
  have hi:a≤i:=hs.1
  have hA:=(j8 hb).mp ha
  generalize (forIn (List.range' a (b+1-a)) ((#[]:Array Nat),a) (occBody (S l) (S w) b 1)).run.fst=arr at h0
  have h1:arr.toList[0]?=some i:=by simpa using h0
  have h2:∃t,arr.toList=i::t:=by
   cases hL:arr.toList with
   |nil=>rw[hL] at h1;cases h1
   |cons b t=>rw[hL] at h1;simp at h1;exact⟨t,by rw[h1]⟩
  obtain⟨t,ht⟩:=h2
  rw[ht]
  show(i:Int)=_
  have hl:((l.take b).drop a).length=b-a:=by rw[aY,bx,Nat.min_eq_left hb]
  cases q:jM w ((l.take b).drop a) with
  |none =>
   exfalso
   refine pM q (i-a) (by rw[hl];exact Nat.sub_le_sub_right (ab (ay i (List.length w)) (And.left hA)) a) ?_
   rw[List.drop_drop,show a+(i-a)=i by exact cw (by assumption)]
   exact hA.2
  |some j =>
   refine aa λhQ=>?_
   obtain⟨g1,g2,g3⟩:=jr q
   (refine hQ ?_;clear hQ)
   have g4:=g1.length_le
   rw[aY,hl] at g4
   rcases Nat.lt_trichotomy (a+j) i with z | z | z
   ·exfalso
    refine hn (a+j) (hs.2 _ (by exact ay _ _) z) ((j8 hb).mpr ⟨by exact aE (ae (Nat.add_lt_add_right z (List.length w)) (And.left hA)),?_⟩)
    rw[List.drop_drop] at g1;exact g1
   ·show(i:Int)=((a+j:Nat):Int);rw[z]
   ·exfalso
    refine g2 (i-a) (by exact Nat.sub_lt_left_of_lt_add hi z) ?_
    rw[List.drop_drop,show a+(i-a)=i by exact cw (by assumption)]
    exact hA.2
theorem Dk(w l:List Nat):xn (S w) (S l)=(jM w l).isSome:=by
 unfold xn
 rw[Bool.eq_iff_iff,found_iff,Option.isSome_iff_exists]
 constructor
 ·rintro⟨i,hi⟩
  have hA:=(j8 (l:=l) (w:=w) (hi:=l.length) (aF _)).mp hi
  rw[List.take_length] at hA
  cases q:jM w l with
  |some j=>exact⟨j,rfl⟩
  |none=>exact absurd hA.2 (pM q i (ab (ay i (List.length w)) (And.left hA)))
 ·rintro⟨i,hi⟩
  obtain⟨h1,h2,h3⟩:=jr hi
  have:=h1.length_le
  rw[aY] at this
  refine⟨i,(j8 (l:=l) (w:=w) (hi:=l.length) (aF _)).mpr ⟨by exact bz h3 this,?_⟩⟩
  rw[List.take_length];exact h1
theorem rW(l w:List Nat):Txt.startswith (S l) (S w)=w.isPrefixOf l:=by
 unfold Txt.startswith
 rw[Bool.eq_iff_iff,ag,ar,b8]
 have:=j8 (l:=l) (w:=w) (hi:=l.length) (i:=0) (aF _)
 unfold At at this
 rw[List.take_length,List.drop_zero] at this
 rw[show(0+(S w).length≤(S l).length∧subAt (S l) (S w) 0=true)↔_ from this]
 exact⟨λh=>h.2,λh=>⟨by have:=h.length_le;exact bd this (bo (List.length l-List.length w)),h⟩⟩
theorem vM(l w:List Nat):Txt.endswith (S l) (S w)=w.isSuffixOf l:=by
 unfold Txt.endswith
 rw[Bool.eq_iff_iff,ag,ar,List.isSuffixOf_iff_suffix]
 show 0+w.length≤l.length∧subAt (S l) (S w) (l.length-w.length)=true↔_
 rw[subAt_eq]
 show 0+w.length≤l.length∧((l.drop (l.length-w.length)).take w.length==w)=true↔_
 rw[beq_iff_eq]
 constructor
 ·rintro⟨h1,h2⟩
  rw[List.take_of_length_le (by rw[aY];(clear h2 h1;omega))] at h2
  have h3:=List.take_append_drop (l.length-w.length) l
  rw[h2] at h3
  exact⟨_,h3⟩
 ·rintro⟨t,rfl⟩
  refine⟨by simp,?_⟩
  simp
theorem Df{p r:List Nat}(h:46∉p):jM [46,46,46] (p++[46,46,46]++r)=some p.length:=by
 induction p with
 |nil=>cases r<;>rfl
 |cons c p ih =>
  have hc:c≠46:=λq=>h (by rw[q];exact al)
  have hp:46∉p:=λq=>h (aj _ q)
  show(if[46,46,46].isPrefixOf (c::(p++[46,46,46]++r)) then some 0 else(jM [46,46,46] (p++[46,46,46]++r)).map (·+1))=_
  rw[if_neg (by simp[List.isPrefixOf,Ne.symm hc]),ih hp]
  rfl
end
section
open PySem.StrLaws Builtin Builtin.Str
noncomputable abbrev dJ:List Nat:=[46,46,46]
theorem Aj{c:Nat}(h:At (S l) (S dJ) l.length c):l[c]?=some 46:=by
 have:=(j8 (aF _)).mp h
 rw[List.take_length] at this
 obtain⟨t,ht⟩:=this.2
 have e:(l.drop c)[0]?=some 46:=by rw[←ht];rfl
 rw[List.getElem?_drop] at e
 simpa using e
theorem xm:∀(ps:List (List Nat)) (pre:List Nat) (cuts:List Nat) (f:Nat),ps≠[]→(∀p∈ps,46∉p) →
  ChainG (S (pre++d_ dJ ps)) (S dJ) (pre++d_ dJ ps).length pre.length cuts f→(∀k,f≤k→¬At (S (pre++d_ dJ ps)) (S dJ) (pre++d_ dJ ps).length k) →
  partsFrom (S (pre++d_ dJ ps)) 3 pre.length cuts=ps.map S
 |[],_,_,_,h,_,_,_=>absurd rfl h
 |[p],pre,cuts,f,_,hp,hc,hf=>by
  cases cuts with
  |nil =>
   show[strSub (S (pre++p)) pre.length (S (pre++p)).length]=[S p]
   rw[uo,gv]
   simp
  |cons c r =>
   exfalso
   obtain⟨h1,h2,_⟩:=hc
   have:=Aj h2
   rw[aM h1] at this
   exact hp p al (aW this)
 |p::q::r,pre,cuts,f,_,hp,hc,hf=>by
  have hA:At (S (pre++d_ dJ (p::q::r))) (S dJ) (pre++d_ dJ (p::q::r)).length (pre.length+p.length):=by
   refine(j8 (aF _)).mpr ⟨by simp[mO];lia,?_⟩
   rw[List.take_length,List.drop_append,List.drop_of_length_le (by exact ay _ _),c4,show pre.length+p.length-pre.length=p.length by exact c5 (List.length pre) (List.length p)]
   simp[mO]
  cases cuts with
  |nil =>
   exfalso
   have e:f=pre.length:=hc
   exact hf _ (ab (aw e) (ay (List.length pre) (List.length p))) hA
  |cons c cs =>
   obtain⟨h1,h2,h3,h4⟩:=hc
   have hc:c=pre.length+p.length:=by
    rcases Nat.lt_trichotomy c (pre.length+p.length) with z | z | z
    ·exfalso
     have:=Aj h2
     rw[aM h1] at this
     simp only[mO,bu] at this
     rw[a_ (by exact Nat.sub_lt_left_of_lt_add h1 z)] at this
     exact hp p al (aW this)
    ·exact z
    ·exact absurd hA (h3 _ (by exact ay _ _) z)
   subst hc
   have hx:pre++d_ dJ (p::q::r)=(pre++p++dJ)++d_ dJ (q::r):=by simp[mO]
   have hl:pre.length+p.length+(S dJ).length=(pre++p++dJ).length:=by simp[gv];exact Nat.add_assoc _ _ _
   rw[hl] at h4
   rw[hx] at h4 hf ⊢
   show strSub _ pre.length (pre.length+p.length)::partsFrom _ 3 (pre.length+p.length+3) cs=_
   rw[show pre.length+p.length+3=(pre++p++dJ).length by(simp;exact Nat.add_assoc _ _ _),(xm (q::r) (pre++p++dJ) cs f (by simp) (λx hx=>hp x (aj _ hx)) h4 hf),uo]
   simp
theorem DD{ps:List (List Nat)}(h2:2≤ps.length)(hp:∀p∈ps,46∉p):Txt.split (S (d_ dJ ps)) (S dJ)=ps.map S:=by
 obtain⟨p,q,r,rfl⟩:∃p q r,ps=p::q::r:=by
  match ps,h2 with
  |p::q::r,_=>exact⟨p,q,r,rfl⟩
 unfold Txt.split
 have hk:Builtin.Str.strKind (S dJ)=1:=by unfold Builtin.Str.strKind;simp[S]
 have hk2:¬Builtin.Str.strKind (S (d_ dJ (p::q::r)))<1:=by
  unfold Builtin.Str.strKind;split<;>(try split)<;>decide
 rw[if_neg (by
  rw[hk,Bool.or_eq_true,ar,ar]
  rintro(z | z)
  ·rw[gv,gv] at z;simp[mO] at z
   lia
  ·exact hk2 z)]
 refine aa λhQ=>?_
 obtain⟨f,h1,h2⟩:=occ_tight (S (d_ dJ (p::q::r))) (S dJ) (by decide)
 (refine hQ ?_;clear hQ)
 have key:=xm (p::q::r) [] _ f (by simp) hp h1 h2
 rw[if_neg ?_]
 ·rw[partsBetween_eq];exact key
 ·intro z
  have e:=List.isEmpty_iff.mp z
  rw[e] at key
  exact nomatch (show[]=S q::r.map S from congrArg List.tail key)
end
noncomputable def qa:List CS:=[(.ite (.cmp .NotIn (.lit (.str (S [46,46,46]))) (.var 0)) [(.ret (.cmp .Eq (.var 0) (.var 1)))] []),(.own 2 (.meth .split (.var 0) [(.lit (.str (S [46,46,46])))])),(.assert (.cmp .GtE (.prim .len [(.var 2)]) (.lit (.int (2))))),(.asgS [4,3] (.tup [(.lit (.int (0))),(.prim .len [(.var 1)])])),(.asg 5 (.item (.var 2) (.lit (.int (0))))),(.ite (.var 5) [(.ite (.meth .startswith (.var 1) [(.var 5)]) [(.asg 3 (.prim .len [(.var 5)])),(.delAt 2 false)] [(.ret (.lit (.bool false)))])] []),(.asg 5 (.item (.var 2) (.un .USub (.lit (.int (1)))))),(.ite (.var 5) [(.ite (.meth .endswith (.var 1) [(.var 5)]) [(.aug true 4 (.prim .len [(.var 5)])),(.delAt 2 true)] [(.ret (.lit (.bool false)))])] []),(.ite (.cmp .Gt (.var 3) (.var 4)) [(.ret (.lit (.bool false)))] []),(.frz 2),(.for1 5 (.var 2) [(.asg 3 (.meth .find (.var 1) [(.var 5),(.var 3),(.var 4)])),(.ite (.cmp .Lt (.var 3) (.lit (.int (0)))) [(.ret (.lit (.bool false)))] []),(.aug false 3 (.prim .len [(.var 5)]))]),(.ret (.lit (.bool true)))]
noncomputable def ml:List CS:=[(.ite (.cmp .NotIn (.lit (.str (S [34]))) (.var 0)) [(.ret (.var 0))] []),(.asg 1 (.lit (.int (0)))),(.asg 2 (.lit .none)),(.own 3 (.list [])),(.forG 4 5 (.var 0) [(.ite (.cmp .Eq (.var 5) (.lit (.str (S [34])))) [(.ite (.cmp .Is (.var 2) (.lit .none)) [(.asg 2 (.var 4))] [(.ite (.cmp .NotEq (.var 1) (.var 2)) [(.app 3 (.slice (.var 0) (some (.var 1)) (some (.var 2)) none))] []),(.asg 1 (.bin .Add (.var 4) (.lit (.int (1))))),(.asg 2 (.lit .none))])] [])]),(.ite (.cmp .Lt (.var 1) (.prim .len [(.var 0)])) [(.app 3 (.slice (.var 0) (some (.var 1)) none none))] []),(.frz 3),(.ret (.meth .join (.lit (.str (S []))) [(.var 3)]))]
noncomputable def mL:List CS:=[(.asg 0 (.call 1 [(.var 0)])),(.asg 1 (.lit (.int (0)))),(.forG 2 3 (.var 0) [(.ite (.cmp .Eq (.var 3) (.lit (.str (S [40])))) [(.aug false 1 (.lit (.int (1))))] [(.ite (.cmp .Eq (.var 3) (.lit (.str (S [41])))) [(.aug true 1 (.lit (.int (1)))),(.ite (.cmp .Lt (.var 1) (.lit (.int (0)))) [(.ret (.lit (.bool false)))] [])] [])])]),(.ret (.cmp .Eq (.var 1) (.lit (.int (0)))))]
noncomputable def qY:List CS:=[(.ite (.cmp .LtE (.bin .Sub (.meth .bitLength (.var 0) []) (.var 2)) (.lit (.int (4000)))) [(.ret (.prim .divmod [(.var 0),(.var 1)]))] []),(.asg 3 (.bin .BitAnd (.var 2) (.lit (.int (1))))),(.ite (.var 3) [.stuck,.stuck,(.aug false 2 (.lit (.int (1))))] []),(.asg 4 (.bin .RShift (.var 2) (.lit (.int (1))))),(.asg 5 (.bin .Sub (.bin .LShift (.lit (.int (1))) (.var 4)) (.lit (.int (1))))),(.asgS [7,6] (.tup [(.bin .RShift (.var 1) (.var 4)),(.bin .BitAnd (.var 1) (.var 5))])),.stuck,.stuck,(.ite (.var 3) [.stuck] []),(.ret (.tup [(.bin .BitOr (.bin .LShift (.var 8) (.var 4)) (.var 10)),(.var 9)]))]
noncomputable def mR:List CS:=[(.asg 2 (.meth .bitLength (.var 1) [])),(.asg 3 (.call 4 [(.var 0),(.var 2)])),(.asg 4 (.lit (.int (0)))),(.own 5 (.list [])),(.forR 6 (.var 3) [(.asgT [7,4] (.call 3 [(.bin .Add (.bin .LShift (.var 4) (.var 2)) (.var 6)),(.var 1),(.var 2)])),(.app 5 (.var 7))]),(.rev 5),(.frz 5),(.asg 8 (.call 5 [(.var 5),(.var 2)])),(.ret (.tup [(.var 8),(.var 4)]))]
noncomputable def oM:List CS:=[(.ite (.cmp .Eq (.var 1) (.lit (.int (0)))) [.stuck] [(.ite (.cmp .Lt (.var 1) (.lit (.int (0)))) [(.asgT [2,3] (.call 7 [(.un .USub (.var 0)),(.un .USub (.var 1))])),(.ret (.tup [(.var 2),(.un .USub (.var 3))]))] [(.ite (.cmp .Lt (.var 0) (.lit (.int (0)))) [(.asgT [2,3] (.call 7 [(.un .Invert (.var 0)),(.var 1)])),(.ret (.tup [(.un .Invert (.var 2)),(.bin .Add (.var 1) (.un .Invert (.var 3)))]))] [(.ret (.call 6 [(.var 0),(.var 1)]))])])])]
section
open PySem.StrLaws
theorem cM(h:n≤1048576):c0 n=true:=by unfold c0;rw[ar];exact h
theorem eB(h:xs.length≤1048576):fB (.d (.list xs))=some xs:=if_pos (cM h)
theorem nU{a b:Bool}:nS (.bool a) (.bool b)=(a==b):=by cases a<;>cases b<;>rfl
noncomputable def Bd(i:Int):Prop:=i.natAbs<2^400
theorem ll{i:Int}(h:Bd i):iz i=true:=by
 unfold Bd at h;unfold iz;rw[ar]
 exact ae h (Nat.pow_le_pow_right (by decide) (by decide))
theorem fw{i:Int}(h:i.natAbs≤10^20):iz i=true:=ll (au h (by decide))
theorem g_(h:l.all (·<0x110000)=true):fY (.str (S l))=true:=by
 simp only[fY,SeqAt.shaped,PyData.canLay0,PyData.depth,GT,h];rfl
theorem fO{i:Int}:fY (.int i)=true:=rfl
theorem tn(a b:List Nat):PyData.eqv (.str (S a)) (.str (S b))=(a==b):=by rw[PyData.eqv,IN]
theorem lq(a b:Int):PyData.eqv (.int a) (.int b)=(a==b):=by rw[PyData.eqv]
theorem iE{i:Nat}(h:i≤1048576):iT xs (i:Int)=xs[i]?:=by
 unfold iT;rw[if_pos ⟨aK i,by exact iy h (c8 rfl)⟩,aR]
theorem vn:iT xs 0=xs[0]?:=iE (i:=0) (bo _)
theorem pN(h:xs.length≤1048576)(h0:0<xs.length):iT xs (-1)=xs.getLast?:=by
 unfold iT
 rw[if_neg (λz=>by lia),if_pos ⟨by decide,by lia,by exact au h (by decide)⟩,List.getLast?_eq_getElem?]
 congr 1;lia
noncomputable def Iy(a:Nat):Option Nat→Int
 |some i=>((a+i:Nat):Int)
 |none=>-1
theorem Bl{w:List Nat}{a b:Nat}(hab:a≤b)(hb:b≤l.length)(hl:l.length≤1048576):iw .find (.d (.str (S l))) [.d (.str (S w)),.d (.int (a:Int)),.d (.int (b:Int))]=some (.d (.int (Iy a (jM w ((l.take b).drop a))))):=by
 have hc:0≤(a:Int)∧(a:Int)≤b∧(b:Int)≤(S l).length∧(S l).length<2^62:=⟨aK a,cC.mpr hab,cC.mpr hb,au hl (by decide)⟩
 show(if 0≤(a:Int)∧(a:Int)≤b∧(b:Int)≤(S l).length∧(S l).length<2^62 then some (V.d (.int (oz (S l) (S w) (Int.toNat a) (Int.toNat b)))) else none)=_
 rw[if_pos hc,aR,aR,Ek hab hb]
 cases jM w ((l.take b).drop a)<;>rfl
section
variable{ρ':Ev}{c:CS}{r:List CS}{v:V}{R:Option (Ev×Fl)}
theorem bZ(h:gS Φ fu c ρ=some (ρ',.nx))(k:cexs Φ fu r ρ'=R):cexs Φ fu (c::r) ρ=R:=(sT h).trans k
theorem runF_rt{F:CF}(h:args.length=F.par)(h2:cexs Φ fu F.body ((args.map .sh)++List.replicate (F.size-F.par) .un)=some (ρ',.rt v)):runF Φ fu F args=some v:=(if_pos h).trans (bc h2 rfl)
theorem nN{F:CF}(h:args.length=F.par)(h2:∃ρ',cexs Φ fu F.body ((args.map .sh)++List.replicate (F.size-F.par) .un)=some (ρ',.rt v)):runF Φ fu F args=some v:=h2.elim λ_ h2=>runF_rt h h2
variable{a b t i j:CE}{x y:PyData}{m:Pm}{f:Nat}
theorem JL(s1:fY x=true)(s2:fY y=true):vT .Eq x y=some (PyData.eqv x y):=by
 show(if(fY x&&fY y)=true then some (PyData.eqv x y) else none)=_;rw[s1,s2];rfl
theorem JO(s1:fY x=true)(s2:fY y=true):vT .NotEq x y=some (!PyData.eqv x y):=by
 show(if(fY x&&fY y)=true then some (!PyData.eqv x y) else none)=_;rw[s1,s2];rfl
theorem iP(h1:ak Φ a ρ=some (.d x))(h2:ak Φ b ρ=some (.d y))(s1:fY x=true)(s2:fY y=true):ak Φ (.cmp .Eq a b) ρ=some (.d (.bool (PyData.eqv x y))):=du h1 h2 (JL s1 s2)
theorem uq(h1:ak Φ a ρ=some (.d x))(h2:ak Φ b ρ=some (.d y))(s1:fY x=true)(s2:fY y=true):ak Φ (.cmp .NotEq a b) ρ=some (.d (.bool (!PyData.eqv x y))):=du h1 h2 (JO s1 s2)
theorem ir(h1:ak Φ a ρ=some (.d x))(h2:ak Φ b ρ=some (.d x))(s:fY x=true):ak Φ (.cmp .NotEq a b) ρ=some (.d (.bool false)) :=
 (uq h1 h2 s s).trans (by rw[SeqAt.eqv_refl x (cg.mp s).1];rfl)
theorem wW{y:Bool}(h1:ak Φ a ρ=some (.d x))(h2:ak Φ b ρ=some (.d (.bool y))):ak Φ (.cmp .Is a b) ρ=some (.d (.bool (nS x (.bool y)))):=du h1 h2 rfl
theorem nR{w:List Nat}:vT .NotIn (.str (S w)) (.str (S l))=some (!(jM w l).isSome):=by
 show some (!xn (S w) (S l))=_;rw[Dk]
theorem pU{k:Bool}(h:ak Φ t ρ=some (.d (.bool k))):ak Φ (.ite t a b) ρ=if k then ak Φ a ρ else ak Φ b ρ:=bc h (bc rfl rfl)
theorem wK{k:Bool}(h:ak Φ a ρ=some (.d (.bool false)))(h2:ak Φ b ρ=some (.d (.bool k))):ak Φ (.boolop .Or a b) ρ=some (.d (.bool k)):=bc h (bc rfl h2)
theorem oD{n:Int}(h:ak Φ a ρ=some (.d (.int n))):ak Φ (.un .USub a) ρ=some (.d (.int (-n))):=bc h (bc rfl rfl)
theorem wA{n:Int}(h:ak Φ a ρ=some (.d (.int n))):ak Φ (.un .Invert a) ρ=some (.d (.int (Builtin.bitNot n))):=bc h (bc rfl rfl)
theorem lF{j:Int}(h1:ak Φ a ρ=some (.o xs))(h2:ak Φ i ρ=some (.d (.int j)))(h3:iT xs j=some d):ak Φ (.item a i) ρ=some (.d d):=bc h1 (bc h2 (bc rfl (bc h3 rfl)))
theorem Ia{x:V}(h:ak Φ a ρ=some x):cevals Φ [a] ρ=some [x]:=bc h rfl
theorem wZ{es:List CE}{x:V}{xs:List V}(h:ak Φ a ρ=some x)(h2:cevals Φ es ρ=some xs):cevals Φ (a::es) ρ=some (x::xs):=bc h (by rw[h2];rfl)
theorem EY{x y:V}(h:ak Φ a ρ=some x)(h2:ak Φ b ρ=some y):cevals Φ [a,b] ρ=some [x,y]:=wZ h (Ia h2)
theorem EX{c:CE}{x y z:V}(h:ak Φ a ρ=some x)(h2:ak Φ b ρ=some y)(h3:ak Φ c ρ=some z):cevals Φ [a,b,c] ρ=some [x,y,z]:=wZ h (EY h2 h3)
theorem JQ{c d:CE}{x y z u:V}(h:ak Φ a ρ=some x)(h2:ak Φ b ρ=some y)(h3:ak Φ c ρ=some z)(h4:ak Φ d ρ=some u):cevals Φ [a,b,c,d] ρ=some [x,y,z,u]:=wZ h (EX h2 h3 h4)
theorem FA(o:Option α)(f:α→β):(o.bind λx=>some (f x))=o.map f:=by cases o<;>rfl
theorem fK{f:Pf}{x:V}(h:ak Φ a ρ=some x):ak Φ (.prim f [a]) ρ=gQ f [x]:=bc (bc h rfl) rfl
theorem Aq{f:Pf}{x y:V}(h:ak Φ a ρ=some x)(h2:ak Φ b ρ=some y):ak Φ (.prim f [a,b]) ρ=gQ f [x,y]:=bc (EY h h2) rfl
theorem Fp{v:V}(h:xr v=some n)(hn:n≤1048576):gQ .len [v]=some (.d (.int n)):=by
 show(xr v).bind (λn=>if n<2^62 then some (V.d (.int n)) else none)=_
 rw[h];exact if_pos (au hn (by decide))
theorem iO(h:ak Φ a ρ=some v)(hv:xr v=some n)(hn:n≤1048576):ak Φ (.prim .len [a]) ρ=some (.d (.int n)):=(fK h).trans (Fp hv hn)
theorem KA(h:xs.length≤1048576):gQ .len [.d (.list xs)]=some (.d (.int xs.length)):=Fp rfl h
theorem vQ(h:ak Φ a ρ=some (.d (.list xs)))(hl:xs.length≤1048576):ak Φ (.prim .len [a]) ρ=some (.d (.int xs.length)):=iO h rfl hl
theorem Bc{o:CE}{x:V}(h1:ak Φ o ρ=some x):ak Φ (.meth m o []) ρ=iw m x []:=bc h1 rfl
theorem eQ{o:CE}{x y:V}(h1:ak Φ o ρ=some x)(h2:ak Φ a ρ=some y):ak Φ (.meth m o [a]) ρ=iw m x [y]:=bc h1 (bc (bc h2 rfl) rfl)
theorem ug{o c:CE}{x y z u:V}(h1:ak Φ o ρ=some x)(h2:ak Φ a ρ=some y)(h3:ak Φ b ρ=some z)(h4:ak Φ c ρ=some u):ak Φ (.meth m o [a,b,c]) ρ=iw m x [y,z,u]:=bc h1 (bc (EX h2 h3 h4) rfl)
theorem lS{x:V}(h1:ak Φ a ρ=some x)(ho:x.own=false):ak Φ (.call f [a]) ρ=Φ f [x]:=bc (Ia h1) (if_pos (by rw[List.all_cons,ho];rfl))
theorem fG(h1:ak Φ a ρ=some (.d x))(h2:ak Φ b ρ=some (.d y)):ak Φ (.call f [a,b]) ρ=Φ f [.d x,.d y]:=bc (EY h1 h2) rfl
theorem AY{c:CE}{z:PyData}(h1:ak Φ a ρ=some (.d x))(h2:ak Φ b ρ=some (.d y))(h3:ak Φ c ρ=some (.d z)):ak Φ (.call f [a,b,c]) ρ=Φ f [.d x,.d y,.d z]:=bc (EX h1 h2 h3) rfl
theorem de:cevalsD Φ [] ρ=some []:=rfl
theorem bg{r:List CE}(h1:ak Φ a ρ=some (.d x))(h2:cevalsD Φ r ρ=some xs):cevalsD Φ (a::r) ρ=some (x::xs):=bc h1 (bc rfl (by rw[h2];rfl))
theorem eh{es:List CE}(h:cevalsD Φ es ρ=some xs)(hl:xs.length≤1048576):ak Φ (.list es) ρ=some (.d (.list xs)):=bc h (if_pos (cM hl))
theorem iV{es:List CE}(h:cevalsD Φ es ρ=some xs)(hl:xs.length≤1048576):ak Φ (.tup es) ρ=some (.d (.tuple xs)):=bc h (if_pos (cM hl))
theorem iF:ak Φ (.list []) ρ=some (.d (.list [])):=eh de (by decide)
theorem f5{i:CE}{m:Int}(h:ak Φ i ρ=some (.d (.int m))):cpart Φ (some i) ρ=some (some m):=bc h (bc rfl rfl)
theorem hV:cpart Φ none ρ=some none:=rfl
variable{k:Bool}{sa sb:List CS}
theorem zP(h:ak Φ t ρ=some (.d (.bool k))):gS Φ fu (.ite t sa sb) ρ=if k then cexs Φ fu sa ρ else cexs Φ fu sb ρ:=bc h (bc rfl rfl)
theorem AP{i:Nat}(h:ak Φ e ρ=some v)(ho:v.own=false):cexs Φ fu (.asg i e::r) ρ=cexs Φ fu r (ρ.set i (.sh v)):=sT (ev_asg h ho)
theorem bN{i:Nat}(h:ak Φ e ρ=some v)(ho:v.own=false)(k:cexs Φ fu r (ρ.set i (.sh v))=R):cexs Φ fu (.asg i e::r) ρ=R:=(AP h ho).trans k
theorem eM(h:ak Φ e ρ=some v)(ho:v.own=false):cexs Φ fu (.ret e::r) ρ=some (ρ,.rt v):=d5 (AX h ho)
theorem ot{i:Nat}(h:ak Φ e ρ=some (.d (.list xs))):gS Φ fu (.own i e) ρ=some (ρ.set i (.ow xs),.nx):=bc h (bc rfl rfl)
theorem yz(h:ak Φ t ρ=some (.d (.bool true))):gS Φ fu (.assert t) ρ=some (ρ,.nx):=bc h (bc rfl rfl)
theorem sV{i:Nat}(h:ρ[i]?=some (.ow xs)):gS Φ fu (.frz i) ρ=some (ρ.set i (.sh (.d (.list xs))),.nx):=by
 show(match za ρ i with | some xs=>some (ρ.set i (Mine.Slot.sh (.d (.list xs))),Fl.nx) | none=>some (ρ,Fl.nx))=_
 rw[nk h]
theorem sw{i:Nat}(h:ak Φ e ρ=some (.d x))(hi:ρ[i]?=some (.ow xs))(hl:xs.length≤1048576):gS Φ fu (.app i e) ρ=some (ρ.set i (.ow (xs++[x])),.nx):=bc h (bc rfl (bc (nk hi) (if_pos (cM hl))))
theorem A4{i:Nat}{l:Bool}(hi:ρ[i]?=some (.ow xs))(h0:xs.isEmpty=false)(hl:xs.length≤1048576):gS Φ fu (.delAt i l) ρ=some (ρ.set i (.ow (if l then xs.dropLast else xs.tail)),.nx):=bc (nk hi) (if_pos (by rw[h0,cM hl];rfl))
theorem He{i:Nat}(hi:ρ[i]?=some (.ow xs))(hl:xs.length≤1048576):gS Φ fu (.rev i) ρ=some (ρ.set i (.ow xs.reverse),.nx):=bc (nk hi) (if_pos (cM hl))
theorem sW{i:Nat}{n:Bool}{p q:Int}(h:ak Φ e ρ=some (.d (.int q)))(hi:ρ[i]?=some (.sh (.d (.int p)))):gS Φ fu (.aug n i e) ρ=some (ρ.set i (.sh (.d (.int (if n then p-q else p+q)))),.nx):=bc h (bc rfl (bc (bc hi rfl) (bc rfl rfl)))
theorem wH(h:ak Φ e ρ=some (.d (.tuple xs)))(hl:xs.length=is.length):gS Φ fu (.asgS is e) ρ=(k9 is xs.reverse ρ).map λρ'=>(ρ',.nx):=bc h (bc rfl (bc (if_pos hl) (FA _ _)))
theorem lI(h:ak Φ e ρ=some (.d (.tuple xs)))(hl:xs.length=is.length):gS Φ fu (.asgT is e) ρ=(k9 is xs ρ).map λρ'=>(ρ',.nx):=bc h (bc rfl ((congrArg (λo=>Option.bind o _) (bc (if_pos hl) rfl)).trans (FA _ _)))
end
theorem mD(h:l.length≤1048576):dC (.d (.str (S l)))=some (!l.isEmpty):=by
 show(if c0 l.length then some (l.length != 0) else none)=_
 rw[cM h,if_pos rfl];cases l<;>rfl
theorem DE{b:Bool}:dC (.d (.bool b))=some b:=rfl
theorem kd(a b:Int):k7 .Add (.d (.int a)) (.d (.int b))=some (.d (.int (a+b))):=rfl
theorem jC(a b:Int):k7 .Sub (.d (.int a)) (.d (.int b))=some (.d (.int (a-b))):=rfl
theorem A5{a b:Int}(h1:iz a=true)(h2:iz b=true):i_ .Mult a b=some (a*b):=by rw[rC,h1,h2];rfl
theorem CL{a b:Int}(h1:b≠0)(h2:iz b=true):i_ .Mod a b=some (a.fmod b):=by rw[Ct,h2,cz.mpr h1];rfl
theorem zn{a b:Int}(h1:b≠0)(h2:iz b=true):i_ .FloorDiv a b=some (a.fdiv b):=by rw[AQ,h2,cz.mpr h1];rfl
theorem Br{a:Int}(h1:iz a=true)(h2:n≤1000):i_ .Pow a (n:Int)=some (a^n):=by
 rw[zI,h1,aO (aK n),aO (show(n:Int)≤1000 by exact cC.mpr h2),aR];rfl
theorem AM{a b:Int}(h1:iz a=true)(h2:iz b=true):k7 .Mult (.d (.int a)) (.d (.int b))=some (.d (.int (a*b))):=jm (A5 h1 h2)
theorem pF{a b:Int}(h1:b≠0)(h2:iz b=true):k7 .Mod (.d (.int a)) (.d (.int b))=some (.d (.int (a.fmod b))):=jm (CL h1 h2)
theorem Dc{a b:Int}(h1:b≠0)(h2:iz b=true):k7 .FloorDiv (.d (.int a)) (.d (.int b))=some (.d (.int (a.fdiv b))):=jm (zn h1 h2)
theorem Ca{a:Int}(h1:iz a=true)(h2:n≤1000):k7 .Pow (.d (.int a)) (.d (.int n))=some (.d (.int (a^n))):=jm (Br h1 h2)
theorem dU{a b:CE}{x y:List Nat}(h1:ak Φ a ρ=some (.d (.str (S x))))(h2:ak Φ b ρ=some (.d (.str (S y))))(hl:x.length+y.length≤1048576):ak Φ (.bin .Add a b) ρ=some (.d (.str (S (x++y)))):=by
 rw[dh h1 h2,←zx]
 show(if c0 ((S x).length+(S y).length)=true then some (V.d (.str (S x++S y))) else none)=_
 rw[gv,gv,cM hl];rfl
theorem ib{a b:CE}{x y:List PyData}(h1:ak Φ a ρ=some (.d (.list x)))(h2:ak Φ b ρ=some (.d (.list y)))(hl:x.length+y.length≤1048576):ak Φ (.bin .Add a b) ρ=some (.d (.list (x++y))):=by
 rw[dh h1 h2]
 show(if c0 (x.length+y.length)=true then some (V.d (.list (x++y))) else none)=_
 rw[cM hl];rfl
end
noncomputable def cp:List (List Nat)→List Nat→Bool
 |[],_=>true
 |w::r,l=>(jM w l).any λi=>cp r (l.drop (i+w.length))
theorem DN(l:List Nat):jM [] l=some 0:=by cases l<;>rfl
theorem c9{p:List Nat}{r:List (List Nat)}(q:jM p l=none):cp (p::r) l=false:=congrArg (λo=>Option.any _ o) q
theorem dx{p:List Nat}{r:List (List Nat)}(q:jM p l=some i):cp (p::r) l=cp r (l.drop (i+p.length)):=congrArg (λo=>Option.any (λi=>cp r (l.drop (i+p.length))) o) q
theorem kL(r:List (List Nat))(l:List Nat):cp ([]::r) l=cp r l:=dx (DN l)
theorem sP(r:List (List Nat)):∀(l:List Nat),cp (r++[[]]) l=cp r l:=by
 induction r with
 |nil =>
  intro l
  exact kL [] l
 |cons w r ih =>
  intro l
  simp only[List.cons_append]
  cases h:jM w l with
  |none=>rw[c9 h,c9 h]
  |some i=>rw[dx h,dx h];exact ih _
theorem FT{w:List Nat}(h:jM w l=some i):i+w.length≤l.length:=by
 have h1:=(jr h).1.length_le
 have h2:=(jr h).2.2
 rw[aY] at h1;exact bz h2 h1
noncomputable def sv(l:List Nat):Slot:=.sh (.d (.str (S l)))
noncomputable def iv(i:Int):Slot:=.sh (.d (.int i))
noncomputable def kK:List CS:=[(.asg 3 (.meth .find (.var 1) [(.var 5),(.var 3),(.var 4)])),(.ite (.cmp .Lt (.var 3) (.lit (.int (0)))) [(.ret (.lit (.bool false)))] []),(.aug false 3 (.prim .len [(.var 5)]))]
section
variable{w g p:List Nat}{sl:Slot}{a b:Nat}
theorem yc(hg:g.length≤1048576)(hb:b≤g.length)(h:a≤b)(q:jM p ((g.take b).drop a)=none) :
  cexs Φ fu kK [sv w,sv g,sl,iv a,iv b,sv p]=some ([sv w,sv g,sl,iv (-1),iv b,sv p],.rt (.d (.bool false))):=by
 unfold kK
 refine bN (v:=.d (.int (-1))) ((ug (bi rfl) (bi rfl) (bi rfl) (bi rfl)).trans ((Bl h hb hg).trans (by rw[q];rfl))) rfl ?_
 exact d5 ((ed (du (bi rfl) cu rfl) DE).trans (eM cu rfl))
theorem yR(hg:g.length≤1048576)(hb:b≤g.length)(h:a≤b)(q:jM p ((g.take b).drop a)=some i)(hp:p.length≤1048576) :
  cexs Φ fu kK [sv w,sv g,sl,iv a,iv b,sv p]=some ([sv w,sv g,sl,iv ((a+(i+p.length):Nat):Int),iv b,sv p],.nx):=by
 unfold kK
 refine bN (v:=.d (.int ((a+i:Nat):Int))) ((ug (bi rfl) (bi rfl) (bi rfl) (bi rfl)).trans ((Bl h hb hg).trans (by rw[q];rfl))) rfl ?_
 refine bZ (cx_no (du (bi rfl) cu rfl) (congrArg some (ba (Int.not_lt.mpr (aK _))))) ?_
 refine bZ ((sW (p:=((a+i:Nat):Int)) (q:=(p.length:Nat)) (iO (bi rfl) rfl hp) rfl)) ?_
 have e:((a+i:Nat):Int)+(p.length:Nat)=((a+(i+p.length):Nat):Int):=by rw[←Nat.add_assoc];exact(dD _ _).symm
 simp only[←e,eK];rfl
theorem AV(hg:g.length≤1048576)(hb:b≤g.length)(ws:List (List Nat)):∀(a:Nat) (u:Slot),a≤b →
  ∃ρ',loopF (d7 5) (λρ=>cexs Φ fu kK ρ) (ws.map λp=>.str (S p)) [sv w,sv g,sl,iv a,iv b,u]=some (ρ',if cp ws ((g.take b).drop a) then .nx else .rt (.d (.bool false))):=by
 induction ws with
 |nil =>
  intro a u h
  exact⟨_,rfl⟩
 |cons p r ih =>
  intro a u h
  have e0:loopF (d7 5) (λρ=>cexs Φ fu kK ρ) ((p::r).map λp=>.str (S p)) [sv w,sv g,sl,iv a,iv b,u]=(cexs Φ fu kK [sv w,sv g,sl,iv a,iv b,sv p]).bind λq=>match q.2 with
   |.nx=>loopF (d7 5) (λρ=>cexs Φ fu kK ρ) (r.map λp=>.str (S p)) q.1
   |.ct=>loopF (d7 5) (λρ=>cexs Φ fu kK ρ) (r.map λp=>.str (S p)) q.1
   |.bk=>some (q.1,.nx)
   |.rt v=>some (q.1,.rt v):=rfl
  rw[e0]
  clear e0
  cases q:jM p ((g.take b).drop a) with
  |none=>rw[yc hg hb h q,c9 q];exact⟨_,rfl⟩
  |some i =>
   have hi:=FT q
   rw[aY,bx,Nat.min_eq_left hb] at hi
   have h2:a+(i+p.length)≤b:=by clear hg hb q;exact bz h hi
   have h3:p.length≤1048576:=by clear h q;lia
   obtain⟨ρ',h'⟩:=ih (a+(i+p.length)) (sv p) h2
   refine⟨ρ',?_⟩
   rw[yR hg hb h q (by clear h q;lia),dx q,List.drop_drop]
   exact h'
end
noncomputable def iW(p0:List Nat)(mid:List (List Nat))(pl:List Nat)(g:List Nat):Bool :=
 p0.isPrefixOf g&&pl.isSuffixOf g&&decide (p0.length+pl.length≤g.length)&&cp mid ((g.take (g.length-pl.length)).drop p0.length)
theorem ul{p0 g:List Nat}(h:¬p0.isPrefixOf g=true):iW p0 mid pl g=false:=by unfold iW;rw[Bool.eq_false_iff.mpr h];rfl
theorem tZ{p0 g:List Nat}(h:¬pl.isSuffixOf g=true):iW p0 mid pl g=false:=by unfold iW;rw[Bool.eq_false_iff.mpr h,Bool.and_false];rfl
theorem Au{p0 g:List Nat}(h:¬p0.length+pl.length≤g.length):iW p0 mid pl g=false:=by unfold iW;simp only[ba h,Bool.and_false];rfl
theorem xA{sep:List Nat}:∀{ps:List (List Nat)},(∀p∈ps,p.length≤(d_ sep ps).length)∧sep.length*(ps.length-1)≤(d_ sep ps).length
 |[]=>⟨λ_ h=>(nomatch h),bo _⟩
 |[x]=>⟨λp h=>by rw[aq.mp h];exact aF _,bo _⟩
 |x::y::r=>by
  obtain⟨h1,h2⟩:=xA (sep:=sep) (ps:=y::r)
  have e:(d_ sep (x::y::r)).length=x.length+sep.length+(d_ sep (y::r)).length:=by
   show(x++sep++d_ sep (y::r)).length=_
   rw[aG,aG]
  rw[e]
  refine⟨λp hp=>?_,?_⟩
  ·rcases ah.mp hp with rfl | hp
   ·rw[Nat.add_assoc];exact ay _ _
   ·exact ab (h1 p hp) (ao _ _)
  ·have e2:(x::y::r).length-1=((y::r).length-1)+1:=rfl
   simp only[e2,Nat.mul_succ]
   lia
theorem lH(l w:List Nat):iw .startswith (.d (.str (S l))) [.d (.str (S w))]=some (.d (.bool (w.isPrefixOf l))):=by
 show some (V.d (.bool (Txt.startswith (S l) (S w))))=_;rw[rW]
theorem oS(l w:List Nat):iw .endswith (.d (.str (S l))) [.d (.str (S w))]=some (.d (.bool (w.isSuffixOf l))):=by
 show some (V.d (.bool (Txt.endswith (S l) (S w))))=_;rw[vM]
theorem DV{ps:List (List Nat)}(h2:2≤ps.length)(hp:∀p∈ps,46∉p)(hw:(d_ dJ ps).length≤1048576):iw .split (.d (.str (S (d_ dJ ps)))) [.d (.str (S dJ))]=some (.d (.list (ps.map λp=>.str (S p)))):=by
 show(if(c0 (S (d_ dJ ps)).length&&(S dJ).length != 0)=true then some (V.d (.list ((Txt.split (S (d_ dJ ps)) (S dJ)).map .str))) else none)=_
 simp only[DD h2 hp,gv,cM hw,List.map_map];rfl
noncomputable def JB:CS:=.ite (.var 5) [(.ite (.meth .startswith (.var 1) [(.var 5)]) [(.asg 3 (.prim .len [(.var 5)])),(.delAt 2 false)] [(.ret (.lit (.bool false)))])] []
noncomputable def HB:CS:=.ite (.var 5) [(.ite (.meth .endswith (.var 1) [(.var 5)]) [(.aug true 4 (.prim .len [(.var 5)])),(.delAt 2 true)] [(.ret (.lit (.bool false)))])] []
section
variable{w g p:List Nat}{L:List PyData}{n m:Int}
theorem Hs(hp:p.length≤1048576)(q:¬p.isPrefixOf g=true):gS Φ fu JB [sv w,sv g,.ow L,iv n,iv m,sv p]=some ([sv w,sv g,.ow L,iv n,iv m,sv p],.rt (.d (.bool false))):=by
 have q0:p.isEmpty=false:=by cases p with | nil=>exact absurd rfl q | cons=>rfl
 refine(ed (bi rfl) ((mD hp).trans (by rw[q0];rfl))).trans (d5 ?_)
 exact(iG ((eQ (bi rfl) (bi rfl)).trans (lH g p)) (congrArg some (Bool.eq_false_iff.mpr q))).trans (eM cu rfl)
theorem ET:gS Φ fu JB [sv w,sv g,.ow L,iv n,iv m,sv []]=some ([sv w,sv g,.ow L,iv n,iv m,sv []],.nx):=cx_no (bi rfl) (mD (by decide))
theorem Dz(hp:p.length≤1048576)(q:p.isPrefixOf g=true)(q0:p.isEmpty=false)(hL:L.length≤1048576)(h0:L.isEmpty=false):gS Φ fu JB [sv w,sv g,.ow L,iv n,iv m,sv p]=some ([sv w,sv g,.ow L.tail,iv (p.length:Nat),iv m,sv p],.nx):=by
 refine(ed (bi rfl) ((mD hp).trans (by rw[q0];rfl))).trans (bZ (ρ':=[sv w,sv g,.ow L.tail,iv (p.length:Nat),iv m,sv p]) ?_ rfl)
 refine(ed ((eQ (bi rfl) (bi rfl)).trans (lH g p)) (congrArg some q)).trans ?_
 refine bN (iO (bi rfl) rfl hp) rfl (bZ (A4 rfl h0 hL) rfl)
theorem F8(hp:p.length≤1048576)(q:¬p.isSuffixOf g=true):gS Φ fu HB [sv w,sv g,.ow L,iv n,iv m,sv p]=some ([sv w,sv g,.ow L,iv n,iv m,sv p],.rt (.d (.bool false))):=by
 have q0:p.isEmpty=false:=by
  cases p with
  |nil=>exact absurd (List.isSuffixOf_iff_suffix.mpr List.nil_suffix) q
  |cons=>rfl
 refine(ed (bi rfl) ((mD hp).trans (by rw[q0];rfl))).trans (d5 ?_)
 exact(iG ((eQ (bi rfl) (bi rfl)).trans (oS g p)) (congrArg some (Bool.eq_false_iff.mpr q))).trans (eM cu rfl)
theorem Eb:gS Φ fu HB [sv w,sv g,.ow L,iv n,iv m,sv []]=some ([sv w,sv g,.ow L,iv n,iv m,sv []],.nx):=cx_no (bi rfl) (mD (by decide))
theorem C_(hp:p.length≤1048576)(q:p.isSuffixOf g=true)(q0:p.isEmpty=false)(hL:L.length≤1048576)(h0:L.isEmpty=false):gS Φ fu HB [sv w,sv g,.ow L,iv n,iv m,sv p]=some ([sv w,sv g,.ow L.dropLast,iv n,iv (m-(p.length:Nat)),sv p],.nx):=by
 refine(ed (bi rfl) ((mD hp).trans (by rw[q0];rfl))).trans (bZ (ρ':=[sv w,sv g,.ow L.dropLast,iv n,iv (m-(p.length:Nat)),sv p]) ?_ rfl)
 refine(ed ((eQ (bi rfl) (bi rfl)).trans (oS g p)) (congrArg some q)).trans ?_
 exact bZ (sW (p:=m) (iO (bi rfl) rfl hp) rfl) (bZ (A4 rfl h0 hL) rfl)
theorem Ae{p0 pl:Nat}{u:Slot}(hg:g.length≤1048576)(hw:ws.length≤1048576) :
  ∃ρ',cexs Φ fu [(.ite (.cmp .Gt (.var 3) (.var 4)) [(.ret (.lit (.bool false)))] []),(.frz 2),(.for1 5 (.var 2) kK),(.ret (.lit (.bool true)))] [sv w,sv g,.ow (ws.map λp=>.str (S p)),iv (p0:Int),iv ((g.length:Int)-(pl:Int)),u] =
   some (ρ',.rt (.d (.bool (decide (p0+pl≤g.length)&&cp ws ((g.take (g.length-pl)).drop p0))))):=by
 by_cases q3:p0+pl≤g.length
 case neg =>
  refine⟨[sv w,sv g,.ow (ws.map λp=>.str (S p)),iv (p0:Int),iv ((g.length:Int)-(pl:Int)),u],(d5 ((ed (du (bi rfl) (bi rfl) rfl) (congrArg some (aO ?_))).trans (eM cu rfl))).trans ?_⟩
  ·show(g.length:Int)-(pl:Int)<(p0:Int);lia
  ·rw[ba q3];rfl
 have eb:(g.length:Int)-(pl:Int)=((g.length-pl:Nat):Int):=by lia
 rw[aO q3,Bool.true_and]
 obtain⟨ρ',h'⟩:=AV (Φ:=Φ) (fu:=fu) (w:=w) (g:=g) (sl:=.sh (.d (.list (ws.map λp=>.str (S p))))) (b:=g.length-pl) hg (cO _ _) ws p0 u (by exact Nat.le_sub_of_add_le q3)
 have hcx:gS Φ fu (.for1 5 (.var 2) kK) [sv w,sv g,.sh (.d (.list (ws.map λp=>.str (S p)))),iv (p0:Int),iv ((g.length-pl:Nat):Int),u]=some (ρ',if cp ws ((g.take (g.length-pl)).drop p0) then .nx else .rt (.d (.bool false))):=by
  exact bc (eB (by rw[af];exact hw)) h'
 refine⟨ρ',?_⟩
 rw[eb]
 refine bZ (cx_no (du (bi rfl) (bi rfl) rfl) (congrArg some (ba (by rw[←eb];exact(by lia))))) (bZ (sV rfl) ?_)
 cases q6:cp ws ((g.take (g.length-pl)).drop p0) with
 |true=>rw[q6] at hcx;exact bZ hcx (eM cu rfl)
 |false=>rw[q6] at hcx;exact d5 hcx
end
theorem sS{x:PyData}:(xs++[x]).getLast?=some x:=List.getLast?_concat
theorem E4(Φ:jU)(fu:Nat)(p0 pl:List Nat)(mid:List (List Nat))(g:List Nat)(hg:g.length≤1048576)(hw:(d_ dJ (p0::(mid++[pl]))).length≤1000000)(hp:∀p∈p0::(mid++[pl]),46∉p) :
  runF Φ fu ⟨2,6,qa⟩ [.d (.str (S (d_ dJ (p0::(mid++[pl]))))),.d (.str (S g))]=some (.d (.bool (iW p0 mid pl g))):=by
 obtain⟨g1,g2⟩:=xA (sep:=dJ) (ps:=p0::(mid++[pl]))
 have h0:p0.length≤1048576:=ab (g1 p0 al) (ab hw (by decide))
 have hl:pl.length≤1048576:=ab (g1 pl (aj _ (aT _ al))) (ab hw (by decide))
 have hk:mid.length≤1000000:=by
  have e:(p0::(mid++[pl])).length-1=mid.length+1:=aG
  rw[e] at g2
  have:dJ.length=3:=rfl
  rw[this] at g2
  clear g1 hp hg h0 hl
  lia
 have hi:(jM dJ (d_ dJ (p0::(mid++[pl])))).isSome=true:=by
  rw[jo (by simp),Df (hp p0 al)];rfl
 have hsp:=DV (ps:=p0::(mid++[pl])) (by rw[aU,aG];exact ao 2 _) hp (ab hw (by decide))
 clear g1 g2 hp hw
 generalize d_ dJ (p0::(mid++[pl]))=W at *
 have hc2:((p0::(mid++[pl])).map λp=>PyData.str (S p))=PyData.str (S p0)::((mid++[pl]).map λp=>PyData.str (S p)):=rfl
 have hcl:((mid++[pl]).map λp=>PyData.str (S p))=(mid.map λp=>PyData.str (S p))++[.str (S pl)]:=bM
 have hlen:(PyData.str (S p0)::((mid++[pl]).map λp=>PyData.str (S p))).length=mid.length+2:=by rw[hcl,aU,aG,af];rfl
 rw[hc2] at hsp
 refine nN rfl ?_
 show∃ρ',cexs Φ fu qa [sv W,sv g,.un,.un,.un,.un]=_
 have pre:∀R,cexs Φ fu [JB,(.asg 5 (.item (.var 2) (.un .USub (.lit (.int (1)))))),HB,(.ite (.cmp .Gt (.var 3) (.var 4)) [(.ret (.lit (.bool false)))] []),(.frz 2),(.for1 5 (.var 2) kK),(.ret (.lit (.bool true)))]
   [sv W,sv g,.ow (PyData.str (S p0)::((mid++[pl]).map λp=>PyData.str (S p))),iv 0,iv (g.length:Nat),sv p0]=R→cexs Φ fu qa [sv W,sv g,.un,.un,.un,.un]=R:=λR h=>by
  unfold qa
  refine bZ (cx_no (du cu (bi rfl) nR) (by rw[hi];rfl)) ?_
  refine bZ (ot ((eQ (bi rfl) cu).trans hsp)) ?_
  refine bZ (yz ((du (iO (Eo rfl) rfl (by rw[hlen];exact bd (c8 rfl) (ab hk (c8 rfl)))) cu rfl).trans (congrArg (λb=>some (V.d (.bool b))) (aO (by rw[hlen];show(2:Int)≤_;lia))))) ?_
  refine bZ ((wH (xs:=[.int 0,.int (g.length:Nat)]) (iV (bg cu (bg (iO (bi rfl) rfl hg) de)) (aA rfl)) rfl)) ?_
  exact bN (lF (Eo rfl) cu vn) rfl h
 have mid1:∀(L:List PyData) (ws:List (List Nat)),L=(ws++[pl]).map (λp=>PyData.str (S p))→ws.length≤1000001→(∀seg,cp ws seg=cp mid seg)→p0.isPrefixOf g=true →
   ∃ρ',cexs Φ fu [(.asg 5 (.item (.var 2) (.un .USub (.lit (.int (1)))))),HB,(.ite (.cmp .Gt (.var 3) (.var 4)) [(.ret (.lit (.bool false)))] []),(.frz 2),(.for1 5 (.var 2) kK),(.ret (.lit (.bool true)))]
    [sv W,sv g,.ow L,iv (p0.length:Nat),iv (g.length:Nat),sv p0]=some (ρ',.rt (.d (.bool (iW p0 mid pl g)))):=λL ws hL hws hf q1=>by
  simp only[bM] at hL
  have hLn:L.length=ws.length+1:=by rw[hL,aG,af];rfl
  have hLe:L.isEmpty=false:=by rw[hL];cases ws<;>rfl
  have hLl:L.getLast?=some (.str (S pl)):=by rw[hL];exact sS
  have hLs:L.length≤1048576:=by rw[hLn];exact au hws (by decide)
  have step:∀R,cexs Φ fu [HB,(.ite (.cmp .Gt (.var 3) (.var 4)) [(.ret (.lit (.bool false)))] []),(.frz 2),(.for1 5 (.var 2) kK),(.ret (.lit (.bool true)))] [sv W,sv g,.ow L,iv (p0.length:Nat),iv (g.length:Nat),sv pl]=R →
    cexs Φ fu [(.asg 5 (.item (.var 2) (.un .USub (.lit (.int (1)))))),HB,(.ite (.cmp .Gt (.var 3) (.var 4)) [(.ret (.lit (.bool false)))] []),(.frz 2),(.for1 5 (.var 2) kK),(.ret (.lit (.bool true)))] [sv W,sv g,.ow L,iv (p0.length:Nat),iv (g.length:Nat),sv p0]=R :=
   λR h=>bN (lF (Eo rfl) (oD cu) ((pN hLs (by rw[hLn];exact Nat.succ_pos _)).trans hLl)) rfl h
  by_cases q2:pl.isSuffixOf g=true
  case neg=>exact⟨_,step _ (by rw[tZ q2];exact d5 (F8 hl q2))⟩
  have fin:∀(ws':List (List Nat)),(∀seg,cp ws' seg=cp mid seg)→ws'.length≤1048576→∃ρ',cexs Φ fu [(.ite (.cmp .Gt (.var 3) (.var 4)) [(.ret (.lit (.bool false)))] []),(.frz 2),(.for1 5 (.var 2) kK),(.ret (.lit (.bool true)))]
    [sv W,sv g,.ow (ws'.map λp=>.str (S p)),iv (p0.length:Nat),iv ((g.length:Nat)-(pl.length:Nat)),sv pl]=some (ρ',.rt (.d (.bool (iW p0 mid pl g)))):=λws' hf' hn=>by
   obtain⟨ρ',h⟩:=Ae (Φ:=Φ) (fu:=fu) (w:=W) (p0:=p0.length) (pl:=pl.length) (u:=sv pl) hg hn
   refine⟨ρ',h.trans ?_⟩
   unfold iW
   rw[q1,q2,hf'];rfl
  cases q0:pl.isEmpty with
  |true =>
   have e:=List.isEmpty_iff.mp q0
   obtain⟨ρ',h⟩:=fin (ws++[[]]) (λseg=>(sP _ _).trans (hf seg)) (by rw[aG];show ws.length+1≤_;exact hLn▸hLs)
   subst e
   rw[bM] at h
   refine⟨ρ',step _ (bZ Eb ?_)⟩
   rw[hL]
   exact h
  |false =>
   obtain⟨ρ',h⟩:=fin ws hf (by exact ab hws (ao _ _))
   refine⟨ρ',step _ (bZ (C_ hl q2 q0 hLs hLe) ?_)⟩
   have hL2:L.dropLast=ws.map λp=>.str (S p):=by rw[hL];exact List.dropLast_concat
   rw[hL2]
   exact h
 by_cases q1:p0.isPrefixOf g=true
 case neg=>exact⟨_,pre _ (by rw[ul q1];exact d5 (Hs h0 q1))⟩
 cases q0:p0.isEmpty with
 |true =>
  have e:=List.isEmpty_iff.mp q0
  obtain⟨ρ',h⟩:=mid1 _ ([]::mid) rfl (by rw[aU];exact cK hk) (λseg=>kL _ _) q1
  subst e
  exact⟨ρ',pre _ (bZ ET h)⟩
 |false =>
  obtain⟨ρ',h⟩:=mid1 _ mid rfl (by exact ab hk (ao _ _)) (λ_=>rfl) q1
  exact⟨ρ',pre _ (bZ (Dz h0 q1 q0 (by rw[hlen];exact bd (c8 rfl) (ab hk (c8 rfl))) rfl) h)⟩
theorem yL(Φ:jU)(fu:Nat)(w g:List Nat)(hi:jM dJ w=none)(hw:w.all (·<0x110000)=true)(hg:g.all (·<0x110000)=true) :
  runF Φ fu ⟨2,6,qa⟩ [.d (.str (S w)),.d (.str (S g))]=some (.d (.bool (w==g))):=by
 refine nN rfl ⟨[sv w,sv g,.un,.un,.un,.un],?_⟩
 show cexs Φ fu qa [sv w,sv g,.un,.un,.un,.un]=_
 unfold qa
 refine d5 ((ed (du cu (bi rfl) nR) (by rw[hi];rfl)).trans ?_)
 exact eM ((iP (bi rfl) (bi rfl) (g_ hw) (g_ hg)).trans (by rw[tn])) rfl
section
open PySem.StrLaws Builtin Builtin.Str
noncomputable def jc(u:List Nat):Prop:=(∃c,c≠92∧u=[c])∨∃c,u=[92,c]
noncomputable def ti:List (List Nat)→Prop
 |[]=>True
 |[u]=>u=[92]∨jc u
 |u::v::r=>jc u∧ti (v::r)
noncomputable def ui:Nat→List (List Nat)→List PyData
 |_,[]=>[]
 |n,u::r=>.tuple [.int ((n+u.length-1:Nat):Int),.str (S u)]::ui (n+u.length) r
theorem zK{r:List (List Nat)}:ui n (u::r)=.tuple [.int ((n+u.length-1:Nat):Int),.str (S u)]::ui (n+u.length) r:=rfl
theorem qF(h:jc u):gn n false (u++l)=.tuple [.int ((n+u.length-1:Nat):Int),.str (S u)]::gn (n+u.length) false l:=by
 rcases h with⟨c,hc,rfl⟩ | ⟨c,rfl⟩
 ·show gn n false (c::l)=_
  exact if_neg hc
 ·show gn n false (92::c::l)=_
  exact if_pos rfl
theorem lk{r:List (List Nat)}:ti (u::r)→ti r:=by
 induction r with
 |nil =>
  intro _
  exact trivial
 |cons _ _ _ =>
  intro h
  exact h.2
theorem sk:∀{us:List (List Nat)} {n:Nat},ti us→gn n false us.flatten=ui n us
 |[],n,_=>rfl
 |[u],n,h=>by
  rcases h with rfl | h
  ·rfl
  ·rw[List.flatten_cons,qF h];rfl
 |u::v::r,n,h=>by
  rw[List.flatten_cons,qF h.1,sk h.2];rfl
noncomputable def dp:Option (List (List Nat))→List (List Nat)→List (List Nat)
 |none,[]=>[]
 |some p,[]=>[34]::p
 |none,u::r=>if u=[34] then dp (some []) r else u::dp none r
 |some p,u::r=>if u=[34] then dp none r else dp (some (p++[u])) r
theorem gj{r:List (List Nat)}:dp none (u::r)=if u=[34] then dp (some []) r else u::dp none r:=rfl
theorem gN{p r:List (List Nat)}:dp (some p) (u::r)=if u=[34] then dp none r else dp (some (p++[u])) r:=rfl
noncomputable def j2:List CS:=[(.ite (.cmp .Eq (.var 5) (.lit (.str (S [34])))) [(.ite (.cmp .Is (.var 2) (.lit .none)) [(.asg 2 (.var 4))] [(.ite (.cmp .NotEq (.var 1) (.var 2)) [(.app 3 (.slice (.var 0) (some (.var 1)) (some (.var 2)) none))] []),(.asg 1 (.bin .Add (.var 4) (.lit (.int (1))))),(.asg 2 (.lit .none))])] [])]
theorem wQ{a b:Nat}(hab:a≤b)(hb:b≤l.length):Txt.slice (S l) (some (a:Int)) (some (b:Int))=S ((l.drop a).take (b-a)):=by
 have h:=sliced_plain (S l) hab (by rw[gv];exact hb)
 have hl:=congrArg List.length (strSliceIndices_plain hab hb)
 rw[af,cy] at hl
 unfold Txt.slice
 split
 ·rename_i q
  rw[gv,hl] at q
  have e:b-a=l.length:=by simpa using q
  have:a=0:=by(clear e hl h;lia)
  subst this
  rw[List.drop_zero,List.take_of_length_le (by exact aw e.symm)]
 ·rw[h];rfl
theorem rN{a:Nat}(ha:a≤l.length):Txt.slice (S l) (some (a:Int)) none=S (l.drop a):=by
 have e:strSliceIndices (some (a:Int)) none 1 l.length=strSliceIndices (some (a:Int)) (some ((l.length:Nat):Int)) 1 l.length:=by
  unfold strSliceIndices
  have h2:¬((l.length:Int)<0):=by exact Int.not_lt.mpr (aK _)
  have e2:max (0:Int) (min (l.length:Int) (l.length:Int))=l.length:=by lia
  simp only[h2,if_false,show((1:Int)>0)=True from by simp,if_true,e2]
 have h:=wQ (l:=l) ha (aF _)
 unfold Txt.slice at h ⊢
 rw[gv] at h ⊢
 rw[e,h,List.take_of_length_le (by rw[aY];exact aF _)]
noncomputable def ov(o:Option Int):Slot:=.sh (.d (match o with | none=>.none | some i=>.int i))
noncomputable def lv(R:List (List Nat)):Slot:=.ow (R.map λp=>.str (S p))
section
variable{st q op:Int}{R:List (List Nat)}{a:Slot}
theorem J4:fY (.str (S [34]))=true:=g_ (by decide)
theorem K6{v:PyData}(h:PyData.eqv v (.str (S [34]))=true):dC (.d (.bool (PyData.eqv v (.str (S [34])))))=some true:=by rw[h];rfl
theorem AZ{o:Option Int}(hu:u.all (·<0x110000)=true)(h:u≠[34]):cexs Φ fu j2 [sv l,iv st,ov o,lv R,iv q,sv u]=some ([sv l,iv st,ov o,lv R,iv q,sv u],.nx) :=
 bZ (cx_no (iP (bi rfl) cu (g_ hu) J4) (congrArg some ((tn _ _).trans (b7.mpr h)))) rfl
theorem wY{o:Option Int}{r:Ev}(h:gS Φ fu (.ite (.cmp .Is (.var 2) (.lit .none)) [(.asg 2 (.var 4))] [(.ite (.cmp .NotEq (.var 1) (.var 2)) [(.app 3 (.slice (.var 0) (some (.var 1)) (some (.var 2)) none))] []),(.asg 1 (.bin .Add (.var 4) (.lit (.int (1))))),(.asg 2 (.lit .none))]) [sv l,iv st,ov o,lv R,iv q,sv [34]]=some (r,.nx)) :
  cexs Φ fu j2 [sv l,iv st,ov o,lv R,iv q,sv [34]]=some (r,.nx) :=
 bZ ((ed (iP (bi rfl) cu J4 J4) (K6 ((tn _ _).trans (by decide)))).trans (bZ h rfl)) rfl
theorem zw:cexs Φ fu j2 [sv l,iv st,ov none,lv R,iv q,sv [34]]=some ([sv l,iv st,ov (some q),lv R,iv q,sv [34]],.nx) :=
 wY ((ed (du (bi rfl) cu rfl) rfl).trans (bN (bi rfl) rfl rfl))
theorem FF{a:CE}{v:V}{lo hi st:Option CE}{x y z:Option Int}(h:ak Φ a ρ=some v)(h1:cpart Φ lo ρ=some x)(h2:cpart Φ hi ρ=some y)(h3:cpart Φ st ρ=some z):ak Φ (.slice a lo hi st) ρ=kc v x y z:=by
 rw[iC,h,h1,h2,h3];rfl
theorem xj{x y:Option Int}(hl:l.length≤1048576):kc (.d (.str (S l))) x y none=some (.d (.str (Txt.slice (S l) x y))):=by
 show(if(c0 (S l).length&&(none:Option Int)==none)=true then some (V.d (.str (Txt.slice (S l) x y))) else none)=_
 rw[gv,cM hl];rfl
theorem uO{n m:Int}(h:gS Φ fu (.ite (.cmp .NotEq (.var 1) (.var 2)) [(.app 3 (.slice (.var 0) (some (.var 1)) (some (.var 2)) none))] []) [sv l,iv n,ov (some m),lv R,iv q,sv [34]]=some ([sv l,iv n,ov (some m),a,iv q,sv [34]],.nx)) :
  cexs Φ fu j2 [sv l,iv n,ov (some m),lv R,iv q,sv [34]]=some ([sv l,iv (q+1),ov none,a,iv q,sv [34]],.nx) :=
 wY ((iG (du (bi rfl) cu rfl) rfl).trans (bZ h (bN ((dh (bi rfl) cu).trans (kd _ _)) rfl (bN cu rfl rfl))))
theorem An{m:Nat}(hl:l.length≤1048576)(h1:n≤m)(h2:m≤l.length)(h:n≠m)(hR:R.length≤1048576):cexs Φ fu j2 [sv l,iv n,ov (some (m:Int)),lv R,iv q,sv [34]]=some ([sv l,iv (q+1),ov none,lv (R++[(l.drop n).take (m-n)]),iv q,sv [34]],.nx):=by
 refine uO ((ed (uq (bi rfl) (bi rfl) fO fO) (congrArg some ?_)).trans (bZ (sw ((FF (bi rfl) (f5 (bi rfl)) (f5 (bi rfl)) hV).trans (xj hl)) rfl ?_) ?_))
 ·rw[lq,show((n:Int)==(m:Int))=false from b7.mpr (λe=>h (Int.ofNat.inj e))];rfl
 ·rw[af];exact hR
 ·rw[eK,wQ h1 h2];unfold lv;rw[bM];rfl
theorem B3:cexs Φ fu j2 [sv l,iv n,ov (some (n:Int)),lv R,iv q,sv [34]]=some ([sv l,iv (q+1),ov none,lv R,iv q,sv [34]],.nx) :=
 uO (cx_no (ir (bi rfl) (bi rfl) fO) rfl)
theorem Dd{a0 a1 a2 a3 x y:Slot}:jd [4,5] (.tuple [.int q,.str (S u)]) [a0,a1,a2,a3,x,y]=some [a0,a1,a2,a3,iv q,sv u]:=rfl
end
end
section
open PySem.StrLaws Builtin Builtin.Str
noncomputable def te(us:List (List Nat)):Prop:=∀u∈us,1≤u.length∧u.all (·<0x110000)=true
noncomputable def Md(l:List Nat)(st n:Nat)(E:Nat):Option (List (List Nat))→Option Int→Prop
 |none,o=>o=none∧E=n
 |some p,o=>o=some (E:Int)∧st≤E∧E≤n∧(l.drop E).take (n-E)=34::p.flatten
theorem qM{t:List Nat}{s:Nat}(h:s≤n)(hd:l.drop n=u++t):(l.drop s).take (n+u.length-s)=(l.drop s).take (n-s)++u:=by
 have e1:n+u.length-s=(n-s)+u.length:=by exact Nat.sub_add_comm (by assumption)
 rw[e1,List.take_add,List.drop_drop,show s+(n-s)=n by exact cw h,hd]
 simp
theorem vt(hl:l.length≤1048576)(us:List (List Nat)):∀(n E:Nat) (m:Option (List (List Nat))) (o:Option Int) (R:List (List Nat)) (st:Nat) (x4 x5:Slot),
  n≤l.length→l.drop n=us.flatten→te us→R.length≤st→st≤n→Md l st n E m o →
  ∃R' st' o' x4' x5',loopF (jd [4,5]) (λρ=>cexs Φ fu j2 ρ) (ui n us) [sv l,iv (st:Int),ov o,lv R,x4,x5]=some ([sv l,iv ((st':Nat):Int),ov o',lv R',x4',x5'],.nx) ∧
   st'≤l.length∧R'.length≤st'∧R'.flatten++l.drop st'=R.flatten++(l.drop st).take (E-st)++(dp m us).flatten:=by
 induction us with
 |nil =>
  intro n E m o R st x4 x5 hn hd _ hR hs hm
  refine⟨R,st,o,x4,x5,rfl,by exact ab hs hn,hR,?_⟩
  have hle:n=l.length:=by
   have:=congrArg List.length hd
   simp at this;exact Nat.le_antisymm hn (dF this)
  cases m with
  |none =>
   obtain⟨_,rfl⟩:=hm
   rw[List.take_of_length_le (by rw[aY];exact Nat.sub_le_sub_right (aw (Eq.symm hle)) st)]
   exact(bE _).symm
  |some p =>
   refine aa λhQ=>?_
   obtain⟨_,h1,h2,h3⟩:=hm
   (refine hQ ?_;clear hQ)
   rw[List.take_of_length_le (by rw[aY];exact Nat.sub_le_sub_right (aw (Eq.symm hle)) E)] at h3
   have h4:=List.take_append_drop (E-st) (l.drop st)
   simp only[List.drop_drop,show st+(E-st)=E by exact cw h1,h3] at h4
   simp only[bu]
   congr 1
   refine h4.symm.trans ?_
   rfl
 |cons u r ih =>
  intro n E m o R st x4 x5 hn hd hu hR hs hm
  obtain⟨u1,u2⟩:=hu u al
  have hur:te r:=λx hx=>hu x (aj _ hx)
  simp only[List.flatten_cons] at hd
  have hn':n+u.length≤l.length:=by
   have:=congrArg List.length hd
   simp at this;exact bz hn   (ab (ay (List.length u) (List.sum (List.map List.length r))) (aw (Eq.symm this)))
  have hd':l.drop (n+u.length)=r.flatten:=by
   rw[←List.drop_drop,hd];simp
  rw[zK,rG]
  simp -iota only[Dd,bB]
  by_cases h:u=[34]
  ·subst h
   cases m with
   |none =>
    obtain⟨rfl,rfl⟩:=hm
    rw[zw]
    have hq:E+[34].length-1=E:=rfl
    refine aa λhQ=>?_
    obtain⟨R',st',o',x4',x5',e1,e2,e3,e4⟩:=ih (E+1) E (some []) (some (E:Int)) R st (iv E) (sv [34]) hn' hd' hur hR (by exact ab hs (ay _ _))
     ⟨rfl,hs,by exact Nat.le_succ _,by rw[show E+1-E=1 by exact c5 E 1,hd];rfl⟩
    (refine hQ ?_;clear hQ)
    exact⟨R',st',o',x4',x5',e1,e2,e3,by rw[e4];rfl⟩
   |some p =>
    obtain⟨rfl,h1,h2,h3⟩:=hm
    have hE:E<n:=by
     have:=congrArg List.length h3
     simp at this;exact Nat.lt_of_sub_pos (ae (ae (Nat.succ_pos _) (aw this.symm)) (Nat.min_le_left _ _))
    by_cases he:st=E
    ·subst he
     rw[B3]
     have eq:((n+[34].length-1:Nat):Int)+1=((n+1:Nat):Int):=by rfl
     rw[eq]
     refine aa λhQ=>?_
     obtain⟨R',st',o',x4',x5',e1,e2,e3,e4⟩:=ih (n+1) (n+1) none none R (n+1) (iv ((n+[34].length-1:Nat):Int)) (sv [34]) hn' hd' hur (Nat.le_succ_of_le (ab hR hs)) (aF _) ⟨rfl,rfl⟩
     (refine hQ ?_;clear hQ)
     refine⟨R',st',o',x4',x5',e1,e2,e3,?_⟩
     rw[e4,gN,if_pos rfl];simp
    ·rw[An hl h1 (by exact ab h2 hn) he (ab (ab hR hs) (ab hn hl))]
     have eq:((n+[34].length-1:Nat):Int)+1=((n+1:Nat):Int):=by simp
     rw[eq]
     obtain⟨R',st',o',x4',x5',e1,e2,e3,e4⟩:=ih (n+1) (n+1) none none (R++[(l.drop st).take (E-st)]) (n+1) (iv ((n+[34].length-1:Nat):Int)) (sv [34]) hn' hd' hur (by simp;exact ab hR hs) (aF _) ⟨rfl,rfl⟩
     refine⟨R',st',o',x4',x5',e1,e2,e3,?_⟩
     rw[e4,gN,if_pos rfl];simp
  ·rw[AZ u2 h]
   cases m with
   |none =>
    refine aa λhQ=>?_
    obtain⟨rfl,rfl⟩:=hm
    obtain⟨R',st',o',x4',x5',e1,e2,e3,e4⟩:=ih (E+u.length) (E+u.length) none none R st (iv ((E+u.length-1:Nat):Int)) (sv u) hn' hd' hur hR (by exact ab hs (ay _ _)) ⟨rfl,rfl⟩
    (refine hQ ?_;clear hQ)
    refine⟨R',st',o',x4',x5',e1,e2,e3,?_⟩
    simp only[e4,qM hs hd,gj,if_neg h];simp
   |some p =>
    refine aa λhQ=>?_
    obtain⟨rfl,h1,h2,h3⟩:=hm
    obtain⟨R',st',o',x4',x5',e1,e2,e3,e4⟩:=ih (n+u.length) E (some (p++[u])) (some (E:Int)) R st (iv ((n+u.length-1:Nat):Int)) (sv u) hn' hd' hur hR (by exact ab hs (ay _ _))
     ⟨rfl,h1,by exact ab h2 (ay _ _),by simp only[qM h2 hd,h3];simp⟩
    (refine hQ ?_;clear hQ)
    refine⟨R',st',o',x4',x5',e1,e2,e3,?_⟩
    simp only[e4,gN,if_neg h]
theorem xa{c:Nat}:(jM [c] l).isSome=decide (c∈l):=by
 induction l with
 |nil =>
  rw[w5];simp[List.isPrefixOf]
 |cons d l ih =>
  rw[pK]
  by_cases h:c=d
  ·subst h;simp -iota [List.isPrefixOf]
  ·rw[if_neg (by simp[List.isPrefixOf,h]),Option.isSome_map,ih]
   simp[h]
theorem uc:[34]∉us→dp none us=us:=by
 induction us with
 |nil =>
  intro _
  exact rfl
 |cons u r ih =>
  intro h
  rw[gj,if_neg (λe=>h (by rw[e];exact al)),ih λe=>h (aj _ e)]
theorem xD(R:List (List Nat)):(List.map Str.length (R.map S)).sum=R.flatten.length:=by
 induction R with
 |nil =>
  exact rfl
 |cons p r ih =>
  simp only[bj,bj,List.sum_cons,ih];simp[gv]
theorem tH(R:List (List Nat)):iZ (R.map λp=>.str (S p))=some (R.map S):=by
 induction R with
 |nil =>
  exact rfl
 |cons p r ih =>
  exact bc (f:=λi=>(iZ _).map (i::·)) rfl (by rw[ih];rfl)
theorem qI{R:List (List Nat)}(h1:R.length≤1048576)(h2:R.flatten.length≤1048576):iw .join (.d (.str (S []))) [.d (.list (R.map λp=>.str (S p)))]=some (.d (.str (S R.flatten))):=by
 show(iZ _).bind _=_
 simp only[tH,bB,af,cM h1,xD,gv,List.length_nil,Nat.mul_zero,Nat.zero_add,cM h2,A9,jp]
 rfl
theorem gH:∀(us:List (List Nat)) (m:Option (List (List Nat))),(dp m us).flatten.length≤us.flatten.length+(match m with | none=>0 | some p=>p.flatten.length+1)
 |[],none=>bo _
 |[],some p=>by rw[Nat.add_comm];exact aF _
 |u::r,none=>by
  rw[gj]
  split
  ·rename_i h;subst h
   have:=gH r (some []);simp at this ⊢;exact this
  ·have:=gH r none;simp at this ⊢;exact this
 |u::r,some p=>by
  rw[gN]
  split
  ·rename_i h;subst h
   have:=gH r none;simp at this ⊢;exact ab (Nat.le_succ_of_le this)   (ay (Nat.succ (List.sum (List.map List.length r))) (List.sum (List.map List.length p)+1))
  ·have:=gH r (some (p++[u]));simp at this ⊢;lia
theorem yK(Φ:jU)(fu:Nat)(hw:ti us)(hu:te us)(hl:us.flatten.length≤1048576) :
  runF Φ fu ⟨1,6,ml⟩ [.d (.str (S us.flatten))]=some (.d (.str (S (dp none us).flatten))):=by
 refine nN rfl ?_
 show∃ρ',cexs Φ fu ml [sv us.flatten,.un,.un,.un,.un,.un]=some (ρ',.rt (.d (.str (S (dp none us).flatten))))
 have hok:us.flatten.all (·<0x110000)=true:=by
  rw[ap]
  intro x hx
  obtain⟨u,h1,h2⟩:=List.mem_flatten.mp hx
  exact ap.mp (hu u h1).2 x h2
 by_cases hq:34∈us.flatten
 case neg =>
  refine⟨[sv us.flatten,.un,.un,.un,.un,.un],(d5 ((ed (du cu (bi rfl) nR) (congrArg some (by simp only[xa,ba hq];rfl))).trans (eM (bi rfl) rfl))).trans ?_⟩
  rw[uc λe=>hq (List.mem_flatten.mpr ⟨_,e,aq.mpr rfl⟩)]
 refine aa λhQ=>?_
 obtain⟨R',st',o',x4',x5',e1,e2,e3,e4⟩:=vt hl (Φ:=Φ) (fu:=fu) us 0 0 none none [] 0 .un .un (bo _) rfl hu (bo _) (aF _) ⟨rfl,rfl⟩
 (refine hQ ?_;clear hQ)
 have h5:gS Φ fu (.forG 4 5 (.var 0) j2) [sv us.flatten,iv 0,ov none,lv [],.un,.un]=some ([sv us.flatten,iv ((st':Nat):Int),ov o',lv R',x4',x5'],.nx):=by
  show(if(c0 (S us.flatten).length&&PyData.strOk (S us.flatten))=true then _ else none)=_
  simp only[gv,cM hl,GT,hok,Bool.and_self,if_pos rfl]
  show loopF _ _ (gn 0 false (S us.flatten).cps.toList) _=_
  simp only[uQ,sk hw]
  exact e1
 clear e1
 simp only[List.flatten_nil,c4,Nat.sub_self,List.take_zero,c4] at e4
 have hj:∀(RR:List (List Nat)),RR.flatten=(dp none us).flatten→RR.length≤1048576→∃ρ',cexs Φ fu [.frz 3,.ret (.meth .join (.lit (.str (S []))) [(.var 3)])] [sv us.flatten,iv ((st':Nat):Int),ov o',lv RR,x4',x5']=some (ρ',.rt (.d (.str (S (dp none us).flatten)))):=λRR h6 h8 =>
  ⟨_,bZ (sV rfl) (eM ((eQ cu (bi rfl)).trans ((qI h8 (by rw[h6];exact ab (gH us none) hl)).trans (by rw[h6]))) rfl)⟩
 have pre:∀{R},cexs Φ fu [(.ite (.cmp .Lt (.var 1) (.prim .len [(.var 0)])) [(.app 3 (.slice (.var 0) (some (.var 1)) none none))] []),(.frz 3),(.ret (.meth .join (.lit (.str (S []))) [(.var 3)]))] [sv us.flatten,iv ((st':Nat):Int),ov o',lv R',x4',x5']=R →
   cexs Φ fu ml [sv us.flatten,.un,.un,.un,.un,.un]=R:=λh =>
  bZ (cx_no (du cu (bi rfl) nR) (congrArg some (by simp only[xa,aO hq];rfl)))
   (bN cu rfl (bN cu rfl (bZ (ot iF) (bZ h5 h))))
 by_cases hs:st'<us.flatten.length
 ·obtain⟨ρ',h⟩:=hj (R'++[us.flatten.drop st']) (by simp only[←e4,List.flatten_append,List.flatten_singleton]) (by rw[aG];exact ab (Nat.succ_le_of_lt (au e3 hs)) hl)
  refine⟨ρ',pre (bZ ((ed (du (bi rfl) (iO (bi rfl) rfl hl) rfl) (congrArg some (aO (cR.mpr hs)))).trans
   (bZ (sw ((FF (bi rfl) (f5 (bi rfl)) hV hV).trans ((xj hl).trans (by rw[rN e2]))) rfl (by rw[af];exact ab e3 (ab e2 hl))) rfl)) ?_)⟩
  unfold lv at h
  rw[bM] at h
  exact h
 ·obtain⟨ρ',h⟩:=hj R' (by simp only[←e4,List.drop_of_length_le (be hs),bE]) (ab e3 (ab e2 hl))
  exact⟨ρ',pre (bZ (cx_no (du (bi rfl) (iO (bi rfl) rfl hl) rfl) (congrArg some (ba λh=>hs (cR.mp h)))) h)⟩
end
section
open PySem.StrLaws Builtin Builtin.Str
noncomputable def jn:Int→List (List Nat)→Bool
 |o,[]=>o==0
 |o,u::r=>if u=[40] then jn (o+1) r else if u=[41] then(if o-1<0 then false else jn (o-1) r) else jn o r
theorem ko{o:Int}{r:List (List Nat)}:jn o (u::r)=if u=[40] then jn (o+1) r else if u=[41] then(if o-1<0 then false else jn (o-1) r) else jn o r:=rfl
noncomputable def gT:List CS:=[(.ite (.cmp .Eq (.var 3) (.lit (.str (S [40])))) [(.aug false 1 (.lit (.int (1))))] [(.ite (.cmp .Eq (.var 3) (.lit (.str (S [41])))) [(.aug true 1 (.lit (.int (1)))),(.ite (.cmp .Lt (.var 1) (.lit (.int (0)))) [(.ret (.lit (.bool false)))] [])] [])])]
section
variable{o q:Int}
theorem Do{a0 a1 x y:Slot}:jd [2,3] (.tuple [.int q,.str (S u)]) [a0,a1,x,y]=some [a0,a1,iv q,sv u]:=rfl
theorem AC{v:List Nat}{a b:CE}{k:Bool}(h1:ak Φ a ρ=some (.d (.str (S u))))(h2:ak Φ b ρ=some (.d (.str (S v))))(hu:u.all (·<0x110000)=true)(hv:v.all (·<0x110000)=true)(h:(u==v)=k):ak Φ (.cmp .Eq a b) ρ=some (.d (.bool k)):=(iP h1 h2 (g_ hu) (g_ hv)).trans (by rw[tn,h])
theorem CB:cexs Φ fu gT [sv l,iv o,iv q,sv [40]]=some ([sv l,iv (o+1),iv q,sv [40]],.nx) :=
 bZ ((ed (AC (bi rfl) cu (by decide) (by decide) rfl) rfl).trans (bZ (sW cu rfl) rfl)) rfl
theorem uD{R:Ev×Fl}(h:gS Φ fu (.ite (.cmp .Lt (.var 1) (.lit (.int (0)))) [(.ret (.lit (.bool false)))] []) [sv l,iv (o-1),iv q,sv [41]]=some R):cexs Φ fu gT [sv l,iv o,iv q,sv [41]]=some R:=by
 unfold gT
 rw[oR]
 refine(iG (AC (bi rfl) cu (by decide) (by decide) rfl) rfl).trans ?_
 rw[oR]
 refine(ed (AC (bi rfl) cu (by decide) (by decide) rfl) rfl).trans (bZ (sW cu rfl) ?_)
 rw[oR];exact h
theorem zY(h:¬o-1<0):cexs Φ fu gT [sv l,iv o,iv q,sv [41]]=some ([sv l,iv (o-1),iv q,sv [41]],.nx) :=
 uD (cx_no (du (bi rfl) cu rfl) (congrArg some (ba h)))
theorem B7(h:o-1<0):cexs Φ fu gT [sv l,iv o,iv q,sv [41]]=some ([sv l,iv (o-1),iv q,sv [41]],.rt (.d (.bool false))) :=
 uD ((ed (du (bi rfl) cu rfl) (congrArg some (aO h))).trans (eM cu rfl))
theorem A6(hu:u.all (·<0x110000)=true)(h1:u≠[40])(h2:u≠[41]):cexs Φ fu gT [sv l,iv o,iv q,sv u]=some ([sv l,iv o,iv q,sv u],.nx) :=
 bZ ((iG (AC (bi rfl) cu hu (by decide) (b7.mpr h1)) rfl).trans (bZ (cx_no (AC (bi rfl) cu hu (by decide) (b7.mpr h2)) rfl) rfl)) rfl
end
theorem wy(us:List (List Nat)):∀(n:Nat) (o:Int) (x y:Slot),te us →
  (∃o' x' y',loopF (jd [2,3]) (λρ=>cexs Φ fu gT ρ) (ui n us) [sv l,iv o,x,y]=some ([sv l,iv o',x',y'],.nx)∧jn o us=(o'==0)) ∨
  (∃ρ',loopF (jd [2,3]) (λρ=>cexs Φ fu gT ρ) (ui n us) [sv l,iv o,x,y]=some (ρ',.rt (.d (.bool false)))∧jn o us=false):=by
 induction us with
 |nil =>
  intro n o x y _
  exact .inl ⟨o,x,y,rfl,rfl⟩
 |cons u r ih =>
  intro n o x y hu
  obtain⟨u1,u2⟩:=hu u al
  have hur:te r:=λx hx=>hu x (aj _ hx)
  rw[zK,rG]
  rw[Do,bB]
  by_cases h1:u=[40]
  ·subst h1
   rw[CB,ko,if_pos rfl]
   exact ih _ _ _ _ hur
  ·by_cases h2:u=[41]
   ·subst h2
    rw[ko,if_neg h1,if_pos rfl]
    by_cases h3:o-1<0
    ·rw[B7 h3,if_pos h3]
     exact .inr ⟨_,rfl,rfl⟩
    ·rw[zY h3,if_neg h3]
     exact ih _ _ _ _ hur
   ·rw[A6 u2 h1 h2,ko,if_neg h1,if_neg h2]
    exact ih _ _ _ _ hur
theorem lG{r:List (List Nat)}(h:jc u)(hr:ti r):ti (u::r):=by
 cases r with
 |nil=>exact .inr h
 |cons v r=>exact⟨h,hr⟩
theorem nL{p:List (List Nat)}(hp:∀u∈p,jc u){r:List (List Nat)}(hr:ti r):ti (p++r):=by
 induction p with
 |nil=>exact hr
 |cons u p ih=>exact lG (hp u al) (ih λx hx=>hp x (aj _ hx))
theorem tF{r:List (List Nat)}(h:ti (u::r)):(r=[]∧u=[92])∨jc u:=by
 cases r with
 |nil=>exact h.imp (λe=>⟨rfl,e⟩) id
 |cons v r=>exact .inr h.1
theorem Bv:jc [34]:=.inl ⟨34,by decide,rfl⟩
theorem ji:∀{us:List (List Nat)} {m:Option (List (List Nat))},ti us→(∀p,m=some p→∀u∈p,jc u)→ti (dp m us)
 |[],none,_,_=>trivial
 |[],some p,_,hp=>by
  have:=nL (p:=p) (r:=[]) (hp p rfl) trivial
  rw[bE] at this
  exact lG Bv this
 |u::r,none,h,_=>by
  rw[gj]
  split
  ·exact ji (lk h) λp e u hu=>by cases e;cases hu
  ·rcases tF h with⟨rfl,rfl⟩ | hf
   ·exact .inl rfl
   ·exact lG hf (ji (lk h) λp e=>by cases e)
 |u::r,some p,h,hp=>by
  rw[gN]
  split
  ·exact ji (lk h) λp e=>by cases e
  ·rename_i hn
   rcases tF h with⟨rfl,rfl⟩ | hf
   ·show ti ([34]::(p++[[92]]))
    exact lG Bv (nL (hp p rfl) (.inl rfl))
   ·exact ji (lk h) λq e x hx=>by
     cases e
     rcases aP.mp hx with hx | hx
     ·exact hp p rfl x hx
     ·rw[aq] at hx;subst hx;exact hf
theorem ix:∀{us:List (List Nat)} {m:Option (List (List Nat))} {x:List Nat},x∈dp m us→x∈us∨x=[34]∨∃p,m=some p∧x∈p
 |[],none,x,h=>by cases h
 |[],some p,x,h=>by
  rcases ah.mp h with rfl | h
  ·exact .inr (.inl rfl)
  ·exact .inr (.inr ⟨p,rfl,h⟩)
 |u::r,none,x,h=>by
  rw[gj] at h
  split at h
  ·rcases ix h with h | h | ⟨p,e,h⟩
   ·exact .inl (aj _ h)
   ·exact .inr (.inl h)
   ·cases e;cases h
  ·rcases ah.mp h with rfl | h
   ·exact .inl al
   ·rcases ix h with h | h | ⟨p,e,h⟩
    ·exact .inl (aj _ h)
    ·exact .inr (.inl h)
    ·cases e
 |u::r,some p,x,h=>by
  rw[gN] at h
  split at h
  ·rcases ix h with h | h | ⟨p,e,h⟩
   ·exact .inl (aj _ h)
   ·exact .inr (.inl h)
   ·cases e
  ·rcases ix h with h | h | ⟨q,e,h⟩
   ·exact .inl (aj _ h)
   ·exact .inr (.inl h)
   ·cases e
    rcases aP.mp h with h | h
    ·exact .inr (.inr ⟨p,rfl,h⟩)
    ·rw[aq] at h;subst h;exact .inl al
theorem xJ(h:te us):te (dp none us):=λu hu=>by
 rcases ix hu with h' | rfl | ⟨p,e,_⟩
 ·exact h u h'
 ·exact⟨by decide,by decide⟩
 ·cases e
theorem EK(hu:te us):us.flatten.all (·<0x110000)=true:=by
 rw[ap]
 intro x hx
 obtain⟨u,h1,h2⟩:=List.mem_flatten.mp hx
 exact ap.mp (hu u h1).2 x h2
theorem yb(hs:Φ 1 [.d (.str (S us.flatten))]=some (.d (.str (S (dp none us).flatten))))(hw:ti us)(hu:te us)(hl:us.flatten.length≤1048576) :
  runF Φ fu ⟨1,4,mL⟩ [.d (.str (S us.flatten))]=some (.d (.bool (jn 0 (dp none us)))):=by
 refine nN rfl ?_
 show∃ρ',cexs Φ fu mL [sv us.flatten,.un,.un,.un]=_
 have hl2:(dp none us).flatten.length≤1048576:=ab (show _≤us.flatten.length from gH us none) hl
 have ho:=xJ hu
 have hw2:=ji (m:=none) hw λp e=>by cases e
 have ha:=EK ho
 have pre:∀{R},cexs Φ fu [(.forG 2 3 (.var 0) gT),(.ret (.cmp .Eq (.var 1) (.lit (.int (0)))))] [sv (dp none us).flatten,iv 0,.un,.un]=R→cexs Φ fu mL [sv us.flatten,.un,.un,.un]=R:=λh =>
  bN ((lS (bi rfl) rfl).trans hs) rfl (bN cu rfl h)
 suffices h:∃ρ',cexs Φ fu [(.forG 2 3 (.var 0) gT),(.ret (.cmp .Eq (.var 1) (.lit (.int (0)))))] [sv (dp none us).flatten,iv 0,.un,.un]=some (ρ',.rt (.d (.bool (jn 0 (dp none us))))) from h.elim λρ' h=>⟨ρ',pre h⟩
 clear pre hs
 generalize dp none us=vs at *
 have hcx:gS Φ fu (.forG 2 3 (.var 0) gT) [sv vs.flatten,iv 0,.un,.un]=loopF (jd [2,3]) (λρ=>cexs Φ fu gT ρ) (ui 0 vs) [sv vs.flatten,iv 0,.un,.un]:=by
  show(if(c0 (S vs.flatten).length&&PyData.strOk (S vs.flatten))=true then _ else none)=_
  rw[gv,cM hl2,GT,ha,Bool.and_self,if_pos rfl]
  show loopF _ _ (gn 0 false (S vs.flatten).cps.toList) _=_
  rw[uQ,sk hw2]
 rcases wy (Φ:=Φ) (fu:=fu) (l:=vs.flatten) vs 0 0 .un .un ho with⟨o',x',y',h1,h2⟩ | ⟨ρ',h1,h2⟩
 ·refine⟨[sv vs.flatten,iv o',x',y'],(sT (hcx.trans h1)).trans ?_⟩
  rw[h2]
  exact eM ((iP (bi rfl) cu fO fO).trans (by rw[lq])) rfl
 ·exact⟨ρ',by rw[h2];exact d5 (hcx.trans h1)⟩
end
theorem mq{a:Int}(h0:0≤a)(h:a<2^k):ee a≤k:=by
 unfold ee
 split
 ·exact aK _
 ·rename_i hn
  have h1:a.natAbs≠0:=Int.natAbs_ne_zero.mpr hn
  have h2:a.natAbs<2^k:=by
   have:((a.natAbs:Nat):Int)<((2^k:Nat):Int):=by rw[Int.natAbs_of_nonneg h0];exact_mod_cast h
   exact_mod_cast this
  have:=(Nat.log2_lt (by lia)).mpr h2
  exact cR.mpr this
theorem vA{a:Int}(h:0<a):∃n:Nat,ee a=n∧1≤n∧a<2^n:=by
 refine aa λhQ=>?_
 obtain⟨b,hb,hl⟩:=kX a.toNat
 (refine hQ ?_;clear hQ)
 rw[Int.toNat_of_nonneg (by exact bn h)] at hb
 refine⟨b,hb,?_,?_⟩
 ·unfold ee at hb;rw[if_neg (by exact Int.ne_of_gt h)] at hb;lia
 ·have:((a.toNat:Nat):Int)<((2^b:Nat):Int):=by exact_mod_cast hl
  rw[Int.toNat_of_nonneg (by exact bn h)] at this
  exact_mod_cast this
theorem Kr{a:Int}(hb:b≠0)(hf:iz b=true):gQ .divmod [.d (.int a),.d (.int b)]=some (.d (.tuple [.int (a.fdiv b),.int (a.fmod b)])):=by
 show(if(b != 0&&iz b)=true then some (V.d (.tuple [.int (a.fdiv b),.int (a.fmod b)])) else none)=_
 rw[hf,cz.mpr hb];rfl
theorem Fv{a:Int}(h:ak Φ e ρ=some (.d (.int a))):ak Φ (.meth .bitLength e []) ρ=some (.d (.int (ee a))):=(Bc h).trans rfl
theorem Hh{a:Int}(hf:iz a=true)(hn:n≤8000):k7 .LShift (.d (.int a)) (.d (.int n))=some (.d (.int (a*2^n))):=jm (by
 exact pO hf (cC.mpr hn))
theorem JC{b:List CS}(h:ak Φ e ρ=some (.d (.list xs)))(hl:xs.length≤1048576):gS Φ fu (.for1 i e b) ρ=loopF (d7 i) (λρ=>cexs Φ fu b ρ) xs ρ:=by
 exact bc h (bc (eB hl) rfl)
theorem Em{b:List CS}(h:ak Φ e ρ=some (.d (.list xs)))(hl:xs.length≤1048576):gS Φ fu (.forR i e b) ρ=loopF (d7 i) (λρ=>cexs Φ fu b ρ) xs.reverse ρ:=by
 exact bc h (bc rfl (if_pos (cM hl)))
theorem zF(Φ:jU)(fu:Nat){a n:Int}(h:ee a-n≤4000)(hb:b≠0)(hf:iz b=true) :
  runF Φ fu ⟨3,11,qY⟩ [.d (.int a),.d (.int b),.d (.int n)]=some (.d (.tuple [.int (a.fdiv b),.int (a.fmod b)])) :=
 runF_rt (ρ':=[.sh (.d (.int a)),.sh (.d (.int b)),.sh (.d (.int n)),.un,.un,.un,.un,.un,.un,.un,.un]) rfl
  (d5 ((ed (du ((dh (Fv (bi rfl)) (bi rfl)).trans (jC _ _)) cu rfl) (congrArg some (aO h))).trans (eM ((Aq (bi rfl) (bi rfl)).trans (Kr hb hf)) rfl)))
noncomputable def rl:List CS:=[(.asgT [7,4] (.call 3 [(.bin .Add (.bin .LShift (.var 4) (.var 2)) (.var 6)),(.var 1),(.var 2)])),(.app 5 (.var 7))]
noncomputable def nv(R:List Int):Slot:=.ow (R.map .int)
section
variable{a:Int}{sl3 x7:Slot}
theorem yn{r x:Int}{R:List Int}(hr:iz r=true)(hn:n≤8000)(hR:R.length≤1048576)
  (h3:Φ 3 [.d (.int (r*2^n+x)),.d (.int b),.d (.int n)]=some (.d (.tuple [.int ((r*2^n+x).fdiv b),.int ((r*2^n+x).fmod b)]))) :
  cexs Φ fu rl [iv a,iv b,iv n,sl3,iv r,nv R,iv x,x7,x8]=some ([iv a,iv b,iv n,sl3,iv ((r*2^n+x).fmod b),nv (R++[(r*2^n+x).fdiv b]),iv x,iv ((r*2^n+x).fdiv b),x8],.nx):=by
 unfold rl
 refine bZ ((lI ((AY (x:=.int (r*2^n+x)) ((dh ((dh (bi rfl) (bi rfl)).trans (Hh hr hn)) (bi rfl)).trans (kd _ _)) (bi rfl) (bi rfl)).trans h3) rfl).trans rfl) ?_
 refine bZ (sw (bi rfl) rfl (by rw[af];exact hR)) ?_
 simp only[eK];unfold nv;simp only[bM];rfl
end
theorem xP{a:Int}{sl3:Slot}(hb:0<b)(hbn:b<2^n)(hn:n≤1000)
  (h3:∀t:Int,0≤t→t<2^(n+n)→Φ 3 [.d (.int t),.d (.int b),.d (.int n)]=some (.d (.tuple [.int (t.fdiv b),.int (t.fmod b)]))) (xs:List Int):∀(R:List Int) (r:Int) (x6 x7:Slot),0≤r→r<b→gY n xs=true→R.length+xs.length≤1048576 →
  ∃qs r' x6' x7',loopF (d7 6) (λρ=>cexs Φ fu rl ρ) (xs.map .int) [iv a,iv b,iv n,sl3,iv r,nv R,x6,x7,x8]=some ([iv a,iv b,iv n,sl3,iv r',nv (R++qs),x6',x7',x8],.nx) ∧
   qs.length=xs.length∧gY n qs=true∧0≤r'∧r'<b∧r*2^(n*xs.length)+fR n xs.reverse=fR n qs.reverse*b+r':=by
 induction xs with
 |nil =>
  intro R r x6 x7 h0 h1 _ _
  exact⟨[],r,x6,x7,by rw[bE];rfl,rfl,rfl,h0,h1,by simp[sn]⟩
 |cons x xs ih =>
  intro R r x6 x7 h0 h1 hd hl
  unfold gY at hd
  simp only[List.all_cons,ag,ag,ar,ar] at hd
  refine aa λhQ=>?_
  obtain⟨⟨d1,d2⟩,d3⟩:=hd
  (refine hQ ?_;clear hQ)
  have hp:(0:Int)<2^n:=Int.pow_pos (by decide)
  have hpp:(2:Int)^(n+n)=2^n*2^n:=Int.pow_add _ _ _
  have t0:0≤r*2^n+x:=Int.add_nonneg (Int.mul_nonneg h0 (bn hp)) d1
  have t1:r*2^n+x<b*2^n:=by
   have:(r+1)*2^n≤b*2^n:=Int.mul_le_mul_of_nonneg_right h1 (bn hp)
   rw[Int.add_mul,Int.one_mul] at this;exact Int.lt_of_lt_of_le (Int.add_lt_add_left d2 (r*2^n)) this
  have t2:r*2^n+x<2^(n+n):=by
   simp only[hpp]
   exact Int.lt_of_lt_of_le t1 (Int.mul_le_mul_of_nonneg_right (bn hbn) (bn hp))
  rw[bj,rG,d7,bB]
  have e0:([iv a,iv b,iv n,sl3,iv r,nv R,x6,x7,x8]:Ev).set 6 (.sh (.d (.int x)))=[iv a,iv b,iv n,sl3,iv r,nv R,iv x,x7,x8]:=rfl
  rw[e0,yn (oh h0 (Int.lt_trans h1 hbn) (by exact ab hn (ao _ _))) (by exact ab hn (ao _ _)) (by exact ab (ay _ _) hl) (h3 _ t0 t2)]
  generalize ht:r*2^n+x=t at *
  have m0:0≤t.fmod b:=Int.fmod_nonneg_of_pos _ hb
  have m1:t.fmod b<b:=Int.fmod_lt_of_pos _ hb
  have q0:0≤t.fdiv b:=by rw[Int.fdiv_eq_ediv_of_nonneg _ (bn (by assumption))];exact Int.ediv_nonneg t0 (bn (by assumption))
  have q1:t.fdiv b<2^n:=by
   rw[Int.fdiv_eq_ediv_of_nonneg _ (bn (by assumption))]
   exact Int.ediv_lt_of_lt_mul hb (by rw[Int.mul_comm];exact t1)
  obtain⟨qs,r',x6',x7',e1,e2,e3,e4,e5,e6⟩:=ih (R++[t.fdiv b]) (t.fmod b) (iv x) (iv (t.fdiv b)) m0 m1 d3 (ab (aw (by rw[aG];exact Nat.succ_add_eq_add_succ R.length xs.length)) hl)
  refine⟨t.fdiv b::qs,r',x6',x7',?_,by simp[e2],?_,e4,e5,?_⟩
  ·rw[bu] at e1;exact e1
  ·unfold gY;simp only[List.all_cons,ag,ag,ar,ar];exact⟨⟨(by rw[Int.fdiv_eq_ediv_of_nonneg _ (by lia)];exact Int.ediv_nonneg t0 (by lia)),q1⟩,e3⟩
  ·simp only[List.reverse_cons,List.reverse_cons,j_,j_,List.length_reverse,List.length_reverse,e2,aU]
   have hx:r*2^(n*(xs.length+1))+x*2^(n*xs.length)=t*2^(n*xs.length):=by
    simp only[←ht,Nat.mul_add,Nat.mul_one,Nat.add_comm,Int.pow_add,←Int.mul_assoc,Int.add_mul]
   have d1':∀z:Int,fR n [z]=z:=λz=>by simp[sn,rQ]
   rw[d1',d1']
   generalize (2:Int)^(n*xs.length)=P at *
   generalize r*2^(n*(xs.length+1))=Q at *
   have h5:t*P=(b*t.fdiv b)*P+t.fmod b*P:=by rw[←Int.add_mul,(Int.mul_fdiv_add_fmod t b)]
   have h6:(fR n qs.reverse+t.fdiv b*P)*b=fR n qs.reverse*b+(b*t.fdiv b)*P:=by
    rw[Int.add_mul,Int.mul_comm b,Int.mul_right_comm]
   rw[h6,Int.add_left_comm,hx,h5,Int.add_left_comm,Int.add_comm (fR n xs.reverse),e6,Int.add_left_comm,←Int.add_assoc]
theorem iS(ds:List Int):gA (ds.map .int)=some ds:=by
 induction ds with
 |nil =>
  exact rfl
 |cons d r ih =>
  exact bc (f:=λi=>(gA _).map (i::·)) rfl (by rw[ih];rfl)
theorem zS(fu:Nat){a:Int}(ha:0≤a)(ha2:a<2^1300)(hb:0<b)(hb2:b<2^1000)
  (h4:Φ 4=me) (h5:Φ 5=mh) (h3:∀t n:Int,ee t-n≤4000→Φ 3 [.d (.int t),.d (.int b),.d (.int n)]=some (.d (.tuple [.int (t.fdiv b),.int (t.fmod b)]))) :
  runF Φ fu ⟨2,9,mR⟩ [.d (.int a),.d (.int b)]=some (.d (.tuple [.int (a.fdiv b),.int (a.fmod b)])):=by
 suffices h:∃ρ',cexs Φ fu mR [iv a,iv b,.un,.un,.un,.un,.un,.un,.un]=some (ρ',.rt (.d (.tuple [.int (a.fdiv b),.int (a.fmod b)]))) by
  obtain⟨ρ',h⟩:=h
  exact runF_rt rfl h
 refine aa λhQ=>?_
 obtain⟨n,n1,n2,n3⟩:=vA hb
 have n4:n≤1000:=by have:=mq (bn hb) hb2;lia
 have a1:ee a≤1300:=mq ha ha2
 obtain⟨an,rfl⟩:∃an:Nat,a=an:=⟨a.toNat,by exact(Int.toNat_of_nonneg ha).symm⟩
 have a2:ee (an:Int)+(n:Int)≤2900:=by lia
 obtain⟨i1,i2⟩:=BT n2 a2
 (refine hQ ?_;clear hQ)
 have hi2d:Φ 4 [.d (.int an),.d (.int n)]=some (.d (.list ((dig n (nn an n) an).map .int))):=by
  rw[h4]
  show(if _ then some (V.d (.list ((dig (Int.toNat n) (nn (Int.toNat an) (Int.toNat n)) (Int.toNat an)).map .int))) else none)=_
  rw[aR,aR,if_pos]
  simp only[ag,ar]
  lia
 have pre:∀{R},cexs Φ fu [(.forR 6 (.var 3) rl),(.rev 5),(.frz 5),(.asg 8 (.call 5 [(.var 5),(.var 2)])),(.ret (.tup [(.var 8),(.var 4)]))] [iv an,iv b,iv n,.sh (.d (.list ((dig n (nn an n) an).map .int))),iv 0,nv [],.un,.un,.un]=R →
   cexs Φ fu mR [iv an,iv b,.un,.un,.un,.un,.un,.un,.un]=R:=λh =>
  bN ((Fv (bi rfl)).trans (by rw[n1])) rfl (bN ((fG (bi rfl) (bi rfl)).trans hi2d) rfl (bN cu rfl (bZ (ot iF) h)))
 suffices h:∃ρ',cexs Φ fu [(.forR 6 (.var 3) rl),(.rev 5),(.frz 5),(.asg 8 (.call 5 [(.var 5),(.var 2)])),(.ret (.tup [(.var 8),(.var 4)]))] [iv an,iv b,iv n,.sh (.d (.list ((dig n (nn an n) an).map .int))),iv 0,nv [],.un,.un,.un]=some (ρ',.rt (.d (.tuple [.int ((an:Int).fdiv b),.int ((an:Int).fmod b)]))) from h.elim λρ' h=>⟨ρ',pre h⟩
 clear pre hi2d
 have hm:nn an n≤2900:=ab (Nat.le_mul_of_pos_left _ n2) i1
 have hdl:=kS n (nn an n) an
 have hdok:=Hx n (nn an n) an
 have hdv:=E8 n (nn an n) an i2
 generalize dig n (nn an n) an=ds at *
 have hrok:gY n ds.reverse=true:=by unfold gY at hdok ⊢;rw[List.all_reverse];exact hdok
 refine aa λhQ=>?_
 obtain⟨qs,r',x6',x7',e1,e2,e3,e4,e5,e6⟩:=xP (Φ:=Φ) (fu:=fu) (a:=an) (b:=b) (n:=n) (sl3:=.sh (.d (.list (ds.map .int)))) (x8:=.un) hb n3 n4
  (λt t0 t1=>h3 t n (by have:=mq t0 t1;lia)) ds.reverse [] 0 .un .un (Int.le_refl _) hb hrok (by simp;exact ab (aw hdl) (ab hm (c8 rfl)))
 (refine hQ ?_;clear hQ)
 have hcx:gS Φ fu (.forR 6 (.var 3) rl) [iv an,iv b,iv n,.sh (.d (.list (ds.map .int))),iv 0,nv [],.un,.un,.un]=some ([iv an,iv b,iv n,.sh (.d (.list (ds.map .int))),iv r',nv qs,x6',x7',.un],.nx):=by
  refine(Em (bi rfl) (by rw[af,hdl];exact ab hm (ao _ _))).trans ?_
  rw[←List.map_reverse]
  exact e1
 clear e1
 rw[List.length_reverse] at e2
 rw[List.reverse_reverse,hdv,Int.zero_mul,Int.zero_add] at e6
 have hq:fR n qs.reverse=(an:Int).fdiv b∧r'=(an:Int).fmod b:=by
  rw[Int.fdiv_eq_ediv_of_nonneg _ (bn hb),Int.fmod_eq_emod_of_nonneg _ (bn hb)]
  have:=(Int.ediv_emod_unique (a:=an) (b:=b) (r:=r') (q:=fR n qs.reverse) hb).mpr ⟨by rw[e6,Int.mul_comm,Int.add_comm],e4,e5⟩
  exact⟨this.1.symm,this.2.symm⟩
 have hd2i:Φ 5 [.d (.list (qs.reverse.map .int)),.d (.int n)]=some (.d (.int ((an:Int).fdiv b))):=by
  rw[h5]
  show(gA _).bind _=_
  rw[iS,bB,aR,if_pos,hq.1]
  have e3':gY n qs.reverse=true:=by unfold gY at e3 ⊢;rw[List.all_reverse];exact e3
  simp only[ag,ar,e3',List.length_reverse,e2,hdl]
  exact⟨⟨by exact cR.mpr (by assumption),i1⟩,trivial⟩
 rw[←hq.2]
 exact⟨_,bZ hcx (bZ ((He rfl (by rw[af,e2,hdl];exact ab hm (ao _ _))).trans (by rw[←List.map_reverse])) (bZ (sV rfl) (bN ((fG (bi rfl) (bi rfl)).trans hd2i) rfl (eM (iV (bg (bi rfl) (bg (bi rfl) de)) (aA rfl)) rfl))))⟩
structure StdD(es:List lj):Prop where
 div2:es[3]?=some (.code ⟨3,11,qY⟩)
 i2d:es[4]?=some (.hand me)
 d2i:es[5]?=some (.hand mh)
 dpos:es[6]?=some (.code ⟨2,9,mR⟩)
 idiv:es[7]?=some (.code ⟨2,4,oM⟩)
structure Std(es:List lj):Prop extends StdD es where
 ell:es[0]?=some (.code ⟨2,6,qa⟩)
 strip:es[1]?=some (.code ⟨1,6,ml⟩)
 check:es[2]?=some (.code ⟨1,4,mL⟩)
theorem eF{es:List lj}{f:Nat}{F:CF}(h:es[f]?=some (.code F)):gt es fu (k+1) f=runF (gt es fu k) fu F:=by
 funext vs;exact bc h rfl
theorem uS{es:List lj}{f:Nat}(h:es[f]?=some (.hand φ)):gt es fu k f=φ:=by
 funext vs;cases k<;>exact bc h rfl
section
variable{es:List lj}(H:Std es)
include H
theorem jJ{p0:List Nat}{g:List Nat}(hg:g.length≤1048576)(hw:(d_ dJ (p0::(mid++[pl]))).length≤1000000)(hp:∀p∈p0::(mid++[pl]),46∉p) :
  gt es fu (k+1) 0 [.d (.str (S (d_ dJ (p0::(mid++[pl]))))),.d (.str (S g))]=some (.d (.bool (iW p0 mid pl g))):=by
 rw[eF H.ell];exact E4 _ _ _ _ _ _ hg hw hp
theorem uN{w g:List Nat}(hi:jM dJ w=none)(hw:w.all (·<0x110000)=true)(hg:g.all (·<0x110000)=true) :
  gt es fu (k+1) 0 [.d (.str (S w)),.d (.str (S g))]=some (.d (.bool (w==g))):=by
 rw[eF H.ell];exact yL _ _ _ _ hi hw hg
theorem xL(hw:ti us)(hu:te us)(hl:us.flatten.length≤1048576) :
  gt es fu (k+1) 1 [.d (.str (S us.flatten))]=some (.d (.str (S (dp none us).flatten))):=by
 rw[eF H.strip];exact yK _ _ hw hu hl
theorem qG(hw:ti us)(hu:te us)(hl:us.flatten.length≤1048576) :
  gt es fu (k+2) 2 [.d (.str (S us.flatten))]=some (.d (.bool (jn 0 (dp none us)))):=by
 rw[eF H.check];exact yb (xL H hw hu hl) hw hu hl
end
section
variable{es:List lj}(H:StdD es)
include H
theorem zE{a:Int}(ha:0≤a)(ha2:a<2^1300)(hb:0<b)(hb2:b<2^1000) :
  gt es fu (k+2) 6 [.d (.int a),.d (.int b)]=some (.d (.tuple [.int (a.fdiv b),.int (a.fmod b)])):=by
 rw[eF H.dpos]
 refine zS fu ha ha2 hb hb2 (uS H.i2d) (uS H.d2i) λt n ht=>?_
 rw[eF H.div2]
 exact zF _ _ ht (by exact Int.ne_of_gt hb) (oh (bn hb) hb2 (by decide))
omit H in
theorem z1(h:b≠0):dC (.d (.bool (PyData.eqv (.int b) (.int 0))))=some false:=congrArg some ((lq _ _).trans (b7.mpr h))
omit H in
theorem zV{a q r:Int}(h1:b<0)(h:Φ 7 [.d (.int (-a)),.d (.int (-b))]=some (.d (.tuple [.int q,.int r]))):runF Φ fu ⟨2,4,oM⟩ [.d (.int a),.d (.int b)]=some (.d (.tuple [.int q,.int (-r)])) :=
 runF_rt (ρ':=[iv a,iv b,iv q,iv r]) rfl (d5 ((iG (iP (bi rfl) cu fO fO) (z1 (Int.ne_of_lt h1))).trans (d5 ((ed (du (bi rfl) cu rfl) (congrArg some (aO h1))).trans
  (bZ ((lI ((fG (oD (bi rfl)) (oD (bi rfl))).trans h) rfl).trans rfl) (eM (iV (bg (bi rfl) (bg (oD (bi rfl)) de)) (aA rfl)) rfl))))))
omit H in
theorem tJ{a:Int}{r:Ev}{v:V}(h1:0<b)(h:gS Φ fu (.ite (.cmp .Lt (.var 0) (.lit (.int (0)))) [(.asgT [2,3] (.call 7 [(.un .Invert (.var 0)),(.var 1)])),(.ret (.tup [(.un .Invert (.var 2)),(.bin .Add (.var 1) (.un .Invert (.var 3)))]))] [(.ret (.call 6 [(.var 0),(.var 1)]))]) [iv a,iv b,.un,.un]=some (r,.rt v)):runF Φ fu ⟨2,4,oM⟩ [.d (.int a),.d (.int b)]=some v :=
 runF_rt (ρ':=r) rfl (d5 ((iG (iP (bi rfl) cu fO fO) (z1 (Ne.symm (Int.ne_of_lt h1)))).trans (d5 ((iG (du (bi rfl) cu rfl) (congrArg some (ba (Int.not_lt.mpr (bn h1))))).trans (d5 h)))))
theorem qC{a:Int}(ha:0≤a)(ha2:a<2^1300)(hb:0<b)(hb2:b<2^1000) :
  gt es fu (k+3) 7 [.d (.int a),.d (.int b)]=some (.d (.tuple [.int (a.fdiv b),.int (a.fmod b)])):=by
 rw[eF H.idiv]
 exact tJ hb ((iG (du (bi rfl) cu rfl) (congrArg some (ba (Int.not_lt.mpr ha)))).trans (eM ((fG (bi rfl) (bi rfl)).trans (zE H (k:=k) ha ha2 hb hb2)) rfl))
omit H in
theorem qN{a:Int}(hb:0<b):Builtin.bitNot ((Builtin.bitNot a).fdiv b)=a.fdiv b∧b+Builtin.bitNot ((Builtin.bitNot a).fmod b)=a.fmod b:=by
 have e:∀z,Builtin.bitNot z=-z-1:=λz=>by unfold Builtin.bitNot;exact rfl
 have hb':=bn hb
 rw[e,e,e,Int.fdiv_eq_ediv_of_nonneg _ hb',Int.fmod_eq_emod_of_nonneg _ hb',Int.fdiv_eq_ediv_of_nonneg _ hb',Int.fmod_eq_emod_of_nonneg _ hb']
 have m0:=Int.emod_nonneg (-a-1) (Ne.symm (Int.ne_of_lt hb))
 have m1:=Int.emod_lt_of_pos (-a-1) hb
 have m2:=Int.mul_ediv_add_emod (-a-1) b
 have:=(Int.ediv_emod_unique (a:=a) (b:=b) (r:=b+(-((-a-1) % b)-1)) (q:=-((-a-1) / b)-1) hb).mpr ⟨by
  rw[Int.mul_sub,Int.mul_neg,Int.mul_one];omega,by(clear m2 m0 hb' e hb;omega),by(clear m2 m1 hb' e hb;omega)⟩
 exact⟨this.1.symm,this.2.symm⟩
theorem qS{a:Int}(ha1:-2^1300≤a)(ha2:a<2^1300)(hb:0<b)(hb2:b<2^1000) :
  gt es fu (k+4) 7 [.d (.int a),.d (.int b)]=some (.d (.tuple [.int (a.fdiv b),.int (a.fmod b)])):=by
 by_cases h3:a<0
 ·have h:=qC H (fu:=fu) (k:=k) (a:=Builtin.bitNot a) (b:=b) (by unfold Builtin.bitNot;exact Int.le_sub_one_of_lt (Int.neg_pos_of_neg h3)) (by unfold Builtin.bitNot;exact Int.lt_of_lt_of_le (Int.sub_lt_self (-a) (c8 rfl))   (Int.le_trans (Int.neg_le_neg ha1) (c8 rfl))) hb hb2
  rw[eF H.idiv]
  refine tJ (r:=[iv a,iv b,iv ((Builtin.bitNot a).fdiv b),iv ((Builtin.bitNot a).fmod b)]) hb ((ed (du (bi rfl) cu rfl) (congrArg some (aO h3))).trans (bZ ((lI ((fG (wA (bi rfl)) (bi rfl)).trans h) rfl).trans rfl)
   ((eM (iV (bg (wA (bi rfl)) (bg ((dh (bi rfl) (wA (bi rfl))).trans (kd _ _)) de)) (aA rfl)) rfl).trans ?_)))
  rw[(qN hb).1,(qN hb).2];rfl
 ·exact qC H (k:=k+1) (Int.not_lt.mp h3) ha2 hb hb2
theorem Ba{a:Int}(ha1:-2^1300<a)(ha2:a<2^1300)(hb:b≠0)(hb1:-2^1000<b)(hb2:b<2^1000) :
  gt es fu (k+5) 7 [.d (.int a),.d (.int b)]=some (.d (.tuple [.int (a.fdiv b),.int (a.fmod b)])):=by
 by_cases h2:b<0
 ·have h:=qS H (fu:=fu) (k:=k) (a:=-a) (b:=-b) (bn (Int.neg_lt_neg ha2)) (Int.lt_of_lt_of_le (Int.neg_lt_neg ha1) (c8 rfl)) (Int.neg_pos_of_neg (by assumption)) (Int.lt_of_lt_of_le (Int.neg_lt_neg hb1) (c8 rfl))
  rw[Int.neg_fdiv_neg,Int.neg_fmod_neg] at h
  rw[eF H.idiv,zV h2 h,Int.neg_neg]
 ·exact qS H (k:=k+1) (bn ha1) ha2 (by lia) hb2
end
section
open PySem.StrLaws
theorem yW{a c:Int}(h:mJ a b c=true)(h2:jy a b c=xs):fB (.r a b c)=some xs:=by
 exact(if_pos h).trans (by rw[h2])
theorem uL{s:Nat}(hb:b=(s:Int)+n)(h:s+n≤100000):fB (.r (s:Int) b 1)=some ((List.range' s n).map λ(k:Nat)=>.int (k:Int)):=by
 subst hb
 have e:Builtin.Range.rangeSize (s:Int) ((s:Int)+n) 1=n:=by
  unfold Builtin.Range.rangeSize
  rw[if_pos (by decide)]
  by_cases h0:n=0
  ·subst h0;rw[if_neg (by lia)];rfl
  ·rw[if_pos (by lia),Int.ediv_one];lia
 have e2:mJ (s:Int) ((s:Int)+n) 1=true:=by
  unfold mJ lB
  rw[e,aR,cM (ab (ao n s) (ab h (c8 rfl))),aO (by exact aK _),small_one (by exact aK _) (iy (ay s n) (iy h (c8 rfl))) (by exact aK _) (by lia)]
  rfl
 have e3:jy (s:Int) ((s:Int)+n) 1=(List.range' s n).map λ(k:Nat)=>.int (k:Int):=by
  unfold jy lB
  rw[e,aR,List.range'_eq_map_range,List.map_map]
  apply List.map_congr_left
  intro k _
  simp
 exact yW e2 e3
theorem J7{i:Int}:wR (.d (.tuple xs)) (.d (.int i))=if 0≤i∧i<2^62 then(xs[i.toNat]?).bind (λd=>some (V.d d)) else none:=rfl
section
theorem n7{a i:CE}(h1:ak Φ a ρ=some (.d (.tuple xs)))(h2:ak Φ i ρ=some (.d (.int (j:Int))))(hj:j≤1048576)(h3:xs[j]?=some d):ak Φ (.item a i) ρ=some (.d d):=by
 rw[Ey,h1,h2,bB,bB,J7,if_pos ⟨aK j,by exact iy hj (c8 rfl)⟩,aR,h3];rfl
end
theorem AN(a n:Nat):max (0:Int) (min (a:Int) (n:Int))=((min a n:Nat):Int):=by
 rw[Int.max_eq_right (Int.le_min.mpr ⟨aK _,aK _⟩)]
 rcases Nat.le_total a n with h | h
 ·rw[Nat.min_eq_left h,Int.min_eq_left (cC.mpr h)]
 ·rw[Nat.min_eq_right h,Int.min_eq_right (cC.mpr h)]
theorem i0(a b:Nat):sliceRange (a:Int) (b:Int) 1=(List.range (b-a)).map (λk=>a+k):=by
 unfold sliceRange
 simp only[show((1:Int)>0)=True from by simp,if_true]
 have e:(if(a:Int)<b then((b:Int)-a+1-1) / 1 else 0).toNat=b-a:=by
  rw[Int.ediv_one,Int.add_sub_cancel]
  split
  ·exact Int.toNat_sub b a
  ·rename_i h;rw[Nat.sub_eq_zero_of_le (cC.mp (Int.not_lt.mp h))];rfl
 rw[e]
 apply List.map_congr_left
 intro k _
 show((a:Int)+1*(k:Int)).toNat=a+k
 rw[Int.one_mul,←dD,aR]
theorem yB{xs:List α}{a:Nat}(h:a≤xs.length):fy xs (some (a:Int)) none none=xs.drop a:=by
 have e:sliceBounds (some (a:Int)) none none xs.length=((a:Int),(xs.length:Int),1):=by
  unfold sliceBounds
  have h1:¬((a:Int)<0):=by exact Int.not_lt.mpr (aK _)
  have e1:max (0:Int) (min (a:Int) (xs.length:Int))=a:=by lia
  simp only[Option.getD_none,h1,if_false,show((1:Int)>0)=True from by simp,if_true,e1]
 unfold fy
 rw[e,i0,picks _ _ _ (bz h (aF (List.length xs-a))),List.take_of_length_le (by simp)]
theorem EC{xs:List α}{b:Nat}:fy xs none (some (b:Int)) none=xs.take b:=by
 have e:sliceBounds none (some (b:Int)) none xs.length=(((0:Nat):Int),((min b xs.length:Nat):Int),1):=by
  unfold sliceBounds
  have h1:¬((b:Int)<0):=by exact Int.not_lt.mpr (aK _)
  simp only[Option.getD_none,h1,if_false,show((1:Int)>0)=True from by simp,if_true,AN,Int.natCast_zero]
 unfold fy
 rw[e,i0,picks _ _ _ (bd (ab (cO (min b (List.length xs)) 0) (Nat.min_le_right b (List.length xs)))   (bo (List.length xs-(min b (List.length xs)-0)))),List.drop_zero,Nat.sub_zero,←List.take_eq_take_min]
theorem CZ{xs:List α}{a b:Nat}:fy xs (some (a:Int)) (some (b:Int)) none=(xs.take b).drop a:=by
 have e:sliceBounds (some (a:Int)) (some (b:Int)) none xs.length=(((min a xs.length:Nat):Int),((min b xs.length:Nat):Int),1):=by
  unfold sliceBounds
  simp only[Option.getD_none,Int.not_lt.mpr (aK a),Int.not_lt.mpr (aK b),if_false,show((1:Int)>0)=True from by simp,if_true,AN]
 unfold fy
 rw[e,i0]
 rcases Nat.le_total a (min b xs.length) with h | h
 ·rw[Nat.min_eq_left (ab h (Nat.min_le_right _ _)),picks _ _ _ (by rw[cw h];exact Nat.min_le_right _ _),List.drop_take,List.take_eq_take_iff,aY]
  rw[←Nat.sub_min_sub_right,Nat.min_assoc,Nat.min_self]
 ·rw[Nat.sub_eq_zero_of_le (Nat.le_min.mpr ⟨h,Nat.min_le_right _ _⟩),List.drop_of_length_le (by rw[bx];exact h)];rfl
theorem mX{a:Nat}(h:xs.length≤1048576)(ha:a≤xs.length):kc (.d (.list xs)) (some (a:Int)) none none=some (.d (.list (xs.drop a))):=by
 show io xs _ _ _=_
 rw[io,cM h,yB ha];rfl
theorem rq{b:Nat}(h:xs.length≤1048576):kc (.d (.list xs)) none (some (b:Int)) none=some (.d (.list (xs.take b))):=by
 show io xs _ _ _=_
 rw[io,cM h,EC];rfl
theorem wm{a b:Nat}(h:xs.length≤1048576):kc (.d (.list xs)) (some (a:Int)) (some (b:Int)) none=some (.d (.list ((xs.take b).drop a))):=by
 show io xs _ _ _=_
 rw[io,cM h,CZ];rfl
theorem sH{b:List CS}{v:V}(h:ak Φ e ρ=some v)(hv:fB v=some xs):gS Φ fu (.for1 i e b) ρ=loopF (d7 i) (λρ=>cexs Φ fu b ρ) xs ρ:=by
 exact bc h (bc hv rfl)
theorem Cy(h1:d.canLay0=true)(h2:d.depth≤60):fY d=true:=by
 unfold fY SeqAt.shaped
 rw[h1,aO (by exact ab h2 (ao _ _))];rfl
theorem vf:(∀x∈xs,x.canLay0=true)→PyData.canLayAll0 xs=true:=by
 induction xs with
 |nil =>
  intro _
  rw[PyData.canLayAll0]
 |cons x r ih =>
  intro h
  rw[PyData.canLayAll0,h x al,ih λy hy=>h y (aj _ hy)];rfl
theorem kb:(∀x∈xs,x.depth≤n)→PyData.depthAll xs≤n:=by
 induction xs with
 |nil =>
  intro _
  rw[PyData.depthAll];exact bo _
 |cons x r ih =>
  intro h
  rw[PyData.depthAll]
  have:=h x al
  have:=ih λy hy=>h y (aj _ hy)
  lia
theorem pW(h:∀x∈xs,x.canLay0=true∧x.depth≤n)(hn:n≤50):fY (.list xs)=true:=by
 refine Cy ?_ ?_
 ·rw[PyData.canLay0];exact vf λx hx=>(h x hx).1
 ·rw[PyData.depth];have:=kb λx hx=>(h x hx).2;exact dc (ab this (ab hn (c8 rfl)))
theorem zJ(xs:List Int):fY (.list (xs.map .int))=true:=pW (n:=0) (λx hx=>by
 obtain⟨i,_,rfl⟩:=List.mem_map.mp hx
 exact⟨by rw[PyData.canLay0],by rw[PyData.depth];decide⟩) (by decide)
theorem nT(xs:List PyData):PyData.eqv (.list xs) (.list [])=xs.isEmpty:=by
 induction xs with
 |nil =>
  rw[PyData.eqv,PyData.eqvAll];rfl
 |cons _ _ _ =>
  rw[PyData.eqv,PyData.eqvAll];rfl
noncomputable def cZ(xs:List PyData):Slot:=.sh (.d (.list xs))
noncomputable def sq(o:Int)(us:List (List Nat)):Bool:=jn o (dp none us)
theorem tB{o:Int}{r:List (List Nat)}:sq o ([40]::r)=sq (o+1) r:=by
 unfold sq;rw[gj,if_neg (by decide),ko,if_pos rfl]
theorem qA{o:Int}{r:List (List Nat)}:sq o ([41]::r)=if o-1<0 then false else sq (o-1) r:=by
 unfold sq;rw[gj,if_neg (by decide),ko,if_neg (by decide),if_pos rfl]
theorem AS{o:Int}{r:List (List Nat)}(h1:u≠[34])(h2:u≠[40])(h3:u≠[41]):sq o (u::r)=sq o r:=by
 unfold sq;rw[gj,if_neg h1,ko,if_neg h2,if_neg h3]
theorem qQ{o:Int}{r:List (List Nat)}(h:u≠[34]):sq o ([34]::u::[34]::r)=sq o r:=by
 unfold sq;rw[gj,if_pos rfl,gN,if_neg h,gN,if_pos rfl]
structure HI(us:List (List Nat)):Prop where
 neu:∀o r,sq o (us++r)=sq o r
 full:∀u∈us,jc u
 ok:te us
 len:us.flatten.length≤1000
theorem CV(h:∀u∈us,jc u):ti us:=by
 have:=nL h (r:=[]) trivial
 rwa [bE] at this
theorem sm:HI []:=⟨λ_ _=>rfl,λ_ h=>(nomatch h),λ_ h=>(nomatch h),by simp⟩
theorem eS{c:Nat}(h:c≠92):jc [c]:=.inl ⟨c,h,rfl⟩
theorem tK{c:Nat}:jc [92,c]:=.inr ⟨c,rfl⟩
theorem Iv{c:Nat}(h:c≠34)(h2:c≠92)(h3:c<0x110000):HI [[34],[c],[34]]:=by
 refine⟨λo r=>qQ (by simpa using h),λu hu=>?_,λu hu=>?_,by simp⟩
 ·simp only[ah,List.not_mem_nil,or_false] at hu
  rcases hu with rfl | rfl | rfl
  ·exact eS (by decide)
  ·exact eS h2
  ·exact eS (by decide)
 ·simp only[ah,List.not_mem_nil,or_false] at hu
  rcases hu with rfl | rfl | rfl<;>simp[h3]
theorem CY{c:Nat}(h3:c<0x110000):HI [[92,c]]:=by
 refine⟨λo r=>AS (by simp) (by simp) (by simp),λu hu=>?_,λu hu=>?_,by simp⟩
 ·rw[aq] at hu;subst hu;exact tK
 ·rw[aq] at hu;subst hu;simp[h3]
noncomputable def E0:Int→List Nat→Bool
 |o,[]=>o==0
 |o,c::r=>if c=40 then E0 (o+1) r else if o-1<0 then false else E0 (o-1) r
theorem Fo{o:Int}{c:Nat}{r:List Nat}:E0 o (c::r)=if c=40 then E0 (o+1) r else if o-1<0 then false else E0 (o-1) r:=rfl
noncomputable def gk(p:List (List Nat)×Nat):List (List Nat):=p.1++[[p.2]]
noncomputable def B8(ps:List (List (List Nat)×Nat)):Prop:=∀p∈ps,HI p.1∧(p.2=40∨p.2=41)
theorem v6(ps:List (List (List Nat)×Nat)):∀(o:Int),B8 ps→sq o (ps.map gk).flatten=E0 o (ps.map (·.2)):=by
 induction ps with
 |nil =>
  intro o _
  exact rfl
 |cons p r ih =>
  intro o h
  obtain⟨h1,h2⟩:=h p al
  have ih:=λo=>ih o λx hx=>h x (aj _ hx)
  rw[bj,List.flatten_cons,bj]
  unfold gk
  rw[bu,h1.neu,Fo]
  rcases h2 with e | e
  ·rw[e,if_pos rfl];exact tB.trans (ih _)
  ·rw[e,if_neg (by decide)]
   refine qA.trans ?_
   split
   ·rfl
   ·exact ih _
theorem mU(h:B8 ps):∀u∈(ps.map gk).flatten,jc u:=λu hu=>by
 refine aa λhQ=>?_
 obtain⟨l,hl,hu⟩:=List.mem_flatten.mp hu
 obtain⟨p,hp,rfl⟩:=List.mem_map.mp hl
 obtain⟨h1,h2⟩:=h p hp
 (refine hQ ?_;clear hQ)
 rcases aP.mp hu with hu | hu
 ·exact h1.full u hu
 ·rw[aq] at hu;subst hu
  rcases h2 with e | e<;>rw[e]<;>exact eS (by decide)
theorem q8(h:B8 ps):te (ps.map gk).flatten:=λu hu=>by
 refine aa λhQ=>?_
 obtain⟨l,hl,hu⟩:=List.mem_flatten.mp hu
 obtain⟨p,hp,rfl⟩:=List.mem_map.mp hl
 obtain⟨h1,h2⟩:=h p hp
 (refine hQ ?_;clear hQ)
 rcases aP.mp hu with hu | hu
 ·exact h1.ok u hu
 ·rw[aq] at hu;subst hu
  rcases h2 with e | e<;>rw[e]<;>decide
theorem jz:B8 ps→(ps.map gk).flatten.flatten.length≤1001*ps.length:=by
 induction ps with
 |nil =>
  intro _
  simp
 |cons p r ih =>
  intro h
  have h1:=(h p al).1.len
  have h2:=ih λx hx=>h x (aj _ hx)
  rw[bj,List.flatten_cons,List.flatten_append,aG]
  have:(gk p).flatten.length=p.1.flatten.length+1:=by unfold gk;simp
  rw[this,aU];lia
theorem sD{es:List lj}(H:Std es)(h:B8 ps)(hl:ps.length≤1000) :
  gt es fu (k+2) 2 [.d (.str (S (ps.map gk).flatten.flatten))]=some (.d (.bool (E0 0 (ps.map (·.2))))):=by
 have:=jz h
 rw[qG H (CV (mU h)) (q8 h) (ab this (ab (Nat.mul_le_mul_left 1001 hl) (c8 rfl)))]
 exact congrArg (λb=>some (V.d (.bool b))) (v6 ps 0 h)
noncomputable def bt(n:Nat):PyData:=.int (n:Int)
noncomputable def tM(x:Nat):List Nat→Option Nat
 |[]=>none
 |y::r=>if y=x then some 0 else(tM x r).map (·+1)
theorem jG(a b:Nat):PyData.eqv (bt a) (bt b)=decide (a=b):=by
 unfold bt;rw[lq,Bool.eq_iff_iff,beq_iff_eq,ar];lia
theorem qR(x:Nat):∀w:List Nat,k6 (bt x) (w.map bt)=tM x w
 |[]=>rfl
 |y::r=>by
  show(if PyData.eqv (bt y) (bt x)=true then some 0 else(k6 (bt x) (r.map bt)).map (·+1))=if y=x then some 0 else(tM x r).map (·+1)
  rw[jG,qR x r]
  by_cases h:y=x<;>simp[h]
theorem gc(n:Nat):fY (bt n)=true:=rfl
theorem jX(w:List Nat):(w.map bt).all fY=true:=by
 rw[List.all_map];exact ap.mpr λ_ _=>rfl
theorem xI{w:List Nat}{x:Nat}(hl:w.length≤1000)(h:tM x w=some i):iw .index (.d (.list (w.map bt))) [.d (bt x)]=some (.d (bt i)):=by
 show(if(fY (bt x)&&(w.map bt).all fY&&c0 (w.map bt).length)=true then(k6 (bt x) (w.map bt)).bind (λ(k:Nat)=>some (V.d (.int k))) else none)=_
 rw[gc,jX,af,cM (by exact ab hl (ao _ _)),qR,h];rfl
theorem pD(x:Nat):∀w:List Nat,(w.map bt).countP (λz=>PyData.eqv z (bt x))=w.count x
 |[]=>rfl
 |y::r=>by
  rw[bj,List.countP_cons,pD x r,jG,List.count_cons]
  by_cases h:y=x<;>simp[h]
theorem qP{w:List Nat}{x:Nat}(hl:w.length≤1000):iw .count (.d (.list (w.map bt))) [.d (bt x)]=some (.d (bt (w.count x))):=by
 show(if(fY (bt x)&&(w.map bt).all fY&&c0 (w.map bt).length)=true then some (V.d (.int ((w.map bt).countP λz=>PyData.eqv z (bt x):Nat))) else none)=_
 rw[gc,jX,af,cM (by exact ab hl (ao _ _)),pD];rfl
theorem mK{elt:PyData→Option PyData}{g h:α→PyData}(xs:List α):(∀x∈xs,test (g x)=some true∧elt (g x)=some (h x))→fx test elt (xs.map g)=some (xs.map h):=by
 induction xs with
 |nil =>
  intro _
  exact rfl
 |cons x r ih =>
  intro hx
  obtain⟨h1,h2⟩:=hx x al
  rw[bj,Dy,h1,bB,if_pos rfl,h2,bB,ih λy hy=>hx y (aj _ hy)]
  rfl
theorem ev_comp{elt it:CE}{v:V}{g h:α→PyData}{xs:List α}(h1:ak Φ it ρ=some v)(h2:fB v=some (xs.map g))(h3:∀x∈xs,ak Φ elt (ρ++[.sh (.d (g x))])=some (.d (h x))):ak Φ (.comp 0 elt it []) ρ=some (.d (.list (xs.map h))):=by
 rw[Ej,h1,bB,h2,bB]
 have:=mK (test:=λx=>(fj 0 x).bind λt=>ctests Φ [] (ρ++t)) (elt:=λx=>(fj 0 x).bind λt=>(ak Φ elt (ρ++t)).bind kq) (g:=g) (h:=h) xs (λx hx=>by
  refine⟨?_,?_⟩
  ·show(some [Slot.sh (.d (g x))]).bind _=_
   rfl
  ·show(some [Slot.sh (.d (g x))]).bind _=_
   rw[bB,h3 x hx];rfl)
 rw[this];rfl
theorem eV(h:n≤1000):fB (.r 0 (n:Int) 1)=some ((List.range n).map bt):=by
 have:=uL (s:=0) (n:=n) (b:=n) (by lia) (bd (ab h (c8 rfl)) (bo (100000-n)))
 rw[List.range_eq_range'];exact this
theorem fX{n:Int}:ak Φ (.prim .range1 [.lit (.int n)]) ρ=some (.r 0 n 1):=rfl
theorem kz{a j:CE}(h:ak Φ a ρ=some (.d (.list xs)))(h2:ak Φ j ρ=some (.d (bt n)))(hl:xs.length≤1048576):ak Φ (.slice a none (some j) none) ρ=some (.d (.list (xs.take n))):=by
 rw[iC,h,f5 h2,hV];exact rq hl
theorem ks{a i:CE}{m:Nat}(h:ak Φ a ρ=some (.d (.list xs)))(h1:ak Φ i ρ=some (.d (bt m)))(hl:xs.length≤1048576)(hm:m≤xs.length):ak Φ (.slice a (some i) none none) ρ=some (.d (.list (xs.drop m))):=by
 rw[iC,h,f5 h1,hV];exact mX hl hm
theorem ev_addn{a b:CE}{x y:Nat}(h1:ak Φ a ρ=some (.d (bt x)))(h2:ak Φ b ρ=some (.d (bt y))):ak Φ (.bin .Add a b) ρ=some (.d (bt (x+y))):=by
 unfold bt at *;rw[dh h1 h2,kd,dD]
theorem cT{a i:CE}(h1:ak Φ a ρ=some (.d (.list xs)))(h2:ak Φ i ρ=some (.d (bt j)))(hj:j≤1048576)(h3:xs[j]?=some d):ak Φ (.item a i) ρ=some (.d d) :=
 sZ h1 h2 (by rw[iE hj];exact h3)
theorem oa{f:Nat→α}(h:k<n):((List.range n).map f)[k]?=some (f k):=by
 rw[az,bT h];rfl
theorem CT(f:α→β)(xs:List α)(lo hi st:Option Int):fy (xs.map f) lo hi st=(fy xs lo hi st).map f:=by
 unfold fy
 rw[af,List.map_filterMap]
 congr 1
 funext i
 rw[az]
theorem A7{xs:List α}{lo hi st:Option Int}{x:α}(h:x∈fy xs lo hi st):x∈xs:=by
 unfold fy at h
 obtain⟨i,_,h⟩:=List.mem_filterMap.mp h
 exact aW h
theorem AT{xs:List α}{a s:Nat}(hs:1≤s):(fy xs (some (a:Int)) none (some (s:Int))).length≤xs.length:=by
 unfold fy
 refine ab (List.length_filterMap_le _ _) ?_
 unfold sliceBounds sliceRange
 have h1:¬((a:Int)<0):=by exact Int.not_lt.mpr (aK _)
 have h2:((s:Int)>0)=True:=by simp;assumption
 simp only[Option.getD_some,h1,if_false,h2,if_true,af,cy]
 split
 ·rename_i hlt
  have h3:((xs.length:Int)-max 0 (min (a:Int) xs.length)+s-1) / s≤xs.length:=by
   apply Int.ediv_le_of_le_mul (by exact cR.mpr hs)
   have h4:(xs.length:Int)*1≤xs.length*s:=Int.mul_le_mul_of_nonneg_left (by exact cC.mpr hs) (by exact aK _)
   have h5:(xs.length:Int)-1+s≤xs.length*s:=by
    have:((xs.length:Int)-1)*((s:Int)-1)≥0:=Int.mul_nonneg (by(clear h4 h2 h1 hs;omega)) (by lia)
    rw[Int.sub_mul,Int.mul_sub,Int.one_mul,Int.mul_one] at this
    (clear h4 hlt h2 h1 hs;omega)
   (clear h4 hlt h2 h1 hs;omega)
  (clear hlt h2 h1 hs;omega)
 ·simp
theorem Af{ns:List Int}(h1:ns.length≤1000)(h2:∀n∈ns,0≤n∧n<1000000):gQ .sum [.d (.list (ns.map .int))]=some (.d (.int ns.sum)):=by
 have hk:u0 ns=true:=by
  unfold u0
  rw[cM (by exact ab h1 (ao _ _)),Bool.true_and,ap]
  intro i hi
  have:=h2 i hi
  rw[ar];lia
 show(gA _).bind _=_
 rw[iS,bB,if_pos hk]
theorem yt{ns:List Int}(h2:∀n∈ns,0≤n∧n<1000000):0≤ns.sum∧ns.sum≤1000000*ns.length:=by
 induction ns with
 |nil=>simp
 |cons a r ih =>
  have:=h2 a al
  have:=ih λn hn=>h2 n (aj _ hn)
  rw[List.sum_cons,aU];(clear h2 ih;lia)
theorem ev_modn{a b:CE}{x y:Nat}(h1:ak Φ a ρ=some (.d (bt x)))(h2:ak Φ b ρ=some (.d (bt y)))(h3:0<y)(h4:y≤10^20):ak Φ (.bin .Mod a b) ρ=some (.d (bt (x % y))):=by
 unfold bt at *
 rw[dh h1 h2,pF (xZ h3) (fw (by rw[Int.natAbs_natCast];exact h4)),Int.fmod_eq_emod_of_nonneg _ (by exact aK _),Int.natCast_emod]
theorem iD{a b:CE}{x y:Nat}(h1:ak Φ a ρ=some (.d (bt x)))(h2:ak Φ b ρ=some (.d (bt y)))(h3:0<y)(h4:y≤10^20):ak Φ (.bin .FloorDiv a b) ρ=some (.d (bt (x / y))):=by
 unfold bt at *
 rw[dh h1 h2,Dc (xZ h3) (fw (by rw[Int.natAbs_natCast];exact h4)),Int.fdiv_eq_ediv_of_nonneg _ (by exact aK _),Int.natCast_ediv]
theorem xl{a b:CE}{x y:Nat}(h1:ak Φ a ρ=some (.d (bt x)))(h2:ak Φ b ρ=some (.d (bt y)))(h3:x≤10^20)(h4:y≤10^20):ak Φ (.bin .Mult a b) ρ=some (.d (bt (x*y))):=by
 unfold bt at *
 rw[dh h1 h2,AM (fw (by rw[Int.natAbs_natCast];exact h3)) (fw (by rw[Int.natAbs_natCast];exact h4)),Int.natCast_mul]
theorem bX:ak Φ (.lit (.int (n:Int))) ρ=some (.d (bt n)):=rfl
theorem I9:ak Φ (.bin .Pow (.lit (.int 10)) (.lit (.int 6))) ρ=some (.d (bt 1000000)):=by
 rw[dh (x:=.d (.int 10)) (y:=.d (.int 6)) (rfl) (rfl)]
 exact Ca (a:=10) (n:=6) (fw (by decide)) (by decide)
noncomputable def jq(xs:List Int):List Int:=(xs.take 60).map λx=>x.fmod 1000000
theorem DC(xs:List Int):∀n∈jq xs,0≤n∧n<1000000:=λn hn=>by
 obtain⟨x,_,rfl⟩:=List.mem_map.mp hn
 exact⟨Int.fmod_nonneg_of_pos _ (by decide),Int.fmod_lt_of_pos _ (by decide)⟩
theorem uK(xs:List Int):(jq xs).length≤60:=by unfold jq;simp;exact Nat.min_le_left _ _
theorem Fb{xs:List Int}(h0:ρ[0]?=some (.sh (.d (.list (xs.map .int)))))(hi:ρ.length=i)(hl:xs.length≤1000) :
  ak Φ (.comp 0 (.bin .Mod (.var i) (.bin .Pow (.lit (.int (10))) (.lit (.int (6))))) (.slice (.var 0) none (some (.lit (.int (60)))) none) []) ρ=some (.d (.list ((jq xs).map .int))):=by
 unfold jq
 rw[List.map_map]
 refine ev_comp (g:=PyData.int) (h:=λx=>PyData.int (x.fmod 1000000)) (xs:=xs.take 60) (kz (n:=60) (bi h0) bX (by simp;exact ab hl (ao _ _))) ?_ λx _=>?_
 ·rw[List.map_take];exact eB (by simp;exact ab (Nat.min_le_left 60 (List.length xs)) (c8 rfl))
 ·have hx:(ρ++[Slot.sh (.d (.int x))])[i]?=some (.sh (.d (.int x))):=by rw[aM (by exact aw hi),hi];simp
  rw[dh (bi hx) I9]
  exact pF (b:=1000000) (by decide) (fw (by decide))
noncomputable def cellN(base:List Nat)(st:Nat)(xs:List Int)(k:Nat):Nat:=(((base.getD k 0:Nat):Int)+(fy (jq xs) (some (k:Int)) none (some (st:Int))).sum).toNat % 1000000
theorem BU(base:List Nat)(st:Nat)(xs:List Int)(k:Nat):cellN base st xs k<1000000:=Nat.mod_lt _ (by decide)
theorem AU{st:Nat}{xs:List Int}{base:List Nat}(h1:ρ[1]?=some (.sh (.d (.list (base.map bt)))))(h2:ρ[2]?=some (.sh (.d (.list ((jq xs).map .int)))))(hi:ρ.length=i)(hi3:3≤i)(hs:1≤st)(hb:base.length=n)(hn:n≤100) :
  ak Φ (.comp 0 (.bin .Mod (.bin .Add (.item (.var 1) (.var i)) (.prim .sum [(.slice (.var 2) (some (.var i)) none (some (.lit (.int (st:Int)))))])) (.bin .Pow (.lit (.int (10))) (.lit (.int (6))))) (.prim .range1 [(.lit (.int (n:Int)))]) []) ρ=some (.d (.list ((List.range n).map λk=>bt (cellN base st xs k)))):=by
 refine ev_comp (g:=bt) (h:=λk=>bt (cellN base st xs k)) (xs:=List.range n) fX (eV (by exact ab hn (ao _ _))) λk hk=>?_
 have hkn:=bS.mp hk
 have hx:(ρ++[Slot.sh (.d (bt k))])[i]?=some (.sh (.d (bt k))):=by rw[aM (by exact aw hi),hi];simp
 have g1:(ρ++[Slot.sh (.d (bt k))])[1]?=some (.sh (.d (.list (base.map bt)))):=by rw[a_ (Nat.lt_of_succ_lt (ae (bO (Nat.succ 1)) (ab hi3 (aw (Eq.symm hi)))))];exact h1
 have g2:(ρ++[Slot.sh (.d (bt k))])[2]?=some (.sh (.d (.list ((jq xs).map .int)))):=by rw[a_ (by exact Nat.lt_of_lt_of_eq hi3 hi.symm)];exact h2
 have hp:∀n∈fy (jq xs) (some (k:Int)) none (some (st:Int)),0≤n∧n<1000000:=λn hn=>DC xs n (A7 hn)
 have hpl:(fy (jq xs) (some (k:Int)) none (some (st:Int))).length≤60:=ab (AT hs) (uK xs)
 have hsum:=yt hp
 have e1:ak Φ (.item (.var 1) (.var i)) (ρ++[Slot.sh (.d (bt k))])=some (.d (bt (base.getD k 0))):=by
  refine cT (bi g1) (bi hx) (ab (aE hkn) (ab hn (c8 rfl))) ?_
  rw[az,aZ,aQ (by exact Nat.lt_of_lt_of_eq hkn hb.symm)];rfl
 have e2:ak Φ (.slice (.var 2) (some (.var i)) none (some (.lit (.int (st:Int))))) (ρ++[Slot.sh (.d (bt k))])=some (.d (.list ((fy (jq xs) (some (k:Int)) none (some (st:Int))).map .int))):=by
  rw[iC,bi g2,f5 (bi hx),hV,f5 (m:=(st:Int)) (rfl),←CT]
  simp only[bB]
  show io _ _ _ _=_
  rw[io,cM (by have:=uK xs;simp;exact ab this (ao _ _))]
  have hne:(some (st:Int) != some 0)=true:=by simp;exact bV hs
  rw[hne];rfl
 have e3:ak Φ (.prim .sum [(.slice (.var 2) (some (.var i)) none (some (.lit (.int (st:Int)))))]) (ρ++[Slot.sh (.d (bt k))])=some (.d (.int (fy (jq xs) (some (k:Int)) none (some (st:Int))).sum)):=by
  exact(fK e2).trans (Af (by exact ab hpl (ao _ _)) hp)
 unfold bt at e1
 have e4:=(dh (op:=.Add) e1 e3).trans (kd _ _)
 have e5:(((base.getD k 0:Nat):Int)+(fy (jq xs) (some (k:Int)) none (some (st:Int))).sum)=((((base.getD k 0:Nat):Int)+(fy (jq xs) (some (k:Int)) none (some (st:Int))).sum).toNat:Nat):=by lia
 rw[e5] at e4
 exact ev_modn e4 I9 (by decide) (by decide)
theorem EN(x:Nat)(w:List Nat):(w.map bt).any (λz=>PyData.eqv z (bt x))=w.contains x:=by
 induction w with
 |nil =>
  exact rfl
 |cons y r ih =>
  rw[bj,List.any_cons,ih,jG,List.contains_cons]
  congr 1
  rw[Bool.eq_iff_iff,ar,beq_iff_eq];exact eq_comm
end
section
open PySem.StrLaws
theorem CW{a b:CE}{x y:Nat}(h1:ak Φ a ρ=some (.d (bt x)))(h2:ak Φ b ρ=some (.d (bt y))):ak Φ (.cmp .Lt a b) ρ=some (.d (.bool (decide (x<y)))) :=
 (du h1 h2 (k:=decide ((x:Int)<y)) rfl).trans (by rw[decide_eq_decide.mpr cR])
theorem uj{a b:CE}{x y:Nat}(h1:ak Φ a ρ=some (.d (bt x)))(h2:ak Φ b ρ=some (.d (bt y))):ak Φ (.cmp .Gt a b) ρ=some (.d (.bool (decide (y<x)))) :=
 (du h1 h2 (k:=decide ((x:Int)>y)) rfl).trans (by rw[decide_eq_decide.mpr (show(x:Int)>y↔y<x from cR)])
theorem rX{elt:PyData→Option PyData}{g h:α→PyData}{f:α→Bool}(xs:List α):(∀x∈xs,test (g x)=some (f x)∧(f x=true→elt (g x)=some (h x)))→fx test elt (xs.map g)=some ((xs.filter f).map h):=by
 induction xs with
 |nil =>
  intro _
  exact rfl
 |cons x r ih =>
  intro hx
  obtain⟨h1,h2⟩:=hx x al
  have ih:=ih λy hy=>hx y (aj _ hy)
  refine bc h1 ?_
  cases q:f x with
  |true=>rw[if_pos rfl,List.filter_cons_of_pos q];exact bc (h2 q) (by rw[ih];rfl)
  |false=>rw[if_neg (by decide),List.filter_cons_of_neg (by rw[q];decide)];exact ih
theorem oH{elt it t:CE}{v:V}{g h:α→PyData}{f:α→Bool}{xs:List α}(h1:ak Φ it ρ=some v)(h2:fB v=some (xs.map g))(h3:∀x∈xs,ak Φ t (ρ++[.sh (.d (g x))])=some (.d (.bool (f x))))
  (h4:∀x∈xs,f x=true→ak Φ elt (ρ++[.sh (.d (g x))])=some (.d (h x))):ak Φ (.comp 0 elt it [t]) ρ=some (.d (.list ((xs.filter f).map h))):=by
 refine bc h1 (bc h2 ?_)
 rw[rX (g:=g) (h:=h) (f:=f) xs λx hx=>⟨?_,λq=>?_⟩]
 ·rfl
 ·refine bc (show fj 0 (g x)=some [.sh (.d (g x))] from rfl) (bc (h3 x hx) (bc rfl ?_))
  cases f x<;>rfl
 ·exact bc (show fj 0 (g x)=some [.sh (.d (g x))] from rfl) (bc (h4 x hx q) rfl)
theorem uF{a:CE}{R:List (List Nat)}(h:ak Φ a ρ=some (.d (.list (R.map λp=>.str (S p)))))(h1:R.length≤1048576)(h2:R.flatten.length≤1048576):ak Φ (.meth .join (.lit (.str (S []))) [a]) ρ=some (.d (.str (S R.flatten))) :=
 (eQ cu h).trans (qI h1 h2)
theorem ju{xs:List α}{a:CE}(h:ak Φ a ρ=some (.d (.list (xs.map λ_=>.bool true))))(hl:xs.length≤1000):ak Φ (.meth .count a [(.lit (.bool false))]) ρ=some (.d (bt 0)):=by
 refine(eQ h cu).trans ?_
 show(if(fY (.bool false)&&(xs.map λ_=>PyData.bool true).all fY&&c0 (xs.map λ_=>PyData.bool true).length)=true then some (V.d (.int ((xs.map λ_=>PyData.bool true).countP λz=>PyData.eqv z (.bool false):Nat))) else none)=_
 have e:PyData.eqv (.bool true) (.bool false)=false:=by rw[PyData.eqv];rfl
 have ha:(xs.map λ_=>PyData.bool true).all fY=true:=ap.mpr λx hx=>by
  obtain⟨_,_,rfl⟩:=List.mem_map.mp hx
  kernel_rfl
 rw[af,cM (by exact ab hl (ao _ _)),ha,show fY (.bool false)=true by kernel_rfl,List.countP_map]
 rw[show(λz=>PyData.eqv z (.bool false))∘(λ_:α=>PyData.bool true)=λ_=>false from funext λ_=>e,List.countP_false]
 rfl
noncomputable def td{α:Type}(l:List α)(p:Nat)(x:List α):List α:=l.take p++x++l.drop p
theorem xe{l x:List α}{p:Nat}:(td l p x).length=l.length+x.length:=by
 have:=congrArg List.length (List.take_append_drop p l)
 unfold td
 rw[aG] at this
 rw[aG,aG];lia
theorem rB(f:α→β){l x:List α}{p:Nat}:(td l p x).map f=td (l.map f) p (x.map f):=by
 unfold td;rw[bM,bM,List.map_take,List.map_drop]
theorem AG{a j m:CE}(h:ak Φ a ρ=some (.d (.list xs)))(h2:ak Φ j ρ=some (.d (bt n)))(h3:ak Φ m ρ=some (.d (.list ys)))(hl:xs.length+ys.length≤1000)(hn:n≤xs.length) :
  ak Φ (.bin .Add (.bin .Add (.slice a none (some j) none) m) (.slice a (some j) none none)) ρ=some (.d (.list (td xs n ys))) :=
 ib (ib (kz h h2 (ab (ay (List.length xs) (List.length ys))   (ab hl (c8 rfl)))) h3 (by rw[bx];lia)) (ks h h2 (ab (ay (List.length xs) (List.length ys))   (ab hl (c8 rfl))) hn) (by rw[aG,bx,aY];lia)
namespace M01
noncomputable def yf:List CS:=[(.asg 1 (.list [(.lit (.str (S []))),(.lit (.str (S [34,40,34]))),(.lit (.str (S [92,41]))),(.lit (.str (S [92,34]))),(.lit (.str (S [34,92,34,34]))),(.lit (.str (S [92,92])))])),(.asgS [3,2] (.tup [(.list []),(.list [])])),(.for1 4 (.prim .range1 [(.lit (.int (5)))]) [(.asg 5 (.bin .Mod (.item (.var 0) (.var 4)) (.bin .Add (.bin .Mult (.lit (.int (2))) (.var 4)) (.lit (.int (1)))))),(.asg 6 (.bin .Mod (.bin .FloorDiv (.item (.var 0) (.var 4)) (.bin .Add (.bin .Mult (.lit (.int (2))) (.var 4)) (.lit (.int (1))))) (.lit (.int (18))))),(.asg 7 (.ite (.cmp .Lt (.var 6) (.lit (.int (6)))) (.item (.var 1) (.var 6)) (.lit (.str (S []))))),(.asg 8 (.ite (.cmp2 .Lt .Lt (.lit (.int (5))) (.var 6) (.lit (.int (12)))) (.item (.var 1) (.bin .Sub (.var 6) (.lit (.int (6))))) (.lit (.str (S []))))),(.asg 2 (.bin .Add (.bin .Add (.slice (.var 2) none (some (.var 5)) none) (.list [(.var 4),(.var 4)])) (.slice (.var 2) (some (.var 5)) none none))),(.asg 3 (.bin .Add (.bin .Add (.slice (.var 3) none (some (.var 5)) none) (.list [(.bin .Add (.var 7) (.lit (.str (S [40])))),(.bin .Add (.var 8) (.lit (.str (S [41]))))])) (.slice (.var 3) (some (.var 5)) none none)))]),(.ret (.tup [(.var 2),(.var 3)]))]
noncomputable def gD:List CS:=[(.asgO 2 3 (.lit (.int (0)))),(.for1 4 (.prim .range1 [(.lit (.int (10)))]) [(.ite (.cmp .In (.item (.var 0) (.var 4)) (.slice (.var 0) none (some (.var 4)) none)) [(.asg 3 (.bin .Add (.var 3) (.lit (.int (1)))))] [(.asg 5 (.ite (.cmp .Gt (.var 4) (.lit (.int (0)))) (.lit (.int (2))) (.lit (.int (1))))),(.asg 6 (.prim .range3 [(.var 5),(.bin .Sub (.lit (.int (11))) (.var 4)),(.var 5)])),(.asg 7 (.comp 0 (.call 2 [(.meth .join (.lit (.str (S []))) [(.slice (.var 1) (some (.var 4)) (some (.bin .Add (.var 4) (.var 10))) none)])]) (.var 6) [])),(.asg 8 (.comp 0 (.cmp .Eq (.meth .count (.comp 0 (.meth .count (.slice (.var 0) (some (.var 4)) (some (.bin .Add (.var 4) (.var 10))) none) [(.var 11)]) (.prim .range1 [(.lit (.int (5)))]) []) [(.lit (.int (1)))]) (.lit (.int (0)))) (.var 6) [])),(.ite (.cmp .Gt (.meth .count (.comp 0 (.cmp .Is (.item (.var 7) (.var 10)) (.item (.var 8) (.var 10))) (.prim .range1 [(.prim .len [(.var 8)])]) []) [(.lit (.bool false))]) (.lit (.int (0)))) [(.ret (.list []))] []),(.asg 9 (.comp 0 (.var 10) (.var 6) [(.item (.var 7) (.bin .Sub (.bin .FloorDiv (.var 10) (.var 5)) (.lit (.int (1)))))])),(.app 2 (.list [(.var 3),(.bin .Add (.var 3) (.bin .FloorDiv (.item (.var 9) (.lit (.int (0)))) (.lit (.int (2))))),(.bin .Add (.bin .Add (.var 3) (.bin .FloorDiv (.item (.var 9) (.un .USub (.lit (.int (1))))) (.lit (.int (2))))) (.lit (.int (1))))]))])]),(.frz 2),(.ret (.var 2))]
noncomputable def qL:List CS:=[(.asg 5 (.bin .Add (.slice (.var 2) (some (.var 0)) none none) (.slice (.var 2) none (some (.var 0)) none))),(.own 6 (.bin .Mult (.list [(.lit (.int (0)))]) (.lit (.int (7))))),(.own 7 (.bin .Mult (.list [(.lit .none)]) (.lit (.int (7))))),(.mat 8 18 7 (.bin .Mult (.list [(.lit (.str (S [])))]) (.lit (.int (7)))) (.prim .range1 [(.lit (.int (7)))])),(.asg 9 (.comp 0 (.prim .sorted [(.comp 0 (.bin .Mod (.bin .Sub (.var 26) (.var 0)) (.lit (.int (7)))) (.var 25) [])]) (.var 1) [])),(.forT [10,11,12,13] (.prim .sorted [(.comp 0 (.bin .Add (.list [(.bin .Sub (.item (.var 25) (.lit (.int (0)))) (.item (.var 25) (.lit (.int (2)))))]) (.var 25)) (.var 9) [])]) [(.ite (.cmp .Eq (.var 11) (.lit (.int (0)))) [(.put 6 (.var 12) (.bin .Mult (.item (.var 5) (.lit (.int (0)))) (.item (.var 5) (.var 12)))),(.put 6 (.var 13) (.bin .Mult (.item (.var 5) (.lit (.int (0)))) (.item (.var 5) (.var 13))))] [(.asg 14 (.bin .Add (.bin .Mult (.item (.var 6) (.var 11)) (.item (.var 5) (.var 13))) (.bin .Mult (.item (.var 6) (.var 13)) (.item (.var 5) (.var 11))))),(.asg 15 (.bin .Mult (.item (.var 5) (.var 11)) (.item (.var 5) (.var 13)))),(.asg 16 (.bin .Mod (.var 4) (.var 15))),(.asg 17 (.call 7 [(.bin .Add (.var 14) (.var 16)),(.var 15)])),(.ite (.boolop .Or (.cmp .NotEq (.var 17) (.tup [(.item (.var 17) (.lit (.int (0)))),(.var 16)])) (.cmp .NotEq (.comp 0 (.prim .isInt [(.var 25)]) (.var 17) []) (.list [(.lit (.bool true)),(.lit (.bool true))]))) [(.ret (.tup [(.list []),(.list [])]))] []),(.put 6 (.var 12) (.bin .Mult (.item (.var 17) (.lit (.int (0)))) (.item (.var 5) (.var 12)))),(.putG 7 (.var 12) 8 (.var 11) (.var 13)),(.mset 8 (.var 11) (.var 12) (.bin .Add (.item (.var 7) (.var 12)) (.item (.var 3) (.lit (.int (0)))))),(.mset 8 (.var 12) (.var 13) (.bin .Add (.item (.var 7) (.var 12)) (.item (.var 3) (.lit (.int (1))))))])]),(.ret (.tup [(.bin .Add (.slice (.var 6) (some (.bin .Sub (.lit (.int (7))) (.var 0))) none none) (.slice (.var 6) none (some (.bin .Sub (.lit (.int (7))) (.var 0))) none)),(.bin .Add (.slice (.var 7) (some (.bin .Sub (.lit (.int (7))) (.var 0))) none none) (.slice (.var 7) none (some (.bin .Sub (.lit (.int (7))) (.var 0))) none))]))]
noncomputable def mw:List CS:=[(.asg 5 (.lit (.int (0)))),(.asg 6 (.list [(.lit (.str (S [])))])),(.wh (.boolop .And (.cmp .NotEq (.var 6) (.list [])) (.cmp .Lt (.var 5) (.lit (.int (99))))) [(.asg 7 (.comp 0 (.call 0 [(.bin .Add (.bin .Add (.var 0) (.meth .join (.lit (.str (S [46,46,46]))) [(.bin .Add (.bin .Add (.list [(.var 1)]) (.prim .listOf [(.var 9)])) (.list [(.var 2)]))])) (.var 0)),(.var 4)]) (.var 6) [])),(.ite (.cmp .Gt (.meth .count (.comp 0 (.boolop .Or (.cmp .Is (.var 9) (.lit (.bool true))) (.cmp .Is (.var 9) (.lit (.bool false)))) (.var 7) []) [(.lit (.bool false))]) (.lit (.int (0)))) [(.ret (.lit (.int (99))))] []),(.asg 8 (.comp 0 (.item (.var 6) (.var 9)) (.prim .range1 [(.prim .len [(.var 6)])]) [(.item (.var 7) (.var 9))])),(.asg 5 (.bin .Add (.var 5) (.prim .len [(.var 8)]))),(.asg 6 (.comp2 (.bin .Add (.var 9) (.var 10)) (.var 8) (.var 3)))]),(.ret (.var 5))]
noncomputable def rL:List CS:=[(.asg 1 (.list [(.lit (.int (4))),(.lit (.int (26))),(.lit (.int (28))),(.lit (.int (54))),(.lit (.int (33))),(.lit (.int (1))),(.lit (.int (8103))),(.lit (.int (7))),(.lit (.int (12609))),(.lit (.int (913))),(.lit (.int (5427))),(.lit (.int (959)))])),(.asg 2 (.comp 0 (.bin .Mod (.var 30) (.bin .Pow (.lit (.int (10))) (.lit (.int (6))))) (.slice (.var 0) none (some (.lit (.int (60)))) none) [])),(.asg 3 (.comp 0 (.bin .Mod (.bin .Add (.item (.var 1) (.var 30)) (.prim .sum [(.slice (.var 2) (some (.var 30)) none (some (.lit (.int (12)))))])) (.bin .Pow (.lit (.int (10))) (.lit (.int (6))))) (.prim .range1 [(.lit (.int (12)))]) [])),(.asg 4 (.prim .sum [(.var 3)])),(.asg 5 (.bin .Mod (.var 4) (.lit (.int (7))))),(.asg 6 (.bin .Mod (.bin .Add (.bin .Add (.var 5) (.lit (.int (1)))) (.bin .Mod (.bin .FloorDiv (.var 4) (.lit (.int (7)))) (.lit (.int (6))))) (.lit (.int (7))))),(.asg 7 (.list [(.prim .chr [(.bin .Add (.lit (.int (97))) (.bin .Mod (.var 4) (.lit (.int (55198)))))]),(.prim .chr [(.bin .Add (.lit (.int (98))) (.bin .Mod (.var 4) (.lit (.int (55198)))))])])),(.asg 8 (.item (.list [(.item (.var 7) (.lit (.int (0)))),(.item (.var 7) (.lit (.int (1)))),(.lit (.str (S [40]))),(.lit (.str (S [10]))),(.lit (.str (S [32]))),(.prim .chr [(.lit (.int (8230)))])]) (.bin .Mod (.bin .FloorDiv (.var 4) (.lit (.int (55198)))) (.lit (.int (6)))))),(.asgT [9,10] (.call 8 [(.var 3)])),(.asg 11 (.meth .join (.lit (.str (S []))) [(.slice (.slice (.var 10) (some (.meth .index (.var 9) [(.lit (.int (4)))])) none none) none (some (.lit (.int (2)))) none)])),(.ite (.cmp .Gt (.meth .count (.comp 0 (.cmp .Is (.call 2 [(.bin .Add (.var 11) (.var 30))]) (.cmp .NotEq (.var 30) (.lit (.str (S [34,41]))))) (.list [(.lit (.str (S [34,41,34]))),(.lit (.str (S [34]))),(.lit (.str (S [34,41]))),(.lit (.str (S [92])))]) []) [(.lit (.bool false))]) (.lit (.int (0)))) [(.ret (.lit (.bool false)))] []),(.asg 12 (.call 9 [(.var 9),(.var 10)])),(.asg 13 (.comp 0 (.bin .Mult (.bin .Pow (.bin .Add (.lit (.int (100))) (.bin .Mod (.var 30) (.lit (.int (900))))) (.bin .Add (.lit (.int (1))) (.bin .Mod (.bin .FloorDiv (.var 30) (.lit (.int (1800)))) (.lit (.int (8)))))) (.bin .Sub (.lit (.int (1))) (.bin .Mult (.bin .Mod (.bin .FloorDiv (.var 30) (.lit (.int (900)))) (.lit (.int (2)))) (.lit (.int (2)))))) (.slice (.var 3) (some (.lit (.int (5)))) none none) [])),(.asgT [14,15] (.call 10 [(.var 5),(.var 12),(.var 13),(.var 7),(.var 4)])),(.asg 16 (.item (.call 10 [(.var 6),(.var 12),(.var 13),(.var 7),(.var 4)]) (.lit (.int (0))))),(.ite (.boolop .Or (.cmp .Eq (.var 12) (.list [])) (.boolop .Or (.cmp .Eq (.var 14) (.list [])) (.cmp .Eq (.var 16) (.list [])))) [(.ret (.lit (.bool false)))] []),(.asg 17 (.comp 0 (.bin .Sub (.bin .Mult (.item (.var 14) (.bin .Mod (.bin .Add (.var 30) (.lit (.int (1)))) (.lit (.int (7))))) (.item (.var 16) (.var 30))) (.bin .Mult (.item (.var 14) (.var 30)) (.item (.var 16) (.bin .Mod (.bin .Add (.var 30) (.lit (.int (1)))) (.lit (.int (7))))))) (.prim .range1 [(.lit (.int (7)))]) [])),(.asg 18 (.comp 0 (.bin .Mult (.bin .Mult (.item (.var 13) (.var 30)) (.item (.var 13) (.bin .Mod (.bin .Add (.var 30) (.lit (.int (1)))) (.lit (.int (7)))))) (.ite (.cmp .Lt (.bin .Mod (.bin .Sub (.var 30) (.var 5)) (.lit (.int (7)))) (.bin .Mod (.bin .Sub (.var 6) (.var 5)) (.lit (.int (7))))) (.lit (.int (1))) (.un .USub (.lit (.int (1)))))) (.prim .range1 [(.lit (.int (7)))]) [])),(.ite (.cmp .NotEq (.var 17) (.comp 0 (.bin .Mult (.item (.var 14) (.var 6)) (.var 30)) (.var 18) [])) [(.ret (.lit (.bool false)))] []),(.asg 19 (.bin .Add (.prim .chr [(.bin .Add (.lit (.int (65))) (.var 5))]) (.var 8))),(.for1 20 (.comp 0 (.var 30) (.prim .range1 [(.lit (.int (7)))]) [(.cmp .NotEq (.var 30) (.var 5))]) [(.asg 21 (.bin .Add (.var 8) (.prim .chr [(.bin .Add (.lit (.int (65))) (.var 20))]))),(.asg 22 (.cmp .IsNot (.item (.var 15) (.var 20)) (.lit .none))),(.asg 23 (.ite (.var 22) (.bin .Add (.bin .Add (.var 19) (.item (.var 15) (.var 20))) (.var 21)) (.bin .Add (.var 19) (.prim .chr [(.bin .Add (.lit (.int (65))) (.var 20))])))),(.asg 24 (.item (.list [(.lit (.str (S []))),(.lit (.str (S [46,46,46])))]) (.bin .Mod (.bin .Add (.var 20) (.var 4)) (.lit (.int (2)))))),(.ite (.cmp .NotEq (.item (.var 14) (.var 20)) (.bin .Mult (.bin .Mult (.item (.var 13) (.var 5)) (.item (.var 13) (.var 20))) (.bin .Add (.lit (.int (1))) (.call 11 [(.var 24),(.var 19),(.var 21),(.var 7),(.var 23)])))) [(.ret (.lit (.bool false)))] []),(.asg 25 (.bin .Add (.bin .Add (.prim .chr [(.bin .Add (.lit (.int (65))) (.bin .Mod (.bin .Add (.var 5) (.lit (.int (1)))) (.lit (.int (7)))))]) (.lit (.str (S [10])))) (.var 23))),(.asg 26 (.bin .Add (.bin .Add (.var 23) (.lit (.str (S [10])))) (.prim .chr [(.bin .Add (.lit (.int (65))) (.bin .Mod (.bin .Add (.var 20) (.lit (.int (1)))) (.lit (.int (7)))))]))),(.asg 27 (.bin .Add (.bin .Add (.var 19) (.lit (.str (S [46,46,46])))) (.var 21))),(.asg 28 (.list [(.tup [(.var 23),(.var 23)]),(.tup [(.bin .Add (.bin .Add (.var 19) (.lit (.str (S [46,46,46,46,46,46])))) (.var 21)),(.bin .Add (.bin .Add (.var 19) (.lit (.str (S [10])))) (.var 21))]),(.tup [(.bin .Add (.lit (.str (S [46,46,46]))) (.var 27)),(.var 25)]),(.tup [(.bin .Add (.var 27) (.lit (.str (S [46,46,46])))),(.var 26)])])),(.asg 29 (.compT (.call 0 [(.var 30),(.var 31)]) (.bin .Add (.var 28) (.list [(.tup [(.var 23),(.var 26)]),(.tup [(.var 27),(.var 25)]),(.tup [(.var 27),(.var 26)])])))),(.ite (.cmp .Gt (.meth .count (.comp 0 (.cmp .Is (.item (.var 29) (.var 30)) (.item (.list [(.lit (.bool true)),(.lit (.bool true)),(.var 22),(.var 22),(.lit (.bool false)),(.lit (.bool false)),(.lit (.bool false))]) (.var 30))) (.prim .range1 [(.lit (.int (7)))]) []) [(.lit (.bool false))]) (.lit (.int (0)))) [(.ret (.lit (.bool false)))] [])])]
end M01
end
section
open PySem.StrLaws
namespace M01
noncomputable abbrev Pl:=List Nat
noncomputable def on(p:Pl)(k:Nat):Nat:=(0::p).getD k 0
noncomputable def nm(p:Pl):Nat→List Nat
 |0=>[]
 |k+1=>td (nm p k) (on p k) [k,k]
theorem E5{p:Pl}:nm p (k+1)=td (nm p k) (on p k) [k,k]:=rfl
noncomputable def br(p:Pl):Nat→List Nat
 |0=>[]
 |k+1=>td (br p k) (on p k) [40,41]
noncomputable def hU:List (List (List Nat)):=[[],[[34],[40],[34]],[[92,41]],[[92,34]],[[34],[92,34],[34]],[[92,92]]]
noncomputable def hu(m:Nat):List (List Nat):=if m<6 then hU.getD m [] else[]
noncomputable def hw(m:Nat):List (List Nat):=if 5<m∧m<12 then hu (m-6) else[]
noncomputable def more(c:Nat→Nat)(k:Nat):Nat:=c k / (2*k+1) % 18
noncomputable def gp(c:Nat→Nat)(p:Pl):Nat→List (List (List Nat)×Nat)
 |0=>[]
 |k+1=>td (gp c p k) (on p k) [(hu (more c k),40),(hw (more c k),41)]
theorem Cn{c:Nat→Nat}{p:Pl}:gp c p (k+1)=td (gp c p k) (on p k) [(hu (more c k),40),(hw (more c k),41)]:=rfl
noncomputable def kj(ps:List (List (List Nat)×Nat)):List PyData:=ps.map λq=>.str (S (gk q).flatten)
noncomputable def qj:Slot:=cZ (hU.map λu=>.str (S u.flatten))
noncomputable def F0:List CS:=[(.asg 5 (.bin .Mod (.item (.var 0) (.var 4)) (.bin .Add (.bin .Mult (.lit (.int (2))) (.var 4)) (.lit (.int (1)))))),(.asg 6 (.bin .Mod (.bin .FloorDiv (.item (.var 0) (.var 4)) (.bin .Add (.bin .Mult (.lit (.int (2))) (.var 4)) (.lit (.int (1))))) (.lit (.int (18))))),(.asg 7 (.ite (.cmp .Lt (.var 6) (.lit (.int (6)))) (.item (.var 1) (.var 6)) (.lit (.str (S []))))),(.asg 8 (.ite (.cmp2 .Lt .Lt (.lit (.int (5))) (.var 6) (.lit (.int (12)))) (.item (.var 1) (.bin .Sub (.var 6) (.lit (.int (6))))) (.lit (.str (S []))))),(.asg 2 (.bin .Add (.bin .Add (.slice (.var 2) none (some (.var 5)) none) (.list [(.var 4),(.var 4)])) (.slice (.var 2) (some (.var 5)) none none))),(.asg 3 (.bin .Add (.bin .Add (.slice (.var 3) none (some (.var 5)) none) (.list [(.bin .Add (.var 7) (.lit (.str (S [40])))),(.bin .Add (.var 8) (.lit (.str (S [41]))))])) (.slice (.var 3) (some (.var 5)) none none)))]
theorem mA(p:Pl):∀k,(nm p k).length=2*k
 |0=>rfl
 |k+1=>by rw[E5,xe,mA p k];rfl
theorem mG(c:Nat→Nat)(p:Pl):∀k,(gp c p k).length=2*k
 |0=>rfl
 |k+1=>by rw[Cn,xe,mG c p k];rfl
theorem B4(c:Nat→Nat)(p:Pl):∀k,(gp c p k).map (·.2)=br p k
 |0=>rfl
 |k+1=>by rw[Cn,rB,B4 c p k];rfl
theorem Ez{p:Pl}{s:Nat}:(nm p (s+1)).map bt=td ((nm p s).map bt) (on p s) [bt s,bt s]:=by rw[E5,rB];rfl
theorem Ac{c:Nat→Nat}{p:Pl}{s:Nat}:kj (gp c p (s+1))=td (kj (gp c p s)) (on p s) [.str (S ((hu (more c s)).flatten++[40])),.str (S ((hw (more c s)).flatten++[41]))]:=by
 unfold kj
 rw[Cn,rB]
 unfold gk
 simp only[bj,List.map_nil,List.flatten_append,List.flatten_cons,List.flatten_nil,bE]
theorem xy{m:Nat}(h:m<6):(hU.map λu=>PyData.str (S u.flatten))[m]?=some (.str (S (hu m).flatten)):=by
 rw[az,hu,if_pos h,aZ,aQ (show m<hU.length from h)];rfl
theorem rz(m:Nat):HI (hu m):=by
 unfold hu
 by_cases h:m<6
 ·rw[if_pos h]
  rcases m with _ | _ | _ | _ | _ | _ | m
  ·exact sm
  ·exact Iv (by decide) (by decide) (by decide)
  ·exact CY (by decide)
  ·exact CY (by decide)
  ·refine⟨λo r=>qQ (by decide),λu hu=>?_,λu hu=>?_,by decide⟩
   ·have:u∈[[34],[92,34],[34]]:=hu
    simp only[ah,List.not_mem_nil,or_false] at this
    rcases this with rfl | rfl | rfl
    ·exact eS (by decide)
    ·exact tK
    ·exact eS (by decide)
   ·have:u∈[[34],[92,34],[34]]:=hu
    simp only[ah,List.not_mem_nil,or_false] at this
    rcases this with rfl | rfl | rfl<;>simp
  ·exact CY (by decide)
  ·exact absurd h (Nat.not_lt_of_le (ao 6 m))
 ·rw[if_neg h];exact sm
theorem vi(m:Nat):HI (hw m):=by
 unfold hw
 split
 ·exact rz _
 ·exact sm
theorem Bo(m:Nat):(hu m).flatten.length≤10:=by
 unfold hu
 split
 ·rename_i h
  have:∀m<6,(hU.getD m []).flatten.length≤10:=by decide
  exact this m h
 ·simp
theorem GW(m:Nat):(hw m).flatten.length≤10:=by
 unfold hw
 split
 ·exact Bo _
 ·simp
theorem C1(c:Nat→Nat)(p:Pl):∀k,B8 (gp c p k)
 |0=>λ_ h=>nomatch h
 |k+1=>λq hq=>by
  rw[Cn,td] at hq
  rcases aP.mp hq with hq | hq
  ·rcases aP.mp hq with hq | hq
   ·exact C1 c p k q (List.mem_of_mem_take hq)
   ·simp only[ah,List.not_mem_nil,or_false] at hq
    rcases hq with rfl | rfl
    ·exact⟨rz _,.inl rfl⟩
    ·exact⟨vi _,.inr rfl⟩
  ·exact C1 c p k q (List.mem_of_mem_drop hq)
section
variable{c:Nat→Nat}{p:Pl}{cs:List PyData}{x4 x5 x6 x7:Slot}
theorem As{s:Nat}(hcs:∀k,k<5→cs[k]?=some (bt (c k)))(hp:∀k,k<5→c k % (2*k+1)=on p k)(hs:s<5):∃y5 y6 y7 y8,
  cexs Φ fu F0 [cZ cs,qj,cZ ((nm p s).map bt),cZ (kj (gp c p s)),.sh (.d (bt s)),x5,x6,x7,x8]=some ([cZ cs,qj,cZ ((nm p (s+1)).map bt),cZ (kj (gp c p (s+1))),.sh (.d (bt s)),y5,y6,y7,y8],.nx):=by
 have h2k:∀{ρ:Ev},ρ[4]?=some (.sh (.d (bt s)))→ak Φ (.bin .Add (.bin .Mult (.lit (.int (2))) (.var 4)) (.lit (.int (1)))) ρ=some (.d (bt (2*s+1))):=λh =>
  ev_addn (xl (bX (n:=2)) (bi h) (by decide) (aE (ae hs (c8 rfl)))) (bX (n:=1))
 have hle:on p s≤2*s:=by have:=Nat.mod_lt (c s) (show 0<2*s+1 by exact Nat.succ_pos _);rw[hp s hs] at this;exact bp this
 refine⟨.sh (.d (bt (on p s))),.sh (.d (bt (more c s))),sv (hu (more c s)).flatten,sv (hw (more c s)).flatten,?_⟩
 unfold F0
 refine bN (v:=.d (bt (on p s))) ((ev_modn (cT (bi rfl) (bi rfl) (aE (ae hs (c8 rfl))) (hcs s hs)) (h2k rfl) (by exact Nat.succ_pos _) (by lia)).trans (by rw[hp s hs])) rfl ?_
 refine bN (v:=.d (bt (more c s))) (ev_modn (iD (cT (bi rfl) (bi rfl) (aE (ae hs (c8 rfl))) (hcs s hs)) (h2k rfl) (by exact Nat.succ_pos _) (by lia)) (bX (n:=18)) (by decide) (by decide)) rfl ?_
 generalize hmo:more c s=m
 have e8:∀{ρ:Ev},ρ[1]?=some qj→ρ[6]?=some (.sh (.d (bt m)))→ak Φ (.ite (.cmp .Lt (.var 6) (.lit (.int (6)))) (.item (.var 1) (.var 6)) (.lit (.str (S [])))) ρ=some (.d (.str (S (hu m).flatten))):=λh2 h7=>by
  refine(pU (CW (bi h7) (bX (n:=6)))).trans ?_
  by_cases q:m<6
  ·rw[aO q,if_pos rfl];exact cT (bi h2) (bi h7) (aE (ae q (c8 rfl))) (xy q)
  ·rw[ba q,if_neg (by decide),hu,if_neg q];rfl
 have e9:∀{ρ:Ev},ρ[1]?=some qj→ρ[6]?=some (.sh (.d (bt m)))→ak Φ (.ite (.cmp2 .Lt .Lt (.lit (.int (5))) (.var 6) (.lit (.int (12)))) (.item (.var 1) (.bin .Sub (.var 6) (.lit (.int (6))))) (.lit (.str (S [])))) ρ=some (.d (.str (S (hw m).flatten))):=λ{ρ} h2 h7=>by
  have ec:ak Φ (.cmp2 .Lt .Lt (.lit (.int (5))) (.var 6) (.lit (.int (12)))) ρ=some (.d (.bool (decide (5<m∧m<12)))):=by
   refine bc cu (bc (bi h7) (bc (show vS .Lt (.d (.int 5)) (.d (bt m))=some (.d (.bool (decide ((5:Int)<m)))) from rfl) (bc rfl ?_)))
   by_cases q:5<m
   ·rw[aO (show(5:Int)<m by exact cR.mpr q),if_pos rfl]
    refine bc cu ((show vS .Lt (.d (bt m)) (.d (.int 12))=some (.d (.bool (decide ((m:Int)<12)))) from rfl).trans ?_)
    rw[decide_eq_decide.mpr (show(m:Int)<12↔(5<m∧m<12) by constructor<;>intro h<;>lia)]
   ·rw[ba (show¬(5:Int)<m by exact Int.not_lt_of_ge (vo (be q) (c8 rfl))),if_neg (by decide),ba (λz=>q z.1)]
  refine(pU ec).trans ?_
  by_cases q:5<m∧m<12
  ·rw[aO q,if_pos rfl,hw,if_pos q]
   refine cT (j:=m-6) (bi h2) ((dh (bi h7) cu).trans ?_) (aE   (au (cO m 6) (ae (And.right q) (c8 rfl)))) (xy (cK (Nat.sub_le_of_le_add (bp (And.right q)))))
   unfold bt
   rw[jC,show((m:Int)-6)=((m-6:Nat):Int) by lia]
  ·rw[ba q,if_neg (by decide),hw,if_neg q];rfl
 refine bN (e8 rfl rfl) rfl ?_
 refine bN (e9 rfl rfl) rfl ?_
 refine bN (AG (n:=on p s) (ys:=[bt s,bt s]) (bi rfl) (bi rfl) (eh (bg (bi rfl) (bg (bi rfl) de)) (show 2≤1048576 by decide)) (by rw[af,mA];simp;lia) (by rw[af,mA];exact hle)) rfl ?_
 refine bN (AG (n:=on p s) (ys:=[.str (S ((hu m).flatten++[40])),.str (S ((hw m).flatten++[41]))]) (bi rfl) (bi rfl) (eh (bg (dU (bi rfl) cu (ab (Nat.add_le_add_right (Bo m) _) (show 10+1≤1048576 by decide))) (bg (dU (bi rfl) cu (ab (Nat.add_le_add_right (GW m) _) (show 10+1≤1048576 by decide))) de)) (show 2≤1048576 by decide)) (by unfold kj;rw[af,mG];simp;lia) (by unfold kj;rw[af,mG];exact hle)) rfl ?_
 rw[eK,Ac,Ez,hmo];rfl
theorem Bn(hcs:∀k,k<5→cs[k]?=some (bt (c k)))(hp:∀k,k<5→c k % (2*k+1)=on p k)(m:Nat):∀(s:Nat) (x4 x5 x6 x7 x8:Slot),s+m≤5→∃y4 y5 y6 y7 y8,
  loopF (d7 4) (λρ=>cexs Φ fu F0 ρ) ((List.range' s m).map bt) [cZ cs,qj,cZ ((nm p s).map bt),cZ (kj (gp c p s)),x4,x5,x6,x7,x8]=some ([cZ cs,qj,cZ ((nm p (s+m)).map bt),cZ (kj (gp c p (s+m))),y4,y5,y6,y7,y8],.nx):=by
 induction m with
 |zero =>
  intro s x4 x5 x6 x7 x8 _
  exact⟨x4,x5,x6,x7,x8,rfl⟩
 |succ m ih =>
  intro s x4 x5 x6 x7 x8 h
  refine aa λhQ=>?_
  obtain⟨y5,y6,y7,y8,e⟩:=As (Φ:=Φ) (fu:=fu) (x5:=x5) (x6:=x6) (x7:=x7) (x8:=x8) hcs hp (show s<5 by exact au (ay _ _) h)
  obtain⟨z4,z5,z6,z7,z8,e'⟩:=ih (s+1) (.sh (.d (bt s))) y5 y6 y7 y8 (oF h)
  (refine hQ ?_;clear hQ)
  refine⟨z4,z5,z6,z7,z8,?_⟩
  rw[show s+(m+1)=s+1+m by lia,←e']
  exact bc (show d7 4 (bt s) _=some [cZ cs,qj,cZ ((nm p s).map bt),cZ (kj (gp c p s)),.sh (.d (bt s)),x5,x6,x7,x8] from rfl) (bc e rfl)
theorem E_(hcs:∀k,k<5→cs[k]?=some (bt (c k)))(hp:∀k,k<5→c k % (2*k+1)=on p k) :
  runF Φ fu ⟨1,9,yf⟩ [.d (.list cs)]=some (.d (.tuple [.list ((nm p 5).map bt),.list (kj (gp c p 5))])):=by
 refine aa λhQ=>?_
 obtain⟨y4,y5,y6,y7,y8,e⟩:=Bn (Φ:=Φ) (fu:=fu) hcs hp 5 0 .un .un .un .un .un (by decide)
 (refine hQ ?_;clear hQ)
 refine runF_rt (ρ':=[cZ cs,qj,cZ ((nm p 5).map bt),cZ (kj (gp c p 5)),y4,y5,y6,y7,y8]) rfl ?_
 show cexs Φ fu yf [cZ cs,.un,.un,.un,.un,.un,.un,.un,.un]=_
 unfold yf
 refine bN (v:=.d (.list (hU.map λu=>.str (S u.flatten)))) rfl rfl ?_
 refine bZ (ρ':=[cZ cs,qj,cZ [],cZ [],.un,.un,.un,.un,.un]) (wH (iV (bg iF (bg iF de)) (show 2≤1048576 by decide)) rfl) ?_
 refine bZ (ρ':=[cZ cs,qj,cZ ((nm p 5).map bt),cZ (kj (gp c p 5)),y4,y5,y6,y7,y8]) ((sH (v:=.r 0 5 1) fX (eV (n:=5) (by decide))).trans ?_) (eM (iV (bg (bi rfl) (bg (bi rfl) de)) (show 2≤1048576 by decide)) rfl)
 rw[List.range_eq_range'];exact e
end
end M01
end
section
open PySem.StrLaws
theorem xi{a b:CE}{x y:Nat}(h1:ak Φ a ρ=some (.d (bt x)))(h2:ak Φ b ρ=some (.d (bt y)))(h:y≤x):ak Φ (.bin .Sub a b) ρ=some (.d (bt (x-y))):=by
 unfold bt at *;simp only[dh h1 h2,jC,Int.ofNat_sub h]
theorem uZ{a i j:CE}{m:Nat}(h:ak Φ a ρ=some (.d (.list xs)))(h1:ak Φ i ρ=some (.d (bt m)))(h2:ak Φ j ρ=some (.d (bt n)))(hl:xs.length≤1048576):ak Φ (.slice a (some i) (some j) none) ρ=some (.d (.list ((xs.take n).drop m))):=by
 simp only[iC,h,f5 h1,f5 h2,hV];exact wm hl
theorem tR{a b:CE}{x:Nat}{w:List Nat}(h1:ak Φ a ρ=some (.d (bt x)))(h2:ak Φ b ρ=some (.d (.list (w.map bt)))):ak Φ (.cmp .In a b) ρ=some (.d (.bool (w.contains x))):=by
 refine du h1 h2 ?_
 show(if(fY (bt x)&&(w.map bt).all fY)=true then some ((w.map bt).any λz=>PyData.eqv z (bt x)) else none)=_
 simp only[gc,jX,EN];rfl
namespace M01
noncomputable def kC(s:Nat):Nat:=if 0<s then 2 else 1
noncomputable def qp(s:Nat):List Nat:=List.range' (kC s) ((10-s) / kC s) (kC s)
noncomputable def tc(w:List Nat)(s:Nat):Bool:=(w.take s).contains (w.getD s 0)
noncomputable def qU(b:List Nat)(s z:Nat):Bool:=E0 0 ((b.take (s+z)).drop s)
noncomputable def Dq(w:List Nat)(s z:Nat):Bool:=decide (((List.range 5).map λk=>((w.take (s+z)).drop s).count k).count 1=0)
noncomputable def v_(b:List Nat)(s:Nat):List Nat:=(qp s).filter (qU b s)
noncomputable def tri(b:List Nat)(s cl:Nat):List Nat:=[cl,cl+(v_ b s).headD 0 / 2,cl+(v_ b s).getLastD 0 / 2+1]
noncomputable def mj(w b:List Nat):Nat→Nat→Nat→List (List Nat)
 |0,_,_=>[]
 |m+1,s,cl=>if tc w s then mj w b m (s+1) (cl+1) else tri b s cl::mj w b m (s+1) cl
theorem vE{w b:List Nat}{m s cl:Nat}:mj w b (m+1) s cl=if tc w s then mj w b m (s+1) (cl+1) else tri b s cl::mj w b m (s+1) cl:=rfl
noncomputable def GB(w b:List Nat)(s:Nat):Bool:=tc w s||((qp s).all (λz=>Dq w s z==qU b s z)&&!(v_ b s).isEmpty)
theorem El{s:Nat}:(qp s).length=(10-s) / kC s:=List.length_range'
theorem ru(s:Nat):0<kC s:=by unfold kC;split<;>decide
theorem Bi(s:Nat):kC s≤2:=by unfold kC;split<;>decide
theorem Hn(s:Nat):(qp s).length≤10:=by rw[El];exact ab (Nat.div_le_self _ _) (cO _ _)
theorem xf{s z:Nat}(h:z∈qp s):(qp s)[z / kC s-1]?=some z∧kC s≤z∧z+s≤10:=by
 obtain⟨j,h1,rfl⟩:=List.mem_range'.mp h
 have hp:=ru s
 have e:(kC s+kC s*j) / kC s-1=j:=by
  rw[Nat.add_mul_div_left _ _ hp,Nat.div_self hp];exact c5 1 j
 refine⟨?_,ay _ _,?_⟩
 ·rw[e];exact List.getElem?_range' h1
 ·have h2:=Nat.div_mul_le_self (10-s) (kC s)
  have h3:(j+1)*kC s≤(10-s) / kC s*kC s:=Nat.mul_le_mul_right _ h1
  rw[Nat.add_mul,Nat.one_mul,Nat.mul_comm] at h3
  have h4:1≤10-s:=ab hp (ab (ao (kC s) (kC s*j)) (ab h3 h2))
  exact bd (aE (Nat.lt_of_sub_pos h4)) (ab (aw (Nat.add_comm _ _)) (ab h3 h2))
theorem vz{s:Nat}(h:s<10):fB (.r (kC s:Nat) (11-(s:Int)) (kC s:Nat))=some ((qp s).map bt):=by
 have:s=0∨s=1∨s=2∨s=3∨s=4∨s=5∨s=6∨s=7∨s=8∨s=9:=by lia
 rcases this with rfl | rfl | rfl | rfl | rfl | rfl | rfl | rfl | rfl | rfl<;>kernel_rfl
section
variable{es:List lj}(H:Std es){w:List Nat}
noncomputable def gR(T:List (List Nat)):List PyData:=T.map λt=>.list (t.map bt)
noncomputable def w8:List CS:=[(.asg 5 (.ite (.cmp .Gt (.var 4) (.lit (.int (0)))) (.lit (.int (2))) (.lit (.int (1))))),(.asg 6 (.prim .range3 [(.var 5),(.bin .Sub (.lit (.int (11))) (.var 4)),(.var 5)])),(.asg 7 (.comp 0 (.call 2 [(.meth .join (.lit (.str (S []))) [(.slice (.var 1) (some (.var 4)) (some (.bin .Add (.var 4) (.var 10))) none)])]) (.var 6) [])),(.asg 8 (.comp 0 (.cmp .Eq (.meth .count (.comp 0 (.meth .count (.slice (.var 0) (some (.var 4)) (some (.bin .Add (.var 4) (.var 10))) none) [(.var 11)]) (.prim .range1 [(.lit (.int (5)))]) []) [(.lit (.int (1)))]) (.lit (.int (0)))) (.var 6) [])),(.ite (.cmp .Gt (.meth .count (.comp 0 (.cmp .Is (.item (.var 7) (.var 10)) (.item (.var 8) (.var 10))) (.prim .range1 [(.prim .len [(.var 8)])]) []) [(.lit (.bool false))]) (.lit (.int (0)))) [(.ret (.list []))] []),(.asg 9 (.comp 0 (.var 10) (.var 6) [(.item (.var 7) (.bin .Sub (.bin .FloorDiv (.var 10) (.var 5)) (.lit (.int (1)))))])),(.app 2 (.list [(.var 3),(.bin .Add (.var 3) (.bin .FloorDiv (.item (.var 9) (.lit (.int (0)))) (.lit (.int (2))))),(.bin .Add (.bin .Add (.var 3) (.bin .FloorDiv (.item (.var 9) (.un .USub (.lit (.int (1))))) (.lit (.int (2))))) (.lit (.int (1))))]))]
noncomputable def ln:List CS:=[(.ite (.cmp .In (.item (.var 0) (.var 4)) (.slice (.var 0) none (some (.var 4)) none)) [(.asg 3 (.bin .Add (.var 3) (.lit (.int (1)))))] w8)]
noncomputable def rT(w:List Nat)(ps:List (List (List Nat)×Nat))(T:List (List Nat))(cl:Nat)(x4 x5 x6 x7 x8 x9:Slot):Ev:=[cZ (w.map bt),cZ (kj ps),.ow (gR T),.sh (.d (bt cl)),x4,x5,x6,x7,x8,x9]
theorem xR{cl s:Nat}{x5 x6 x7 x9:Slot}(hw:w.length=10)(hs:s<10)(hc:tc w s=true) :
  cexs Φ fu ln (rT w ps T cl (.sh (.d (bt s))) x5 x6 x7 x8 x9)=some (rT w ps T (cl+1) (.sh (.d (bt s))) x5 x6 x7 x8 x9,.nx):=by
 have hin:ak Φ (.cmp .In (.item (.var 0) (.var 4)) (.slice (.var 0) none (some (.var 4)) none)) (rT w ps T cl (.sh (.d (bt s))) x5 x6 x7 x8 x9)=some (.d (.bool (tc w s))):=by
  refine tR (x:=w.getD s 0) (w:=w.take s) (cT (bi rfl) (bi rfl) (aE (ae hs (c8 rfl))) ?_) ?_
  ·rw[az,aZ,aQ (by exact Nat.lt_of_lt_of_eq hs hw.symm)];rfl
  ·rw[List.map_take];exact kz (n:=s) (bi rfl) (bi rfl) (by rw[af];exact ab (aw hw) (c8 rfl))
 unfold ln
 refine bZ ((zP hin).trans ?_) eK
 rw[hc,if_pos rfl]
 exact bN (ev_addn (bi rfl) (bX (n:=1))) rfl eK
include H
theorem B0{cl s:Nat}{x5 x6 x7 x9:Slot}(hw:w.length=10)(hp:B8 ps)(hl:ps.length=10)(hs:s<10)(hc:tc w s=false)(hk:GB w (ps.map (·.2)) s=true)(hT:T.length≤10)(hcl:cl≤10):∃y5 y6 y7 y8 y9,
  cexs (gt es fu (k+2)) fu ln (rT w ps T cl (.sh (.d (bt s))) x5 x6 x7 x8 x9)=some (rT w ps (T++[tri (ps.map (·.2)) s cl]) cl (.sh (.d (bt s))) y5 y6 y7 y8 y9,.nx):=by
 have hk2:(qp s).all (λz=>Dq w s z==qU (ps.map (·.2)) s z)=true∧(v_ (ps.map (·.2)) s).isEmpty=false:=by
  unfold GB at hk
  simp only[hc,Bool.false_or,ag] at hk
  exact⟨hk.1,by cases q:(v_ (ps.map (·.2)) s).isEmpty<;>simp_all⟩
 refine aa λhQ=>?_
 obtain⟨hd,hne⟩:=hk2
 clear hk
 obtain⟨b,hb⟩:∃b,b=ps.map (·.2):=⟨_,rfl⟩
 (refine hQ ?_;clear hQ)
 rw[←hb] at hd hne ⊢
 refine aa λhQ=>?_
 obtain⟨told,htd⟩:∃told,told=qU b s:=⟨_,rfl⟩
 (refine hQ ?_;clear hQ)
 have hszl:=Hn s
 have hin:ak (gt es fu (k+2)) (.cmp .In (.item (.var 0) (.var 4)) (.slice (.var 0) none (some (.var 4)) none)) (rT w ps T cl (.sh (.d (bt s))) x5 x6 x7 x8 x9)=some (.d (.bool (tc w s))):=by
  refine tR (x:=w.getD s 0) (w:=w.take s) (cT (bi rfl) (bi rfl) (aE (ae hs (c8 rfl))) ?_) ?_
  ·rw[az,aZ,aQ (by exact Nat.lt_of_lt_of_eq hs hw.symm)];rfl
  ·rw[List.map_take];exact kz (n:=s) (bi rfl) (bi rfl) (by rw[af];exact ab (aw hw) (c8 rfl))
 refine⟨.sh (.d (bt (kC s))),.sh (.r (kC s:Nat) (11-(s:Int)) (kC s:Nat)),cZ ((qp s).map λz=>.bool (told z)),cZ ((qp s).map λz=>.bool (told z)),cZ ((v_ b s).map bt),?_⟩
 unfold ln
 refine bZ ((zP hin).trans ?_) eK
 rw[hc,if_neg (by decide)]
 unfold w8
 refine bN (v:=.d (bt (kC s))) ?_ rfl ?_
 ·refine(pU (uj (bi rfl) (bX (n:=0)))).trans ?_
  unfold kC
  by_cases q:0<s
  ·rw[aO q,if_pos rfl,if_pos q];rfl
  ·rw[ba q,if_neg (by decide),if_neg q];rfl
 refine bN (v:=.r (kC s:Nat) (11-(s:Int)) (kC s:Nat)) ?_ rfl ?_
 ·refine bc (EX (bi rfl) ((dh cu (bi rfl)).trans (jC _ _)) (bi rfl)) ?_
  have h1:=ru s
  have h2:=Bi s
  show(if((((kC s:Nat):Int) != 0)&&iz ((kC s:Nat):Int))=true then some (V.r (kC s:Nat) (11-(s:Int)) (kC s:Nat)) else none)=_
  rw[fw (by rw[Int.natAbs_natCast];exact ab h2 (ao _ _)),cz.mpr λz=>bV h1 (Int.natCast_eq_zero.mp z)];rfl
 refine bN (v:=.d (.list ((qp s).map λz=>.bool (told z)))) (ev_comp (g:=bt) (h:=λz=>.bool (told z)) (bi rfl) (vz hs) λz hz=>?_) rfl ?_
 ·refine aa λhQ=>?_
  obtain⟨_,_,hz3⟩:=xf hz
  (refine hQ ?_;clear hQ)
  have e1:∀{ρ:Ev},ρ[1]?=some (cZ (kj ps))→ρ[4]?=some (.sh (.d (bt s)))→ρ[10]?=some (.sh (.d (bt z)))→ak (gt es fu (k+2)) (.slice (.var 1) (some (.var 4)) (some (.bin .Add (.var 4) (.var 10))) none) ρ=some (.d (.list ((((ps.take (s+z)).drop s).map λq=>(gk q).flatten).map λp=>.str (S p)))):=λh1 h4 h10=>by
   refine(uZ (m:=s) (n:=s+z) (bi h1) (bi h4) (ev_addn (bi h4) (bi h10)) (by unfold kj;rw[af];exact ab (aw hl) (c8 rfl))).trans ?_
   unfold kj
   rw[List.map_map,←List.map_take,←List.map_drop];rfl
  have hps:B8 ((ps.take (s+z)).drop s):=λx hx=>hp x (List.mem_of_mem_take (List.mem_of_mem_drop hx))
  have hfl:(((ps.take (s+z)).drop s).map λq=>(gk q).flatten).flatten=(((ps.take (s+z)).drop s).map gk).flatten.flatten:=by simp only[List.flatten_flatten,List.map_map];rfl
  have hlen:=jz hps
  have hlt:((ps.take (s+z)).drop s).length≤10:=by rw[aY,bx];exact ab (cO (min (s+z) (List.length ps)) s)   (ab (Nat.min_le_right (s+z) (List.length ps)) (aw hl))
  have e2:∀{ρ:Ev},ρ[1]?=some (cZ (kj ps))→ρ[4]?=some (.sh (.d (bt s)))→ρ[10]?=some (.sh (.d (bt z)))→_:=λ{ρ} h1 h4 h10=>uF (e1 (ρ:=ρ) h1 h4 h10) (by rw[af];exact ab hlt (ao _ _)) (by rw[hfl];exact ab hlen (ab (Nat.mul_le_mul_left 1001 hlt) (c8 rfl)))
  rw[hfl] at e2
  refine(lS (e2 rfl rfl rfl) rfl).trans ?_
  rw[sD H hps (by exact ab hlt (ao _ _)),List.map_drop,List.map_take,←hb,htd];rfl
 refine bN (v:=.d (.list ((qp s).map λz=>.bool (told z)))) (ev_comp (g:=bt) (h:=λz=>.bool (told z)) (bi rfl) (vz hs) λz hz=>?_) rfl ?_
 ·have e1:∀{ρ:Ev},ρ.length=11→ρ[0]?=some (cZ (w.map bt))→ρ[4]?=some (.sh (.d (bt s)))→ρ[10]?=some (.sh (.d (bt z)))→ak (gt es fu (k+2)) (.comp 0 (.meth .count (.slice (.var 0) (some (.var 4)) (some (.bin .Add (.var 4) (.var 10))) none) [(.var 11)]) (.prim .range1 [(.lit (.int (5)))]) []) ρ=some (.d (.list (((List.range 5).map λx=>((w.take (s+z)).drop s).count x).map bt))):=λ{ρ} hρ h0 h4 h10=>by
   rw[List.map_map]
   refine ev_comp (g:=bt) (h:=λx=>bt (((w.take (s+z)).drop s).count x)) (xs:=List.range 5) fX (eV (n:=5) (by decide)) λx hx=>?_
   have lf:∀{i:Nat} {v:Slot},ρ[i]?=some v→(ρ++[.sh (.d (bt x))])[i]?=some v:=λh=>(a_ (aS.mp h).1).trans h
   have e0:ak (gt es fu (k+2)) (.slice (.var 0) (some (.var 4)) (some (.bin .Add (.var 4) (.var 10))) none) (ρ++[.sh (.d (bt x))])=some (.d (.list (((w.take (s+z)).drop s).map bt))):=by
    rw[List.map_drop,List.map_take]
    exact uZ (m:=s) (n:=s+z) (bi (lf h0)) (bi (lf h4)) (ev_addn (bi (lf h4)) (bi (lf h10))) (by rw[af];exact ab (aw hw) (c8 rfl))
   refine(eQ e0 (bi ?_)).trans (qP (by rw[aY,bx];exact ab (cO (min (s+z) (List.length w)) s)   (ab (Nat.min_le_right (s+z) (List.length w))     (ab (aw hw) (c8 rfl)))))
   rw[aM (by exact aw hρ),hρ];rfl
  refine(iP ((eQ (m:=.count) (e1 rfl rfl rfl rfl) (bX (n:=1))).trans (qP (by rw[af];decide))) (bX (n:=0)) (gc _) (gc _)).trans ?_
  simp only[jG,htd]
  exact congrArg (λb=>some (V.d (.bool b))) (bH (ap.mp hd z hz))
 refine bZ (cx_no ((uj (y:=0) (ju (xs:=List.range (qp s).length) ?_ (by simp;exact ab hszl (ao _ _))) (bX (n:=0))).trans rfl) rfl) ?_
 ·refine ev_comp (g:=bt) (h:=λ_=>.bool true) (xs:=List.range (qp s).length) (v:=.r 0 ((qp s).length:Int) 1) ?_ (eV (by exact ab hszl (ao _ _))) λx hx=>?_
  ·refine(fK (vQ (bi rfl) (by rw[af];exact ab hszl (ao _ _)))).trans ?_
   rw[af];rfl
  ·have hx:=bS.mp hx
   have hg:((qp s).map λz=>PyData.bool (told z))[x]?=some (.bool (told (qp s)[x])):=by
    rw[az,aQ hx];rfl
   refine(wW (cT (bi rfl) (bi rfl) (ab (aE hx) (ab hszl (c8 rfl))) hg) (cT (bi rfl) (bi rfl) (ab (aE hx) (ab hszl (c8 rfl))) hg)).trans ?_
   rw[nU];simp
 refine bN (v:=.d (.list ((v_ b s).map bt))) ?_ rfl ?_
 ·refine oH (g:=bt) (h:=bt) (f:=qU b s) (bi rfl) (vz hs) (λz hz=>?_) (λz _ _=>bi rfl)
  refine aa λhQ=>?_
  obtain⟨h1,h2,h3⟩:=xf hz
  (refine hQ ?_;clear hQ)
  have hp:=ru s
  refine cT (bi rfl) (xi (iD (bi rfl) (bi rfl) hp (by have:=Bi s;exact ab this (ao _ _))) (bX (n:=1)) (Nat.div_pos h2 hp)) ?_ ?_
  ·exact ab (cO _ _) (ab (Nat.div_le_self z (kC s)) (ab (ay z s) (ab h3 (by decide))))
  ·rw[az,h1,htd];rfl
 have hne2:v_ b s≠[]:=λq=>by replace hne:=q▸hne;cases hne
 have hfirst:((v_ b s).map bt)[0]?=some (bt ((v_ b s).headD 0)):=by
  cases q:v_ b s with
  |nil=>exact absurd q hne2
  |cons a r=>rfl
 have hlast:((v_ b s).map bt).getLast?=some (bt ((v_ b s).getLastD 0)):=by
  rw[List.getLast?_map,List.getLastD_eq_getLast?,List.getLast?_eq_some_getLast hne2];rfl
 have h3:∀{ρ:Ev} {e:CE} {n:Nat},ak (gt es fu (k+2)) e ρ=some (.d (bt n))→ak (gt es fu (k+2)) (.bin .FloorDiv e (.lit (.int (2)))) ρ=some (.d (bt (n / 2))):=λh=>iD h (bX (n:=2)) (by decide) (by decide)
 refine bZ (sw (x:=.list ((tri b s cl).map bt)) (xs:=gR T) (eh (bg (bi rfl) (bg (ev_addn (bi rfl) (h3 (cT (j:=0) (bi rfl) cu (by decide) hfirst))) (bg (ev_addn (ev_addn (bi rfl) (h3 (sZ (bi rfl) (oD cu) ((pN (by rw[af];exact ab (ab (List.length_filter_le _ _) hszl) (ao _ _)) (by rw[af];exact List.length_pos_iff.mpr hne2)).trans hlast)))) (bX (n:=1))) de))) (show 3≤1048576 by decide)) rfl (by unfold gR;rw[af];exact ab hT (ao _ _))) ?_
 simp only[eK]
 unfold rT gR
 simp only[bM];rfl
theorem zt(hw:w.length=10)(hp:B8 ps)(hl:ps.length=10)(hk:∀s,s<10→GB w (ps.map (·.2)) s=true)(m:Nat):∀(s:Nat) (T:List (List Nat)) (cl:Nat) (x4 x5 x6 x7 x8 x9:Slot),s+m≤10→T.length≤s→cl≤s→∃c' y4 y5 y6 y7 y8 y9,
  loopF (d7 4) (λρ=>cexs (gt es fu (k+2)) fu ln ρ) ((List.range' s m).map bt) (rT w ps T cl x4 x5 x6 x7 x8 x9)=some (rT w ps (T++mj w (ps.map (·.2)) m s cl) c' y4 y5 y6 y7 y8 y9,.nx):=by
 induction m with
 |zero =>
  intro s T cl x4 x5 x6 x7 x8 x9 _ _ _
  exact⟨cl,x4,x5,x6,x7,x8,x9,by rw[show mj w (ps.map (·.2)) 0 s cl=[] from rfl,bE];rfl⟩
 |succ m ih =>
  intro s T cl x4 x5 x6 x7 x8 x9 h h2 h3
  cases hc:tc w s with
  |true =>
   refine aa λhQ=>?_
   obtain⟨c',y4,y5,y6,y7,y8,y9,e⟩:=ih (s+1) T (cl+1) (.sh (.d (bt s))) x5 x6 x7 x8 x9 (ab (aw (Nat.succ_add_eq_add_succ s m)) h) (by exact ab h2 (ay _ _)) (by exact cK h3)
   (refine hQ ?_;clear hQ)
   refine⟨c',y4,y5,y6,y7,y8,y9,?_⟩
   rw[vE,hc,if_pos rfl,←e]
   exact bc rfl (bc (xR hw (by exact au (ay _ _) h) hc) rfl)
  |false =>
   refine aa λhQ=>?_
   obtain⟨z5,z6,z7,z8,z9,e1⟩:=B0 H (fu:=fu) (k:=k) (T:=T) (cl:=cl) (x5:=x5) (x6:=x6) (x7:=x7) (x8:=x8) (x9:=x9) hw hp hl (show s<10 by exact au (ay _ _) h) hc (hk s (by exact au (ay _ _) h)) (ab h2 (ab (ay s (m+1)) h)) (ab h3 (ab (ay s (m+1)) h))
   (refine hQ ?_;clear hQ)
   obtain⟨c',y4,y5,y6,y7,y8,y9,e⟩:=ih (s+1) (T++[tri (ps.map (·.2)) s cl]) cl (.sh (.d (bt s))) z5 z6 z7 z8 z9 (ab (aw (Nat.succ_add_eq_add_succ s m)) h) (by simp;exact h2) (by exact ab h3 (ay _ _))
   refine⟨c',y4,y5,y6,y7,y8,y9,?_⟩
   rw[vE,hc,if_neg (by decide),show T++tri (ps.map (·.2)) s cl::mj w (ps.map (·.2)) m (s+1) cl=(T++[tri (ps.map (·.2)) s cl])++mj w (ps.map (·.2)) m (s+1) cl by simp,←e]
   exact bc rfl (bc e1 rfl)
theorem DR(hw:w.length=10)(hp:B8 ps)(hl:ps.length=10)(hk:∀s,s<10→GB w (ps.map (·.2)) s=true) :
  runF (gt es fu (k+2)) fu ⟨2,10,gD⟩ [.d (.list (w.map bt)),.d (.list (kj ps))]=some (.d (.list (gR (mj w (ps.map (·.2)) 10 0 0)))):=by
 refine aa λhQ=>?_
 obtain⟨c',y4,y5,y6,y7,y8,y9,e⟩:=zt H (fu:=fu) (k:=k) hw hp hl hk 10 0 [] 0 .un .un .un .un .un .un (by decide) (by decide) (by decide)
 (refine hQ ?_;clear hQ)
 simp only[c4] at e
 generalize mj w (ps.map (·.2)) 10 0 0=R at e ⊢
 refine runF_rt (ρ':=[cZ (w.map bt),cZ (kj ps),cZ (gR R),.sh (.d (bt c')),y4,y5,y6,y7,y8,y9]) rfl ?_
 show cexs _ fu gD [cZ (w.map bt),cZ (kj ps),.un,.un,.un,.un,.un,.un,.un,.un]=_
 unfold gD
 refine bZ (ρ':=rT w ps [] 0 .un .un .un .un .un .un) rfl ?_
 refine bZ (ρ':=rT w ps R c' y4 y5 y6 y7 y8 y9) ((sH (v:=.r 0 10 1) fX (eV (n:=10) (by decide))).trans ?_) (bZ (sV rfl) (eM (bi rfl) rfl))
 simp only[List.range_eq_range'];exact e
end
end M01
end
set_option backward.match.sparseCases false
section
open PySem.StrLaws
namespace M01
noncomputable def pX(x:Nat):List Nat→Nat
 |[]=>0
 |y::r=>bif Nat.beq y x then Nat.succ (pX x r) else pX x r
theorem F9{x y:Nat}{r:List Nat}:pX x (y::r)=bif Nat.beq y x then Nat.succ (pX x r) else pX x r:=rfl
noncomputable def nG:Nat→List Nat→Bool
 |o,[]=>Nat.beq o 0
 |o,c::r=>bif Nat.beq c 40 then nG (Nat.succ o) r else match o with
  |0=>false
  |o+1=>nG o r
noncomputable def memF(x:Nat):List Nat→Bool
 |[]=>false
 |y::r=>bif Nat.beq y x then true else memF x r
theorem Gh{x y:Nat}{r:List Nat}:memF x (y::r)=bif Nat.beq y x then true else memF x r:=rfl
noncomputable def sl(l:List Nat)(s z:Nat):List Nat:=(l.take (s+z)).drop s
noncomputable def Dv(l:List Nat):Bool:=!(Nat.beq (pX 0 l) 1||(Nat.beq (pX 1 l) 1||(Nat.beq (pX 2 l) 1||(Nat.beq (pX 3 l) 1||Nat.beq (pX 4 l) 1))))
noncomputable def Ji(a b:Bool):Bool:=bif a then b else !b
theorem Fn(a b:Nat):Nat.beq a b=decide (a=b):=by rw[Bool.eq_iff_iff,Nat.beq_eq,ar]
theorem xE(x:Nat):∀l,pX x l=l.count x
 |[]=>rfl
 |y::r=>by
  rw[F9,xE x r,List.count_cons]
  by_cases h:y=x
  ·rw[show Nat.beq y x=true from Nat.beq_eq.mpr h,if_pos (by simp[h])];rfl
  ·rw[show Nat.beq y x=false from Bool.eq_false_iff.mpr λq=>h (Nat.beq_eq.mp q),if_neg (by simp[h])];rfl
theorem sO(x:Nat):∀l,memF x l=l.contains x
 |[]=>rfl
 |y::r=>by
  rw[Gh,sO x r,List.contains_cons]
  by_cases h:y=x
  ·rw[show Nat.beq y x=true from Nat.beq_eq.mpr h];simp[h]
  ·rw[show Nat.beq y x=false from Bool.eq_false_iff.mpr λq=>h (Nat.beq_eq.mp q)];simp[Ne.symm h]
theorem DZ(l:List Nat):∀(o:Nat),nG o l=E0 (o:Int) l:=by
 induction l with
 |nil =>
  intro o
  show Nat.beq o 0=((o:Int)==0)
  rw[Bool.eq_iff_iff,Nat.beq_eq];simp
 |cons c r ih =>
  intro o
  rw[Fo]
  by_cases h:c=40
  ·rw[if_pos h,h];exact ih (o+1)
  ·rw[if_neg h]
   have e:nG o (c::r)=match o with
    |0=>false
    |o+1=>nG o r:=by
    show(bif Nat.beq c 40 then nG (Nat.succ o) r else match o with
     |0=>false
     |o+1=>nG o r)=_
    rw[Fn,ba h];rfl
   rw[e]
   cases o with
   |zero=>rfl
   |succ o =>
    rw[if_neg (by(clear e h;lia)),show((o+1:Nat):Int)-1=(o:Nat) by lia]
    exact ih o
theorem Di(w:List Nat)(s z:Nat):Dq w s z=Dv (sl w s z):=by
 unfold Dq Dv sl
 generalize (w.take (s+z)).drop s=l
 simp only[xE]
 rw[show List.range 5=[0,1,2,3,4] from rfl]
 simp only[bj,List.map_nil,List.count_cons,List.count_nil,Nat.zero_add]
 rw[Bool.eq_iff_iff,ar]
 simp only[Fn,Bool.not_eq_true',Bool.or_eq_false_iff,decide_eq_false_iff_not,beq_iff_eq]
 constructor
 ·intro h;refine⟨?_,?_,?_,?_,?_⟩<;>intro q<;>rw[q] at h<;>simp at h
 ·rintro⟨h0,h1,h2,h3,h4⟩;simp[h0,h1,h2,h3,h4]
theorem tA(b:List Nat)(s z:Nat):qU b s z=nG 0 (sl b s z):=by
 rw[DZ];rfl
theorem Cw{a b:Bool}:Ji a b=(a==b):=by cases a<;>cases b<;>rfl
noncomputable def Fc(w:List Nat)(s:Nat):Bool:=memF (w.getD s 0) (w.take s)
noncomputable def Kt(w b:List Nat)(s:Nat):Bool:=bif Fc w s then true else(qp s).all (λz=>Ji (Dv (sl w s z)) (nG 0 (sl b s z)))&&(qp s).any (λz=>nG 0 (sl b s z))
theorem Go{w b:List Nat}{s:Nat}(h:Kt w b s=true):GB w b s=true:=by
 unfold Kt Fc at h
 unfold GB tc
 rw[sO] at h
 cases q:(w.take s).contains (w.getD s 0) with
 |true=>rfl
 |false =>
  rw[q,cond_false,ag] at h
  rw[Bool.false_or,ag]
  refine⟨ap.mpr λz hz=>?_,?_⟩
  ·have:=ap.mp h.1 z hz
   rw[Cw] at this
   rw[Di,tA];exact this
  ·refine aa λhQ=>?_
   obtain⟨z,hz,hb⟩:=List.any_eq_true.mp h.2
   (refine hQ ?_;clear hQ)
   have hm:z∈v_ b s:=List.mem_filter.mpr ⟨hz,by rw[tA];exact hb⟩
   cases q:v_ b s with
   |nil=>rw[q] at hm;cases hm
   |cons _ _=>rfl
noncomputable def HG(k:List Nat→Bool):List Nat→Bool
 |[]=>k []
 |x::r=>HG (λr'=>k (x::r')) r
theorem rM(l:List Nat):∀(k:List Nat→Bool),HG k l=k l:=by
 induction l with
 |nil =>
  intro _
  exact rfl
 |cons x r ih =>
  intro k
  exact ih λr'=>k (x::r')
noncomputable def kG(a b:Nat):List (List Nat):=(List.range 7).flatMap λc=>(List.range 9).map λd=>[a,b,c,d]
noncomputable def Jt:List Nat→List Nat→Bool
 |[],[]=>true
 |x::xs,y::ys=>bif Nat.beq x y then Jt xs ys else false
 |_,_=>false
theorem CU:∀{a b:List Nat},Jt a b=true→a=b
 |[],[],_=>rfl
 |x::xs,y::ys,h=>by
  have h:(bif Nat.beq x y then Jt xs ys else false)=true:=h
  cases q:Nat.beq x y with
  |true=>rw[q] at h;rw[Nat.beq_eq.mp q,CU h]
  |false=>rw[q] at h;cases h
 |[],_::_,h=>nomatch h
 |_::_,[],h=>nomatch h
noncomputable def oo:List (List Nat):=[[40,41,40,41,40,41,40,41,40,41],[40,40,41,41,40,41,40,41,40,41],[40,41,40,40,41,41,40,41,40,41],[40,41,40,41,40,40,41,41,40,41],[40,41,40,41,40,41,40,40,41,41],[40,40,41,40,41,41,40,41,40,41],[40,40,40,41,41,41,40,41,40,41],[40,40,41,41,40,40,41,41,40,41],[40,40,41,41,40,41,40,40,41,41],[40,41,40,40,41,40,41,41,40,41],[40,41,40,40,40,41,41,41,40,41],[40,41,40,40,41,41,40,40,41,41],[40,41,40,41,40,40,41,40,41,41],[40,41,40,41,40,40,40,41,41,41],[40,40,41,40,41,40,41,41,40,41],[40,40,40,41,41,40,41,41,40,41],[40,40,41,40,40,41,41,41,40,41],[40,40,41,40,41,41,40,40,41,41],[40,40,40,41,40,41,41,41,40,41],[40,40,40,40,41,41,41,41,40,41],[40,40,40,41,41,41,40,40,41,41],[40,40,41,41,40,40,41,40,41,41],[40,40,41,41,40,40,40,41,41,41],[40,41,40,40,41,40,41,40,41,41],[40,41,40,40,40,41,41,40,41,41],[40,41,40,40,41,40,40,41,41,41],[40,41,40,40,40,41,40,41,41,41],[40,41,40,40,40,40,41,41,41,41],[40,40,41,40,41,40,41,40,41,41],[40,40,40,41,41,40,41,40,41,41],[40,40,41,40,40,41,41,40,41,41],[40,40,41,40,41,40,40,41,41,41],[40,40,40,41,40,41,41,40,41,41],[40,40,40,40,41,41,41,40,41,41],[40,40,40,41,41,40,40,41,41,41],[40,40,41,40,40,41,40,41,41,41],[40,40,41,40,40,40,41,41,41,41],[40,40,40,41,40,41,40,41,41,41],[40,40,40,40,41,41,40,41,41,41],[40,40,40,41,40,40,41,41,41,41],[40,40,40,40,41,40,41,41,41,41],[40,40,40,40,40,41,41,41,41,41]]
noncomputable def JS(w b:List Nat)(s:Nat):Bool:=bif Fc w s then true else(qp s).all λz=>HG (λl=>HG (λm=>Ji (Dv l) (nG 0 m)) (sl b s z)) (sl w s z)
noncomputable def j5(p:List Nat):Bool:=HG (λb=>HG (λw=>(List.range 10).all (λs=>JS w b s&&Ji (Fc w s) (Nat.beq (b.getD s 0) 41))&&oo.any (Jt b)) (nm p 5)) (br p 5)
theorem GG:(kG 0 0).all j5=true:=by decide +kernel
theorem FZ:(kG 0 1).all j5=true:=by decide +kernel
theorem Gu:(kG 0 2).all j5=true:=by decide +kernel
theorem Hu:(kG 0 3).all j5=true:=by decide +kernel
theorem Gf:(kG 0 4).all j5=true:=by decide +kernel
theorem Hv:(kG 1 0).all j5=true:=by decide +kernel
theorem Gx:(kG 1 1).all j5=true:=by decide +kernel
theorem GX:(kG 1 2).all j5=true:=by decide +kernel
theorem FW:(kG 1 3).all j5=true:=by decide +kernel
theorem FR:(kG 1 4).all j5=true:=by decide +kernel
theorem GC:(kG 2 0).all j5=true:=by decide +kernel
theorem Gz:(kG 2 1).all j5=true:=by decide +kernel
theorem GV:(kG 2 2).all j5=true:=by decide +kernel
theorem Hq:(kG 2 3).all j5=true:=by decide +kernel
theorem Gk:(kG 2 4).all j5=true:=by decide +kernel
noncomputable def u9(b:List Nat):Nat→Nat→Nat→List (List Nat)
 |0,_,_=>[]
 |m+1,s,cl=>if Nat.beq (b.getD s 0) 41 then u9 b m (s+1) (cl+1) else tri b s cl::u9 b m (s+1) cl
theorem C8{w b:List Nat}(h:∀s,s<10→Fc w s=Nat.beq (b.getD s 0) 41)(m):∀s cl,s+m≤10→mj w b m s cl=u9 b m s cl:=by
 induction m with
 |zero =>
  intro _ _ _
  exact rfl
 |succ m ih =>
  intro s cl hs
  rw[vE,show u9 b (m+1) s cl=if Nat.beq (b.getD s 0) 41 then u9 b m (s+1) (cl+1) else tri b s cl::u9 b m (s+1) cl from rfl,ih (s+1) (cl+1) (oF hs),ih (s+1) cl (oF hs),←h s (by exact au (ay _ _) hs),Fc,sO];rfl
noncomputable def Gj(b:List Nat):List (List Nat):=u9 b 10 0 0
theorem Io:oo.all (λb=>(List.range 10).all λs=>Nat.beq (b.getD s 0) 41||(qp s).any (λz=>nG 0 (sl b s z)))=true:=by decide +kernel
theorem zu{a b c d:Nat}(h3:c<7)(h4:d<9):[a,b,c,d]∈kG a b:=List.mem_flatMap.mpr ⟨c,bS.mpr h3,List.mem_map.mpr ⟨d,bS.mpr h4,rfl⟩⟩
theorem GU{a b c d:Nat}(h1:a<3)(h2:b<5)(h3:c<7)(h4:d<9):j5 [a,b,c,d]=true:=by
 have hm:=zu (a:=a) (b:=b) h3 h4
 have ha:a=0∨a=1∨a=2:=by lia
 have hb:b=0∨b=1∨b=2∨b=3∨b=4:=by lia
 rcases ha with rfl | rfl | rfl<;>rcases hb with rfl | rfl | rfl | rfl | rfl
 all_goals first
  |exact ap.mp GG _ hm
  |exact ap.mp FZ _ hm
  |exact ap.mp Gu _ hm
  |exact ap.mp Hu _ hm
  |exact ap.mp Gf _ hm
  |exact ap.mp Hv _ hm
  |exact ap.mp Gx _ hm
  |exact ap.mp GX _ hm
  |exact ap.mp FW _ hm
  |exact ap.mp FR _ hm
  |exact ap.mp GC _ hm
  |exact ap.mp Gz _ hm
  |exact ap.mp GV _ hm
  |exact ap.mp Hq _ hm
  |exact ap.mp Gk _ hm
noncomputable def ij(c:Nat→Nat):Pl:=[c 1 % 3,c 2 % 5,c 3 % 7,c 4 % 9]
theorem IO(c:Nat→Nat):∀k,k<5→c k % (2*k+1)=on (ij c) k:=λk hk=>by
 have:k=0∨k=1∨k=2∨k=3∨k=4:=by lia
 rcases this with rfl | rfl | rfl | rfl | rfl
 ·exact Nat.mod_one _
 all_goals rfl
theorem GL(c:Nat→Nat):br (ij c) 5∈oo∧(∀s,s<10→GB (nm (ij c) 5) (br (ij c) 5) s=true)∧mj (nm (ij c) 5) (br (ij c) 5) 10 0 0=Gj (br (ij c) 5):=by
 have h:=GU (Nat.mod_lt (c 1) (show 0<3 by decide)) (Nat.mod_lt (c 2) (show 0<5 by decide)) (Nat.mod_lt (c 3) (show 0<7 by decide)) (Nat.mod_lt (c 4) (show 0<9 by decide))
 rw[show[c 1 % 3,c 2 % 5,c 3 % 7,c 4 % 9]=ij c from rfl] at h
 unfold j5 at h
 rw[rM,rM,ag] at h
 generalize nm (ij c) 5=w at h ⊢
 generalize br (ij c) 5=b at h ⊢
 refine aa λhQ=>?_
 obtain⟨h1,h2⟩:=h
 obtain⟨b',hb,e⟩:=List.any_eq_true.mp h2
 (refine hQ ?_;clear hQ)
 have hb:b∈oo:=CU e▸hb
 have h1:∀s,s<10→JS w b s=true∧Fc w s=Nat.beq (b.getD s 0) 41:=λs hs=>by
  have:=ap.mp h1 s (bS.mpr hs)
  rw[ag,Cw,beq_iff_eq] at this
  exact this
 refine⟨hb,λs hs=>Go ?_,C8 (λs hs=>(h1 s hs).2) 10 0 0 (by decide)⟩
 have hn:=ap.mp (ap.mp Io b hb) s (bS.mpr hs)
 obtain⟨g1,g2⟩:=h1 s hs
 unfold JS at g1
 unfold Kt
 rw[←g2] at hn
 cases q:Fc w s with
 |true=>rfl
 |false =>
  rw[q,cond_false] at g1
  rw[q,Bool.false_or] at hn
  rw[cond_false,hn,Bool.and_true]
  refine ap.mpr λz hz=>?_
  have:=ap.mp g1 z hz
  rw[rM,rM] at this
  exact this
end M01
end
set_option backward.match.sparseCases true
section
open PySem.StrLaws
theorem wi(a:Int)(hb:b≠0):(a.fmod b).natAbs≤b.natAbs:=by
 rcases Int.lt_or_gt_of_ne hb with h | h
 ·have e:=Int.neg_fmod_neg (-a) (-b)
  rw[Int.neg_neg,Int.neg_neg] at e
  have h1:=Int.fmod_nonneg_of_pos (-a) (b:=-b) (Int.neg_pos_of_neg (by assumption))
  have h2:=Int.fmod_lt_of_pos (-a) (b:=-b) (Int.neg_pos_of_neg (by assumption))
  omega
 ·have h1:=Int.fmod_nonneg_of_pos a h
  have h2:=Int.fmod_lt_of_pos a h
  omega
theorem CO{w o s:Int}(hb:b≠0)(ho:o=s.fmod b):(b*w+o).fdiv b=w∧(b*w+o).fmod b=o:=by
 have h1:o.fmod b=o:=by rw[ho,Int.fmod_fmod]
 have h2:o.fdiv b=0:=by
  have:=Int.mul_fdiv_add_fmod o b
  rw[h1] at this
  have h3:b*o.fdiv b=0:=by lia
  exact(Int.mul_eq_zero.mp h3).resolve_left hb
 rw[Int.add_comm,Int.add_mul_fdiv_left _ _ hb,Int.add_mul_fmod_self_left,h1,h2]
 simp
theorem qE{es:List lj}(H:StdD es){w s:Int}(hb:b≠0)(b1:Bd w)(b2:Bd b) :
  gt es fu (k+5) 7 [.d (.int (b*w+s.fmod b)),.d (.int b)]=some (.d (.tuple [.int w,.int (s.fmod b)])):=by
 have hd:=CO (w:=w) (s:=s) hb rfl
 have hf:=wi s hb
 have hn:(b*w+s.fmod b).natAbs<2^1300:=by
  have h1:(b*w+s.fmod b).natAbs≤(b*w).natAbs+(s.fmod b).natAbs:=Int.natAbs_add_le _ _
  rw[Int.natAbs_mul] at h1
  have h2:b.natAbs*w.natAbs≤2^400*2^400:=Nat.mul_le_mul (aE b2) (aE b1)
  have h3:(s.fmod b).natAbs≤2^400:=ab hf (aE b2)
  have h4:(2:Nat)^400*2^400+2^400<2^1300:=by decide
  (clear h4 hf hd b2 b1 hb H;omega)
 have hb2:b.natAbs<2^1000:=ae b2 (Nat.pow_le_pow_right (by decide) (by decide))
 have:=Ba H (fu:=fu) (k:=k) (a:=b*w+s.fmod b) (b:=b) (by(clear hb2 hf hd b2 b1 hb H;omega)) (Int.lt_of_le_of_lt Int.le_natAbs (iy (Nat.le_sub_one_of_lt hn) (c8 rfl))) hb (by(clear hn hf hd b2 b1 hb H;omega)) (Int.lt_of_le_of_lt Int.le_natAbs (iy (Nat.le_sub_one_of_lt hb2) (c8 rfl)))
 rw[this,hd.1,hd.2]
theorem zW{b:List CS}{v:V}(h:ak Φ e ρ=some v)(hv:fB v=some xs):gS Φ fu (.forT is e b) ρ=loopF (jd is) (λρ=>cexs Φ fu b ρ) xs ρ:=bc h (bc hv rfl)
noncomputable def Le(i:Nat)(x:Int):Prop:=x.natAbs≤2^i
theorem gX{x y:Int}(h:Le i x)(h2:Le j y):Le (i+j) (x*y):=by
 unfold Le at *;rw[Int.natAbs_mul,Nat.pow_add];exact Nat.mul_le_mul h h2
theorem pg(h:n≤128):Le 7 (n:Int):=by
 unfold Le;rw[Int.natAbs_natCast];exact h
theorem gw{x:Int}(h:Le i x)(hi:i<400):Bd x:=au h (Nat.pow_lt_pow_right (by decide) hi)
theorem GO{x:Int}(h:Le i x)(hi:i<400):iz x=true:=ll (gw h hi)
namespace M01
noncomputable def wl(a:Nat)(u:List Bool):List Nat:=u.map λx=>cond x (a+1) a
noncomputable def je(a:Nat):Option (List Bool)→PyData
 |none=>.none
 |some u=>.str (S (wl a u))
noncomputable def mv(a:Nat)(r:List (List Bool)):List PyData:=r.map λu=>.str (S (wl a u))
noncomputable def re(a:Nat)(bh:List (List (List Bool))):Ev:=bh.map λr=>.ow (mv a r)
noncomputable def jS(h:Nat→Int)(ns:List Nat):List PyData:=(List.range 7).map λj=>.int (h 0*h j*(ns.getD j 0:Nat))
structure Bk where
 ns:List Nat
 ws:List (Option (List Bool))
 bh:List (List (List Bool))
noncomputable def l9(K:Bk)(lo t hi:Nat):Bk :=
 if lo=0 then⟨(K.ns.set t 1).set hi 1,K.ws,K.bh⟩ else
  ⟨K.ns.set t (K.ns.getD lo 0+K.ns.getD hi 0),K.ws.set t (some ((K.bh.getD lo []).getD hi [])),
   (K.bh.set lo ((K.bh.getD lo []).set t ((K.bh.getD lo []).getD hi []++[false]))).set t ((K.bh.getD t []).set hi ((K.bh.getD lo []).getD hi []++[true]))⟩
noncomputable def Ax(K:Bk)(lo t hi:Nat):Bool:=decide (lo<7)&&decide (t<7)&&decide (hi<7)&&decide (lo≠t)&&decide (K.ns.getD lo 0+K.ns.getD hi 0≤100)&&decide (((K.bh.getD lo []).getD hi []).length≤100)
structure yI(K:Bk):Prop where
 n:K.ns.length=7
 w:K.ws.length=7
 b:K.bh.length=7
 r:∀r∈K.bh,r.length=7
theorem lV{l:List α}{d:α}(h:i<l.length):l.getD i d∈l:=by
 rw[aZ,aQ h];exact List.getElem_mem h
theorem iA{l:List α}{d:α}(h:i<l.length):l[i]?=some (l.getD i d):=by
 rw[aZ,aQ h];rfl
theorem Cu{K:Bk}{lo t hi:Nat}(k:yI K)(h1:lo<7)(h2:t<7):yI (l9 K lo t hi):=by
 unfold l9
 by_cases q:lo=0
 ·rw[if_pos q]
  exact⟨by rw[List.length_set,List.length_set,k.n],k.w,k.b,k.r⟩
 ·rw[if_neg q]
  refine⟨by rw[List.length_set,k.n],by rw[List.length_set,k.w],by rw[List.length_set,List.length_set,k.b],λr hr=>?_⟩
  rcases List.mem_or_eq_of_mem_set hr with hr | rfl
  ·rcases List.mem_or_eq_of_mem_set hr with hr | rfl
   ·exact k.r r hr
   ·rw[List.length_set];exact k.r _ (lV (by rw[k.b];exact h1))
  ·rw[List.length_set];exact k.r _ (lV (by rw[k.b];exact h2))
theorem nZ{f:α→β}{l:List α}{x:α}:(l.map f).set i (f x)=(l.set i x).map f:=by rw[List.map_set]
theorem sY{h:Nat→Int}{ns:List Nat}{t v:Nat}{x:Int}(hn:ns.length=7)(ht:t<7)(hx:x=h 0*h t*(v:Nat)):(jS h ns).set t (.int x)=jS h (ns.set t v):=by
 refine List.ext_getElem? λi=>?_
 unfold jS
 rw[List.getElem?_set]
 by_cases q:t=i
 ·subst q
  rw[if_pos rfl,if_pos (by rw[af,cy];exact ht),az,bT ht,hx,Option.map_some,aZ,List.getElem?_set_self (by rw[hn];exact ht)];rfl
 ·rw[if_neg q,az,az]
  by_cases z:i<7
  ·rw[bT z,Option.map_some,Option.map_some,aZ,aZ,List.getElem?_set_ne q]
  ·rw[List.getElem?_eq_none (by rw[cy];exact be z)];rfl
theorem wV{h:Nat→Int}{ns:List Nat}(hi:i<7):(jS h ns)[i]?=some (.int (h 0*h i*(ns.getD i 0:Nat))):=by
 unfold jS;rw[az,bT hi];rfl
theorem hW{h:Nat→Int}{ns:List Nat}:(jS h ns).length=7:=by unfold jS;rw[af,cy]
noncomputable def fE(s0 s1 s2:Slot)(a spare:Nat)(h:Nat→Int)(K:Bk)(x9 x10 x11 x12 x13 x14 x15 x16 x17:Slot):Ev :=
 [s0,s1,s2,cZ [.str (S [a]),.str (S [a+1])],.sh (.d (bt spare)),cZ ((List.range 7).map λj=>.int (h j)),.ow (jS h K.ns),.ow (K.ws.map (je a)),.mx 18 7,x9,x10,x11,x12,x13,x14,x15,x16,x17]++re a K.bh
section
variable{s0 s1 s2:Slot}{a spare:Nat}{h:Nat→Int}{K:Bk}{x9 x10 x11 x12 x13 x14 x15 x16 x17:Slot}{ns:List Nat}{ws:List (Option (List Bool))}{bh:List (List (List Bool))}
theorem vc(hi:i<bh.length):(fE s0 s1 s2 a spare h ⟨ns,ws,bh⟩ x9 x10 x11 x12 x13 x14 x15 x16 x17)[18+i]?=some (.ow (mv a (bh.getD i []))):=by
 unfold fE
 rw[aM (ay 18 i)]
 show(re a bh)[18+i-18]?=_
 rw[c5]
 unfold re
 rw[az,iA hi (d:=[])];rfl
theorem Ab{r:List (List Bool)}:(fE s0 s1 s2 a spare h ⟨ns,ws,bh⟩ x9 x10 x11 x12 x13 x14 x15 x16 x17).set (18+i) (.ow (mv a r))=fE s0 s1 s2 a spare h ⟨ns,ws,bh.set i r⟩ x9 x10 x11 x12 x13 x14 x15 x16 x17:=by
 unfold fE
 rw[List.set_append_right _ _ (ay 18 i)]
 show _++(re a bh).set (18+i-18) _=_
 rw[c5]
 unfold re
 rw[nZ (f:=λr=>Slot.ow (mv a r))]
theorem oB(hi:i<7):pJ (fE s0 s1 s2 a spare h K x9 x10 x11 x12 x13 x14 x15 x16 x17) 8 (i:Int)=some (18+i):=by
 show(if 0≤(i:Int)∧(i:Int)<(7:Nat)∧(7:Nat)<2^20 then some (18+Int.toNat (i:Int)) else none)=_
 rw[if_pos ⟨aK i,by exact cR.mpr hi,by decide⟩,aR]
theorem l_{r:List (List Bool)}:(mv a r).length=r.length:=af _
theorem wu{k:CE}{x:PyData}(he:ak Φ e ρ=some (.d x))(hk:ak Φ k ρ=some (.d (bt j)))(hi:ρ[i]?=some (.ow xs))(hj:j<xs.length)(hl:xs.length≤1000):gS Φ fu (.put i k e) ρ=some (ρ.set i (.ow (xs.set j x)),.nx) :=
 bc he (bc rfl (bc hk (bc rfl (bc (nk hi) ((if_pos ⟨aK j,by exact cR.mpr hj,cM (by exact ab hl (ao _ _))⟩).trans rfl)))))
theorem xo{p r:Nat}{ea eb:CE}{x:PyData}(he:ak Φ e ρ=some (.d x))(ha:ak Φ ea ρ=some (.d (bt p)))(hr:pJ ρ i (p:Int)=some r)(hb:ak Φ eb ρ=some (.d (bt j)))(hi:ρ[r]?=some (.ow xs))(hj:j<xs.length)(hl:xs.length≤1000):gS Φ fu (.mset i ea eb e) ρ=some (ρ.set r (.ow (xs.set j x)),.nx) :=
 bc he (bc rfl (bc ha (bc rfl (bc hr (bc hb (bc rfl (bc (nk hi) ((if_pos ⟨aK j,by exact cR.mpr hj,cM (by exact ab hl (ao _ _))⟩).trans rfl))))))))
theorem D9{m p r q:Nat}{k ea eb:CE}{x:PyData}(ha:ak Φ ea ρ=some (.d (bt p)))(hr:pJ ρ m (p:Int)=some r)(hb:ak Φ eb ρ=some (.d (bt q)))(hy:ρ[r]?=some (.ow ys))(hx:ys[q]?=some x)(hq:q≤1000)(hk:ak Φ k ρ=some (.d (bt j)))(hi:ρ[i]?=some (.ow xs))(hj:j<xs.length)(hl:xs.length≤1000):gS Φ fu (.putG i k m ea eb) ρ=some (ρ.set i (.ow (xs.set j x)),.nx) :=
 bc ha (bc rfl (bc hr (bc hb (bc rfl (bc (nk hy) (bc ((iE (by exact ab hq (ao _ _))).trans hx) (bc hk (bc rfl (bc (nk hi) ((if_pos ⟨aK j,by exact cR.mpr hj,cM (by exact ab hl (ao _ _))⟩).trans rfl))))))))))
end
end M01
end
section
open PySem.StrLaws
theorem xb(h:∀x∈xs,x.canLay0=true∧x.depth≤n)(hn:n≤50):fY (.tuple xs)=true:=by
 refine Cy ?_ ?_
 ·rw[PyData.canLay0];exact vf λx hx=>(h x hx).1
 ·rw[PyData.depth];have:=kb λx hx=>(h x hx).2;exact dc (ab this (ab hn (c8 rfl)))
namespace M01
noncomputable def Cp:List CS:=[(.put 6 (.var 12) (.bin .Mult (.item (.var 5) (.lit (.int (0)))) (.item (.var 5) (.var 12)))),(.put 6 (.var 13) (.bin .Mult (.item (.var 5) (.lit (.int (0)))) (.item (.var 5) (.var 13))))]
noncomputable def Ai:List CS:=[(.asg 14 (.bin .Add (.bin .Mult (.item (.var 6) (.var 11)) (.item (.var 5) (.var 13))) (.bin .Mult (.item (.var 6) (.var 13)) (.item (.var 5) (.var 11))))),(.asg 15 (.bin .Mult (.item (.var 5) (.var 11)) (.item (.var 5) (.var 13)))),(.asg 16 (.bin .Mod (.var 4) (.var 15))),(.asg 17 (.call 7 [(.bin .Add (.var 14) (.var 16)),(.var 15)])),(.ite (.boolop .Or (.cmp .NotEq (.var 17) (.tup [(.item (.var 17) (.lit (.int (0)))),(.var 16)])) (.cmp .NotEq (.comp 0 (.prim .isInt [(.var 25)]) (.var 17) []) (.list [(.lit (.bool true)),(.lit (.bool true))]))) [(.ret (.tup [(.list []),(.list [])]))] []),(.put 6 (.var 12) (.bin .Mult (.item (.var 17) (.lit (.int (0)))) (.item (.var 5) (.var 12)))),(.putG 7 (.var 12) 8 (.var 11) (.var 13)),(.mset 8 (.var 11) (.var 12) (.bin .Add (.item (.var 7) (.var 12)) (.item (.var 3) (.lit (.int (0)))))),(.mset 8 (.var 12) (.var 13) (.bin .Add (.item (.var 7) (.var 12)) (.item (.var 3) (.lit (.int (1))))))]
noncomputable def oU:List CS:=[(.ite (.cmp .Eq (.var 11) (.lit (.int (0)))) Cp Ai)]
section
variable{es:List lj}(H:Std es){s0 s1 s2:Slot}{a spare:Nat}{h:Nat→Int}{x9 x10 x11 x12 x13 x14 x15 x16 x17:Slot}{ns:List Nat}{ws:List (Option (List Bool))}{bh:List (List (List Bool))}
theorem gE(h5:ρ[5]?=some (cZ ((List.range 7).map λj=>.int (h j))))(he:ak Φ e ρ=some (.d (bt i)))(hi:i<7):ak Φ (.item (.var 5) e) ρ=some (.d (.int (h i))) :=
 cT (bi h5) he (aE (ae hi (c8 rfl))) (by rw[az,bT hi];rfl)
theorem ev_mulB{a b:CE}{x y:Int}(h1:ak Φ a ρ=some (.d (.int x)))(h2:ak Φ b ρ=some (.d (.int y)))(b1:Bd x)(b2:Bd y):ak Φ (.bin .Mult a b) ρ=some (.d (.int (x*y))) :=
 (dh h1 h2).trans (AM (ll b1) (ll b2))
theorem xS{w:Int}{t hi:Nat}(hB:∀j,Le 81 (h j))(ok:yI ⟨ns,ws,bh⟩)(ht:t<7)(hh:hi<7) :
  cexs Φ fu oU (fE s0 s1 s2 a spare h ⟨ns,ws,bh⟩ x9 (iv w) (.sh (.d (bt 0))) (.sh (.d (bt t))) (.sh (.d (bt hi))) x14 x15 x16 x17)=some (fE s0 s1 s2 a spare h (l9 ⟨ns,ws,bh⟩ 0 t hi) x9 (iv w) (.sh (.d (bt 0))) (.sh (.d (bt t))) (.sh (.d (bt hi))) x14 x15 x16 x17,.nx):=by
 have hb:∀j,Bd (h j):=λj=>gw (hB j) (by decide)
 unfold oU
 refine bZ ((ed (iP (bi rfl) (bX (n:=0)) (gc _) (gc _)) (by rw[jG];rfl)).trans ?_) eK
 have hv:∀{ρ:Ev} {e:CE} {i:Nat},ρ[5]?=some (cZ ((List.range 7).map λj=>.int (h j)))→ak Φ e ρ=some (.d (bt i))→i<7→ak Φ (.bin .Mult (.item (.var 5) (.lit (.int (0)))) (.item (.var 5) e)) ρ=some (.d (.int (h 0*h i))):=λh5 he hi =>
  ev_mulB (gE h5 (bX (n:=0)) (by decide)) (gE h5 he hi) (hb _) (hb _)
 have one:∀i,h 0*h i=h 0*h i*((1:Nat):Int):=λi=>(Int.mul_one _).symm
 unfold Cp
 refine bZ (ρ':=fE s0 s1 s2 a spare h ⟨ns.set t 1,ws,bh⟩ x9 (iv w) (.sh (.d (bt 0))) (.sh (.d (bt t))) (.sh (.d (bt hi))) x14 x15 x16 x17) ((wu (xs:=jS h ns) (j:=t) (hv rfl (bi rfl) ht) (bi rfl) rfl (by rw[hW];exact ht) (by rw[hW];decide)).trans ?_) ?_
 ·rw[sY ok.n ht (one t)];rfl
 refine bZ (ρ':=fE s0 s1 s2 a spare h ⟨(ns.set t 1).set hi 1,ws,bh⟩ x9 (iv w) (.sh (.d (bt 0))) (.sh (.d (bt t))) (.sh (.d (bt hi))) x14 x15 x16 x17) ((wu (xs:=jS h (ns.set t 1)) (j:=hi) (hv rfl (bi rfl) hh) (bi rfl) rfl (by rw[hW];exact hh) (by rw[hW];decide)).trans ?_) eK
 rw[sY (by rw[List.length_set];exact ok.n) hh (one hi)];rfl
theorem IG{p q:Int}(hl:ρ.length=25)(h17:ρ[17]?=some (.sh (.d (.tuple [.int p,.int q])))):ak Φ (.comp 0 (.prim .isInt [(.var 25)]) (.var 17) []) ρ=some (.d (.list [.bool true,.bool true])) :=
 ev_comp (g:=PyData.int) (h:=λ_=>.bool true) (xs:=[p,q]) (bi h17) rfl λx _=>(fK (bi (by rw[aM (by exact aw hl),hl];rfl))).trans rfl
theorem Be{K:Bk}(h:K.bh.length=7):(fE s0 s1 s2 a spare h0 K x9 x10 x11 x12 x13 x14 x15 x16 x17).length=25:=by
 unfold fE re
 rw[aG,af,h];rfl
include H
theorem Bj{w:Int}{lo t hi:Nat}(hB:∀j,Le 81 (h j))(hN:∀j,h j≠0)(ok:yI ⟨ns,ws,bh⟩)(hc:Ax ⟨ns,ws,bh⟩ lo t hi=true)(h0:lo≠0) :
  ∃y14 y15 y16 y17,cexs (gt es fu (k+5)) fu oU (fE s0 s1 s2 a spare h ⟨ns,ws,bh⟩ x9 (iv w) (.sh (.d (bt lo))) (.sh (.d (bt t))) (.sh (.d (bt hi))) x14 x15 x16 x17)=some (fE s0 s1 s2 a spare h (l9 ⟨ns,ws,bh⟩ lo t hi) x9 (iv w) (.sh (.d (bt lo))) (.sh (.d (bt t))) (.sh (.d (bt hi))) y14 y15 y16 y17,.nx):=by
 unfold Ax at hc
 simp only[ag,ar] at hc
 refine aa λhQ=>?_
 obtain⟨⟨⟨⟨⟨hl,ht⟩,hh⟩,hlt⟩,hn⟩,hu⟩:=hc
 (refine hQ ?_;clear hQ)
 have hb:∀j,Bd (h j):=λj=>gw (hB j) (by decide)
 unfold l9
 rw[if_neg h0]
 generalize hnl:ns.getD lo 0=nl at hn ⊢
 generalize hnh:ns.getD hi 0=nh at hn ⊢
 generalize hue:(bh.getD lo []).getD hi []=u at hu ⊢
 have hrl:(bh.getD lo []).length=7:=ok.r _ (lV (by rw[ok.b];exact hl))
 have hrt:(bh.getD t []).length=7:=ok.r _ (lV (by rw[ok.b];exact ht))
 have bw:Bd (h 0*(nl+nh:Nat)):=gw (gX (hB 0) (pg (by exact ab hn (ao _ _)))) (by decide)
 have bb:Bd (h lo*h hi):=gw (gX (hB lo) (hB hi)) (by decide)
 have nb:h lo*h hi≠0:=Int.mul_ne_zero (hN lo) (hN hi)
 have bf:∀i (n:Nat),n≤100→Bd (h 0*h i*(n:Nat)):=λi n q=>gw (gX (gX (hB 0) (hB i)) (pg (by exact ab q (ao _ _)))) (by decide)
 obtain⟨T17,hT⟩:∃T17,T17=PyData.tuple [.int (h 0*(nl+nh:Nat)),.int ((spare:Int).fmod (h lo*h hi))]:=⟨_,rfl⟩
 have e14:h 0*h lo*(nl:Nat)*h hi+h 0*h hi*(nh:Nat)*h lo=(h lo*h hi)*(h 0*(nl+nh:Nat)):=by
  rw[dD];grind
 refine⟨iv ((h lo*h hi)*(h 0*(nl+nh:Nat))),iv (h lo*h hi),iv ((spare:Int).fmod (h lo*h hi)),.sh (.d T17),?_⟩
 unfold oU
 refine bZ ((iG (iP (bi rfl) (bX (n:=0)) (gc _) (gc _)) (by rw[jG];exact congrArg some (ba h0))).trans ?_) eK
 have fg:∀{ρ:Ev} {e:CE} {i n:Nat},ρ[6]?=some (.ow (jS h ns))→ak (gt es fu (k+5)) e ρ=some (.d (bt i))→i<7→ns.getD i 0=n→ak (gt es fu (k+5)) (.item (.var 6) e) ρ=some (.d (.int (h 0*h i*(n:Nat)))):=λh6 he hi hn=>by
  refine lF (Eo h6) he ((iE (aE (ae hi (c8 rfl)))).trans ?_)
  rw[wV hi,hn]
 unfold Ai
 refine bN (v:=.d (.int ((h lo*h hi)*(h 0*(nl+nh:Nat))))) ?_ rfl ?_
 ·refine(dh (ev_mulB (fg rfl (bi rfl) hl hnl) (gE rfl (bi rfl) hh) (bf _ _ (by exact ab (ay _ _) hn)) (hb _)) (ev_mulB (fg rfl (bi rfl) hh hnh) (gE rfl (bi rfl) hl) (bf _ _ (by exact ab (ao _ _) hn)) (hb _))).trans ((kd _ _).trans ?_)
  rw[e14]
 refine bN (v:=.d (.int (h lo*h hi))) (ev_mulB (gE rfl (bi rfl) hl) (gE rfl (bi rfl) hh) (hb _) (hb _)) rfl ?_
 refine bN (v:=.d (.int ((spare:Int).fmod (h lo*h hi)))) ((dh (bi rfl) (bi rfl)).trans (pF nb (ll bb))) rfl ?_
 refine bN (v:=.d T17) ((fG ((dh (bi rfl) (bi rfl)).trans (kd _ _)) (bi rfl)).trans ((qE H.toStdD nb bw bb).trans (by rw[hT]))) rfl ?_
 have shT:fY T17=true:=by
  rw[hT]
  refine xb (n:=0) (λx hx=>?_) (by decide)
  simp only[ah,List.not_mem_nil,or_false] at hx
  rcases hx with rfl | rfl<;>exact⟨by rw[PyData.canLay0],by rw[PyData.depth];exact aF _⟩
 have t17:∀{ρ:Ev},ρ[17]?=some (.sh (.d T17))→ρ[17]?=some (.sh (.d (.tuple [.int (h 0*(nl+nh:Nat)),.int ((spare:Int).fmod (h lo*h hi))]))):=λe=>by rw[e,hT]
 have tt:∀{ρ:Ev},ρ[17]?=some (.sh (.d T17))→ρ[16]?=some (iv ((spare:Int).fmod (h lo*h hi)))→ak (gt es fu (k+5)) (.tup [(.item (.var 17) (.lit (.int (0)))),(.var 16)]) ρ=some (.d T17):=λh17 h16=>by
  rw[hT]
  exact iV (bg (n7 (j:=0) (bi (t17 h17)) cu (bo _) rfl) (bg (bi h16) de)) (show 2≤1048576 by decide)
 refine bZ (cx_no (wK (ir (x:=T17) (bi rfl) (tt rfl rfl) shT) (ir (x:=.list [.bool true,.bool true]) (IG (by rw[List.length_set,List.length_set,List.length_set,List.length_set];exact Be ok.b) (t17 rfl)) (eh (bg cu (bg cu de)) (show 2≤1048576 by decide)) rfl)) rfl) ?_
 have t0:∀{ρ:Ev},ρ[17]?=some (.sh (.d T17))→ak (gt es fu (k+5)) (.item (.var 17) (.lit (.int (0)))) ρ=some (.d (.int (h 0*(nl+nh:Nat)))):=λh17=>by
  rw[hT] at h17
  exact n7 (j:=0) (bi h17) cu (bo _) rfl
 refine bZ (ρ':=fE s0 s1 s2 a spare h ⟨ns.set t (nl+nh),ws,bh⟩ x9 (iv w) (.sh (.d (bt lo))) (.sh (.d (bt t))) (.sh (.d (bt hi))) (iv ((h lo*h hi)*(h 0*(nl+nh:Nat)))) (iv (h lo*h hi)) (iv ((spare:Int).fmod (h lo*h hi))) (.sh (.d T17)))
  ((wu (xs:=jS h ns) (j:=t) (ev_mulB (t0 rfl) (gE rfl (bi rfl) ht) bw (hb _)) (bi rfl) rfl (by rw[hW];exact ht) (by rw[hW];decide)).trans ?_) ?_
 ·rw[sY (v:=nl+nh) ok.n ht (by grind)];rfl
 generalize iv ((h lo*h hi)*(h 0*(nl+nh:Nat)))=y14
 generalize iv (h lo*h hi)=y15
 generalize iv ((spare:Int).fmod (h lo*h hi))=y16
 generalize Slot.sh (.d T17)=y17
 generalize ns.set t (nl+nh)=ns'
 refine bZ (ρ':=fE s0 s1 s2 a spare h ⟨ns',ws.set t (some u),bh⟩ x9 (iv w) (.sh (.d (bt lo))) (.sh (.d (bt t))) (.sh (.d (bt hi))) y14 y15 y16 y17)
  ((D9 (xs:=ws.map (je a)) (x:=je a (some u)) (ys:=mv a (bh.getD lo [])) (j:=t) (bi rfl) (oB hl) (bi rfl) (vc (by rw[ok.b];exact hl)) ?_ (aE (ae hh (c8 rfl))) (bi rfl) rfl (by rw[af,ok.w];exact ht) (by rw[af,ok.w];decide)).trans ?_) ?_
 ·unfold mv
  rw[az,iA (d:=[]) (by rw[hrl];exact hh),hue];rfl
 ·rw[nZ];rfl
 have wg:∀{ρ:Ev},ρ[7]?=some (.ow ((ws.set t (some u)).map (je a)))→ρ[12]?=some (.sh (.d (bt t)))→ak (gt es fu (k+5)) (.item (.var 7) (.var 12)) ρ=some (.d (.str (S (wl a u)))):=λh7 h12=>by
  refine lF (Eo h7) (bi h12) ((iE (aE (ae ht (c8 rfl)))).trans ?_)
  rw[az,List.getElem?_set_self (by rw[show ws.length=7 from ok.w];exact ht)];rfl
 have wc:∀{ρ:Ev} {j x:Nat},ρ[7]?=some (.ow ((ws.set t (some u)).map (je a)))→ρ[12]?=some (.sh (.d (bt t)))→ak (gt es fu (k+5)) (.item (.var 3) (.lit (.int (j:Int)))) ρ=some (.d (.str (S [x])))→ak (gt es fu (k+5)) (.bin .Add (.item (.var 7) (.var 12)) (.item (.var 3) (.lit (.int (j:Int))))) ρ=some (.d (.str (S (wl a u++[x])))):=λh7 h12 h3 =>
  dU (wg h7 h12) h3 (by unfold wl;rw[af];simp only[aU,List.length_nil];exact au hu (by decide))
 have ww:∀x:Bool,wl a u++[cond x (a+1) a]=wl a (u++[x]):=λx=>by unfold wl;rw[bM];rfl
 have w0:wl a u++[a]=wl a (u++[false]):=ww false
 have w1:wl a u++[a+1]=wl a (u++[true]):=ww true
 have hb1:(bh.set lo ((bh.getD lo []).set t (u++[false]))).getD t []=bh.getD t []:=by
  rw[aZ,List.getElem?_set_ne hlt,aZ]
 refine bZ (ρ':=fE s0 s1 s2 a spare h ⟨ns',ws.set t (some u),bh.set lo ((bh.getD lo []).set t (u++[false]))⟩ x9 (iv w) (.sh (.d (bt lo))) (.sh (.d (bt t))) (.sh (.d (bt hi))) y14 y15 y16 y17)
  ((xo (xs:=mv a (bh.getD lo [])) (j:=t) (r:=18+lo) (wc (j:=0) rfl rfl (cT (j:=0) (bi rfl) cu (by decide) rfl)) (bi rfl) (oB hl) (bi rfl) (vc (by rw[ok.b];exact hl)) (by rw[l_,hrl];exact ht) (by rw[l_,hrl];decide)).trans ?_) ?_
 ·rw[w0,show(mv a (bh.getD lo [])).set t (.str (S (wl a (u++[false]))))=mv a ((bh.getD lo []).set t (u++[false])) from nZ (f:=λu=>PyData.str (S (wl a u))),Ab]
 refine bZ (ρ':=fE s0 s1 s2 a spare h ⟨ns',ws.set t (some u),(bh.set lo ((bh.getD lo []).set t (u++[false]))).set t ((bh.getD t []).set hi (u++[true]))⟩ x9 (iv w) (.sh (.d (bt lo))) (.sh (.d (bt t))) (.sh (.d (bt hi))) y14 y15 y16 y17)
  ((xo (xs:=mv a (bh.getD t [])) (j:=hi) (r:=18+t) (wc (j:=1) rfl rfl (cT (j:=1) (bi rfl) (bX (n:=1)) (by decide) rfl)) (bi rfl) (oB ht) (bi rfl) ((vc (by rw[List.length_set,ok.b];exact ht)).trans (by rw[hb1])) (by rw[l_,hrt];exact hh) (by rw[l_,hrt];decide)).trans ?_) eK
 rw[w1,show(mv a (bh.getD t [])).set hi (.str (S (wl a (u++[true]))))=mv a ((bh.getD t []).set hi (u++[true])) from nZ (f:=λu=>PyData.str (S (wl a u))),Ab]
end
end M01
end
section
open PySem.StrLaws
namespace M01
noncomputable def uf(s:Nat)(t:List Nat):List Int:=f_ (λa b=>decide (a<b)) (t.map λ(c:Nat)=>((c:Int)-(s:Int)).fmod 7)
noncomputable def BX(o:List Int):List Int:=(o.getD 0 0-o.getD 2 0)::o
noncomputable def Dl(s:Nat)(T:List (List Nat)):List (List Int):=T.map λt=>BX (uf s t)
noncomputable def lE(s:Nat)(T:List (List Nat)):List (List Int):=f_ p9 (Dl s T)
noncomputable def Ep:List (List Int)→Bk→Option Bk
 |[],K=>some K
 |it::r,K=>if it=[it.getD 0 0,((it.getD 1 0).toNat:Int),((it.getD 2 0).toNat:Int),((it.getD 3 0).toNat:Int)]∧Ax K (it.getD 1 0).toNat (it.getD 2 0).toNat (it.getD 3 0).toNat=true then Ep r (l9 K (it.getD 1 0).toNat (it.getD 2 0).toNat (it.getD 3 0).toNat) else none
noncomputable def K0:Bk:=⟨List.replicate 7 0,List.replicate 7 none,List.replicate 7 (List.replicate 7 [])⟩
noncomputable def yr(s:Nat)(T:List (List Nat)):Option Bk:=if(decide (T.length=5)&&T.all (λt=>decide (t.length=3))&&lO (Dl s T)&&decide (Dl s T).Nodup)=true then Ep (lE s T) K0 else none
noncomputable def kJ{α:Type}(s:Nat)(l:List α):List α:=l.drop (7-s)++l.take (7-s)
noncomputable def Fd(m:List Bool→Bool):Nat→Nat→List (List Bool)→Option Nat
 |0,_,_=>none
 |n+1,f,lv=>if(lv.isEmpty||decide (99≤f))=true then some f else
  if(decide (lv.length≤100)&&lv.all (λu=>decide (u.length≤10)))=true then Fd m n (f+(lv.filter m).length) ((lv.filter m).flatMap λu=>[u++[false],u++[true]]) else none
noncomputable def dy(s:Nat)(T:List (List Nat)):List Nat:=((yr s T).map λK=>kJ s K.ns).getD []
noncomputable def qc(s:Nat)(T:List (List Nat)):List (Option (List Bool)):=((yr s T).map λK=>kJ s K.ws).getD []
noncomputable def Bg(n:Nat)(w:Option (List Bool)):Bool:=match w with
 |none=>decide (n=1)
 |some u=>decide (u.length≤10)&&decide (Fd (λv=>v.isSublist u) 10 0 [[]]=some (n-1))&&decide (1<n)
noncomputable def Cf(h a k:Nat):Int:=if(k+7-h) % 7<(a+7-h) % 7 then 1 else -1
noncomputable def JU(h a k x1 x0 y1 y0 z:Nat):Bool:=bif Nat.blt ((k+7-h) % 7) ((a+7-h) % 7) then Nat.beq (x1*y0) (z+x0*y1) else Nat.beq (x1*y0+z) (x0*y1)
noncomputable def Jf(k:Nat→Bool):Nat→Bool
 |0=>k 0
 |n+1=>k (Nat.succ n)
noncomputable def FO(k:List Nat→Bool):List Nat→Bool
 |[]=>k []
 |x::r=>Jf (λx'=>FO (λr'=>k (x'::r')) r) x
noncomputable def wX(k:List (List Nat)→Bool):List (List Nat)→Bool
 |[]=>k []
 |x::r=>FO (λx'=>wX (λr'=>k (x'::r')) r) x
theorem DI(k:Nat→Bool)(n:Nat):Jf k n=k n:=by cases n<;>rfl
theorem Ee(l:List Nat):∀(k:List Nat→Bool),FO k l=k l:=by
 induction l with
 |nil =>
  intro _
  exact rfl
 |cons x r ih =>
  intro k
  exact(DI _ x).trans (ih λr'=>k (x::r'))
theorem t8(l:List (List Nat)):∀(k:List (List Nat)→Bool),wX k l=k l:=by
 induction l with
 |nil =>
  intro _
  exact rfl
 |cons x r ih =>
  intro k
  exact(Ee x _).trans (ih λr'=>k (x::r'))
noncomputable def C6(N:List (List Nat))(s e:Nat):Nat:=(N.getD s []).getD e 0
noncomputable def J6(T:List (List Nat))(N:List (List Nat)):Bool :=
 (List.range 7).all λh=>(yr h T).isSome&&Nat.beq (C6 N h h) 0&&(List.range 7).all λa=>Nat.ble (C6 N h a) 100&&(Nat.beq a h||(Bg (C6 N h a) ((qc h T).getD a none)&&(List.range 7).all λk =>
  JU h a k (C6 N h ((k+1) % 7)) (C6 N h k) (C6 N a ((k+1) % 7)) (C6 N a k) (C6 N h a)))
noncomputable def jF(b:List Nat):Bool:=wX (λT=>wX (λN=>J6 T N) ((List.range 7).map λs=>dy s T)) (Gj b)
theorem Ik:((oo.drop 0).take 3).all jF=true:=by decide +kernel
theorem It:((oo.drop 3).take 3).all jF=true:=by decide +kernel
theorem HX:((oo.drop 6).take 3).all jF=true:=by decide +kernel
theorem Ig:((oo.drop 9).take 3).all jF=true:=by decide +kernel
theorem I5:((oo.drop 12).take 3).all jF=true:=by decide +kernel
theorem IJ:((oo.drop 15).take 3).all jF=true:=by decide +kernel
theorem I_:((oo.drop 18).take 3).all jF=true:=by decide +kernel
theorem IF:((oo.drop 21).take 3).all jF=true:=by decide +kernel
theorem I4:((oo.drop 24).take 3).all jF=true:=by decide +kernel
theorem HZ:((oo.drop 27).take 3).all jF=true:=by decide +kernel
theorem HA:((oo.drop 30).take 3).all jF=true:=by decide +kernel
theorem G4:((oo.drop 33).take 3).all jF=true:=by decide +kernel
theorem GZ:((oo.drop 36).take 3).all jF=true:=by decide +kernel
theorem Hr:((oo.drop 39).take 3).all jF=true:=by decide +kernel
structure K2(T:List (List Nat)):Prop where
 ok:∀h,h<7→∃K,yr h T=some K
 zero:∀h,h<7→(dy h T).getD h 0=0
 le:∀h,h<7→∀a,a<7→(dy h T).getD a 0≤100
 ends:∀h,h<7→∀a,a<7→a≠h→Bg ((dy h T).getD a 0) ((qc h T).getD a none)=true
 side:∀h,h<7→∀a,a<7→a≠h→∀k,k<7→(((dy h T).getD ((k+1) % 7) 0:Nat):Int)*((dy a T).getD k 0:Nat)-((dy h T).getD k 0:Nat)*((dy a T).getD ((k+1) % 7) 0:Nat)=((dy h T).getD a 0:Nat)*Cf h a k
theorem iR{f:Nat→List Nat}{s e:Nat}(h:s<7):C6 ((List.range 7).map f) s e=(f s).getD e 0:=by
 have e:((List.range 7).map f).getD s []=f s:=by rw[aZ,az,bT h];rfl
 unfold C6
 rw[e]
theorem Gi{h a x1 x0 y1 y0 z:Nat}(q:JU h a k x1 x0 y1 y0 z=true):(x1:Int)*(y0:Nat)-(x0:Nat)*(y1:Nat)=(z:Nat)*Cf h a k:=by
 unfold JU at q
 unfold Cf
 by_cases c:(k+7-h) % 7<(a+7-h) % 7
 ·rw[show Nat.blt ((k+7-h) % 7) ((a+7-h) % 7)=true from Nat.blt_eq.mpr c,cond_true] at q
  rw[if_pos c]
  have:=congrArg (λn:Nat=>(n:Int)) (Nat.beq_eq.mp q)
  simp only[dD,Int.natCast_mul] at this
  lia
 ·rw[show Nat.blt ((k+7-h) % 7) ((a+7-h) % 7)=false from Bool.eq_false_iff.mpr λz=>c (Nat.blt_eq.mp z),cond_false] at q
  rw[if_neg c]
  have:=congrArg (λn:Nat=>(n:Int)) (Nat.beq_eq.mp q)
  simp only[dD,Int.natCast_mul] at this
  lia
theorem J0{P:Nat→Prop}(p0:P 0)(p1:P 1)(p2:P 2)(p3:P 3)(p4:P 4)(p5:P 5)(p6:P 6){s:Nat}(h:s<7):P s:=by
 iterate 6 (rcases Nat.lt_or_eq_of_le (bp h) with h | rfl;rotate_left;assumption)
 rw[Nat.lt_one_iff.mp h];exact p0
theorem Du(h:j<14):((oo.drop (3*j)).take 3).all jF=true:=by
 by_cases q:j<7
 ·exact J0 (P:=λj=>((oo.drop (3*j)).take 3).all jF=true) Ik It HX Ig I5 IJ I_ q
 ·have:=J0 (P:=λj=>((oo.drop (3*(j+7))).take 3).all jF=true) IF I4 HZ HA G4 GZ Hr (s:=j-7) (Nat.sub_lt_left_of_lt_add (be q) h)
  rwa [Nat.sub_add_cancel (be q)] at this
theorem FU{b:List Nat}(hb:b∈oo):jF b=true:=by
 obtain⟨i,hi,e⟩:=List.getElem_of_mem hb
 refine ap.mp (Du (j:=i / 3) (Nat.div_lt_of_lt_mul hi)) b (aW (i:=i % 3) ?_)
 rw[List.getElem?_take_of_lt (Nat.mod_lt _ (by decide)),List.getElem?_drop,Nat.div_add_mod,aQ hi,e]
theorem Hp{b:List Nat}(hb:b∈oo):K2 (Gj b):=by
 have h:=FU hb
 unfold jF at h
 rw[t8,t8] at h
 generalize Gj b=T at h ⊢
 have h1:∀h,h<7→_:=λs hs=>ap.mp h s (bS.mpr hs)
 simp only[ag] at h1
 have h2:∀h,h<7→∀a,a<7→_:=λs hs a ha=>ap.mp (h1 s hs).2 a (bS.mpr ha)
 simp only[ag,Bool.or_eq_true] at h2
 have h3:∀h,h<7→∀a,a<7→a≠h→_:=λs hs a ha hne=>(h2 s hs a ha).2.resolve_left λq=>hne (Nat.beq_eq.mp q)
 refine⟨λs hs=>Option.isSome_iff_exists.mp (h1 s hs).1.1,λs hs=>?_,λs hs a ha=>?_,λs hs a ha hne=>?_,λs hs a ha hne k hk=>?_⟩
 ·have:=Nat.beq_eq.mp (h1 s hs).1.2
  rwa [iR hs] at this
 ·have:=Nat.ble_eq.mp (h2 s hs a ha).1
  rwa [iR hs] at this
 ·have:=(h3 s hs a ha hne).1
  rwa [iR hs] at this
 ·have:=Gi (ap.mp (h3 s hs a ha hne).2 k (bS.mpr hk))
  rwa [iR hs,iR hs,iR ha,iR ha,iR hs] at this
end M01
end
section
open PySem.StrLaws
theorem B9{lt:α→α→Bool}{x:α}(l:List α):(wj lt x l).length=l.length+1:=by
 induction l with
 |nil =>
  exact rfl
 |cons y r ih =>
  rw[vw]
  split
  ·rfl
  ·simp only[aU,ih,aU]
theorem oI{lt:α→α→Bool}(l:List α):(f_ lt l).length=l.length:=by
 induction l with
 |nil =>
  exact rfl
 |cons x r ih =>
  exact(B9 _).trans (congrArg Nat.succ (ih))
theorem A0(ls:List (List Int)):oX (ls.map λl=>.list (l.map .int))=some ls:=by
 induction ls with
 |nil =>
  exact rfl
 |cons l r ih =>
  exact bc (f:=λl=>(gA l).bind λns=>(oX _).map (ns::·)) rfl (bc (iS l) (by rw[ih];rfl))
theorem yH{ns:List Int}(h:ns.length<64):gQ .sorted [.d (.list (ns.map .int))]=some (.d (.list ((f_ (λa b=>decide (a<b)) ns).map .int))):=by
 show(if decide ((ns.map PyData.int).length<64)=true then(ro (ns.map .int)).or (og (ns.map .int)) else none)=_
 rw[af,aO h,if_pos rfl,ro,iS];rfl
theorem vD(h:ls.length<64)(h2:2≤ls.length)(h3:lO ls=true)(h4:ls.Nodup):gQ .sorted [.d (.list (ls.map λl=>.list (l.map .int)))]=some (.d (.list ((f_ p9 ls).map λl=>.list (l.map .int)))):=by
 show(if decide ((ls.map λl=>PyData.list (l.map .int)).length<64)=true then(ro (ls.map λl=>.list (l.map .int))).or (og (ls.map λl=>.list (l.map .int))) else none)=_
 have e:ro (ls.map λl=>.list (l.map .int))=none:=by
  cases ls with
  |nil=>exact absurd h2 (by decide)
  |cons l r=>rfl
 simp only[af,aO h,if_pos rfl,e,Option.none_or,og,A0,bB,aO h2,h3,aO h4];rfl
section
variable{a i j:CE}{m:Nat}
theorem q9(h:ak Φ a ρ=some (.o xs))(h2:ak Φ j ρ=some (.d (bt n)))(hl:xs.length≤1048576):ak Φ (.slice a none (some j) none) ρ=some (.d (.list (xs.take n))):=by
 simp only[iC,h,f5 h2,hV];exact rq hl
theorem mZ(h:ak Φ a ρ=some (.o xs))(h1:ak Φ i ρ=some (.d (bt m)))(hl:xs.length≤1048576)(hm:m≤xs.length):ak Φ (.slice a (some i) none none) ρ=some (.d (.list (xs.drop m))):=by
 simp only[iC,h,f5 h1,hV];exact mX hl hm
end
namespace M01
theorem A8:∀s,s<7→∀j,j<7→(j<s→7-s+j=(j+7-s) % 7∧j<7-(7-s))∧(¬j<s→7-(7-s)≤j∧j-(7-(7-s))<7-s∧j-(7-(7-s))=(j+7-s) % 7)∧(s+(j+7-s) % 7) % 7=j:=by decide
theorem um{l:List α}{s j:Nat}(hl:l.length=7)(hs:s<7)(hj:j<7):(kJ s l)[j]?=l[(j+7-s) % 7]?:=by
 have h:=A8 s hs j hj
 unfold kJ
 by_cases q:j<s
 ·rw[a_ (by rw[aY,hl];exact(h.1 q).2),List.getElem?_drop,(h.1 q).1]
 ·rw[aM (by rw[aY,hl];exact(h.2.1 q).1),aY,hl,List.getElem?_take_of_lt (h.2.1 q).2.1,(h.2.1 q).2.2]
theorem tC{l:List α}{s:Nat}(hl:l.length=7):(kJ s l).length=7:=by
 unfold kJ;rw[aG,aY,bx,hl,Nat.min_eq_left (cO _ _),Nat.sub_add_cancel (cO _ _)]
theorem Az{f:α→β}{l:List α}{s:Nat}:kJ s (l.map f)=(kJ s l).map f:=by
 unfold kJ;simp only[bM,List.map_drop,List.map_take]
theorem C9{w:Nat→Int}{ns:List Nat}{s:Nat}(hn:ns.length=7)(hs:s<7):kJ s (jS (λj=>w ((s+j) % 7)) ns)=(List.range 7).map λj=>.int (w s*w j*((kJ s ns).getD j 0:Nat)):=by
 refine List.ext_getElem? λi=>?_
 by_cases q:i<7
 ·rw[um hW hs q,wV (Nat.mod_lt _ (by decide)),az,bT q,Option.map_some]
  rw[aZ (l:=kJ s ns),um hn hs q,←aZ]
  show some (PyData.int (w ((s+0) % 7)*w ((s+(i+7-s) % 7) % 7)*_))=_
  rw[show(s+0) % 7=s from Nat.mod_eq_of_lt hs,(A8 s hs i q).2.2]
 ·rw[List.getElem?_eq_none (by rw[tC hW];exact be q),List.getElem?_eq_none (by rw[af,cy];exact be q)]
theorem yE{w:Nat→Int}{s:Nat}(hs:s<7):((List.range 7).map λj=>PyData.int (w j)).drop s++((List.range 7).map λj=>PyData.int (w j)).take s=(List.range 7).map λj=>.int (w ((s+j) % 7)):=by
 exact J0 (P:=λs=>((List.range 7).map λj=>PyData.int (w j)).drop s++((List.range 7).map λj=>PyData.int (w j)).take s=(List.range 7).map λj=>.int (w ((s+j) % 7))) rfl rfl rfl rfl rfl rfl rfl hs
section
variable{es:List lj}(H:Std es){s0 s1 s2 x9:Slot}{a spare:Nat}{h:Nat→Int}
include H
theorem xN(hB:∀j,Le 81 (h j))(hN:∀j,h j≠0){K':Bk}(its:List (List Int)):∀(K:Bk) (x10 x11 x12 x13 x14 x15 x16 x17:Slot),yI K→Ep its K=some K'→yI K'∧∃y10 y11 y12 y13 y14 y15 y16 y17,
  loopF (jd [10,11,12,13]) (λρ=>cexs (gt es fu (k+5)) fu oU ρ) (its.map λl=>.list (l.map .int)) (fE s0 s1 s2 a spare h K x9 x10 x11 x12 x13 x14 x15 x16 x17)=some (fE s0 s1 s2 a spare h K' x9 y10 y11 y12 y13 y14 y15 y16 y17,.nx):=by
 induction its with
 |nil =>
  intro K x10 x11 x12 x13 x14 x15 x16 x17 ok e
  have e:some K=some K':=e
  obtain rfl:=am e
  exact⟨ok,x10,x11,x12,x13,x14,x15,x16,x17,rfl⟩
 |cons it r ih =>
  intro K x10 x11 x12 x13 x14 x15 x16 x17 ok e
  replace e:(if it=[it.getD 0 0,((it.getD 1 0).toNat:Int),((it.getD 2 0).toNat:Int),((it.getD 3 0).toNat:Int)]∧Ax K (it.getD 1 0).toNat (it.getD 2 0).toNat (it.getD 3 0).toNat=true then Ep r (l9 K (it.getD 1 0).toNat (it.getD 2 0).toNat (it.getD 3 0).toNat) else none)=some K':=e
  refine aa λhQ=>?_
  obtain⟨⟨e1,e2⟩,e3⟩:=dn e
  (refine hQ ?_;clear hQ)
  clear e
  generalize it.getD 0 0=w at e1
  generalize (it.getD 1 0).toNat=lo at e1 e2 e3
  generalize (it.getD 2 0).toNat=t at e1 e2 e3
  generalize (it.getD 3 0).toNat=hi at e1 e2 e3
  have hc:=e2
  unfold Ax at hc
  simp only[ag,ar] at hc
  refine aa λhQ=>?_
  obtain⟨⟨⟨⟨⟨hl,ht⟩,hh⟩,_⟩,_⟩,_⟩:=hc
  obtain⟨ns,ws,bh⟩:=K
  have e0:jd [10,11,12,13] (.list (it.map .int)) (fE s0 s1 s2 a spare h ⟨ns,ws,bh⟩ x9 x10 x11 x12 x13 x14 x15 x16 x17)=some (fE s0 s1 s2 a spare h ⟨ns,ws,bh⟩ x9 (iv w) (.sh (.d (bt lo))) (.sh (.d (bt t))) (.sh (.d (bt hi))) x14 x15 x16 x17):=by
   simp only[e1];rfl
  have e4:∃y14 y15 y16 y17,cexs (gt es fu (k+5)) fu oU (fE s0 s1 s2 a spare h ⟨ns,ws,bh⟩ x9 (iv w) (.sh (.d (bt lo))) (.sh (.d (bt t))) (.sh (.d (bt hi))) x14 x15 x16 x17)=some (fE s0 s1 s2 a spare h (l9 ⟨ns,ws,bh⟩ lo t hi) x9 (iv w) (.sh (.d (bt lo))) (.sh (.d (bt t))) (.sh (.d (bt hi))) y14 y15 y16 y17,.nx):=by
   by_cases q:lo=0
   ·rw[q];exact⟨x14,x15,x16,x17,xS hB ok ht hh⟩
   ·exact Bj H hB hN ok e2 q
  obtain⟨y14,y15,y16,y17,e4⟩:=e4
  obtain⟨ok',z10,z11,z12,z13,z14,z15,z16,z17,e5⟩:=ih (l9 ⟨ns,ws,bh⟩ lo t hi) (iv w) (.sh (.d (bt lo))) (.sh (.d (bt t))) (.sh (.d (bt hi))) y14 y15 y16 y17 (Cu (hi:=hi) ok hl ht) e3
  (refine hQ ?_;clear hQ)
  exact⟨ok',z10,z11,z12,z13,z14,z15,z16,z17,bc e0 (bc e4 e5)⟩
theorem Ah{s:Nat}{w:Nat→Int}(hs:s<7)(hK:∃K,yr s T=some K)(hB:∀j,Le 81 (w j))(hN:∀j,w j≠0):(qc s T).length=7 ∧
  runF (gt es fu (k+5)) fu ⟨5,25,qL⟩ [.d (bt s),.d (.list (gR T)),.d (.list ((List.range 7).map λj=>.int (w j))),.d (.list [.str (S [a]),.str (S [a+1])]),.d (bt spare)] =
   some (.d (.tuple [.list ((List.range 7).map λj=>.int (w s*w j*((dy s T).getD j 0:Nat))),.list ((qc s T).map (je a))])):=by
 refine aa λhQ=>?_
 obtain⟨K,hK⟩:=hK
 have hns:dy s T=kJ s K.ns:=by unfold dy;rw[hK];rfl
 have hws:qc s T=kJ s K.ws:=by unfold qc;rw[hK];rfl
 obtain⟨hc,hr⟩:=dn hK
 simp only[ag,ar] at hc
 obtain⟨⟨⟨hl5,hl3⟩,hsl⟩,hnd⟩:=hc
 (refine hQ ?_;clear hQ)
 simp only[hns,hws]
 clear hK hns hws
 refine aa λhQ=>?_
 obtain⟨h,hh⟩:∃h:Nat→Int,h=λj=>w ((s+j) % 7):=⟨_,rfl⟩
 have hB':∀j,Le 81 (h j):=λj=>by rw[hh];exact hB _
 have hN':∀j,h j≠0:=λj=>by rw[hh];exact hN _
 obtain⟨TU,hTU⟩:∃TU,TU=PyData.list ((T.map (uf s)).map λo=>.list (o.map .int)):=⟨_,rfl⟩
 obtain⟨ok,y10,y11,y12,y13,y14,y15,y16,y17,eL⟩:=xN H (fu:=fu) (k:=k) (s0:=.sh (.d (bt s))) (s1:=cZ (gR T)) (s2:=cZ ((List.range 7).map λj=>.int (w j))) (x9:=.sh (.d TU)) (a:=a) (spare:=spare) hB' hN' (lE s T) K0 .un .un .un .un .un .un .un .un
  ⟨rfl,rfl,rfl,λr hr=>by rw[List.eq_of_mem_replicate hr];rfl⟩ hr
 (refine hQ ?_;clear hQ)
 refine⟨tC ok.w,?_⟩
 refine runF_rt (ρ':=fE (.sh (.d (bt s))) (cZ (gR T)) (cZ ((List.range 7).map λj=>.int (w j))) a spare h K (.sh (.d TU)) y10 y11 y12 y13 y14 y15 y16 y17) rfl ?_
 show cexs _ fu qL [.sh (.d (bt s)),cZ (gR T),cZ ((List.range 7).map λj=>.int (w j)),cZ [.str (S [a]),.str (S [a+1])],.sh (.d (bt spare)),.un,.un,.un,.un,.un,.un,.un,.un,.un,.un,.un,.un,.un,.un,.un,.un,.un,.un,.un,.un]=_
 have hwl:((List.range 7).map λj=>PyData.int (w j)).length=7:=by simp only[af,cy]
 unfold qL
 refine bN (v:=.d (.list ((List.range 7).map λj=>.int (h j)))) ?_ rfl ?_
 ·refine(ib (ks (m:=s) (bi rfl) (bi rfl) (by rw[hwl];decide) (by simp only[hwl];exact aE hs)) (kz (n:=s) (bi rfl) (bi rfl) (by rw[hwl];decide)) (by simp only[aY,bx];lia)).trans ?_
  rw[yE hs,hh]
 have hf0:jS h K0.ns=List.replicate 7 (.int 0):=by
  unfold jS K0
  refine List.ext_getElem? λi=>?_
  rw[az]
  by_cases q:i<7
  ·rw[bT q,List.getElem?_replicate_of_lt q,Option.map_some,aZ,List.getElem?_replicate_of_lt q]
   exact congrArg (λz=>some (PyData.int z)) (Int.mul_zero _)
  ·rw[List.getElem?_eq_none (by rw[cy];exact be q),List.getElem?_eq_none (by rw[List.length_replicate];exact be q)];rfl
 refine bZ (ot (xs:=List.replicate 7 (.int 0)) rfl) ?_
 refine bZ (ot (xs:=List.replicate 7 .none) rfl) ?_
 refine bZ (ρ':=fE (.sh (.d (bt s))) (cZ (gR T)) (cZ ((List.range 7).map λj=>.int (w j))) a spare h K0 .un .un .un .un .un .un .un .un .un) ?_ ?_
 ·unfold fE;rw[hf0];rfl
 have hρ:∀{x9:Slot},(fE (.sh (.d (bt s))) (cZ (gR T)) (cZ ((List.range 7).map λj=>.int (w j))) a spare h K0 x9 .un .un .un .un .un .un .un .un).length=25:=Be rfl
 have hTl:∀t∈T,t.length=3:=λt ht=>of_decide_eq_true (ap.mp hl3 t ht)
 have hrl:∀t∈T,(uf s t).length=3:=λt ht=>by unfold uf;simp only[oI,af];exact hTl t ht
 refine bN (v:=.d TU) ?_ rfl ?_
 ·rw[hTU,List.map_map]
  refine ev_comp (g:=λt=>.list (t.map bt)) (h:=λt=>.list ((uf s t).map .int)) (xs:=T) (bi rfl) (eB (by unfold gR;rw[af];exact ab (aw hl5) (c8 rfl))) λt ht=>?_
  refine(fK (ev_comp (g:=bt) (h:=λc=>.int (((c:Int)-(s:Int)).fmod 7)) (xs:=t) (bi ?_) (eB (by rw[af,hTl t ht];decide)) λc _=>?_)).trans ?_
  ·rw[aM (by rw[hρ];exact aF _),hρ];rfl
  ·refine(dh ((dh (bi ?_) (bi rfl)).trans (jC _ _)) cu).trans (pF (by decide) (fw (by decide)))
   rw[aM (by rw[aG,hρ];exact aF _),aG,hρ];rfl
  ·have:=yH (ns:=t.map λ(c:Nat)=>((c:Int)-(s:Int)).fmod 7) (by simp only[af,hTl t ht];decide)
   rw[List.map_map] at this
   exact this
 refine bZ (ρ':=fE (.sh (.d (bt s))) (cZ (gR T)) (cZ ((List.range 7).map λj=>.int (w j))) a spare h K (.sh (.d TU)) y10 y11 y12 y13 y14 y15 y16 y17) ((zW (b:=oU) (xs:=(lE s T).map λl=>PyData.list (l.map PyData.int)) (v:=.d (.list ((lE s T).map λl=>PyData.list (l.map PyData.int)))) ?_ (eB ?_)).trans eL) ?_
 ·have ec:ak (gt es fu (k+5)) (.comp 0 (.bin .Add (.list [(.bin .Sub (.item (.var 25) (.lit (.int (0)))) (.item (.var 25) (.lit (.int (2)))))]) (.var 25)) (.var 9) []) (fE (.sh (.d (bt s))) (cZ (gR T)) (cZ ((List.range 7).map λj=>.int (w j))) a spare h K0 (.sh (.d TU)) .un .un .un .un .un .un .un .un)=some (.d (.list ((Dl s T).map λl=>.list (l.map .int)))):=by
   have e:(Dl s T).map (λl=>PyData.list (l.map .int))=(T.map (uf s)).map λo=>.list ((BX o).map .int):=by
    unfold Dl;simp only[List.map_map,List.map_map];rfl
   rw[e]
   refine ev_comp (g:=λo=>.list (o.map .int)) (h:=λo=>.list ((BX o).map .int)) (xs:=T.map (uf s)) (v:=.d TU) (bi rfl) ?_ λo ho=>?_
   ·rw[hTU];exact eB (by rw[af,af];exact ab (aw hl5) (c8 rfl))
   obtain⟨t,ht,rfl⟩:=List.mem_map.mp ho
   have h3:=hrl t ht
   generalize uf s t=o at h3
   have hv:(fE (.sh (.d (bt s))) (cZ (gR T)) (cZ ((List.range 7).map λj=>.int (w j))) a spare h K0 (.sh (.d TU)) .un .un .un .un .un .un .un .un++[.sh (.d (.list (o.map .int)))])[25]?=some (.sh (.d (.list (o.map .int)))):=by
    rw[aM (by rw[hρ];exact aF _),hρ];rfl
   have hg:∀{i:Nat},i<3→(o.map PyData.int)[i]?=some (.int (o.getD i 0)):=λhi=>by
    rw[az,iA (d:=0) (by exact Nat.lt_of_lt_of_eq hi h3.symm)];rfl
   exact ib (x:=[.int (o.getD 0 0-o.getD 2 0)]) (eh (bg ((dh (cT (j:=0) (bi hv) cu (by decide) (hg (by decide))) (cT (j:=2) (bi hv) (bX (n:=2)) (by decide) (hg (by decide)))).trans (jC _ _)) de) (show 1≤1048576 by decide)) (bi hv) (by rw[af,h3];exact(show 1+3≤1048576 by decide))
  have hll:(Dl s T).length=5:=by unfold Dl;rw[af,hl5]
  exact(fK ec).trans (vD (au (aw hll) (c8 rfl)) (ab (ao 2 3) (aw (Eq.symm hll))) hsl hnd)
 ·rw[af];unfold lE Dl;rw[oI,af];exact ab (aw hl5) (c8 rfl)
 have hf:jS h K.ns=jS (λj=>w ((s+j) % 7)) K.ns:=by rw[hh]
 have e7:∀{ρ:Ev},ρ[0]?=some (.sh (.d (bt s)))→ak (gt es fu (k+5)) (.bin .Sub (.lit (.int (7))) (.var 0)) ρ=some (.d (bt (7-s))):=λh0=>xi (bX (n:=7)) (bi h0) (by exact aE hs)
 refine eM (v:=.d (.tuple [.list (kJ s (jS h K.ns)),.list (kJ s (K.ws.map (je a)))])) ?_ rfl |>.trans ?_
 ·refine iV (bg (ib (mZ (m:=7-s) (Eo rfl) (e7 rfl) ?_ ?_) (q9 (n:=7-s) (Eo rfl) (e7 rfl) ?_) ?_) (bg (ib (mZ (m:=7-s) (Eo rfl) (e7 rfl) ?_ ?_) (q9 (n:=7-s) (Eo rfl) (e7 rfl) ?_) ?_) de)) (show 2≤1048576 by decide)
  all_goals simp only[aY,bx,hW,af,ok.w]
  all_goals (clear e7 hf hrl hTl hρ hf0 hwl eL ok hTU hN' hB' hh hl3 hl5 hsl hnd hr hN hB hs H;omega)
 ·simp only[hf,C9 ok.n hs,Az]
end
end M01
end
section
open PySem.StrLaws
theorem j7:∀(ws l:List Nat),cp (ws.map λc=>[c]) l=ws.isSublist l
 |[],l=>by cases l<;>rfl
 |w::ws,[]=>by
  rw[bj,c9]
  ·rfl
  ·rfl
 |w::ws,c::l=>by
  rw[bj]
  by_cases h:w=c
  ·subst h
   rw[dx (i:=0) (by rw[pK,if_pos (by simp[List.isPrefixOf])])]
   show cp _ l=_
   rw[j7 ws l,List.isSublist];simp
  ·have e:cp ([w]::ws.map λc=>[c]) (c::l)=cp ([w]::ws.map λc=>[c]) l:=by
    have hi:jM [w] (c::l)=(jM [w] l).map (·+1):=by
     rw[pK,if_neg (by simp[List.isPrefixOf,h])]
    cases q:jM [w] l with
    |none=>rw[c9 q,c9 (by rw[hi,q];rfl)]
    |some i=>rw[dx q,dx (i:=i+1) (by rw[hi,q];rfl)];simp
   rw[e]
   have ih:=j7 (w::ws) l
   rw[bj] at ih
   rw[ih]
   conv=>rhs;rw[List.isSublist]
   simp[h]
theorem lP{p0 m:List Nat}:iW p0 ws pl (p0++m++pl)=cp ws m:=by
 have h1:p0.isPrefixOf (p0++m++pl)=true:=b8.mpr (by rw[bu];exact List.prefix_append _ _)
 have h2:pl.isSuffixOf (p0++m++pl)=true:=List.isSuffixOf_iff_suffix.mpr (List.suffix_append _ _)
 have h3:p0.length+pl.length≤(p0++m++pl).length:=by simp<;>lia
 unfold iW
 rw[h1,h2,aO h3]
 have e:(p0++m++pl).length-pl.length=(p0++m).length:=by simp<;>lia
 rw[e,List.take_left' rfl,List.drop_left' rfl]
 simp
theorem Bm{R:List (List Nat)}(h1:R.length≤1048576)(h2:R.length*sep.length+R.flatten.length≤1048576):iw .join (.d (.str (S sep))) [.d (.list (R.map λp=>.str (S p)))]=some (.d (.str (S (d_ sep R)))):=by
 show(iZ _).bind _=_
 rw[tH,bB,af,cM h1,xD,gv,cM h2,A9]
 rfl
theorem Cr{a:CE}{R:List (List Nat)}(h:ak Φ a ρ=some (.d (.list (R.map λp=>.str (S p)))))(h1:R.length≤1048576)(h2:R.length*sep.length+R.flatten.length≤1048576):ak Φ (.meth .join (.lit (.str (S sep))) [a]) ρ=some (.d (.str (S (d_ sep R)))):=by
 rw[eQ (x:=.d (.str (S sep))) (rfl) h];exact Bm h1 h2
theorem ym{w:List Nat}(h:w.isPrefixOf l=true):jM w l=some 0:=by
 cases l with
 |nil=>rw[w5,if_pos h]
 |cons c r=>rw[pK,if_pos h]
theorem oL{w r:List Nat}{c:Nat}(h:w.isPrefixOf (c::r)=false):jM w (c::r)=(jM w r).map (·+1):=by
 rw[pK,if_neg (by rw[h];decide)]
theorem ia{w t:List Nat}{r:List (List Nat)}:cp (w::r) (w++t)=cp r t:=by
 rw[dx (i:=0) (ym (b8.mpr (List.prefix_append _ _))),Nat.zero_add,List.drop_left' rfl]
theorem dS{w:List Nat}{r:List (List Nat)}{c:Nat}(h:w.isPrefixOf (c::l)=false):cp (w::r) (c::l)=cp (w::r) l:=by
 have hi:=oL h
 cases q:jM w l with
 |none=>rw[c9 q,c9 (by rw[hi,q];rfl)]
 |some i =>
  rw[dx q,dx (i:=i+1) (by rw[hi,q];rfl),show i+1+w.length=(i+w.length)+1 by exact Nat.add_right_comm _ _ _];rfl
theorem DK{c d:Nat}:[c].isPrefixOf (d::l)=(c==d):=by simp[List.isPrefixOf]
theorem j6{w p t:List Nat}:cp [w] (p++w++t)=true:=by
 cases q:jM w (p++w++t) with
 |none =>
  exact absurd (by rw[bu,List.drop_left' rfl];exact List.prefix_append _ _) (pM q p.length (by simp))
 |some i=>rw[dx q];rfl
theorem C7{c d e:Nat}(h:c≠e):[c,d].isPrefixOf (e::l)=false:=by
 rw[List.isPrefixOf];simp[h]
theorem xc{x:Nat}{ws:List Nat}:x∉ws→cp (ws.map (λc=>[c])++[[i,x]]) [x]=false:=by
 induction ws with
 |nil =>
  intro _
  show cp [[i,x]] [x]=false
  refine c9 ?_
  rw[oL (by simp[List.isPrefixOf])];rfl
 |cons c ws _ =>
  intro h
  refine c9 ?_
  rw[oL (by rw[DK];exact b7.mpr λe=>h (by rw[e];exact al))];rfl
theorem o8{i x:Nat}:∀(l ws:List Nat),x∉ws→x∉l→cp (ws.map (λc=>[c])++[[i,x]]) (l++[i,x])=ws.isSublist l
 |l,[],_,_=>by
  have:=j6 (w:=[i,x]) (p:=l) (t:=[])
  rw[bE] at this
  rw[show List.isSublist [] l=true by cases l<;>rfl];exact this
 |[],c::ws,h,_=>by
  have hc:c≠x:=λe=>h (by rw[e];exact al)
  have hw:x∉ws:=λe=>h (aj _ e)
  show cp ([c]::(ws.map (λc=>[c])++[[i,x]])) ([]++[i,x])=false
  by_cases q:c=i
  ·subst q;exact(ia (w:=[c]) (t:=[x])).trans (xc hw)
  ·rw[c4,dS (by rw[DK];exact b7.mpr q),dS (by rw[DK];exact b7.mpr hc)];exact c9 rfl
 |d::l,c::ws,h,hl=>by
  have hw:x∉ws:=λe=>h (aj _ e)
  have hl2:x∉l:=λe=>hl (aj _ e)
  show cp ([c]::(ws.map (λc=>[c])++[[i,x]])) (d::(l++[i,x]))=_
  by_cases q:c=d
  ·subst q
   rw[show List.isSublist (c::ws) (c::l)=ws.isSublist l by rw[List.isSublist];simp,←o8 l ws hw hl2]
   exact ia (w:=[c]) (t:=l++[i,x])
  ·rw[dS (by rw[DK];exact b7.mpr q),show List.isSublist (c::ws) (d::l)=(c::ws).isSublist l by rw[List.isSublist];simp[q]]
   exact o8 l (c::ws) h hl2
theorem ri{sep:List Nat}:∀{X:List (List Nat)},X≠[]→d_ sep (X++[[]])=d_ sep X++sep
 |[],h=>absurd rfl h
 |[x],_=>by show x++sep++[]=x++sep;rw[bE]
 |x::y::r,_=>by
  have:=ri (sep:=sep) (X:=y::r) (by simp)
  rw[List.cons_append,jo (by simp),this,jo (x:=x) (r:=y::r) (by simp)];simp
theorem qt{X:List (List Nat)}(h:X≠[]):d_ sep ([]::(X++[[]]))=sep++d_ sep X++sep:=by
 rw[jo (by simp),ri h];simp
theorem t_{sep:List Nat}:∀X:List (List Nat),(d_ sep X).length≤X.length*sep.length+X.flatten.length
 |[]=>bo _
 |[x]=>by show x.length≤1*sep.length+(x++[]).length;rw[bE];exact ao _ _
 |x::y::r=>by
  have:=t_ (sep:=sep) (y::r)
  rw[jo (by simp),aG,aG,List.flatten_cons,aG,aU (as:=y::r),Nat.add_mul]
  lia
namespace M01
theorem kT{a:Nat}{u:List Bool}:(wl a u).length=u.length:=af _
theorem oJ{a c:Nat}{u:List Bool}(h:c∈wl a u):c=a∨c=a+1:=by
 obtain⟨x,_,rfl⟩:=List.mem_map.mp h
 cases x
 ·exact .inl rfl
 ·exact .inr rfl
theorem sE{a:Nat}:∀(u w:List Bool),(wl a u).isSublist (wl a w)=u.isSublist w
 |[],w=>by cases w<;>rfl
 |_::_,[]=>rfl
 |x::u,y::w=>by
  show(cond x (a+1) a::wl a u).isSublist (cond y (a+1) a::wl a w)=_
  rw[List.isSublist,List.isSublist,sE u w,show(cond x (a+1) a::wl a u)=wl a (x::u) from rfl,sE (x::u) w]
  have e:(cond x (a+1) a==cond y (a+1) a)=(x==y):=by
   cases x<;>cases y<;>simp
  rw[e]
structure AO(a A i B:Nat):Prop where
 a1:97≤a
 a2:a≤60000
 A1:65≤A∧A≤71
 B1:65≤B∧B≤71
 ne:A≠B
 i1:i<65∨71<i
 i2:i≠46
 i3:i<100000
section
variable{a A B:Nat}(L:AO a A i B)
include L
theorem AO.notB{u:List Bool}:B∉wl a u:=λh=>by
 have:=L.a1;have:=L.B1
 rcases oJ h with e | e<;>lia
theorem AO.notA{u:List Bool}:A∉wl a u:=λh=>by
 have:=L.a1;have:=L.A1
 rcases oJ h with e | e<;>lia
theorem AO.dot1{u:List Bool}:46∉wl a u:=λh=>by
 have:=L.a1
 rcases oJ h with e | e<;>lia
theorem AO.dotH:46∉[A,i]:=λh=>by
 have:=L.A1;have:=L.i2
 simp only[ah,List.not_mem_nil,or_false] at h
 rcases h with h | h<;>lia
theorem AO.dotT:46∉[i,B]:=λh=>by
 have:=L.B1;have:=L.i2
 simp only[ah,List.not_mem_nil,or_false] at h
 rcases h with h | h<;>lia
end
noncomputable def fW(A i B:Nat)(l:List Nat):List (List Nat):=[A,i]::(l.map (λc=>[c])++[[i,B]])
noncomputable def lQ(r:Nat):List Nat:=if r=0 then[] else dJ
noncomputable def nc(r A i B:Nat)(l:List Nat):List Nat:=lQ r++d_ dJ (fW A i B l)++lQ r
noncomputable def dr(a A i B:Nat):Option (List Bool)→List Nat
 |none=>[A,i,B]
 |some w=>[A,i]++wl a w++[i,B]
noncomputable def wC(w:Option (List Bool))(u:List Bool):Bool:=match w with
 |none=>false
 |some w=>u.isSublist w
theorem yh{a A B:Nat}(L:AO a A i B){u:List Bool}:∀p∈fW A i B (wl a u),46∉p:=λp hp=>by
 rcases ah.mp hp with rfl | hp
 ·exact L.dotH
 ·rcases aP.mp hp with hp | hp
  ·obtain⟨c,hc,rfl⟩:=List.mem_map.mp hp
   exact λe=>L.dot1 (u:=u) (by rw[aq.mp e];exact hc)
  ·rw[aq.mp hp];exact L.dotT
theorem Ck(t:List Nat):(t.map λc=>[c]).flatten=t:=by
 induction t with
 |nil =>
  exact rfl
 |cons c r ih =>
  rw[bj,List.flatten_cons,ih];rfl
theorem mH{A B:Nat}:(fW A i B l).length=l.length+2∧(fW A i B l).flatten.length=l.length+4:=by
 unfold fW
 rw[List.flatten_cons,List.flatten_append,Ck]
 constructor<;>simp
theorem uG{A B:Nat}:(d_ dJ (fW A i B l)).length≤4*l.length+10:=by
 have:=t_ (sep:=dJ) (fW A i B l)
 rw[mH.1,mH.2,show dJ.length=3 from rfl] at this
 lia
section
variable{es:List lj}(H:Std es){a A B r:Nat}(L:AO a A i B)
include H L
theorem yZ{u:List Bool}{w:Option (List Bool)}(hu:u.length≤100)(hw:∀x,w=some x→x.length≤100):gt es fu (k+1) 0 [.d (.str (S (nc r A i B (wl a u)))),.d (.str (S (dr a A i B w)))]=some (.d (.bool (wC w u))):=by
 have hl:=uG (A:=A) (i:=i) (B:=B) (l:=wl a u)
 rw[kT] at hl
 have hx:=yh L (u:=u)
 have ht:(dr a A i B w).length≤200:=by
  cases w with
  |none=>exact(show 3≤200 by decide)
  |some x =>
   have:=hw x rfl
   unfold dr
   rw[aG,aG,kT]
   simp only[aU,List.length_nil];exact bd (c8 rfl)   (bz (c8 rfl)     (ab this (c8 rfl)))
 by_cases q:r=0
 ·have e:nc r A i B (wl a u)=d_ dJ ([A,i]::((wl a u).map (λc=>[c])++[[i,B]])):=by
   unfold nc lQ;rw[if_pos q,c4,bE];rfl
  rw[e,jJ H (by exact ab ht (ao _ _)) (by unfold fW at hl;lia) hx]
  cases w with
  |none=>rw[Au (p0:=[A,i]) (pl:=[i,B]) (g:=dr a A i B none) (show¬(2+2≤3) by decide)];rfl
  |some x =>
   show some (V.d (.bool (iW [A,i] _ [i,B] ([A,i]++wl a x++[i,B]))))=_
   rw[lP,j7,sE];rfl
 ·have e:nc r A i B (wl a u)=d_ dJ ([]::(fW A i B (wl a u)++[[]])):=by
   rw[qt (by unfold fW;simp)]
   unfold nc lQ;rw[if_neg q]
  have hx2:∀p∈[]::(fW A i B (wl a u)++[[]]),46∉p:=λp hp=>by
   rcases ah.mp hp with rfl | hp
   ·exact List.not_mem_nil
   ·rcases aP.mp hp with hp | hp
    ·exact hx p hp
    ·rw[aq.mp hp];exact List.not_mem_nil
  rw[e,jJ H (by exact ab ht (ao _ _)) ?_ hx2]
  ·have e2:iW [] (fW A i B (wl a u)) [] (dr a A i B w)=cp (fW A i B (wl a u)) (dr a A i B w):=by
    have:=lP (p0:=[]) (pl:=[]) (m:=dr a A i B w) (ws:=fW A i B (wl a u))
    rw[c4,bE] at this
    exact this
   rw[e2]
   unfold fW
   cases w with
   |none =>
    show some (V.d (.bool (cp ([A,i]::_) ([A,i]++[B]))))=_
    rw[ia,xc L.notB];rfl
   |some x =>
    show some (V.d (.bool (cp ([A,i]::_) ([A,i]++wl a x++[i,B]))))=_
    rw[bu,ia,o8 _ _ L.notB L.notB,sE];rfl
  ·rw[qt (by unfold fW;simp),aG,aG,show dJ.length=3 from rfl];lia
end
end M01
end
section
open PySem.StrLaws
theorem xX{f:PyData→Option (List PyData)}{g:α→PyData}{h:α→List PyData}(xs:List α):(∀x∈xs,f (g x)=some (h x))→lu f (xs.map g)=some (xs.flatMap h):=by
 induction xs with
 |nil =>
  intro _
  exact rfl
 |cons x r ih =>
  intro hx
  exact bc (hx x al) (by rw[ih λy hy=>hx y (aj _ hy)];rfl)
theorem Ak{elt a b:CE}{g:α→PyData}{g2:β→PyData}{h:α→β→PyData}{xs:List α}{ys:List β}(h1:ak Φ a ρ=some (.d (.list (xs.map g))))(h2:∀x∈xs,ak Φ b (ρ++[.sh (.d (g x))])=some (.d (.list (ys.map g2))))
  (h3:∀x∈xs,∀y∈ys,ak Φ elt (ρ++[.sh (.d (g x)),.sh (.d (g2 y))])=some (.d (h x y))) (hl:xs.length≤1000) (hl2:ys.length≤1000) :
  ak Φ (.comp2 elt a b) ρ=some (.d (.list (xs.flatMap λx=>ys.map (h x)))):=by
 refine bc h1 (bc rfl ((if_pos (cM (by rw[af];exact ab hl (ao _ _)))).trans ?_))
 rw[xX (h:=λx=>ys.map (h x)) xs λx hx=>?_]
 ·refine bc rfl (if_pos (cM ?_))
  have:∀l:List α,(l.flatMap λx=>ys.map (h x)).length=l.length*ys.length:=λl=>by
   induction l with
   |nil=>simp
   |cons _ _ ih=>rw[List.flatMap_cons,aG,ih,af,aU,Nat.add_mul];lia
  rw[this]
  have:xs.length*ys.length≤1000*1000:=Nat.mul_le_mul hl hl2
  exact ab this (ao _ _)
 ·refine bc (h2 x hx) (bc rfl ((if_pos (cM (by rw[af];exact ab hl2 (ao _ _)))).trans ?_))
  exact mK (g:=g2) (h:=h x) ys λy hy=>⟨rfl,by rw[h3 x hx y hy];rfl⟩
theorem BG(h:l.length≤1048576):gQ .listOf [.d (.str (S l))]=some (.d (.list ((l.map λc=>[c]).map λp=>.str (S p)))):=by
 rw[List.map_map]
 show(if c0 (S l).length=true then some (V.d (.list ((S l).cps.toList.map λc=>.str ⟨#[c]⟩))) else none)=_
 rw[gv,cM h];rfl
namespace M01
noncomputable def uh(a:Nat)(lv:List (List Bool)):List PyData:=lv.map λu=>.str (S (wl a u))
noncomputable def sC:List CS:=[(.asg 7 (.comp 0 (.call 0 [(.bin .Add (.bin .Add (.var 0) (.meth .join (.lit (.str (S [46,46,46]))) [(.bin .Add (.bin .Add (.list [(.var 1)]) (.prim .listOf [(.var 9)])) (.list [(.var 2)]))])) (.var 0)),(.var 4)]) (.var 6) [])),(.ite (.cmp .Gt (.meth .count (.comp 0 (.boolop .Or (.cmp .Is (.var 9) (.lit (.bool true))) (.cmp .Is (.var 9) (.lit (.bool false)))) (.var 7) []) [(.lit (.bool false))]) (.lit (.int (0)))) [(.ret (.lit (.int (99))))] []),(.asg 8 (.comp 0 (.item (.var 6) (.var 9)) (.prim .range1 [(.prim .len [(.var 6)])]) [(.item (.var 7) (.var 9))])),(.asg 5 (.bin .Add (.var 5) (.prim .len [(.var 8)]))),(.asg 6 (.comp2 (.bin .Add (.var 9) (.var 10)) (.var 8) (.var 3)))]
noncomputable def Cm:CE:=.boolop .And (.cmp .NotEq (.var 6) (.list [])) (.cmp .Lt (.var 5) (.lit (.int (99))))
noncomputable def nxt(m:List Bool→Bool)(lv:List (List Bool)):List (List Bool):=(lv.filter m).flatMap λu=>[u++[false],u++[true]]
section
variable{a A B r:Nat}{text:List Nat}{m:List Bool→Bool}
noncomputable def rF(r a A i B:Nat)(text:List Nat)(f:Nat)(lv:List (List Bool))(x7 x8:Slot):Ev:=[sv (lQ r),sv [A,i],sv [i,B],cZ [.str (S [a]),.str (S [a+1])],sv text,.sh (.d (bt f)),cZ (uh a lv),x7,x8]
theorem GN{lv:List (List Bool)}(ha:a≤60000):fY (.list (uh a lv))=true:=pW (n:=0) (λx hx=>by
 refine aa λhQ=>?_
 obtain⟨u,_,rfl⟩:=List.mem_map.mp hx
 (refine hQ ?_;clear hQ)
 have:(wl a u).all (·<0x110000)=true:=ap.mpr λc hc=>by
  rcases oJ hc with e | e<;>rw[e,ar]<;>lia
 exact⟨(cg.mp (g_ this)).1,by rw[PyData.depth];exact aF _⟩) (by decide)
theorem vm{f:Nat}{lv:List (List Bool)}{x7:Slot}(ha:a≤60000):(ak Φ Cm (rF r a A i B text f lv x7 x8)).bind dC=some (!(lv.isEmpty||decide (99≤f))):=by
 have e1:ak Φ (.cmp .NotEq (.var 6) (.list [])) (rF r a A i B text f lv x7 x8)=some (.d (.bool (!lv.isEmpty))):=by
  refine(uq (bi rfl) iF (GN ha) rfl).trans ?_
  rw[nT];unfold uh;rw[List.isEmpty_map]
 have e2:ak Φ (.cmp .Lt (.var 5) (.lit (.int (99)))) (rF r a A i B text f lv x7 x8)=some (.d (.bool (decide (f<99)))):=CW (bi rfl) (bX (n:=99))
 cases q:lv.isEmpty with
 |true =>
  rw[q] at e1
  exact bc (bc e1 (bc rfl rfl)) rfl
 |false =>
  rw[q] at e1
  refine bc (bc e1 (bc rfl e2)) ?_
  show some (decide (f<99))=_
  rw[Bool.false_or,←decide_not]
  exact congrArg some (decide_eq_decide.mpr (by lia))
theorem wb{f:Nat}{lv:List (List Bool)}{x7:Slot}(hrl:(lQ r).length≤3)(hl:lv.length≤100)(hu:∀u∈lv,u.length≤10)
  (hm:∀u∈lv,Φ 0 [.d (.str (S (nc r A i B (wl a u)))),.d (.str (S text))]=some (.d (.bool (m u)))) :
  cexs Φ fu sC (rF r a A i B text f lv x7 x8)=some (rF r a A i B text (f+(lv.filter m).length) (nxt m lv) (cZ (lv.map λu=>.bool (m u))) (cZ (uh a (lv.filter m))),.nx):=by
 unfold sC
 refine bN (v:=.d (.list (lv.map λu=>.bool (m u)))) (ev_comp (g:=λu=>.str (S (wl a u))) (h:=λu=>.bool (m u)) (xs:=lv) (bi rfl) (eB (by unfold uh;rw[af];exact ab hl (ao _ _))) λu hh=>?_) rfl ?_
 ·have h10:=hu u hh
  have hwl:=kT (a:=a) (u:=u)
  have hwn:=uG (A:=A) (i:=i) (B:=B) (l:=wl a u)
  have hX:=mH (A:=A) (i:=i) (B:=B) (l:=wl a u)
  have ej:ak Φ (.meth .join (.lit (.str (S [46,46,46]))) [(.bin .Add (.bin .Add (.list [(.var 1)]) (.prim .listOf [(.var 9)])) (.list [(.var 2)]))]) (rF r a A i B text f lv x7 x8++[.sh (.d (.str (S (wl a u))))])=some (.d (.str (S (d_ dJ (fW A i B (wl a u)))))):=by
   refine Cr (R:=fW A i B (wl a u)) ?_ (by rw[hX.1];exact bd (c8 rfl)   (ab (aw hwl) (ab h10 (c8 rfl)))) (by rw[hX.1,hX.2];simp only[aU,List.length_nil];lia)
   have e:(fW A i B (wl a u)).map (λp=>PyData.str (S p))=[PyData.str (S [A,i])]++((wl a u).map λc=>[c]).map (λp=>.str (S p))++[.str (S [i,B])]:=by
    unfold fW;rw[bj,bM];rfl
   rw[e]
   exact ib (ib (eh (bg (bi rfl) de) (show 1≤1048576 by decide)) ((fK (bi rfl)).trans (BG (ab (aw hwl) (ab h10 (c8 rfl))))) (by simp only[af,aU,List.length_nil];exact bz (c8 rfl)   (ab (aw hwl) (ab h10 (c8 rfl))))) (eh (bg (bi rfl) de) (show 1≤1048576 by decide)) (by simp only[aG,af,aU,List.length_nil];lia)
  refine(fG (dU (dU (bi rfl) ej (by lia)) (bi rfl) (by rw[aG];lia)) (bi rfl)).trans ?_
  exact hm u hh
 refine bZ (cx_no ((uj (y:=0) (ju (xs:=lv) ?_ (by exact ab hl (ao _ _))) (bX (n:=0))).trans rfl) rfl) ?_
 ·refine ev_comp (g:=λu=>.bool (m u)) (h:=λ_=>.bool true) (xs:=lv) (bi rfl) (eB (by rw[af];exact ab hl (ao _ _))) λu _=>?_
  have hv:∀b:Bool,ak Φ (.cmp .Is (.var 9) (.lit (.bool b))) (List.set (rF r a A i B text f lv x7 x8) 7 (.sh (.d (.list (lv.map λu=>.bool (m u)))))++[.sh (.d (.bool (m u)))])=some (.d (.bool (m u==b))):=λb=>by
   refine(wW (y:=b) (bi rfl) cu).trans ?_
   rw[nU]
  have h1:=hv true
  have h2:=hv false
  cases q:m u with
  |true=>rw[q] at h1 h2;exact bc h1 (bc rfl rfl)
  |false=>rw[q] at h1 h2;exact wK h1 h2
 refine bN (v:=.d (.list (uh a (lv.filter m)))) ?_ rfl ?_
 ·have e:uh a (lv.filter m)=(((List.range lv.length).filter λj=>m (lv.getD j [])).map λj=>PyData.str (S (wl a (lv.getD j [])))):=by
   have hx:∀l:List (List Bool),(List.range l.length).map (λj=>l.getD j [])=l:=λl=>by
    refine List.ext_getElem? λj=>?_
    rw[az]
    by_cases q:j<l.length
    ·rw[bT q,Option.map_some,←iA q]
    ·rw[List.getElem?_eq_none (by rw[cy];exact be q),List.getElem?_eq_none (by exact be q)];rfl
   have hy:=congrArg (List.filter m) (hx lv)
   rw[List.filter_map] at hy
   unfold uh
   rw[←hy,List.map_map];rfl
  rw[e]
  refine oH (g:=bt) (xs:=List.range lv.length) (v:=.r 0 (lv.length:Int) 1) ?_ (eV (by exact ab hl (ao _ _))) (λj hj=>?_) λj hj _=>?_
  ·refine(fK (vQ (bi rfl) (by unfold uh;rw[af];exact ab hl (ao _ _)))).trans ?_
   unfold uh;rw[af];rfl
  ·have hj:=bS.mp hj
   exact cT (bi rfl) (bi rfl) (ab (aE hj) (ab hl (c8 rfl))) (by rw[az,iA (d:=[]) hj];rfl)
  ·have hj:=bS.mp hj
   exact cT (bi rfl) (bi rfl) (ab (aE hj) (ab hl (c8 rfl))) (by unfold uh;rw[az,iA (d:=[]) hj];rfl)
 have hkl:(lv.filter m).length≤100:=ab (List.length_filter_le _ _) hl
 have hku:∀u∈lv.filter m,u.length≤10:=λu h=>hu u (List.mem_filter.mp h).1
 unfold nxt
 generalize lv.filter m=kp at hkl hku ⊢
 refine bN (v:=.d (bt (f+kp.length))) (ev_addn (bi rfl) ((vQ (bi rfl) (by unfold uh;rw[af];exact ab hkl (ao _ _))).trans (by unfold uh;rw[af];rfl))) rfl ?_
 refine bN (v:=.d (.list (uh a (kp.flatMap λu=>[u++[false],u++[true]])))) ?_ rfl ?_
 ·have e:uh a (kp.flatMap λu=>[u++[false],u++[true]])=kp.flatMap λu=>[false,true].map λx=>PyData.str (S (wl a u++[cond x (a+1) a])):=by
   unfold uh
   rw[List.map_flatMap]
   refine congrArg (λg=>List.flatMap g kp) (funext λu=>?_)
   show[PyData.str (S (wl a (u++[false]))),.str (S (wl a (u++[true])))]=_
   unfold wl
   rw[bM,bM];rfl
  rw[e]
  refine Ak (g:=λu=>.str (S (wl a u))) (g2:=λx=>.str (S [cond x (a+1) a])) (xs:=kp) (ys:=[false,true]) (bi rfl) (λu _=>bi rfl) (λu hh x _=>?_) (by exact ab hkl (ao _ _)) (by decide)
  exact dU (bi rfl) (bi rfl) (by rw[kT];have:=hku u hh;simp only[aU,List.length_nil];exact au this (by decide))
 rw[eK];rfl
theorem wz(ha:a≤60000)(hrl:(lQ r).length≤3)(hm:∀u:List Bool,u.length≤10→Φ 0 [.d (.str (S (nc r A i B (wl a u)))),.d (.str (S text))]=some (.d (.bool (m u)))){z:Nat}(n:Nat):∀(f:Nat) (lv:List (List Bool)) (d:Nat) (x7 x8:Slot),Fd m n f lv=some z →
  ∃lv' y7 y8,qV (λρ=>(ak Φ Cm ρ).bind dC) (λρ=>cexs Φ fu sC ρ) (n+d) (rF r a A i B text f lv x7 x8)=some (rF r a A i B text z lv' y7 y8,.nx):=by
 induction n with
 |zero =>
  intro _ _ _ _ _ h
  exact nomatch h
 |succ n ih =>
  intro f lv d x7 x8 h
  replace h:(if(lv.isEmpty||decide (99≤f))=true then some f else if(decide (lv.length≤100)&&lv.all (λu=>decide (u.length≤10)))=true then Fd m n (f+(lv.filter m).length) ((lv.filter m).flatMap λu=>[u++[false],u++[true]]) else none)=some z:=h
  have ht:=vm (Φ:=Φ) (r:=r) (A:=A) (i:=i) (B:=B) (text:=text) (f:=f) (lv:=lv) (x7:=x7) (x8:=x8) ha
  rw[show n+1+d=(n+d)+1 by exact Nat.add_right_comm _ _ _]
  cases q:(lv.isEmpty||decide (99≤f)) with
  |true =>
   rw[q,if_pos rfl] at h
   rw[q] at ht
   cases h
   exact⟨lv,x7,x8,bc ht rfl⟩
  |false =>
   rw[q,if_neg (by decide)] at h
   rw[q] at ht
   obtain⟨h1,h2⟩:=dn h
   rw[ag,ar] at h1
   have hu:∀u∈lv,u.length≤10:=λu hh=>of_decide_eq_true (ap.mp h1.2 u hh)
   obtain⟨lv',y7,y8,e⟩:=ih _ _ d (cZ (lv.map λu=>.bool (m u))) (cZ (uh a (lv.filter m))) h2
   exact⟨lv',y7,y8,bc ht ((if_pos rfl).trans (bc (wb (fu:=fu) (x7:=x7) (x8:=x8) hrl h1.1 hu λu hh=>hm u (hu u hh)) e))⟩
theorem Dx:(lQ r).length≤3:=by
 unfold lQ;split
 ·exact bo _
 ·exact aF _
theorem zb(ha:a≤60000)(hm:∀u:List Bool,u.length≤10→Φ 0 [.d (.str (S (nc r A i B (wl a u)))),.d (.str (S text))]=some (.d (.bool (m u)))){z d:Nat}(h:Fd m 10 0 [[]]=some z) :
  runF Φ (10+d) ⟨5,9,mw⟩ [.d (.str (S (lQ r))),.d (.str (S [A,i])),.d (.str (S [i,B])),.d (.list [.str (S [a]),.str (S [a+1])]),.d (.str (S text))]=some (.d (bt z)):=by
 refine aa λhQ=>?_
 obtain⟨lv',y7,y8,e⟩:=wz (fu:=10+d) ha Dx hm 10 0 [[]] d .un .un h
 (refine hQ ?_;clear hQ)
 refine runF_rt (ρ':=rF r a A i B text z lv' y7 y8) rfl ?_
 show cexs Φ (10+d) mw [sv (lQ r),sv [A,i],sv [i,B],cZ [.str (S [a]),.str (S [a+1])],sv text,.un,.un,.un,.un]=_
 unfold mw
 refine bN (bX (n:=0)) rfl ?_
 refine bN (v:=.d (.list [.str (S [])])) (eh (bg cu de) (show 1≤1048576 by decide)) rfl ?_
 exact bZ (ρ':=rF r a A i B text z lv' y7 y8) e (eM (bi rfl) rfl)
end
end M01
end
section
open PySem.StrLaws
theorem EL{i:Int}(h:0≤i∧i<55296):gQ .chr [.d (.int i)]=some (.d (.str (S [i.toNat]))):=by
 show(if 0≤i∧i<55296 then some (V.d (.str ⟨#[i.toNat]⟩)) else none)=_
 rw[if_pos h];rfl
theorem ev_chr{a:CE}(h:ak Φ a ρ=some (.d (bt n)))(hn:n<55296):ak Φ (.prim .chr [a]) ρ=some (.d (.str (S [n]))):=by
 have h2:0≤(n:Int)∧(n:Int)<55296:=by lia
 have h3:=EL h2
 rw[aR] at h3
 exact(fK h).trans h3
theorem tj(h:46∉l):jM dJ l=none:=by
 cases q:jM dJ l with
 |none=>rfl
 |some i =>
  obtain⟨t,ht⟩:=(jr q).1
  exact absurd (List.mem_of_mem_drop (i:=i) (by rw[←ht];exact al)) h
theorem Ag{elt it:CE}{xs:List ((List Nat×List Nat)×Bool)}(h1:ak Φ it ρ=some (.d (.list (xs.map λx=>.tuple [.str (S x.1.1),.str (S x.1.2)]))))(hl:xs.length≤1000)
  (h3:∀x∈xs,ak Φ elt (ρ++[sv x.1.1,sv x.1.2])=some (.d (.bool x.2))):ak Φ (.compT elt it) ρ=some (.d (.list (xs.map λx=>.bool x.2))):=by
 refine bc h1 (bc rfl ((if_pos (cM (by rw[af];exact ab hl (ao _ _)))).trans ?_))
 rw[mK (g:=λx:(List Nat×List Nat)×Bool=>.tuple [.str (S x.1.1),.str (S x.1.2)]) (h:=λx=>.bool x.2) xs λx hx=>⟨rfl,?_⟩]
 ·rfl
 ·exact bc (show fj 2 (.tuple [.str (S x.1.1),.str (S x.1.2)])=some [sv x.1.1,sv x.1.2] from rfl) (bc (h3 x hx) rfl)
namespace M01
section
variable{a A B X Y:Nat}(L:AO a A i B)(hX:65≤X∧X≤71∧X≠A)(hY:65≤Y∧Y≤71∧Y≠B)(w:Option (List Bool))
include L
omit L in
theorem ky(u:List Bool):dr a A i B (some u)=[A,i]++wl a u++[i,B]:=rfl
theorem wU:∀c∈dr a A i B w,c≠46∧c<0x110000:=λc hc=>by
 have:=L.a1;have:=L.a2;have:=L.A1;have:=L.B1;have:=L.i2;have:=L.i3
 cases w with
 |none =>
  have hc:c∈[A,i,B]:=hc
  simp only[ah,List.not_mem_nil,or_false] at hc
  rcases hc with h | h | h<;>constructor<;>lia
 |some u =>
  rw[ky] at hc
  simp only[aP,ah,List.not_mem_nil,or_false] at hc
  rcases hc with(h | h) | h
  ·rcases h with h | h<;>constructor<;>lia
  ·rcases oJ h with e | e<;>constructor<;>lia
  ·rcases h with h | h<;>constructor<;>lia
theorem tU:46∉dr a A i B w:=λh=>(wU L w _ h).1 rfl
theorem nO:(dr a A i B w).all (·<0x110000)=true:=ap.mpr λc hc=>aO (wU L w c hc).2
noncomputable def e_(X:Nat)(t:List Nat):List Nat:=[X]++[10]++t
noncomputable def eR(Y:Nat)(t:List Nat):List Nat:=t++[10]++[Y]
omit L in
theorem CQ{p:Nat→Bool}{t:List Nat}(h1:t.all p=true)(h2:p 10=true)(h3:p Y=true):(eR Y t).all p=true:=by
 unfold eR
 rw[List.all_append,List.all_append,h1,Bool.true_and]
 simp[h2,h3]
include hX in
theorem EJ:iW [] [[A,i]] [i,B] (e_ X (dr a A i B w))=w.isSome:=by
 cases w with
 |none =>
  have hx:=hX.2.2
  have hA:=L.A1
  have e:cp [[A,i]] (((e_ X (dr a A i B none)).take ((e_ X (dr a A i B none)).length-[i,B].length)).drop ([]:List Nat).length)=false:=by
   show cp [[A,i]] [X,10,A]=false
   rw[dS (C7 (Ne.symm hx)),dS (C7 (bV   (Nat.lt_of_succ_lt_succ (au (ao (Nat.succ 10) 54) (cK (And.left hA)))))),dS (by simp[List.isPrefixOf])]
   exact c9 rfl
  unfold iW
  rw[e,Bool.and_false];rfl
 |some u =>
  have:=lP (p0:=[]) (pl:=[i,B]) (m:=[X]++[10]++[A,i]++wl a u) (ws:=[[A,i]])
  rw[j6,c4] at this
  rw[ky];unfold e_
  simp only[bu] at this ⊢
  exact this
include hY in
theorem Gs:iW [A,i] [[i,B]] [] (eR Y (dr a A i B w))=w.isSome:=by
 cases w with
 |none =>
  have hy:=hY.2.2
  have hB:=L.B1
  have hi:=L.i1
  have e:cp [[i,B]] (((eR Y (dr a A i B none)).take ((eR Y (dr a A i B none)).length-([]:List Nat).length)).drop [A,i].length)=false:=by
   show cp [[i,B]] [B,10,Y]=false
   rw[dS (C7 (by lia)),dS (by simp[List.isPrefixOf,Ne.symm hy]),dS (by simp[List.isPrefixOf])]
   exact c9 rfl
  unfold iW
  rw[e,Bool.and_false];rfl
 |some u =>
  have:=lP (p0:=[A,i]) (pl:=[]) (m:=wl a u++[i,B]++([10]++[Y])) (ws:=[[i,B]])
  rw[j6,bE] at this
  rw[ky];unfold eR
  simp only[bu] at this ⊢
  exact this
omit L in
include hX in
theorem BF:iW [A,i] [] [i,B] (e_ X (dr a A i B w))=false:=ul (by
 unfold e_
 rw[bu,List.singleton_append,C7 (Ne.symm hX.2.2)];decide)
omit L in
include hY in
theorem D6:iW [A,i] [] [i,B] (eR Y (dr a A i B w))=false:=tZ λh=>by
 obtain⟨t,ht⟩:=List.isSuffixOf_iff_suffix.mp h
 have:=congrArg List.getLast? ht
 unfold eR at this
 rw[List.getLast?_append,List.getLast?_append] at this
 exact hY.2.2 (am this).symm
end
section
variable{es:List lj}(H:Std es){a A B X Y:Nat}(L:AO a A i B)(hX:65≤X∧X≤71∧X≠A)(hY:65≤Y∧Y≤71∧Y≠B)(w:Option (List Bool))(hw:∀x,w=some x→x.length≤100)
noncomputable def jR(A i B:Nat):List Nat:=[A,i]++[46,46,46]++[i,B]
noncomputable def tw(a A i B X Y:Nat)(w:Option (List Bool)):List ((List Nat×List Nat)×Bool) :=
 [((dr a A i B w,dr a A i B w),true),(([A,i]++[46,46,46,46,46,46]++[i,B],[A,i]++[10]++[i,B]),true),(([46,46,46]++jR A i B,e_ X (dr a A i B w)),w.isSome),((jR A i B++[46,46,46],eR Y (dr a A i B w)),w.isSome)] ++
 [((dr a A i B w,eR Y (dr a A i B w)),false),((jR A i B,e_ X (dr a A i B w)),false),((jR A i B,eR Y (dr a A i B w)),false)]
include hw in
theorem uX:(dr a A i B w).length≤104:=by
 cases w with
 |none=>exact(show 3≤104 by decide)
 |some x =>
  have:=hw x rfl
  rw[ky,aG,aG,kT]
  simp only[aU,List.length_nil];exact bd (c8 rfl)   (bz (c8 rfl) this)
include H L hX hY hw
theorem CG:∀x∈tw a A i B X Y w,gt es fu (k+1) 0 [.d (.str (S x.1.1)),.d (.str (S x.1.2))]=some (.d (.bool x.2)):=by
 have hl:=uX (a:=a) (A:=A) (i:=i) (B:=B) w hw
 have hfl:(e_ X (dr a A i B w)).length≤200:=by unfold e_;simp only[aG,aU,List.length_nil];exact bz (c8 rfl) (ab hl (c8 rfl))
 have hrl:(eR Y (dr a A i B w)).length≤200:=by unfold eR;simp only[aG,aU,List.length_nil];assumption
 have dH:=L.dotH
 have dT:=L.dotT
 have dE:46∉([]:List Nat):=List.not_mem_nil
 have d2:∀p∈[[A,i],[i,B]],46∉p:=aL.mpr ⟨dH,aL.mpr ⟨dT,λ_ h=>nomatch h⟩⟩
 refine aL.mpr ⟨?_,aL.mpr ⟨?_,aL.mpr ⟨?_,aL.mpr ⟨?_,aL.mpr ⟨?_,aL.mpr ⟨?_,aL.mpr ⟨?_,λ_ h=>nomatch h⟩⟩⟩⟩⟩⟩⟩
 ·have:=uN H (fu:=fu) (k:=k) (tj (tU L w)) (nO L w) (nO L w)
  rw[beq_self_eq_true] at this
  exact this
 ·have:=jJ H (fu:=fu) (k:=k) (p0:=[A,i]) (mid:=[[]]) (pl:=[i,B]) (g:=[A,i]++[10]++[i,B]) (aA rfl) (aA rfl) (aL.mpr ⟨dH,aL.mpr ⟨dE,aL.mpr ⟨dT,λ_ h=>nomatch h⟩⟩⟩)
  rw[lP] at this
  exact this
 ·have:=jJ H (fu:=fu) (k:=k) (p0:=[]) (mid:=[[A,i]]) (pl:=[i,B]) (g:=e_ X (dr a A i B w)) (by exact ab hfl (ao _ _)) (aA rfl) (aL.mpr ⟨dE,d2⟩)
  rw[EJ L hX w] at this
  exact this
 ·have:=jJ H (fu:=fu) (k:=k) (p0:=[A,i]) (mid:=[[i,B]]) (pl:=[]) (g:=eR Y (dr a A i B w)) (by exact ab hrl (ao _ _)) (aA rfl) (aL.mpr ⟨dH,aL.mpr ⟨dT,aL.mpr ⟨dE,λ_ h=>nomatch h⟩⟩⟩)
  rw[Gs L hY w] at this
  exact this
 ·have hro:(eR Y (dr a A i B w)).all (·<0x110000)=true:=CQ (nO L w) rfl (aO (by have:=hY.2.1;exact au this (by decide)))
  have:=uN H (fu:=fu) (k:=k) (tj (tU L w)) (nO L w) hro
  have hne:(dr a A i B w==eR Y (dr a A i B w))=false:=b7.mpr λe=>by
   have:=congrArg List.length e
   unfold eR at this
   simp only[aG,aU,List.length_nil] at this
   lia
  rw[hne] at this
  exact this
 ·have:=jJ H (fu:=fu) (k:=k) (p0:=[A,i]) (mid:=[]) (pl:=[i,B]) (g:=e_ X (dr a A i B w)) (by exact ab hfl (ao _ _)) (aA rfl) d2
  rw[BF hX w] at this
  exact this
 ·have:=jJ H (fu:=fu) (k:=k) (p0:=[A,i]) (mid:=[]) (pl:=[i,B]) (g:=eR Y (dr a A i B w)) (by exact ab hrl (ao _ _)) (aA rfl) d2
  rw[D6 hY w] at this
  exact this
end
end M01
end
section
open PySem.StrLaws
theorem sp{a:CE}{x:PyData}(h:ak Φ a ρ=some (.d x)):ak Φ (.cmp .IsNot a (.lit .none)) ρ=some (.d (.bool (!HS x))):=by
 refine du h cu ?_
 show(some (nS x .none)).bind (λb=>some (!b))=_
 cases x<;>rfl
theorem JK{a b d:CE}{x y z u v:V}(h:ak Φ a ρ=some x)(h2:ak Φ b ρ=some y)(h3:ak Φ c ρ=some z)(h4:ak Φ d ρ=some u)(h5:ak Φ e ρ=some v):cevals Φ [a,b,c,d,e] ρ=some [x,y,z,u,v]:=wZ h (JQ h2 h3 h4 h5)
theorem oZ{f:Nat}{a b d:CE}{x y z u v:PyData}(h1:ak Φ a ρ=some (.d x))(h2:ak Φ b ρ=some (.d y))(h3:ak Φ c ρ=some (.d z))(h4:ak Φ d ρ=some (.d u))(h5:ak Φ e ρ=some (.d v)):ak Φ (.call f [a,b,c,d,e]) ρ=Φ f [.d x,.d y,.d z,.d u,.d v]:=bc (JK h1 h2 h3 h4 h5) rfl
namespace M01
noncomputable def BA:List CS:=[(.asg 21 (.bin .Add (.var 8) (.prim .chr [(.bin .Add (.lit (.int (65))) (.var 20))]))),(.asg 22 (.cmp .IsNot (.item (.var 15) (.var 20)) (.lit .none))),(.asg 23 (.ite (.var 22) (.bin .Add (.bin .Add (.var 19) (.item (.var 15) (.var 20))) (.var 21)) (.bin .Add (.var 19) (.prim .chr [(.bin .Add (.lit (.int (65))) (.var 20))])))),(.asg 24 (.item (.list [(.lit (.str (S []))),(.lit (.str (S [46,46,46])))]) (.bin .Mod (.bin .Add (.var 20) (.var 4)) (.lit (.int (2)))))),(.ite (.cmp .NotEq (.item (.var 14) (.var 20)) (.bin .Mult (.bin .Mult (.item (.var 13) (.var 5)) (.item (.var 13) (.var 20))) (.bin .Add (.lit (.int (1))) (.call 11 [(.var 24),(.var 19),(.var 21),(.var 7),(.var 23)])))) [(.ret (.lit (.bool false)))] []),(.asg 25 (.bin .Add (.bin .Add (.prim .chr [(.bin .Add (.lit (.int (65))) (.bin .Mod (.bin .Add (.var 5) (.lit (.int (1)))) (.lit (.int (7)))))]) (.lit (.str (S [10])))) (.var 23))),(.asg 26 (.bin .Add (.bin .Add (.var 23) (.lit (.str (S [10])))) (.prim .chr [(.bin .Add (.lit (.int (65))) (.bin .Mod (.bin .Add (.var 20) (.lit (.int (1)))) (.lit (.int (7)))))]))),(.asg 27 (.bin .Add (.bin .Add (.var 19) (.lit (.str (S [46,46,46])))) (.var 21))),(.asg 28 (.list [(.tup [(.var 23),(.var 23)]),(.tup [(.bin .Add (.bin .Add (.var 19) (.lit (.str (S [46,46,46,46,46,46])))) (.var 21)),(.bin .Add (.bin .Add (.var 19) (.lit (.str (S [10])))) (.var 21))]),(.tup [(.bin .Add (.lit (.str (S [46,46,46]))) (.var 27)),(.var 25)]),(.tup [(.bin .Add (.var 27) (.lit (.str (S [46,46,46])))),(.var 26)])])),(.asg 29 (.compT (.call 0 [(.var 30),(.var 31)]) (.bin .Add (.var 28) (.list [(.tup [(.var 23),(.var 26)]),(.tup [(.var 27),(.var 25)]),(.tup [(.var 27),(.var 26)])])))),(.ite (.cmp .Gt (.meth .count (.comp 0 (.cmp .Is (.item (.var 29) (.var 30)) (.item (.list [(.lit (.bool true)),(.lit (.bool true)),(.var 22),(.var 22),(.lit (.bool false)),(.lit (.bool false)),(.lit (.bool false))]) (.var 30))) (.prim .range1 [(.lit (.int (7)))]) []) [(.lit (.bool false))]) (.lit (.int (0)))) [(.ret (.lit (.bool false)))] [])]
noncomputable def Lg(l:List Int):Slot:=cZ (l.map .int)
noncomputable def IR(w:Nat→Int)(h:Nat)(N:Nat→Nat):Slot:=cZ ((List.range 7).map λj=>.int (w h*w j*(N j:Nat)))
noncomputable def rE(y:List Slot)(h spare:Nat)(x6:Slot)(a i:Nat)(z:List Slot)(w:Nat→Int)(N:Nat→Nat)(ws:List (Option (List Bool)))(v:List Slot)(x20:Slot)(X:Nat→Slot):Ev :=
 [y.getD 0 .un,y.getD 1 .un,y.getD 2 .un,y.getD 3 .un,.sh (.d (bt spare)),.sh (.d (bt h)),x6,cZ [.str (S [a]),.str (S [a+1])],sv [i],z.getD 0 .un,z.getD 1 .un,z.getD 2 .un,z.getD 3 .un,cZ ((List.range 7).map λj=>.int (w j)),IR w h N,cZ (ws.map (je a)),v.getD 0 .un,v.getD 1 .un,v.getD 2 .un,sv [65+h,i],
  x20,X 0,X 1,X 2,X 3,X 4,X 5,X 6,X 7,X 8]
section
variable{y z v:List Slot}{h spare a:Nat}{x6:Slot}{w:Nat→Int}{N:Nat→Nat}{ws:List (Option (List Bool))}{x20:Slot}{X:Nat→Slot}
theorem rZ{f:Nat→Int}(hn:ρ[n]?=some (cZ ((List.range 7).map λj=>.int (f j))))(he:ak Φ e ρ=some (.d (bt j)))(hj:j<7):ak Φ (.item (.var n) e) ρ=some (.d (.int (f j))) :=
 cT (bi hn) he (aE (ae hj (c8 rfl))) (by rw[az,bT hj];rfl)
theorem BL{e:Nat}(he:e<7)(hh:h<7)(hB:∀j,Le 81 (w j))(hN:1≤N e)(hN2:N e≤100)(hwl:ws.length=7)(hwu:∀x,ws.getD e none=some x→x.length≤100)
  (h11:Φ 11 [.d (.str (S (lQ ((e+spare) % 2)))),.d (.str (S [65+h,i])),.d (.str (S [i,65+e])),.d (.list [.str (S [a]),.str (S [a+1])]),.d (.str (S (dr a (65+h) i (65+e) (ws.getD e none))))]=some (.d (bt (N e-1))))
  (h0:∀x∈tw a (65+h) i (65+e) (65+(h+1) % 7) (65+(e+1) % 7) (ws.getD e none),Φ 0 [.d (.str (S x.1.1)),.d (.str (S x.1.2))]=some (.d (.bool x.2))) :
  ∃Y:Nat→PyData,cexs Φ fu BA (rE y h spare x6 a i z w N ws v (.sh (.d (bt e))) X)=some (rE y h spare x6 a i z w N ws v (.sh (.d (bt e))) (λn=>.sh (.d (Y n))),.nx):=by
 have hb:∀j,Bd (w j):=λj=>gw (hB j) (by decide)
 have hwg:(ws.map (je a))[e]?=some (je a (ws.getD e none)):=by rw[az,iA (d:=none) (by exact Nat.lt_of_lt_of_eq he hwl.symm)];rfl
 generalize ws.getD e none=wo at hwg hwu h11 h0
 have htl:=uX (a:=a) (A:=65+h) (i:=i) (B:=65+e) wo hwu
 generalize htx:dr a (65+h) i (65+e) wo=text at htl h11
 refine⟨λn=>[.str (S [i,65+e]),.bool wo.isSome,.str (S text),.str (S (lQ ((e+spare) % 2))),.str (S (e_ (65+(h+1) % 7) text)),.str (S (eR (65+(e+1) % 7) text)),.str (S (jR (65+h) i (65+e))),.list (((tw a (65+h) i (65+e) (65+(h+1) % 7) (65+(e+1) % 7) wo).take 4).map λx=>.tuple [.str (S x.1.1),.str (S x.1.2)]),.list ((tw a (65+h) i (65+e) (65+(h+1) % 7) (65+(e+1) % 7) wo).map λx=>.bool x.2)].getD n .none,?_⟩
 unfold BA
 refine bN (v:=.d (.str (S [i,65+e]))) (dU (x:=[i]) (y:=[65+e]) (bi rfl) (ev_chr (ev_addn (bX (n:=65)) (bi rfl)) (ae (Nat.add_lt_add_left he 65) (c8 rfl))) (aA rfl)) rfl ?_
 refine bN (v:=.d (.bool wo.isSome)) ((sp (cT (bi rfl) (bi rfl) (aE (ae he (c8 rfl))) hwg)).trans (by cases wo<;>rfl)) rfl ?_
 refine bN (v:=.d (.str (S text))) ?_ rfl ?_
 ·refine(pU (k:=wo.isSome) (bi rfl)).trans ?_
  cases wo with
  |none =>
   rw[if_neg (by decide),←htx]
   exact dU (x:=[65+h,i]) (y:=[65+e]) (bi rfl) (ev_chr (ev_addn (bX (n:=65)) (bi rfl)) (ae (Nat.add_lt_add_left he 65) (c8 rfl))) (aA rfl)
  |some u =>
   have:=hwu u rfl
   refine(if_pos rfl).trans ?_
   rw[←htx]
   refine dU (x:=[65+h,i]++wl a u) (y:=[i,65+e]) (dU (x:=[65+h,i]) (bi rfl) (cT (bi rfl) (bi rfl) (aE (ae he (c8 rfl))) hwg) ?_) (bi rfl) ?_
   ·rw[kT];simp only[aU,List.length_nil];exact bz (c8 rfl)   (ab this (c8 rfl))
   ·rw[aG,kT];simp only[aU,List.length_nil];exact bd (c8 rfl)   (bz (c8 rfl)     (ab this (c8 rfl)))
 refine bN (v:=.d (.str (S (lQ ((e+spare) % 2))))) ?_ rfl ?_
 ·refine cT (xs:=[.str (S []),.str (S [46,46,46])]) (eh (bg cu (bg cu de)) (aA rfl)) (ev_modn (ev_addn (bi rfl) (bi rfl)) (bX (n:=2)) (by decide) (by decide)) (aE   (ae (Nat.mod_lt (e+spare) (c8 rfl))     (c8 rfl))) ?_
  have:(e+spare) % 2=0∨(e+spare) % 2=1:=by(clear h11 htl htx h0 hwu hwg hb hwl hN2 hN hB hh he;lia)
  rcases this with q | q<;>rw[q]<;>rfl
 have hn:((N e:Nat):Int)=1+((N e-1:Nat):Int):=by lia
 refine bZ (cx_no (ir (x:=.int (w h*w e*(N e:Nat))) (rZ (f:=λj=>w h*w j*(N j:Nat)) rfl (bi rfl) he) ?_ fO) rfl) ?_
 ·rw[hn]
  refine ev_mulB (ev_mulB (rZ rfl (bi rfl) hh) (rZ rfl (bi rfl) he) (hb _) (hb _)) ((dh cu ((oZ (bi rfl) (bi rfl) (bi rfl) (bi rfl) (bi rfl)).trans h11)).trans (kd _ _)) (gw (gX (hB _) (hB _)) (by decide)) ?_
  rw[←hn];exact gw (pg (by exact ab hN2 (ao _ _))) (by decide)
 have hc:∀{ρ:Ev} {m n:Nat},ρ[n]?=some (.sh (.d (bt m)))→m<7→ak Φ (.prim .chr [(.bin .Add (.lit (.int (65))) (.bin .Mod (.bin .Add (.var n) (.lit (.int (1)))) (.lit (.int (7)))))]) ρ=some (.d (.str (S [65+(m+1) % 7]))):=λhv hm =>
  ev_chr (ev_addn (bX (n:=65)) (ev_modn (ev_addn (bi hv) (bX (n:=1))) (bX (n:=7)) (by decide) (by decide))) (by(clear hm hv hn h11 htl htx h0 hwu hwg hb hwl hN2 hN hB hh he;omega))
 refine bN (v:=.d (.str (S (e_ (65+(h+1) % 7) text)))) (dU (x:=[65+(h+1) % 7]++[10]) (dU (hc rfl hh) cu (aA rfl)) (bi rfl) (by simp only[aG,aU,List.length_nil];exact bz (c8 rfl) (ab htl (c8 rfl)))) rfl ?_
 refine bN (v:=.d (.str (S (eR (65+(e+1) % 7) text)))) (dU (x:=text++[10]) (dU (bi rfl) cu (by simp only[aU,List.length_nil];exact au htl (by decide))) (hc rfl he) (by simp only[aG,aU,List.length_nil];exact dc (dc (ab htl (c8 rfl))))) rfl ?_
 refine bN (v:=.d (.str (S (jR (65+h) i (65+e))))) (dU (x:=[65+h,i]++[46,46,46]) (dU (x:=[65+h,i]) (bi rfl) cu (aA rfl)) (bi rfl) (aA rfl)) rfl ?_
 generalize hpr:tw a (65+h) i (65+e) (65+(h+1) % 7) (65+(e+1) % 7) wo=pr at h0
 have hp4:pr.take 4=[((text,text),true),(([65+h,i]++[46,46,46,46,46,46]++[i,65+e],[65+h,i]++[10]++[i,65+e]),true),(([46,46,46]++jR (65+h) i (65+e),e_ (65+(h+1) % 7) text),wo.isSome),((jR (65+h) i (65+e)++[46,46,46],eR (65+(e+1) % 7) text),wo.isSome)]:=by rw[←hpr,←htx];rfl
 have hp3:pr=pr.take 4++[((text,eR (65+(e+1) % 7) text),false),((jR (65+h) i (65+e),e_ (65+(h+1) % 7) text),false),((jR (65+h) i (65+e),eR (65+(e+1) % 7) text),false)]:=by rw[←hpr,←htx];rfl
 have hpb:pr.map (λx=>PyData.bool x.2)=[.bool true,.bool true,.bool wo.isSome,.bool wo.isSome,.bool false,.bool false,.bool false]:=by rw[←hpr];rfl
 have hpl:pr.length=7:=by rw[←hpr];rfl
 have t2:∀{ρ:Ev} {p q:CE} {x y:List Nat},ak Φ p ρ=some (.d (.str (S x)))→ak Φ q ρ=some (.d (.str (S y)))→ak Φ (.tup [p,q]) ρ=some (.d (.tuple [.str (S x),.str (S y)])):=λh1 h2=>iV (bg h1 (bg h2 de)) (aA rfl)
 clear hpr h11 htx
 obtain⟨Q,hQ⟩:∃Q,Q=(pr.take 4).map λx=>PyData.tuple [.str (S x.1.1),.str (S x.1.2)]:=⟨_,rfl⟩
 have hq3:(pr.map λx=>PyData.tuple [.str (S x.1.1),.str (S x.1.2)])=Q++[.tuple [.str (S text),.str (S (eR (65+(e+1) % 7) text))],.tuple [.str (S (jR (65+h) i (65+e))),.str (S (e_ (65+(h+1) % 7) text))],.tuple [.str (S (jR (65+h) i (65+e))),.str (S (eR (65+(e+1) % 7) text))]] :=
  (congrArg (List.map _) hp3).trans (by rw[hQ,bM];rfl)
 have hq4:Q.length=4:=by rw[hQ,af,bx,hpl];rfl
 rw[←hQ]
 refine bN (v:=.d (.list Q)) ?_ rfl ?_
 ·rw[hQ,hp4]
  exact eh (bg (t2 (bi rfl) (bi rfl)) (bg (t2 (dU (x:=[65+h,i]++[46,46,46,46,46,46]) (dU (x:=[65+h,i]) (bi rfl) cu (aA rfl)) (bi rfl) (aA rfl)) (dU (x:=[65+h,i]++[10]) (dU (x:=[65+h,i]) (bi rfl) cu (aA rfl)) (bi rfl) (aA rfl)))
   (bg (t2 (dU cu (bi rfl) (aA rfl)) (bi rfl)) (bg (t2 (dU (bi rfl) cu (aA rfl)) (bi rfl)) de)))) (aA rfl)
 refine bN (v:=.d (.list (pr.map λx=>.bool x.2))) ?_ rfl ?_
 ·refine Ag ?_ (ab (aw hpl) (c8 rfl)) λx hx=>(fG (bi rfl) (bi rfl)).trans (h0 x hx)
  rw[hq3]
  exact ib (bi rfl) (eh (bg (t2 (bi rfl) (bi rfl)) (bg (t2 (bi rfl) (bi rfl)) (bg (t2 (bi rfl) (bi rfl)) de))) (aA rfl)) (by rw[hq4];exact aA rfl)
 refine bZ (cx_no ((uj (y:=0) (ju (xs:=List.range 7) ?_ (by decide)) (bX (n:=0))).trans rfl) rfl) ?_
 ·refine ev_comp (g:=bt) (h:=λ_=>.bool true) (xs:=List.range 7) fX (eV (n:=7) (by decide)) λx hx=>?_
  have hx:=bS.mp hx
  have hg:(pr.map λx=>PyData.bool x.2)[x]?=some (.bool (pr.map (·.2))[x]!):=by
   rw[az,getElem!_def,az,aQ (by exact Nat.lt_of_lt_of_eq hx hpl.symm)];rfl
  refine(wW (cT (bi rfl) (bi rfl) (aE (ae hx (c8 rfl))) hg) (cT (xs:=pr.map λx=>PyData.bool x.2) ?_ (bi rfl) (aE (ae hx (c8 rfl))) hg)).trans ?_
  ·rw[hpb]
   exact eh (bg cu (bg cu (bg (bi rfl) (bg (bi rfl) (bg cu (bg cu (bg cu de))))))) (aA rfl)
  ·rw[nU];simp
 rw[eK];rfl
theorem A_(hh:h<7)(ends:List Nat):∀(x20:Slot) (X:Nat→Slot),(∀e∈ends,∀X:Nat→Slot,
   ∃Y:Nat→PyData,cexs Φ fu BA (rE y h spare x6 a i z w N ws v (.sh (.d (bt e))) X)=some (rE y h spare x6 a i z w N ws v (.sh (.d (bt e))) (λn=>.sh (.d (Y n))),.nx)) →
  (jK x20=true∧∀n,jK (X n)=true)→∃y20 Y,(jK y20=true∧∀n,jK (Y n)=true) ∧
  loopF (d7 20) (λρ=>cexs Φ fu BA ρ) (ends.map bt) (rE y h spare x6 a i z w N ws v x20 X)=some (rE y h spare x6 a i z w N ws v y20 Y,.nx):=by
 induction ends with
 |nil =>
  intro x20 X _ hs
  exact⟨x20,X,hs,rfl⟩
 |cons e r ih =>
  intro x20 X ht _
  refine aa λhQ=>?_
  obtain⟨Y,e1⟩:=ht e al X
  obtain⟨z20,Z,hz,e2⟩:=ih (.sh (.d (bt e))) (λn=>.sh (.d (Y n))) (λe he=>ht e (aj _ he)) ⟨rfl,λ_=>rfl⟩
  (refine hQ ?_;clear hQ)
  exact⟨z20,Z,hz,bc (show d7 20 (bt e) _=some (rE y h spare x6 a i z w N ws v (.sh (.d (bt e))) X) from rfl) (bc e1 e2)⟩
end
end M01
end
section
open PySem.StrLaws
theorem BH{x:Int}(h:Le i x)(n):Le (i*n) (x^n):=by
 induction n with
 |zero =>
  rw[Int.pow_zero,Nat.mul_zero];exact aF _
 |succ n ih =>
  rw[Int.pow_succ,Nat.mul_succ];exact gX (ih) h
theorem Dg{x:Int}(h:Le i x)(hij:i≤j):Le j x:=ab h (Nat.pow_le_pow_right (by decide) hij)
theorem zB(f:Nat→Nat)(l:List Nat):(l.map λk=>(f k:Int)).sum=((l.map f).sum:Nat):=by
 induction l with
 |nil =>
  exact rfl
 |cons x r ih =>
  rw[bj,List.sum_cons,ih,bj,List.sum_cons,dD]
theorem BW{l x:List α}(h:n≤l.length):(td l n x).drop n=x++l.drop n:=by
 unfold td
 rw[bu,List.drop_left' (by rw[bx];exact Nat.min_eq_left (by assumption))]
theorem A3{x:Nat}{r:List Nat}:x∉l→tM x (l++x::r)=some l.length:=by
 induction l with
 |nil =>
  intro _
  exact if_pos rfl
 |cons y l ih =>
  intro h
  rw[List.cons_append,show tM x (y::(l++x::r))=if y=x then some 0 else(tM x (l++x::r)).map (·+1) from rfl,if_neg (λe=>h (by rw[←e];exact al)),ih λq=>h (aj _ q)];rfl
namespace M01
noncomputable def l0:List Nat:=[4,26,28,54,33,1,8103,7,12609,913,5427,959]
noncomputable def mf(c:Nat→Nat):Nat:=((List.range 12).map c).sum
noncomputable def df(c:Nat→Nat):Nat:=mf c % 7
noncomputable def eT(c:Nat→Nat):Nat:=(df c+1+mf c / 7 % 6) % 7
noncomputable def aN(c:Nat→Nat):Nat:=97+mf c % 55198
noncomputable def iN(c:Nat→Nat):Nat:=[aN c,aN c+1,40,10,32,8230].getD (mf c / 55198 % 6) 0
noncomputable def wt(x:Nat):Int:=((100+x % 900:Nat):Int)^(1+x / 1800 % 8)*(1-((x / 900 % 2*2:Nat):Int))
noncomputable def wN(c:Nat→Nat)(j:Nat):Int:=wt (c (5+j))
theorem rV(c:Nat→Nat):df c<7:=Nat.mod_lt _ (by decide)
theorem ES(c:Nat→Nat):eT c<7:=Nat.mod_lt _ (by decide)
theorem Dj(c:Nat→Nat):eT c≠df c:=(show∀h,h<7→∀r,r<6→(h+1+r) % 7≠h by decide) _ (rV c) _ (Nat.mod_lt _ (by decide))
theorem BB:∀h,h<7→65≤65+h∧65+h≤71:=by decide
theorem I8{a m:Nat}(h1:97≤a)(h2:a≤55294)(hm:m<6):(([a,a+1,40,10,32,8230].getD m 0<65∨71<[a,a+1,40,10,32,8230].getD m 0)∧[a,a+1,40,10,32,8230].getD m 0≠46)∧[a,a+1,40,10,32,8230].getD m 0<100000:=by
 have h3:71<a:=ae (by decide) h1
 have h4:a+1<100000:=au (dc h2) (by decide)
 have h5:∀b,71<b→b≠46:=λb h e=>absurd (e▸h) (by decide)
 rcases m with _ | _ | _ | _ | _ | _ | m
 ·exact⟨⟨.inr h3,h5 _ h3⟩,Nat.lt_of_succ_lt h4⟩
 ·exact⟨⟨.inr (Nat.lt_succ_of_lt h3),h5 _ (Nat.lt_succ_of_lt h3)⟩,h4⟩
 ·exact show((40<65∨71<40)∧40≠46)∧40<100000 by decide
 ·exact show((10<65∨71<10)∧10≠46)∧10<100000 by decide
 ·exact show((32<65∨71<32)∧32≠46)∧32<100000 by decide
 ·exact show((8230<65∨71<8230)∧8230≠46)∧8230<100000 by decide
 ·exact absurd hm (Nat.not_lt_of_le (ao 6 m))
theorem KN(c:Nat→Nat){e:Nat}(he:e<7)(hne:e≠df c):AO (aN c) (65+df c) (iN c) (65+e):=by
 have h1:97≤aN c:=ay _ _
 have h2:aN c≤55294:=Nat.add_le_add_left (bp (Nat.mod_lt _ (by decide))) 97
 have hi:=I8 h1 h2 (m:=mf c / 55198 % 6) (Nat.mod_lt _ (by decide))
 exact⟨h1,ab h2 (by decide),BB _ (rV c),BB _ he,λq=>hne (Nat.add_left_cancel q).symm,hi.1.1,hi.1.2,hi.2⟩
theorem Fx(x:Nat):Le 81 (wt x)∧wt x≠0:=by
 have h1:Le 10 ((100+x % 900:Nat):Int):=by
  unfold Le;rw[Int.natAbs_natCast]
  have:(2:Nat)^10=1024:=rfl
  lia
 have h2:Le 1 (1-((x / 900 % 2*2:Nat):Int)):=by
  unfold Le
  have:(2:Nat)^1=2:=rfl
  (clear this h1;lia)
 have h3:(1-((x / 900 % 2*2:Nat):Int))≠0:=by(clear h2 h1;lia)
 refine⟨Dg (gX (BH h1 (1+x / 1800 % 8)) h2) (by lia),Int.mul_ne_zero (Int.pow_ne_zero (xZ (Nat.lt_add_right (x % 900) (c8 rfl)))) h3⟩
section
variable{c:Nat→Nat}
noncomputable def gV(c:Nat→Nat):List PyData:=(List.range 12).map λk=>bt (c k)
theorem e4(hc:∀k,c k<1000000)(h3:ρ[3]?=some (cZ (gV c))):ak Φ (.prim .sum [(.var 3)]) ρ=some (.d (bt (mf c))):=by
 have e:gV c=((List.range 12).map λk=>(c k:Int)).map .int:=by unfold gV;rw[List.map_map];rfl
 refine(fK (bi h3)).trans ?_
 rw[e]
 refine(Af (by rw[af];decide) λn hn=>?_).trans ?_
 ·obtain⟨k,_,rfl⟩:=List.mem_map.mp hn
  have:=hc k;exact⟨aK (c k),iy (bp this) (c8 rfl)⟩
 ·rw[zB];rfl
theorem e5(h4:ρ[4]?=some (.sh (.d (bt (mf c))))):ak Φ (.bin .Mod (.var 4) (.lit (.int (7)))) ρ=some (.d (bt (df c))):=ev_modn (bi h4) (bX (n:=7)) (by decide) (by decide)
theorem e6(h4:ρ[4]?=some (.sh (.d (bt (mf c)))))(h5:ρ[5]?=some (.sh (.d (bt (df c))))):ak Φ (.bin .Mod (.bin .Add (.bin .Add (.var 5) (.lit (.int (1)))) (.bin .Mod (.bin .FloorDiv (.var 4) (.lit (.int (7)))) (.lit (.int (6))))) (.lit (.int (7)))) ρ=some (.d (bt (eT c))) :=
 ev_modn (ev_addn (ev_addn (bi h5) (bX (n:=1))) (ev_modn (iD (bi h4) (bX (n:=7)) (by decide) (by decide)) (bX (n:=6)) (by decide) (by decide))) (bX (n:=7)) (by decide) (by decide)
theorem e7(h4:ρ[4]?=some (.sh (.d (bt (mf c))))):ak Φ (.list [(.prim .chr [(.bin .Add (.lit (.int (97))) (.bin .Mod (.var 4) (.lit (.int (55198)))))]),(.prim .chr [(.bin .Add (.lit (.int (98))) (.bin .Mod (.var 4) (.lit (.int (55198)))))])]) ρ=some (.d (.list [.str (S [aN c]),.str (S [aN c+1])])):=by
 have hm:ak Φ (.bin .Mod (.var 4) (.lit (.int (55198)))) ρ=some (.d (bt (mf c % 55198))):=ev_modn (bi h4) (bX (n:=55198)) (by decide) (by decide)
 have e98:aN c+1=98+mf c % 55198:=by unfold aN;exact Nat.add_right_comm _ _ _
 rw[e98]
 exact eh (bg (ev_chr (ev_addn (bX (n:=97)) hm) (by lia)) (bg (ev_chr (ev_addn (bX (n:=98)) hm) (cK   (bz (c8 rfl)     (bp (Nat.mod_lt (mf c) (c8 rfl)))))) de)) (aA rfl)
theorem e8(h4:ρ[4]?=some (.sh (.d (bt (mf c)))))(h7:ρ[7]?=some (cZ [.str (S [aN c]),.str (S [aN c+1])])):ak Φ (.item (.list [(.item (.var 7) (.lit (.int (0)))),(.item (.var 7) (.lit (.int (1)))),(.lit (.str (S [40]))),(.lit (.str (S [10]))),(.lit (.str (S [32]))),(.prim .chr [(.lit (.int (8230)))])]) (.bin .Mod (.bin .FloorDiv (.var 4) (.lit (.int (55198)))) (.lit (.int (6))))) ρ=some (.d (.str (S [iN c]))):=by
 refine cT (eh (bg (cT (j:=0) (bi h7) cu (by decide) rfl) (bg (cT (j:=1) (bi h7) (bX (n:=1)) (by decide) rfl) (bg cu (bg cu (bg cu (bg (ev_chr (bX (n:=8230)) (by decide)) de)))))) (aA rfl)) (ev_modn (iD (bi h4) (bX (n:=55198)) (by decide) (by decide)) (bX (n:=6)) (by decide) (by decide)) ?_ ?_
 ·have:mf c / 55198 % 6<6:=Nat.mod_lt _ (by decide)
  exact aE   (ae (Nat.mod_lt (mf c / 55198) (c8 rfl))     (c8 rfl))
 ·unfold iN
  have:mf c / 55198 % 6<6:=Nat.mod_lt _ (by decide)
  generalize mf c / 55198 % 6=m at this
  have:m=0∨m=1∨m=2∨m=3∨m=4∨m=5:=by lia
  rcases this with rfl | rfl | rfl | rfl | rfl | rfl<;>rfl
noncomputable def m_(c:Nat→Nat):List (List (List Nat)×Nat):=[(hu (more c 4),40),(hw (more c 4),41)]
noncomputable def ke(c:Nat→Nat):List Nat:=((m_ c).map gk).flatten.flatten
theorem nY:B8 (m_ c):=λq hq=>by
 unfold m_ at hq
 simp only[ah,List.not_mem_nil,or_false] at hq
 rcases hq with rfl | rfl
 ·exact⟨rz _,.inl rfl⟩
 ·exact⟨vi _,.inr rfl⟩
theorem AF(p:Pl):∀k,∀x∈nm p k,x<k
 |0=>λ_ h=>nomatch h
 |k+1=>λx hx=>by
  rw[E5,td] at hx
  rcases aP.mp hx with hx | hx
  ·rcases aP.mp hx with hx | hx
   ·have:=AF p k x (List.mem_of_mem_take hx);exact Nat.lt_add_right 1 this
   ·simp only[ah,List.not_mem_nil,or_false] at hx
    rcases hx with rfl | rfl<;>exact aF _
  ·have:=AF p k x (List.mem_of_mem_drop hx);exact Nat.lt_add_right 1 this
theorem Jb:on (ij c) 4≤8:=by
 have:=Nat.mod_lt (c 4) (show 0<9 by decide)
 show c 4 % 9≤8
 exact bp (Nat.mod_lt (c 4) (c8 rfl))
theorem JP:tM 4 (nm (ij c) 5)=some (on (ij c) 4):=by
 have hl:=mA (ij c) 4
 have hp:=Jb (c:=c)
 have hn:4∉(nm (ij c) 4).take (on (ij c) 4):=λh=>by have:=AF _ 4 4 (List.mem_of_mem_take h);exact Nat.lt_irrefl _ (by assumption)
 rw[E5,td,bu]
 refine(A3 (r:=4::(nm (ij c) 4).drop (on (ij c) 4)) hn).trans ?_
 rw[bx]
 exact congrArg some (Nat.min_eq_left (ab hp (aw (Eq.symm hl))))
theorem e11(h9:ρ[9]?=some (cZ ((nm (ij c) 5).map bt)))(h10:ρ[10]?=some (cZ (kj (gp c (ij c) 5)))):ak Φ (.meth .join (.lit (.str (S []))) [(.slice (.slice (.var 10) (some (.meth .index (.var 9) [(.lit (.int (4)))])) none none) none (some (.lit (.int (2)))) none)]) ρ=some (.d (.str (S (ke c)))):=by
 have hl:=mA (ij c) 5
 have hg:=mG c (ij c) 5
 have hg4:=mG c (ij c) 4
 have hp:=Jb (c:=c)
 have ei:ak Φ (.meth .index (.var 9) [(.lit (.int (4)))]) ρ=some (.d (bt (on (ij c) 4))):=(eQ (bi h9) (bX (n:=4))).trans (xI (ab (aw hl) (c8 rfl)) JP)
 have hv:(kj (gp c (ij c) 5)).length=10:=by unfold kj;rw[af,hg]
 have es:=kz (n:=2) (ks (bi h10) ei (ab (aw hv) (c8 rfl)) (ab (Nat.le_succ_of_le hp) (Nat.le_of_succ_le (aw (Eq.symm hv))))) (bX (n:=2)) (by rw[aY];exact ab (cO (List.length (kj (gp c (ij c) 5))) (on (ij c) 4))   (ab (aw hv) (c8 rfl)))
 have e2:((kj (gp c (ij c) 5)).drop (on (ij c) 4)).take 2=((m_ c).map λq=>(gk q).flatten).map λp=>.str (S p):=by
  unfold kj
  rw[←List.map_drop,←List.map_take,Cn,BW (ab hp (aw (Eq.symm hg4))),List.map_map];rfl
 rw[e2] at es
 have hfl:((m_ c).map λq=>(gk q).flatten).flatten=ke c:=by unfold ke;rw[List.flatten_flatten,List.map_map];rfl
 have hlen:=jz (nY (c:=c))
 have:=uF es (by rw[af];exact aA rfl) (by rw[hfl];exact ab hlen (aA rfl))
 rw[hfl] at this
 exact this
noncomputable def xu:List (List (List Nat)):=[[[34],[41],[34]],[[34]],[[34],[41]],[[92]]]
theorem Bs:∀us∈xu,ti us∧te us∧us.flatten.length≤10∧sq 0 us=!(us.flatten==[34,41]):=λus h=>by
 unfold xu at h
 simp only[ah,List.not_mem_nil,or_false] at h
 rcases h with rfl | rfl | rfl | rfl
 ·exact⟨⟨eS (by decide),eS (by decide),.inr (eS (by decide))⟩,by unfold te;decide,by decide,rfl⟩
 ·exact⟨.inr (eS (by decide)),by unfold te;decide,by decide,rfl⟩
 ·exact⟨⟨eS (by decide),.inr (eS (by decide))⟩,by unfold te;decide,by decide,rfl⟩
 ·exact⟨.inl rfl,by unfold te;decide,by decide,rfl⟩
theorem Cz:sq 0 (((m_ c).map gk).flatten++us)=sq 0 us:=by
 have e:((m_ c).map gk).flatten++us=hu (more c 4)++([40]::(hw (more c 4)++([41]::us))):=by
  unfold m_ gk;simp
 rw[e,(rz _).neu,tB,(vi _).neu,qA];rfl
theorem e10{es:List lj}(H:Std es)(hl:ρ.length=30)(h11:ρ[11]?=some (sv (ke c))):ak (gt es fu (k+2)) (.cmp .Gt (.meth .count (.comp 0 (.cmp .Is (.call 2 [(.bin .Add (.var 11) (.var 30))]) (.cmp .NotEq (.var 30) (.lit (.str (S [34,41]))))) (.list [(.lit (.str (S [34,41,34]))),(.lit (.str (S [34]))),(.lit (.str (S [34,41]))),(.lit (.str (S [92])))]) []) [(.lit (.bool false))]) (.lit (.int (0)))) ρ=some (.d (.bool false)):=by
 refine(uj (y:=0) (ju (xs:=xu) ?_ (by decide)) (bX (n:=0))).trans rfl
 refine ev_comp (g:=λus=>.str (S us.flatten)) (h:=λ_=>.bool true) (xs:=xu) (eh (bg cu (bg cu (bg cu (bg cu de)))) (aA rfl)) (eB (aA rfl)) λus hus=>?_
 refine aa λhQ=>?_
 obtain⟨w1,w2,w3,w4⟩:=Bs us hus
 (refine hQ ?_;clear hQ)
 have hlen:=jz (nY (c:=c))
 have hcl:(ke c).length≤2002:=hlen
 have hv:(ρ++[.sh (.d (.str (S us.flatten)))])[30]?=some (sv us.flatten):=by rw[aM (aw hl),hl];rfl
 have hv2:(ρ++[.sh (.d (.str (S us.flatten)))])[11]?=some (sv (ke c)):=by rw[a_ (Nat.lt_of_succ_lt_succ   (au (ao (Nat.succ 11) 18) (cK (aw (Eq.symm hl)))))];exact h11
 have hus2:us.flatten.all (·<0x110000)=true:=ap.mpr λx hx=>by
  obtain⟨u,hu,hx⟩:=List.mem_flatten.mp hx
  exact ap.mp (w2 u hu).2 x hx
 have e1:ak (gt es fu (k+2)) (.call 2 [(.bin .Add (.var 11) (.var 30))]) (ρ++[.sh (.d (.str (S us.flatten)))])=some (.d (.bool (sq 0 us))):=by
  refine(lS (dU (bi hv2) (bi hv) (ab (Nat.add_le_add hcl w3) (c8 rfl))) rfl).trans ?_
  unfold ke
  rw[←List.flatten_append,qG H (nL (mU nY) w1) (λu hu=>(aP.mp hu).elim (q8 nY u) (w2 u)) (by rw[List.flatten_append,aG];exact ab (Nat.add_le_add hcl w3) (by decide))]
  exact congrArg (λb=>some (V.d (.bool b))) (Cz (c:=c))
 have e2:=uq (bi hv) (cu (Φ:=gt es fu (k+2)) (p:=.str (S [34,41]))) (g_ hus2) (g_ rfl)
 rw[tn,←w4] at e2
 refine(wW e1 e2).trans ?_
 rw[nU];simp
theorem KS(hl:ρ.length=30)(h3:ρ[3]?=some (cZ (gV c))):ak Φ (.comp 0 (.bin .Mult (.bin .Pow (.bin .Add (.lit (.int (100))) (.bin .Mod (.var 30) (.lit (.int (900))))) (.bin .Add (.lit (.int (1))) (.bin .Mod (.bin .FloorDiv (.var 30) (.lit (.int (1800)))) (.lit (.int (8)))))) (.bin .Sub (.lit (.int (1))) (.bin .Mult (.bin .Mod (.bin .FloorDiv (.var 30) (.lit (.int (900)))) (.lit (.int (2)))) (.lit (.int (2)))))) (.slice (.var 3) (some (.lit (.int (5)))) none none) []) ρ=some (.d (.list ((List.range 7).map λj=>.int (wN c j)))):=by
 refine ev_comp (g:=λj=>bt (c (5+j))) (h:=λj=>.int (wN c j)) (xs:=List.range 7) (ks (m:=5) (bi h3) (bX (n:=5)) (aA rfl) (aA rfl)) ((eB (aA rfl)).trans rfl) λj _=>?_
 have hv:(ρ++[.sh (.d (bt (c (5+j))))])[30]?=some (.sh (.d (bt (c (5+j))))):=by rw[aM (aw hl),hl];rfl
 unfold wN
 generalize c (5+j)=x at hv ⊢
 have h1:ak Φ (.bin .Add (.lit (.int (100))) (.bin .Mod (.var 30) (.lit (.int (900))))) (ρ++[.sh (.d (bt x))])=some (.d (bt (100+x % 900))):=ev_addn (bX (n:=100)) (ev_modn (bi hv) (bX (n:=900)) (by decide) (by decide))
 have h2:ak Φ (.bin .Add (.lit (.int (1))) (.bin .Mod (.bin .FloorDiv (.var 30) (.lit (.int (1800)))) (.lit (.int (8))))) (ρ++[.sh (.d (bt x))])=some (.d (bt (1+x / 1800 % 8))):=ev_addn (bX (n:=1)) (ev_modn (iD (bi hv) (bX (n:=1800)) (by decide) (by decide)) (bX (n:=8)) (by decide) (by decide))
 have h4:ak Φ (.bin .Mult (.bin .Mod (.bin .FloorDiv (.var 30) (.lit (.int (900)))) (.lit (.int (2)))) (.lit (.int (2)))) (ρ++[.sh (.d (bt x))])=some (.d (bt (x / 900 % 2*2))):=xl (ev_modn (iD (bi hv) (bX (n:=900)) (by decide) (by decide)) (bX (n:=2)) (by decide) (by decide)) (bX (n:=2)) (ab (aE (Nat.mod_lt _ (by decide))) (by decide)) (by decide)
 have hL:Le 10 ((100+x % 900:Nat):Int):=by
  unfold Le;rw[Int.natAbs_natCast]
  have:(2:Nat)^10=1024:=rfl
  lia
 have hS:Bd (1-((x / 900 % 2*2:Nat):Int)):=gw (i:=1) (by
  unfold Le
  have:(2:Nat)^1=2:=rfl
  (clear this hL h4 h2 h1 hv h3 hl;omega)) (by decide)
 exact ev_mulB ((dh h1 h2).trans (Ca (GO hL (by decide)) (by(clear hS hL h4 h2 h1 hv h3 hl;lia)))) ((dh cu h4).trans (jC 1 _)) (gw (BH hL (1+x / 1800 % 8)) (by(clear hS hL h4 h2 h1 hv h3 hl;lia))) hS
end
end M01
end
section
open PySem.StrLaws
theorem vY{a b:CE}{x:PyData}(h1:ak Φ a ρ=some (.d x))(h2:ak Φ b ρ=some (.d x))(s:fY x=true):ak Φ (.cmp .Eq a b) ρ=some (.d (.bool true)) :=
 (iP h1 h2 s s).trans (by rw[SeqAt.eqv_refl x (cg.mp s).1])
theorem BS{ρ':Ev}{v:V}{r:List CS}{R:Option (Ev×Fl)}(h:ak Φ e ρ=some v)(ho:v.own=false)(hs:ρ.set i (.sh v)=ρ')(k:cexs Φ fu r ρ'=R):cexs Φ fu (.asg i e::r) ρ=R:=bN h ho (hs▸k)
namespace M01
structure Fe(es:List lj):Prop extends Std es where
 row:es[8]?=some (.code ⟨1,9,yf⟩)
 tri:es[9]?=some (.code ⟨2,10,gD⟩)
 frm:es[10]?=some (.code ⟨5,25,qL⟩)
 fnd:es[11]?=some (.code ⟨5,9,mw⟩)
noncomputable def C5(w:Nat→Int)(h a k:Nat):Int:=w k*w ((k+1) % 7)*Cf h a k
noncomputable def eC(w:Nat→Int)(h:Nat)(N:Nat→Nat)(j:Nat):Int:=w h*w j*(N j:Nat)
noncomputable def eP(f:Nat→Int):List PyData:=(List.range 7).map λj=>.int (f j)
theorem rj(f:Nat→Int):fY (.list (eP f))=true:=by
 have:=zJ ((List.range 7).map f)
 rw[List.map_map] at this
 exact this
theorem Ea(T:List (List Nat)):fY (.list (gR T))=true:=pW (n:=10) (λx hx=>by
 refine aa λhQ=>?_
 obtain⟨t,_,rfl⟩:=List.mem_map.mp hx
 (refine hQ ?_;clear hQ)
 have h:∀y∈t.map bt,y.canLay0=true∧y.depth≤0:=λy hy=>by
  obtain⟨n,_,rfl⟩:=List.mem_map.mp hy
  exact⟨by unfold bt;rw[PyData.canLay0],by unfold bt;rw[PyData.depth];exact aF _⟩
 refine⟨?_,?_⟩
 ·rw[PyData.canLay0];exact vf λy hy=>(h y hy).1
 ·rw[PyData.depth];have:=kb λy hy=>(h y hy).2;exact dc (ab this (c8 rfl))) (by decide)
theorem DL{s:Nat}(h:∃K,yr s T=some K):T.length=5:=by
 refine aa λhQ=>?_
 obtain⟨K,h⟩:=h
 obtain⟨hc,_⟩:=dn h
 (refine hQ ?_;clear hQ)
 simp only[ag,ar] at hc
 exact hc.1.1.1
section
variable{w:Nat→Int}{h a:Nat}{N Na:Nat→Nat}
theorem fc{f:Nat→Int}(hn:ρ[n]?=some (cZ (eP f)))(he:ak Φ e ρ=some (.d (bt j)))(hj:j<7):ak Φ (.item (.var n) e) ρ=some (.d (.int (f j))):=rZ hn he hj
theorem K5{f g:Nat→Int}(h12:ρ[12]?=some (cZ (gR T)))(hT:T.length=5)(h14:ρ[14]?=some (cZ (eP f)))(h16:ρ[16]?=some (cZ (eP g))):ak Φ (.boolop .Or (.cmp .Eq (.var 12) (.list [])) (.boolop .Or (.cmp .Eq (.var 14) (.list [])) (.cmp .Eq (.var 16) (.list [])))) ρ=some (.d (.bool false)):=by
 have e1:=iP (bi (Φ:=Φ) h12) iF (Ea T) rfl
 have e2:=λ(n:Nat) (f:Nat→Int) (hn:ρ[n]?=some (cZ (eP f)))=>iP (bi (Φ:=Φ) hn) iF (rj f) rfl
 rw[nT,show(gR T).isEmpty=false by unfold gR;rw[List.isEmpty_map];cases T<;>first | rfl | cases hT] at e1
 refine wK e1 (wK ?_ ?_)
 ·have:=e2 14 f h14;rw[nT] at this;exact this
 ·have:=e2 16 g h16;rw[nT] at this;exact this
theorem k1(hk:ρ[30]?=some (.sh (.d (bt k)))):ak Φ (.bin .Mod (.bin .Add (.var 30) (.lit (.int (1)))) (.lit (.int (7)))) ρ=some (.d (bt ((k+1) % 7))):=ev_modn (ev_addn (bi hk) (bX (n:=1))) (bX (n:=7)) (by decide) (by decide)
theorem pV{x:Slot}(hl:ρ.length=30):(ρ++[x])[30]?=some x:=by rw[aM (aw hl),hl];rfl
theorem gW{x y:Slot}(h:ρ[i]?=some y):(ρ++[x])[i]?=some y:=(a_ (aS.mp h).1).trans h
theorem l5(hB:∀j,Le 81 (w j))(hN:∀j,j<7→N j≤100)(hj:j<7):Bd (eC w h N j):=gw (gX (gX (hB h) (hB j)) (pg (ab (hN j hj) (by decide)))) (by decide)
theorem KO(hl:ρ.length=30)(h14:ρ[14]?=some (cZ (eP (eC w h N))))(h16:ρ[16]?=some (cZ (eP (eC w a Na))))(hB:∀j,Le 81 (w j))(hN:∀j,j<7→N j≤100)(hNa:∀j,j<7→Na j≤100)
  (side:∀k,k<7→((N ((k+1) % 7):Nat):Int)*(Na k:Nat)-(N k:Nat)*(Na ((k+1) % 7):Nat)=(N a:Nat)*Cf h a k) :
  ak Φ (.comp 0 (.bin .Sub (.bin .Mult (.item (.var 14) (.bin .Mod (.bin .Add (.var 30) (.lit (.int (1)))) (.lit (.int (7))))) (.item (.var 16) (.var 30))) (.bin .Mult (.item (.var 14) (.var 30)) (.item (.var 16) (.bin .Mod (.bin .Add (.var 30) (.lit (.int (1)))) (.lit (.int (7))))))) (.prim .range1 [(.lit (.int (7)))]) []) ρ=some (.d (.list (eP λk=>eC w h N a*C5 w h a k))):=by
 refine ev_comp (g:=bt) (xs:=List.range 7) fX (eV (n:=7) (by decide)) λk hk=>?_
 have hk:=bS.mp hk
 have hv:=pV (x:=.sh (.d (bt k))) hl
 have hm:(k+1) % 7<7:=Nat.mod_lt _ (by decide)
 refine(dh (ev_mulB (fc (gW h14) (k1 hv) hm) (fc (gW h16) (bi hv) hk) (l5 hB hN hm) (l5 hB hNa hk)) (ev_mulB (fc (gW h14) (bi hv) hk) (fc (gW h16) (k1 hv) hm) (l5 hB hN hk) (l5 hB hNa hm))).trans ((jC _ _).trans ?_)
 have e:eC w h N ((k+1) % 7)*eC w a Na k-eC w h N k*eC w a Na ((k+1) % 7)=eC w h N a*C5 w h a k:=by
  have:=side k hk
  unfold eC C5
  generalize Cf h a k=sg at this ⊢
  generalize (N ((k+1) % 7):Int)=n1 at this ⊢
  generalize (Na ((k+1) % 7):Int)=m1 at this ⊢
  generalize (N k:Int)=n0 at this ⊢
  generalize (Na k:Int)=m0 at this ⊢
  generalize (N a:Int)=na at this ⊢
  have e2:w h*w a*na*(w k*w ((k+1) % 7)*sg)=(w h*w a*w k*w ((k+1) % 7))*(na*sg):=by grind
  rw[e2,←this];grind
 rw[e]
theorem Kv(hk:k<7)(hh:h<7)(hi:ρ[i]?=some (.sh (.d (bt k))))(h5:ρ[5]?=some (.sh (.d (bt h)))):ak Φ (.bin .Mod (.bin .Sub (.var i) (.var 5)) (.lit (.int (7)))) ρ=some (.d (bt ((k+7-h) % 7))):=by
 refine(dh ((dh (bi hi) (bi h5)).trans (jC _ _)) cu).trans ((pF (by decide) (fw (by decide))).trans ?_)
 rw[(show∀k,k<7→∀h,h<7→((k:Nat)-(h:Nat):Int).fmod 7=((k+7-h) % 7:Nat) by decide) k hk h hh];rfl
theorem KZ(hl:ρ.length=30)(hh:h<7)(ha:a<7)(h5:ρ[5]?=some (.sh (.d (bt h))))(h6:ρ[6]?=some (.sh (.d (bt a))))(h13:ρ[13]?=some (cZ (eP w)))(hB:∀j,Le 81 (w j)) :
  ak Φ (.comp 0 (.bin .Mult (.bin .Mult (.item (.var 13) (.var 30)) (.item (.var 13) (.bin .Mod (.bin .Add (.var 30) (.lit (.int (1)))) (.lit (.int (7)))))) (.ite (.cmp .Lt (.bin .Mod (.bin .Sub (.var 30) (.var 5)) (.lit (.int (7)))) (.bin .Mod (.bin .Sub (.var 6) (.var 5)) (.lit (.int (7))))) (.lit (.int (1))) (.un .USub (.lit (.int (1)))))) (.prim .range1 [(.lit (.int (7)))]) []) ρ=some (.d (.list (eP (C5 w h a)))):=by
 refine ev_comp (g:=bt) (xs:=List.range 7) fX (eV (n:=7) (by decide)) λk hk=>?_
 have hk:=bS.mp hk
 have hv:=pV (x:=.sh (.d (bt k))) hl
 have hm:(k+1) % 7<7:=Nat.mod_lt _ (by decide)
 have hb:∀j,Bd (w j):=λj=>gw (hB j) (by decide)
 have es:ak Φ (.ite (.cmp .Lt (.bin .Mod (.bin .Sub (.var 30) (.var 5)) (.lit (.int (7)))) (.bin .Mod (.bin .Sub (.var 6) (.var 5)) (.lit (.int (7))))) (.lit (.int (1))) (.un .USub (.lit (.int (1))))) (ρ++[.sh (.d (bt k))])=some (.d (.int (Cf h a k))):=by
  refine(pU (CW (Kv hk hh hv (gW h5)) (Kv ha hh (gW h6) (gW h5)))).trans ?_
  unfold Cf
  by_cases q:(k+7-h) % 7<(a+7-h) % 7
  ·rw[aO q,if_pos q];rfl
  ·rw[ba q,if_neg q];rfl
 refine ev_mulB (ev_mulB (fc (gW h13) (bi hv) hk) (fc (gW h13) (k1 hv) hm) (hb _) (hb _)) es (gw (gX (hB _) (hB _)) (by decide)) (gw (i:=1) ?_ (by decide))
 unfold Cf Le
 split<;>decide
theorem KW(hl:ρ.length=30)(ha:a<7)(h6:ρ[6]?=some (.sh (.d (bt a))))(h14:ρ[14]?=some (cZ (eP (eC w h N))))(h18:ρ[18]?=some (cZ (eP (C5 w h a))))(h17:ρ[17]?=some (cZ (eP λk=>eC w h N a*C5 w h a k)))(hB:∀j,Le 81 (w j))(hN:∀j,j<7→N j≤100) :
  ak Φ (.cmp .NotEq (.var 17) (.comp 0 (.bin .Mult (.item (.var 14) (.var 6)) (.var 30)) (.var 18) [])) ρ=some (.d (.bool false)):=by
 refine ir (bi h17) (ev_comp (g:=λk=>.int (C5 w h a k)) (xs:=List.range 7) (bi h18) (eB (aA rfl)) λk _=>?_) (rj _)
 refine ev_mulB (fc (gW h14) (bi (gW h6)) ha) (bi (pV hl)) (l5 hB hN ha) ?_
 refine gw (i:=81+81+1) (gX (gX (hB _) (hB _)) ?_) (by decide)
 unfold Cf Le
 split<;>decide
theorem Ld(hl:ρ.length=30)(h5:ρ[5]?=some (.sh (.d (bt h)))):ak Φ (.comp 0 (.var 30) (.prim .range1 [(.lit (.int (7)))]) [(.cmp .NotEq (.var 30) (.var 5))]) ρ=some (.d (.list (((List.range 7).filter λk=>!decide (k=h)).map bt))):=by
 refine oH (g:=bt) (h:=bt) (xs:=List.range 7) fX (eV (n:=7) (by decide)) (λk _=>?_) λk _ _=>bi (pV hl)
 refine(uq (bi (pV hl)) (bi (gW h5)) (gc _) (gc _)).trans ?_
 rw[jG]
end
noncomputable def Hj:List CE:=[(.item (.var 14) (.var 6)),(.item (.var 14) (.var 5))]
noncomputable def D_:CE:=.cmp .Eq (.call 7 [(.item (.var 14) (.var 5)),(.item (.var 13) (.var 5))]) (.tup [(.lit (.int (0))),(.lit (.int (0)))])
theorem Gv{wo:Option (List Bool)}(h:Bg n wo=true):1≤n∧(∀x,wo=some x→x.length≤100)∧Fd (wC wo) 10 0 [[]]=some (n-1):=by
 cases wo with
 |none =>
  have h:=of_decide_eq_true h
  subst h
  exact⟨aF _,(λ_ e=>nomatch e),by decide +kernel⟩
 |some u =>
  have h:(decide (u.length≤10)&&decide (Fd (λv=>v.isSublist u) 10 0 [[]]=some (n-1))&&decide (1<n))=true:=h
  simp only[ag,ar] at h
  exact⟨by exact aE (And.right h),λx e=>by cases e;exact ab (And.left (And.left h)) (c8 rfl),h.1.2⟩
theorem yG{es esH:List lj}(H:Fe es)(HH:StdD esH){xs:List Int}(hx:xs.length≤63):∃(ρ:Ev) (p:Int),cexs (gt es 10 11) 10 rL (cZ (xs.map .int)::List.replicate 29 .un)=some (ρ,.nx)∧ρ.all jK=true∧cevals (gt es 10 11) Hj ρ=some [.d (.int p),.d (.int 0)]∧ak (gt esH 10 11) D_ ρ=some (.d (.bool true)):=by
 refine aa λhQ=>?_
 obtain⟨c,hc⟩:∃c,c=cellN l0 12 xs:=⟨_,rfl⟩
 have hcl:∀k,c k<1000000:=λk=>by rw[hc];exact BU _ _ _ _
 obtain⟨hb,hok,htl⟩:=GL c
 (refine hQ ?_;clear hQ)
 have hT:=Hp hb
 have hh:=rV c
 have ha:=ES c
 have hne:=Dj c
 have hL:=λ{e:Nat} (he:e<7) (hn:e≠df c)=>KN c he hn
 have hB:∀j,Le 81 (wN c j):=λj=>(Fx _).1
 have hZ:∀j,wN c j≠0:=λj=>(Fx _).2
 have hrow:gt es 10 11 8 [.d (.list (gV c))]=some (.d (.tuple [.list ((nm (ij c) 5).map bt),.list (kj (gp c (ij c) 5))])):=by
  rw[eF H.row]
  exact E_ (cs:=gV c) (λk hk=>oa (ae hk (c8 rfl))) (IO c)
 have htri:gt es 10 11 9 [.d (.list ((nm (ij c) 5).map bt)),.d (.list (kj (gp c (ij c) 5)))]=some (.d (.list (gR (Gj (br (ij c) 5))))):=by
  rw[eF H.tri]
  have:=DR H.toStd (fu:=10) (k:=8) (w:=nm (ij c) 5) (ps:=gp c (ij c) 5) (mA _ 5) (C1 _ _ 5) (mG _ _ 5) (by rw[B4];exact hok)
  rw[B4,htl] at this
  exact this
 have gB:∀h,h<7→∀j,j<7→(dy h (Gj (br (ij c) 5))).getD j 0≤100:=hT.le
 generalize Gj (br (ij c) 5)=T at hT htri gB
 have hTl:=DL (hT.ok _ hh)
 have hfrm:∀s,s<7→(qc s T).length=7∧gt es 10 11 10 [.d (bt s),.d (.list (gR T)),.d (.list (eP (wN c))),.d (.list [.str (S [aN c]),.str (S [aN c+1])]),.d (bt (mf c))]=some (.d (.tuple [.list (eP (eC (wN c) s λj=>(dy s T).getD j 0)),.list ((qc s T).map (je (aN c)))])):=λs hs=>by
  rw[eF H.frm]
  exact Ah H.toStd (fu:=10) (k:=5) hs (hT.ok s hs) hB hZ
 obtain⟨hwl,hfh⟩:=hfrm _ hh
 have hfa:=(hfrm _ ha).2
 have hends:=λe he hne=>Gv (hT.ends _ hh e he hne)
 have hside:=hT.side _ hh _ ha hne
 have hz:=hT.zero _ hh
 have hN:=gB _ hh
 have hNa:=gB _ ha
 clear hfrm gB hok htl hb
 generalize qc (df c) T=ws at hwl hfh hends
 generalize hwsa:qc (eT c) T=wsa at hfa
 clear hwsa
 refine aa λhQ=>?_
 obtain⟨N,hNe⟩:∃N,N=λj=>(dy (df c) T).getD j 0:=⟨_,rfl⟩
 obtain⟨Na,hNae⟩:∃Na,Na=λj=>(dy (eT c) T).getD j 0:=⟨_,rfl⟩
 (refine hQ ?_;clear hQ)
 rw[←hNe] at hfh
 rw[←hNae] at hfa
 replace hends:∀e,e<7→e≠df c→1≤N e∧(∀x,ws.getD e none=some x→x.length≤100)∧Fd (wC (ws.getD e none)) 10 0 [[]]=some (N e-1):=λe he hne=>by rw[hNe];exact hends e he hne
 replace hside:∀k,k<7→((N ((k+1) % 7):Nat):Int)*(Na k:Nat)-(N k:Nat)*(Na ((k+1) % 7):Nat)=(N (eT c):Nat)*Cf (df c) (eT c) k:=λk hk=>by rw[hNe,hNae];exact hside k hk
 replace hz:N (df c)=0:=by rw[hNe];exact hz
 replace hN:∀j,j<7→N j≤100:=λj hj=>by rw[hNe];exact hN j hj
 replace hNa:∀j,j<7→Na j≤100:=λj hj=>by rw[hNae];exact hNa j hj
 clear hNe hNae hT
 obtain⟨y,hy⟩:∃y,y=[cZ (xs.map .int),cZ (l0.map bt),cZ ((jq xs).map .int),cZ (gV c)]:=⟨_,rfl⟩
 obtain⟨z,hz'⟩:∃z,z=[cZ ((nm (ij c) 5).map bt),cZ (kj (gp c (ij c) 5)),sv (ke c),cZ (gR T)]:=⟨_,rfl⟩
 obtain⟨v,hv⟩:∃v,v=[cZ (eP (eC (wN c) (eT c) Na)),cZ (eP λk=>eC (wN c) (df c) N (eT c)*C5 (wN c) (df c) (eT c) k),cZ (eP (C5 (wN c) (df c) (eT c)))]:=⟨_,rfl⟩
 have hturn:∀e∈(List.range 7).filter (λk=>!decide (k=df c)),∀X:Nat→Slot,_:=λe he X=>by
  obtain⟨he1,he2⟩:=List.mem_filter.mp he
  have he1:=bS.mp he1
  have he2:e≠df c:=λq=>by rw[aO q] at he2;cases he2
  obtain⟨g1,g2,g3⟩:=hends e he1 he2
  have L:=hL he1 he2
  refine BL (Φ:=gt es 10 11) (fu:=10) (y:=y) (z:=z) (v:=v) (x6:=.sh (.d (bt (eT c)))) (spare:=mf c) (a:=aN c) (i:=iN c) (X:=X) he1 hh hB g1 (hN e he1) hwl g2 ?_ ?_
  ·rw[eF H.fnd]
   exact zb (d:=0) L.a2 (λu hu=>yZ H.toStd (k:=9) L (ab hu (c8 rfl)) g2) g3
  ·refine CG H.toStd (k:=10) L ⟨by exact ay 65 ((df c+1) % 7),?_,?_⟩ ⟨by exact ay 65 ((e+1) % 7),?_,?_⟩ _ g2<;>(clear L g3 g2 g1 he2 he1 he hNa hN hz hside hends hfa hfh hwl hTl htri hrow hZ hB hL hne ha hh hcl hc hx HH H;lia)
 refine aa λhQ=>?_
 obtain⟨y20,Y,hsl,hloop⟩:=A_ hh ((List.range 7).filter λk=>!decide (k=df c)) .un (λ_=>.un) hturn ⟨rfl,λ_=>rfl⟩
 (refine hQ ?_;clear hQ)
 clear hturn hends
 refine⟨rE y (df c) (mf c) (.sh (.d (bt (eT c)))) (aN c) (iN c) z (wN c) N ws v y20 Y,eC (wN c) (df c) N (eT c),?_,?_,?_,?_⟩
 ·show cexs _ 10 rL [cZ (xs.map .int),.un,.un,.un,.un,.un,.un,.un,.un,.un,.un,.un,.un,.un,.un,.un,.un,.un,.un,.un,.un,.un,.un,.un,.un,.un,.un,.un,.un,.un]=_
  subst hy hz' hv
  unfold rL
  refine bN (v:=.d (.list (l0.map bt))) rfl rfl ?_
  refine bN (Fb rfl rfl (ab hx (c8 rfl))) rfl ?_
  refine bN ((AU (base:=l0) (st:=12) (n:=12) (i:=30) (xs:=xs) rfl rfl rfl (by decide) (by decide) rfl (by decide)).trans (by rw[←hc])) rfl ?_
  refine bN (e4 hcl rfl) rfl ?_
  refine bN (e5 rfl) rfl ?_
  refine bN (e6 rfl rfl) rfl ?_
  refine bN (e7 rfl) rfl ?_
  refine BS (ρ':=[cZ (xs.map .int),cZ (l0.map bt),cZ ((jq xs).map .int),cZ (gV c),.sh (.d (bt (mf c))),.sh (.d (bt (df c))),.sh (.d (bt (eT c))),cZ [.str (S [aN c]),.str (S [aN c+1])],sv [iN c],.un,.un,.un,.un,.un,.un,.un,.un,.un,.un,.un,.un,.un,.un,.un,.un,.un,.un,.un,.un,.un]) (e8 rfl rfl) rfl rfl ?_
  refine bZ (ρ':=[cZ (xs.map .int),cZ (l0.map bt),cZ ((jq xs).map .int),cZ (gV c),.sh (.d (bt (mf c))),.sh (.d (bt (df c))),.sh (.d (bt (eT c))),cZ [.str (S [aN c]),.str (S [aN c+1])],sv [iN c],cZ ((nm (ij c) 5).map bt),cZ (kj (gp c (ij c) 5)),.un,.un,.un,.un,.un,.un,.un,.un,.un,.un,.un,.un,.un,.un,.un,.un,.un,.un,.un]) ((lI ((lS (bi rfl) rfl).trans hrow) rfl).trans rfl) ?_
  refine bN (e11 rfl rfl) rfl ?_
  refine bZ (cx_no (e10 H.toStd (k:=9) rfl rfl) rfl) ?_
  refine BS (ρ':=[cZ (xs.map .int),cZ (l0.map bt),cZ ((jq xs).map .int),cZ (gV c),.sh (.d (bt (mf c))),.sh (.d (bt (df c))),.sh (.d (bt (eT c))),cZ [.str (S [aN c]),.str (S [aN c+1])],sv [iN c],cZ ((nm (ij c) 5).map bt),cZ (kj (gp c (ij c) 5)),sv (ke c),cZ (gR T),.un,.un,.un,.un,.un,.un,.un,.un,.un,.un,.un,.un,.un,.un,.un,.un,.un]) ((fG (bi rfl) (bi rfl)).trans htri) rfl rfl ?_
  refine bN (KS rfl rfl) rfl ?_
  refine bZ (ρ':=[cZ (xs.map .int),cZ (l0.map bt),cZ ((jq xs).map .int),cZ (gV c),.sh (.d (bt (mf c))),.sh (.d (bt (df c))),.sh (.d (bt (eT c))),cZ [.str (S [aN c]),.str (S [aN c+1])],sv [iN c],cZ ((nm (ij c) 5).map bt),cZ (kj (gp c (ij c) 5)),sv (ke c),cZ (gR T),cZ (eP (wN c)),cZ (eP (eC (wN c) (df c) N)),cZ (ws.map (je (aN c))),.un,.un,.un,.un,.un,.un,.un,.un,.un,.un,.un,.un,.un,.un]) ((lI ((oZ (bi rfl) (bi rfl) (bi rfl) (bi rfl) (bi rfl)).trans hfh) rfl).trans rfl) ?_
  refine bN (n7 (j:=0) ((oZ (bi rfl) (bi rfl) (bi rfl) (bi rfl) (bi rfl)).trans hfa) cu (bo _) rfl) rfl ?_
  refine bZ (cx_no (K5 rfl hTl rfl rfl) rfl) ?_
  refine bN (KO rfl rfl rfl hB hN hNa hside) rfl ?_
  refine bN (KZ rfl hh ha rfl rfl rfl hB) rfl ?_
  refine bZ (cx_no (KW rfl ha rfl rfl rfl rfl hB hN) rfl) ?_
  refine BS (ρ':=[cZ (xs.map .int),cZ (l0.map bt),cZ ((jq xs).map .int),cZ (gV c),.sh (.d (bt (mf c))),.sh (.d (bt (df c))),.sh (.d (bt (eT c))),cZ [.str (S [aN c]),.str (S [aN c+1])],sv [iN c],cZ ((nm (ij c) 5).map bt),cZ (kj (gp c (ij c) 5)),sv (ke c),cZ (gR T),cZ (eP (wN c)),cZ (eP (eC (wN c) (df c) N)),cZ (ws.map (je (aN c))),cZ (eP (eC (wN c) (eT c) Na)),cZ (eP λk=>eC (wN c) (df c) N (eT c)*C5 (wN c) (df c) (eT c) k),cZ (eP (C5 (wN c) (df c) (eT c))),sv [65+df c,iN c],.un,.un,.un,.un,.un,.un,.un,.un,.un,.un]) (dU (x:=[65+df c]) (ev_chr (ev_addn (bX (n:=65)) (bi rfl)) (ae (Nat.add_lt_add_left hh 65) (c8 rfl))) (bi rfl) (aA rfl)) rfl rfl ?_
  exact bZ ((sH (b:=BA) (Ld rfl rfl) (eB (by rw[af];exact ab (List.length_filter_le _ _) (aA rfl)))).trans hloop) eK
 ·rw[hy,hz',hv]
  show(y20::_).all jK=true
  simp only[List.all_cons,List.all_nil,hsl.1,hsl.2];rfl
 ·have h0:eC (wN c) (df c) N (df c)=0:=by unfold eC;rw[hz];exact Int.mul_zero _
  have:=EY (fc (Φ:=gt es 10 11) (ρ:=rE y (df c) (mf c) (.sh (.d (bt (eT c)))) (aN c) (iN c) z (wN c) N ws v y20 Y) (n:=14) (f:=eC (wN c) (df c) N) rfl (bi (i:=6) rfl) ha) (fc (n:=14) (f:=eC (wN c) (df c) N) rfl (bi (i:=5) rfl) hh)
  rw[h0] at this
  exact this
 ·have h0:eC (wN c) (df c) N (df c)=0:=by unfold eC;rw[hz];exact Int.mul_zero _
  have e1:=fc (Φ:=gt esH 10 11) (ρ:=rE y (df c) (mf c) (.sh (.d (bt (eT c)))) (aN c) (iN c) z (wN c) N ws v y20 Y) (n:=14) (f:=eC (wN c) (df c) N) rfl (bi (i:=5) rfl) hh
  rw[h0] at e1
  have hd:=qE HH (fu:=10) (k:=6) (w:=0) (s:=0) (hZ (df c)) (gw (pg (n:=0) (by decide)) (by decide)) (gw (hB _) (by decide))
  rw[Int.mul_zero,Int.zero_fmod,Int.add_zero] at hd
  unfold D_
  refine vY (x:=.tuple [.int 0,.int 0]) ((fG e1 (fc (n:=13) (f:=wN c) rfl (bi rfl) hh)).trans hd) (iV (bg cu (bg cu de)) (aA rfl)) (xb (n:=0) (λx hx=>?_) (by decide))
  simp only[ah,List.not_mem_nil,or_false] at hx
  rcases hx with rfl | rfl<;>exact⟨by rw[PyData.canLay0],by rw[PyData.depth];exact aF _⟩
end M01
end
end Mine
set_option tactic.hygienic true
namespace Mine
namespace L01
section
noncomputable def qv:Program:={PySem.Challenge.pw_rw0081_01 with main:={PySem.Challenge.pw_rw0081_01.main with body:=((PySem.Challenge.pw_rw0081_01.main.body.zipIdx).filter λp=>!([0,3,11,15]:List Nat).contains p.2).map (·.1)}}
noncomputable def hk:Hook:=Dm (Str.ofString "_int2digits") (Str.ofString "_digits2int") 37 44
theorem left:LeftO PySem.Challenge.pw_rw0081_01 qv [] (λs=>xlAt qv [] s&&recOk [] s) hk.obs hk.val 2000:=λw=>by kernel_rfl
theorem GD:PySem.Challenge.rw_rw0081_01.wellSaid=true:=by kernel_rfl
noncomputable def dl:DefRec×List (Str×Expr):=(defOf qv (Str.ofString "law")).getD (iQ,[])
theorem Kp:defOf qv (Str.ofString "law")=some (dl.1,dl.2):=by kernel_rfl
theorem J1:PySem.Challenge.pw_rw0081_01.theDef (Str.ofString "law")=some (dl.1.params,dl.1.body,dl.1.scope):=by kernel_rfl
theorem K1:kwWritten? dl.1.params.kwonlyargs dl.1.params.kw_defaults=some dl.2:=by kernel_rfl
theorem KP:(chainsOk qv&&opensWell PySem.Challenge.pw_rw0081_01&&(frees PySem.Challenge.rw_rw0081_01.row.toRowW&&PySem.Challenge.rw_rw0081_01.row.within.isEmpty))=true:=by kernel_rfl
theorem J5:PySem.Challenge.rw_rw0081_01.row.toRowW.promised:=by w_witness2
theorem hd(call:WalkO qv [] (XL qv []) hk.says PySem.Challenge.rw_rw0081_01.row.toRowW dl.1 dl.2 λf vs=>PySem.call f vs):PySem.Challenge.rw_rw0081_01.Holds :=
 holds_law GD λGD=>holds_open (q:=qv) (loose:=[]) (Xt:=λs=>xlAt qv [] s&&recOk [] s) (XP:=XL qv []) (Yf:=hk.obs) (Ya:=hk.val) (YP:=hk.says) (N:=2000) left hk.of hk.keeps (λs e=>xl_of s (cg.mp e).1) XL.keeps Kp J1 K1
  (λs e=>recFacts_of (cg.mp e).2) rfl GD KP ⟨rfl,rfl,rfl,rfl,rfl,by decide +kernel⟩ J5 call
noncomputable def fZ:List Str:=[Str.ofString "_ellipsis_match",Str.ofString "_strip_quoted_realnames",Str.ofString "_check_parenthesis",Str.ofString "_div2n1n",Str.ofString "_int2digits",Str.ofString "_digits2int",Str.ofString "_divmod_pos",Str.ofString "int_divmod",Str.ofString "_law_row",Str.ofString "_law_triangles",Str.ofString "_law_from",Str.ofString "_law_found",Str.ofString "law"]
noncomputable def KC(it:Bool):Cc:={fns:=fZ,csts:=[(Str.ofString "ELLIPSIS_MARKER",.str (Str.ofString "...")),(Str.ofString "_DIV_LIMIT",.int 4000)],it:=it}
noncomputable def CC(own:List Str)(mat:Option (Str×Nat×Nat):=none):Cs:={K:=KC true,own:=own,gen:=some (Str.ofString "_iter_escaped_chars"),mat:=mat}
noncomputable def CH(own:List Str):Cs:={K:=KC false,own:=own,gen:=none}
noncomputable def dy(d:DefRec)(ps:List Str):List Str:=ps++(d.scope.names.filter λp=>(p.2==.local||p.2==.cell)&&!ps.contains p.1).map (·.1)
noncomputable def rc(x:String):DefRec:=nB qv (Str.ofString x)
theorem zU{n:Nat}{vals:List Value}(h:vals.length=n+1):∃a r,vals=a::r∧r.length=n:=by
 cases vals with
 |nil=>cases h
 |cons a r=>exact⟨a,r,rfl,Nat.succ.inj h⟩
theorem AE{vals:List Value}(h:vals.length=1):∃a,vals=[a]:=by
 obtain⟨a,r,rfl,h'⟩:=zU h
 obtain rfl:=List.eq_nil_of_length_eq_zero h'
 exact⟨a,rfl⟩
theorem vq{vals:List Value}(h:vals.length=2):∃a b,vals=[a,b]:=by
 obtain⟨a,r,rfl,h'⟩:=zU h
 obtain⟨b,rfl⟩:=AE h'
 exact⟨a,b,rfl⟩
theorem H_{vals:List Value}(h:vals.length=3):∃a b c,vals=[a,b,c]:=by
 obtain⟨a,r,rfl,h'⟩:=zU h
 obtain⟨b,c,rfl⟩:=vq h'
 exact⟨a,b,c,rfl⟩
theorem JJ{vals:List Value}(h:vals.length=4):∃a b c d,vals=[a,b,c,d]:=by
 obtain⟨a,r,rfl,h'⟩:=zU h
 obtain⟨b,c,d,rfl⟩:=H_ h'
 exact⟨a,b,c,d,rfl⟩
theorem Jd{vals:List Value}(h:vals.length=5):∃a b c d e,vals=[a,b,c,d,e]:=by
 obtain⟨a,r,rfl,h'⟩:=zU h
 obtain⟨b,c,d,e,rfl⟩:=JJ h'
 exact⟨a,b,c,d,e,rfl⟩
noncomputable def dP:List Str:=[Str.ofString "want",Str.ofString "got"]
theorem l7:im (rc "_ellipsis_match").scope dP (dy (rc "_ellipsis_match") dP)=true:=by kernel_rfl
theorem kF:(dy (rc "_ellipsis_match") dP).length+0=6:=by kernel_rfl
theorem kE{W:Wd}(ok:p8 (CC [Str.ofString "ws"]) W):(qg ok (fP (dy (rc "_ellipsis_match") dP) 0) (rc "_ellipsis_match").scope 60 (rc "_ellipsis_match").body).1=qa:=by kernel_rfl
theorem kH(pm cd doc v0 v1:Value):bindArgs (jV (rc "_ellipsis_match") pm cd doc) ⟨[v0,v1],[]⟩=pure (dP.zip [v0,v1]):=by kernel_rfl
theorem jx(pm cd doc:Value)(vals:List Value)(h:vals.length=dP.length):bindArgs (jV (rc "_ellipsis_match") pm cd doc) ⟨vals,[]⟩=pure (dP.zip vals):=by
 obtain⟨v0,v1,rfl⟩:=vq h
 exact kH pm cd doc v0 v1
noncomputable def cS:List Str:=[Str.ofString "addr"]
theorem iK:im (rc "_strip_quoted_realnames").scope cS (dy (rc "_strip_quoted_realnames") cS)=true:=by kernel_rfl
theorem g9:(dy (rc "_strip_quoted_realnames") cS).length+0=6:=by kernel_rfl
theorem ie{W:Wd}(ok:p8 (CC [Str.ofString "result"]) W):(qg ok (fP (dy (rc "_strip_quoted_realnames") cS) 0) (rc "_strip_quoted_realnames").scope 60 (rc "_strip_quoted_realnames").body).1=ml:=by kernel_rfl
theorem h_(pm cd doc v0:Value):bindArgs (jV (rc "_strip_quoted_realnames") pm cd doc) ⟨[v0],[]⟩=pure (cS.zip [v0]):=by kernel_rfl
theorem gF(pm cd doc:Value)(vals:List Value)(h:vals.length=cS.length):bindArgs (jV (rc "_strip_quoted_realnames") pm cd doc) ⟨vals,[]⟩=pure (cS.zip vals):=by
 obtain⟨v0,rfl⟩:=AE h
 exact h_ pm cd doc v0
noncomputable def dm:List Str:=[Str.ofString "addr"]
theorem jY:im (rc "_check_parenthesis").scope dm (dy (rc "_check_parenthesis") dm)=true:=by kernel_rfl
theorem jL:(dy (rc "_check_parenthesis") dm).length+0=4:=by kernel_rfl
theorem jw{W:Wd}(ok:p8 (CC []) W):(qg ok (fP (dy (rc "_check_parenthesis") dm) 0) (rc "_check_parenthesis").scope 60 (rc "_check_parenthesis").body).1=mL:=by kernel_rfl
theorem jH(pm cd doc v0:Value):bindArgs (jV (rc "_check_parenthesis") pm cd doc) ⟨[v0],[]⟩=pure (dm.zip [v0]):=by kernel_rfl
theorem iJ(pm cd doc:Value)(vals:List Value)(h:vals.length=dm.length):bindArgs (jV (rc "_check_parenthesis") pm cd doc) ⟨vals,[]⟩=pure (dm.zip vals):=by
 obtain⟨v0,rfl⟩:=AE h
 exact jH pm cd doc v0
noncomputable def gO:List Str:=[Str.ofString "a",Str.ofString "b",Str.ofString "n"]
theorem oK:im (rc "_div2n1n").scope gO (dy (rc "_div2n1n") gO)=true:=by kernel_rfl
theorem lC:(dy (rc "_div2n1n") gO).length+0=11:=by kernel_rfl
theorem rY{W:Wd}(ok:p8 (CC []) W):(qg ok (fP (dy (rc "_div2n1n") gO) 0) (rc "_div2n1n").scope 60 (rc "_div2n1n").body).1=qY:=by kernel_rfl
theorem qq{W:Wd}(ok:p8 (CH []) W):(qg ok (fP (dy (rc "_div2n1n") gO) 0) (rc "_div2n1n").scope 60 (rc "_div2n1n").body).1=qY:=by kernel_rfl
theorem sK(pm cd doc v0 v1 v2:Value):bindArgs (jV (rc "_div2n1n") pm cd doc) ⟨[v0,v1,v2],[]⟩=pure (gO.zip [v0,v1,v2]):=by kernel_rfl
theorem jQ(pm cd doc:Value)(vals:List Value)(h:vals.length=gO.length):bindArgs (jV (rc "_div2n1n") pm cd doc) ⟨vals,[]⟩=pure (gO.zip vals):=by
 obtain⟨v0,v1,v2,rfl⟩:=H_ h
 exact sK pm cd doc v0 v1 v2
noncomputable def eH:List Str:=[Str.ofString "a",Str.ofString "b"]
theorem kP:im (rc "_divmod_pos").scope eH (dy (rc "_divmod_pos") eH)=true:=by kernel_rfl
theorem jO:(dy (rc "_divmod_pos") eH).length+0=9:=by kernel_rfl
theorem nF{W:Wd}(ok:p8 (CC [Str.ofString "q_digits"]) W):(qg ok (fP (dy (rc "_divmod_pos") eH) 0) (rc "_divmod_pos").scope 60 (rc "_divmod_pos").body).1=mR:=by kernel_rfl
theorem mN{W:Wd}(ok:p8 (CH [Str.ofString "q_digits"]) W):(qg ok (fP (dy (rc "_divmod_pos") eH) 0) (rc "_divmod_pos").scope 60 (rc "_divmod_pos").body).1=mR:=by kernel_rfl
theorem nE(pm cd doc v0 v1:Value):bindArgs (jV (rc "_divmod_pos") pm cd doc) ⟨[v0,v1],[]⟩=pure (eH.zip [v0,v1]):=by kernel_rfl
theorem iI(pm cd doc:Value)(vals:List Value)(h:vals.length=eH.length):bindArgs (jV (rc "_divmod_pos") pm cd doc) ⟨vals,[]⟩=pure (eH.zip vals):=by
 obtain⟨v0,v1,rfl⟩:=vq h
 exact nE pm cd doc v0 v1
noncomputable def dK:List Str:=[Str.ofString "a",Str.ofString "b"]
theorem i5:im (rc "int_divmod").scope dK (dy (rc "int_divmod") dK)=true:=by kernel_rfl
theorem gU:(dy (rc "int_divmod") dK).length+0=4:=by kernel_rfl
theorem nA{W:Wd}(ok:p8 (CC []) W):(qg ok (fP (dy (rc "int_divmod") dK) 0) (rc "int_divmod").scope 60 (rc "int_divmod").body).1=oM:=by kernel_rfl
theorem mE{W:Wd}(ok:p8 (CH []) W):(qg ok (fP (dy (rc "int_divmod") dK) 0) (rc "int_divmod").scope 60 (rc "int_divmod").body).1=oM:=by kernel_rfl
theorem nz(pm cd doc v0 v1:Value):bindArgs (jV (rc "int_divmod") pm cd doc) ⟨[v0,v1],[]⟩=pure (dK.zip [v0,v1]):=by kernel_rfl
theorem fQ(pm cd doc:Value)(vals:List Value)(h:vals.length=dK.length):bindArgs (jV (rc "int_divmod") pm cd doc) ⟨vals,[]⟩=pure (dK.zip vals):=by
 obtain⟨v0,v1,rfl⟩:=vq h
 exact nz pm cd doc v0 v1
noncomputable def iB:List Str:=[Str.ofString "cells"]
theorem v7:im (rc "_law_row").scope iB (dy (rc "_law_row") iB)=true:=by kernel_rfl
theorem sG:(dy (rc "_law_row") iB).length+0=9:=by kernel_rfl
theorem ss{W:Wd}(ok:p8 (CC []) W):(qg ok (fP (dy (rc "_law_row") iB) 0) (rc "_law_row").scope 60 (rc "_law_row").body).1=M01.yf:=by kernel_rfl
theorem sU(pm cd doc v0:Value):bindArgs (jV (rc "_law_row") pm cd doc) ⟨[v0],[]⟩=pure (iB.zip [v0]):=by kernel_rfl
theorem nu(pm cd doc:Value)(vals:List Value)(h:vals.length=iB.length):bindArgs (jV (rc "_law_row") pm cd doc) ⟨vals,[]⟩=pure (iB.zip vals):=by
 obtain⟨v0,rfl⟩:=AE h
 exact sU pm cd doc v0
noncomputable def dZ:List Str:=[Str.ofString "names",Str.ofString "pieces"]
theorem mM:im (rc "_law_triangles").scope dZ (dy (rc "_law_triangles") dZ)=true:=by kernel_rfl
theorem kY:(dy (rc "_law_triangles") dZ).length+0=10:=by kernel_rfl
theorem kZ{W:Wd}(ok:p8 (CC [Str.ofString "triangles"]) W):(qg ok (fP (dy (rc "_law_triangles") dZ) 0) (rc "_law_triangles").scope 60 (rc "_law_triangles").body).1=M01.gD:=by kernel_rfl
theorem kW(pm cd doc v0 v1:Value):bindArgs (jV (rc "_law_triangles") pm cd doc) ⟨[v0,v1],[]⟩=pure (dZ.zip [v0,v1]):=by kernel_rfl
theorem jT(pm cd doc:Value)(vals:List Value)(h:vals.length=dZ.length):bindArgs (jV (rc "_law_triangles") pm cd doc) ⟨vals,[]⟩=pure (dZ.zip vals):=by
 obtain⟨v0,v1,rfl⟩:=vq h
 exact kW pm cd doc v0 v1
noncomputable def gz:List Str:=[Str.ofString "start",Str.ofString "triangles",Str.ofString "weights",Str.ofString "signs",Str.ofString "spare"]
theorem uE:im (rc "_law_from").scope gz (dy (rc "_law_from") gz)=true:=by kernel_rfl
theorem qe:(dy (rc "_law_from") gz).length+7=25:=by kernel_rfl
theorem qh{W:Wd}(ok:p8 (CC [Str.ofString "far",Str.ofString "words"] (some (Str.ofString "behind",18,7))) W):(qg ok (fP (dy (rc "_law_from") gz) 7) (rc "_law_from").scope 60 (rc "_law_from").body).1=M01.qL:=by kernel_rfl
theorem qo(pm cd doc v0 v1 v2 v3 v4:Value):bindArgs (jV (rc "_law_from") pm cd doc) ⟨[v0,v1,v2,v3,v4],[]⟩=pure (gz.zip [v0,v1,v2,v3,v4]):=by kernel_rfl
theorem mt(pm cd doc:Value)(vals:List Value)(h:vals.length=gz.length):bindArgs (jV (rc "_law_from") pm cd doc) ⟨vals,[]⟩=pure (gz.zip vals):=by
 obtain⟨v0,v1,v2,v3,v4,rfl⟩:=Jd h
 exact qo pm cd doc v0 v1 v2 v3 v4
noncomputable def fT:List Str:=[Str.ofString "rim",Str.ofString "head",Str.ofString "tail",Str.ofString "signs",Str.ofString "text"]
theorem rK:im (rc "_law_found").scope fT (dy (rc "_law_found") fT)=true:=by kernel_rfl
theorem pv:(dy (rc "_law_found") fT).length+0=9:=by kernel_rfl
theorem pH{W:Wd}(ok:p8 (CC []) W):(qg ok (fP (dy (rc "_law_found") fT) 0) (rc "_law_found").scope 60 (rc "_law_found").body).1=M01.mw:=by kernel_rfl
theorem pj(pm cd doc v0 v1 v2 v3 v4:Value):bindArgs (jV (rc "_law_found") pm cd doc) ⟨[v0,v1,v2,v3,v4],[]⟩=pure (fT.zip [v0,v1,v2,v3,v4]):=by kernel_rfl
theorem lm(pm cd doc:Value)(vals:List Value)(h:vals.length=fT.length):bindArgs (jV (rc "_law_found") pm cd doc) ⟨vals,[]⟩=pure (fT.zip vals):=by
 obtain⟨v0,v1,v2,v3,v4,rfl⟩:=Jd h
 exact pj pm cd doc v0 v1 v2 v3 v4
noncomputable def rP:List Str:=[Str.ofString "script"]
theorem Gn:im (rc "law").scope rP (dy (rc "law") rP)=true:=by kernel_rfl
theorem Bz:(dy (rc "law") rP).length=30:=by kernel_rfl
noncomputable def oy:List Stmt:=(rc "law").body.take 21
theorem yw{W:Wd}(ok:p8 (CC []) W):(qg ok (fP (dy (rc "law") rP) 0) (rc "law").scope 60 oy).1=M01.rL:=by kernel_rfl
theorem Al(pm cd doc v:Value):bindArgs (jV (rc "law") pm cd doc) ⟨[v],[]⟩=pure (rP.zip [v]):=by kernel_rfl
noncomputable def p0:Pos:=⟨0,0,0,0⟩
noncomputable def e0:Expr:=.Constant (.int 0) 0 p0
noncomputable def st0:Stmt:=.Expr e0 p0
noncomputable abbrev SB:=List Stmt×List ExceptHandler×Option Expr×List Stmt×Pos×Arguments×Scope
noncomputable def sB:Stmt→SB
 |.Try b h _ _ p=>(b,h,none,[],p,iQ.params,iQ.scope)
 |.Expr e p=>([],[],some e,[],p,iQ.params,iQ.scope)
 |.Return e p=>([],[],e,[],p,iQ.params,iQ.scope)
 |.Raise e _ p=>([],[],e,[],p,iQ.params,iQ.scope)
 |.If t b e p=>(b,[],some t,e,p,iQ.params,iQ.scope)
 |.FunctionDef _ ps _ _ _ _ sc _ _ p=>([],[],none,[],p,ps,sc)
 |_=>([],[],none,[],p0,iQ.params,iQ.scope)
noncomputable def cB:Expr→Expr×List Expr×Pos | .Call f es _ p=>(f,es,p) | .Name _ p=>(e0,[],p) | _=>(e0,[],p0)
noncomputable def hB:ExceptHandler→Option Expr×List Stmt×Pos | .ExceptHandler t _ b p=>(t,b,p)
noncomputable def tr:SB:=sB (((rc "law").body.drop 21).headD st0)
noncomputable def KL:SB:=sB (tr.1.headD st0)
noncomputable def JA:Expr×List Expr×Pos:=cB (KL.2.2.1.getD e0)
noncomputable def Kh:Option Expr×List Stmt×Pos:=hB (tr.2.1.headD (.ExceptHandler none none [] p0))
noncomputable def Kf:SB:=sB (Kh.2.1.headD st0)
noncomputable def wT:List Stmt:=(rc "law").body.drop 22
theorem CX:(rc "law").body=oy++.Try [.Expr (.Call (.Name (Str.ofString "int_divmod") (cB JA.1).2.2) JA.2.1 [] JA.2.2) KL.2.2.2.2.1] [.ExceptHandler (some (.Name (Str.ofString "ZeroDivisionError") (cB (Kh.1.getD e0)).2.2)) none [.Return (some (Kf.2.2.1.getD e0)) Kf.2.2.2.2.1] Kh.2.2] [] [] tr.2.2.2.2.1::wT:=by kernel_rfl
theorem BP{W:Wd}(ok:yI (KC true) W):(cL ok 60 (fP (dy (rc "law") rP) 0) (rc "law").scope JA.2.1).map (·.1)=some M01.Hj:=by kernel_rfl
theorem DW{W:Wd}(ok:yI (KC false) W):(cE ok 60 (fP (dy (rc "law") rP) 0) (rc "law").scope (Kf.2.2.1.getD e0)).map (·.1)=some M01.D_:=by kernel_rfl
noncomputable def di:SB:=sB ((rc "int_divmod").body.headD st0)
noncomputable def Kz:SB:=sB (di.1.headD st0)
theorem E3:(rc "int_divmod").body=.If (di.2.2.1.getD e0) [.Raise (some (.Name (Str.ofString "ZeroDivisionError") (cB (Kz.2.2.1.getD e0)).2.2)) none Kz.2.2.2.2.1] di.2.2.2.1 di.2.2.2.2.1::(rc "int_divmod").body.drop 1:=by kernel_rfl
theorem EZ{W:Wd}(ok:yI (KC true) W):(cE ok 60 (fP (dy (rc "int_divmod") dK) 0) (rc "int_divmod").scope (di.2.2.1.getD e0)).map (·.1)=some (.cmp .Eq (.var 1) (.lit (.int 0))):=by kernel_rfl
theorem ve{α:Type}{P:α→Prop}{o:Oc P}{c:α}(h:o.map (·.1)=some c):P c:=by
 cases o with
 |none=>cases h
 |some x=>cases h;exact x.2
theorem G7:(rc "int_divmod").scope.names.lookup (Str.ofString "ZeroDivisionError")=some .globalImplicit:=by kernel_rfl
theorem DA:(rc "law").scope.names.lookup (Str.ofString "ZeroDivisionError")=some .globalImplicit:=by kernel_rfl
theorem DO:(rc "law").scope.names.lookup (Str.ofString "int_divmod")=some .globalImplicit:=by kernel_rfl
theorem De:(rc "law").scope.names.lookup (Str.ofString "script")=some .local:=by kernel_rfl
theorem BE:tS qv (looseW qv []) (Str.ofString "ZeroDivisionError")=true:=by kernel_rfl
noncomputable def es:List lj:=[.code ⟨2,6,qa⟩,.code ⟨1,6,ml⟩,.code ⟨1,4,mL⟩,.code ⟨3,11,qY⟩,.hand me,.hand mh,.code ⟨2,9,mR⟩,.code ⟨2,4,oM⟩,.code ⟨1,9,M01.yf⟩,.code ⟨2,10,M01.gD⟩,.code ⟨5,25,M01.qL⟩,.code ⟨5,9,M01.mw⟩]
noncomputable def esH:List lj:=[.hand λ_=>none,.hand λ_=>none,.hand λ_=>none,.code ⟨3,11,qY⟩,.hand me,.hand mh,.code ⟨2,9,mR⟩,.code ⟨2,4,oM⟩,.hand λ_=>none,.hand λ_=>none,.hand λ_=>none,.hand λ_=>none]
noncomputable def yq:Nat→Pos:=λi=>([⟨0,0,0,0⟩,⟨108,4,108,7⟩,⟨108,10,108,11⟩,⟨108,4,108,11⟩,⟨109,4,109,10⟩,⟨109,13,109,18⟩,⟨109,4,109,18⟩,⟨110,8,110,11⟩,⟨110,13,110,15⟩,⟨110,8,110,15⟩,⟨110,19,110,28⟩,⟨110,29,110,33⟩,⟨110,19,110,34⟩,⟨111,11,111,17⟩,⟨112,19,112,22⟩,⟨112,24,112,28⟩,⟨112,31,112,33⟩,⟨112,24,112,33⟩,⟨112,18,112,34⟩,⟨112,12,112,34⟩,⟨112,12,112,34⟩,⟨113,12,113,18⟩,⟨113,21,113,26⟩,⟨113,12,113,26⟩,⟨114,13,114,15⟩,⟨114,19,114,23⟩,⟨114,13,114,23⟩,⟨115,12,115,18⟩,⟨115,21,115,25⟩,⟨115,12,115,25⟩,⟨117,19,117,22⟩,⟨117,24,117,26⟩,⟨117,18,117,27⟩,⟨117,12,117,27⟩,⟨117,12,117,27⟩,⟨114,8,117,27⟩,⟨111,8,117,27⟩,⟨110,4,117,27⟩,⟨118,7,118,13⟩,⟨119,15,119,18⟩,⟨119,20,119,24⟩,⟨119,14,119,25⟩,⟨119,8,119,25⟩,⟨119,8,119,25⟩,⟨118,4,119,25⟩]:List Pos).getD i ⟨0,0,0,0⟩
noncomputable def iq:Nat→Pos:=λi=>([⟨0,0,0,0⟩,⟨63,11,63,12⟩,⟨63,15,63,16⟩,⟨63,11,63,16⟩,⟨63,20,63,21⟩,⟨63,11,63,21⟩,⟨64,12,64,20⟩,⟨64,21,64,22⟩,⟨64,12,64,23⟩,⟨64,26,64,27⟩,⟨64,12,64,27⟩,⟨65,12,65,18⟩,⟨63,8,65,18⟩,⟨66,8,66,11⟩,⟨66,14,66,15⟩,⟨66,18,66,19⟩,⟨66,14,66,19⟩,⟨66,23,66,24⟩,⟨66,14,66,24⟩,⟨66,8,66,24⟩,⟨67,8,67,13⟩,⟨67,17,67,20⟩,⟨67,23,67,24⟩,⟨67,17,67,24⟩,⟨67,28,67,29⟩,⟨67,16,67,29⟩,⟨67,8,67,29⟩,⟨68,8,68,13⟩,⟨68,16,68,17⟩,⟨68,21,68,26⟩,⟨68,16,68,26⟩,⟨68,8,68,26⟩,⟨69,8,69,13⟩,⟨69,16,69,17⟩,⟨69,20,69,25⟩,⟨69,29,69,34⟩,⟨69,20,69,34⟩,⟨69,16,69,34⟩,⟨69,8,69,34⟩,⟨70,8,70,13⟩,⟨70,14,70,19⟩,⟨70,21,70,22⟩,⟨70,24,70,27⟩,⟨70,8,70,28⟩,⟨70,8,70,28⟩,⟨71,8,71,13⟩,⟨71,14,71,19⟩,⟨71,21,71,24⟩,⟨71,26,71,27⟩,⟨71,8,71,28⟩,⟨71,8,71,28⟩]:List Pos).getD i ⟨0,0,0,0⟩
noncomputable def Jy:Nat→Pos:=λi=>([⟨0,0,0,0⟩,⟨60,4,60,12⟩,⟨60,16,60,17⟩,⟨60,15,60,18⟩,⟨60,23,60,24⟩,⟨60,23,60,35⟩,⟨60,23,60,37⟩,⟨60,40,60,41⟩,⟨60,23,60,41⟩,⟨60,44,60,45⟩,⟨60,23,60,45⟩,⟨60,50,60,51⟩,⟨60,22,60,51⟩,⟨60,15,60,52⟩,⟨60,4,60,52⟩,⟨72,7,72,8⟩,⟨73,8,73,13⟩,⟨73,14,73,15⟩,⟨73,17,73,18⟩,⟨73,20,73,23⟩,⟨73,24,73,32⟩,⟨73,20,73,33⟩,⟨73,8,73,34⟩,⟨73,8,73,34⟩,⟨72,4,73,34⟩,⟨74,11,74,19⟩,⟨74,4,74,19⟩]:List Pos).getD i ⟨0,0,0,0⟩
noncomputable def dq:Nat→Pos:=λi=>([⟨0,0,0,0⟩,⟨78,11,78,12⟩,⟨78,15,78,16⟩,⟨78,11,78,16⟩,⟨78,20,78,21⟩,⟨78,11,78,21⟩,⟨79,19,79,25⟩,⟨79,26,79,27⟩,⟨79,19,79,28⟩,⟨79,12,79,28⟩,⟨78,8,79,28⟩,⟨80,8,80,11⟩,⟨80,14,80,15⟩,⟨80,18,80,19⟩,⟨80,14,80,19⟩,⟨80,23,80,24⟩,⟨80,14,80,24⟩,⟨80,8,80,24⟩,⟨81,8,81,13⟩,⟨81,17,81,20⟩,⟨81,23,81,24⟩,⟨81,17,81,24⟩,⟨81,28,81,29⟩,⟨81,16,81,29⟩,⟨81,8,81,29⟩,⟨82,16,82,21⟩,⟨82,22,82,25⟩,⟨82,27,82,28⟩,⟨82,16,82,29⟩,⟨82,33,82,38⟩,⟨82,16,82,38⟩,⟨82,42,82,47⟩,⟨82,48,82,49⟩,⟨82,51,82,54⟩,⟨82,42,82,55⟩,⟨82,15,82,55⟩,⟨82,8,82,55⟩]:List Pos).getD i ⟨0,0,0,0⟩
noncomputable def Ci:Nat→Pos:=λi=>([⟨0,0,0,0⟩,⟨83,36,83,42⟩,⟨83,11,83,16⟩,⟨83,17,83,18⟩,⟨83,20,83,23⟩,⟨83,24,83,30⟩,⟨83,20,83,31⟩,⟨83,11,83,32⟩,⟨83,48,83,49⟩,⟨83,11,83,49⟩,⟨83,4,83,49⟩]:List Pos).getD i ⟨0,0,0,0⟩
noncomputable def k0:Nat→Nat:=λ_=>0
noncomputable def HM:Pos:=⟨62,4,71,28⟩
noncomputable def H5:Pos:=⟨77,4,82,55⟩
theorem Kd:Da (rc "_iter_escaped_chars").scope=true:=by kernel_rfl
theorem Gd:(rc "_iter_escaped_chars").body=lX yq k0:=by kernel_rfl
theorem F5(pm cd doc v:Value):bindArgs (jV (rc "_iter_escaped_chars") pm cd doc) ⟨[v],[]⟩=pure [(fV,v)]:=by kernel_rfl
noncomputable def Iz:Arguments×Scope:=(sB (((rc "_int2digits").body.drop 1).headD st0)).2.2.2.2.2
noncomputable def Iu:Arguments×Scope:=(sB ((rc "_digits2int").body.headD st0)).2.2.2.2.2
theorem GQ:(rc "_digits2int").body=[.FunctionDef bR Iu.1 (pS dq k0) [] none [] Iu.2 none bR H5,.Return (some (.IfExp (.Name cY (Ci 1)) (.Call (.Name bR (Ci 2)) [.Constant (.int 0) (k0 1) (Ci 3),.Call (.Name rU (Ci 4)) [.Name cY (Ci 5)] [] (Ci 6)] [] (Ci 7)) (.Constant (.int 0) (k0 2) (Ci 8)) (Ci 9))) (Ci 10)]:=by kernel_rfl
theorem FQ:(rc "_int2digits").body=[Cv Jy k0,.FunctionDef bR Iz.1 (oV iq k0) [] none [] Iz.2 none bR HM,Fi Jy k0,EG Jy]:=by kernel_rfl
theorem HW:GM Iu.2=true:=by kernel_rfl
theorem Iw:F7 Iz.2=true:=by kernel_rfl
theorem Lc(pm cd doc u v:Value):bindArgs (jV (rc "_digits2int") pm cd doc) ⟨[u,v],[]⟩=pure ([cY,sN].zip [u,v]):=by kernel_rfl
theorem K_(pm cd doc u v:Value):bindArgs (jV (rc "_int2digits") pm cd doc) ⟨[u,v],[]⟩=pure ([sA,sN].zip [u,v]):=by kernel_rfl
noncomputable def tI(c:Addr):Tb:=⟨c,37,HM,Str.ofString "_int2digits.<locals>.inner"⟩
noncomputable def tD(c:Addr):Tb:=⟨c,44,H5,Str.ofString "_digits2int.<locals>.inner"⟩
theorem KU{B:eZ}{a c:Addr}{pm doc:Value}(F:IY B a (rc "_digits2int") pm (.ref c) doc)(ht:tD c∈B.tabs):Kw B a (jV (rc "_digits2int") pm (.ref c) doc) (tD c) Iu.1 Iu.2 dq Ci k0 k0 where
 at_:=F.at_
 cd:=F.code
 body:=congrArg FuncBody.stmts GQ
 fo:=lz (by kernel_rfl)
 cdig:=by kernel_rfl
 cn:=by kernel_rfl
 cin:=by kernel_rfl
 len:=by kernel_rfl
 bind:=λvals h=>by
  obtain⟨u,v,rfl⟩:=vq h;exact Lc pm (.ref c) doc u v
 clo:=rfl
 glob:=rfl
 blt:=rfl
 code:=rfl
 qual:=by kernel_rfl
 tab:=ht
 isok:=(CK HW).1
 ifree:=(CK HW).2
 pd:=by kernel_rfl
 pk:=by kernel_rfl
 pa:=λenv=>by kernel_rfl
 ibind:=λfd' u v h1 h2 h3=>by
  obtain⟨a1,a2,a3,a4,a5,a6,a7,a8,a9,a10,a11,a12,a13,a14,a15⟩:=fd'
  cases h1;cases h2;cases h3
  kernel_rfl
theorem K7{B:eZ}{a c:Addr}{pm doc:Value}(F:IY B a (rc "_int2digits") pm (.ref c) doc)(ht:tI c∈B.tabs):Kx B a (jV (rc "_int2digits") pm (.ref c) doc) (tI c) Iz.1 Iz.2 iq Jy k0 k0 where
 at_:=F.at_
 cd:=F.code
 body:=congrArg FuncBody.stmts FQ
 fo:=lz (by kernel_rfl)
 ca:=by kernel_rfl
 cn:=by kernel_rfl
 cad:=by kernel_rfl
 cin:=by kernel_rfl
 len:=by kernel_rfl
 line:=by kernel_rfl
 bind:=λvals h=>by
  obtain⟨u,v,rfl⟩:=vq h;exact K_ pm (.ref c) doc u v
 clo:=rfl
 glob:=rfl
 blt:=rfl
 code:=rfl
 qual:=by kernel_rfl
 tab:=ht
 isok:=(C3 Iw).1
 ifree:=(C3 Iw).2
 pd:=by kernel_rfl
 pk:=by kernel_rfl
 pa:=λenv=>by kernel_rfl
 ibind:=λfd' u v w h1 h2 h3=>by
  obtain⟨a1,a2,a3,a4,a5,a6,a7,a8,a9,a10,a11,a12,a13,a14,a15⟩:=fd'
  cases h1;cases h2;cases h3
  kernel_rfl
theorem BR:fZ.all (kg qv)=true:=by kernel_rfl
theorem BQ:kg qv (Str.ofString "_iter_escaped_chars")=true:=by kernel_rfl
theorem B5:(dQ.all λp=>tS qv (looseW qv []) p.1)=true:=by kernel_rfl
theorem Kj:valOf qv (Str.ofString "ELLIPSIS_MARKER")=some (.str (Str.ofString "...")):=by kernel_rfl
theorem J8:valOf qv (Str.ofString "_DIV_LIMIT")=some (.int 4000):=by kernel_rfl
theorem BJ{x:Str}(h:x∈fZ):kg qv x=true:=ap.mp BR x h
section
variable{B:eZ}{loose:List Str}{mean:ExcName→Option Value}
theorem BK(T:Top qv loose mean B.mg B.mb B.h₁)(hm:B.fns=fZ.map λx=>(x,lb B.mg x))(hc:B.csts=(KC true).csts)(hb:B.blts=dQ)(nx:B.ex=none)(own:List Str)(mat:Option (Str×Nat×Nat)):p8 (CC own mat) B.W:=by
 have nx':B.W.exc=none:=by show B.ex.map (·.1)=none;rw[nx];rfl
 refine⟨⟨?_,hc.symm,hb,λ_=>nx'⟩,λg e=>?_⟩
 ·show fZ=B.fns.map (·.1)
  rw[hm];rfl
 ·cases e
  obtain⟨pm,cd,doc,F,_⟩:=yV (x:=Str.ofString "_iter_escaped_chars") T BQ
  exact DT nx' (F3 F Kd Gd (F5 pm cd doc)) (oO T BQ).1 (by show _∈B.blts;rw[hb];simp[dQ,lU])
theorem xG(hm:B.fns=fZ.map λx=>(x,lb B.mg x))(hc:B.csts=(KC false).csts)(hb:B.blts=dQ)(own:List Str):p8 (CH own) B.W:=by
 refine⟨⟨?_,hc.symm,hb,λh=>nomatch h⟩,λg e=>nomatch e⟩
 show fZ=B.fns.map (·.1)
 rw[hm];rfl
theorem Ij(T:Top qv loose mean B.mg B.mb B.h₁)(hb:B.blts=dQ){cI:Addr}(tI':tI cI∈B.tabs)(kI:∀o fd,B.h₁.get? (lb B.mg (Str.ofString "_int2digits"))=some o→o.data=.func fd→fd.code=.ref cI):vL B.W (Str.ofString "_int2digits",lb B.mg (Str.ofString "_int2digits")) (.hand me):=by
 obtain⟨pm,cd,doc,F,o,e1,e2⟩:=yV (x:=Str.ofString "_int2digits") T (by kernel_rfl)
 have e:cd=.ref cI:=kI o _ e1 e2
 exact λn=>D8 (K7 (e▸F) tI') hb n
theorem IP(T:Top qv loose mean B.mg B.mb B.h₁)(hb:B.blts=dQ){cD:Addr}(tD':tD cD∈B.tabs)(kD:∀o fd,B.h₁.get? (lb B.mg (Str.ofString "_digits2int"))=some o→o.data=.func fd→fd.code=.ref cD):vL B.W (Str.ofString "_digits2int",lb B.mg (Str.ofString "_digits2int")) (.hand mh):=by
 obtain⟨pm,cd,doc,F,o,e1,e2⟩:=yV (x:=Str.ofString "_digits2int") T (by kernel_rfl)
 have e:cd=.ref cD:=kD o _ e1 e2
 exact λn=>EF (KU (e▸F) tD') hb n
theorem ctrs(T:Top qv loose mean B.mg B.mb B.h₁)(hm:B.fns=fZ.map λx=>(x,lb B.mg x))(hc:B.csts=(KC true).csts)(hb:B.blts=dQ)(nx:B.ex=none){cI cD:Addr}(tD':tD cD∈B.tabs)(tI':tI cI∈B.tabs)
  (kD:∀o fd,B.h₁.get? (lb B.mg (Str.ofString "_digits2int"))=some o→o.data=.func fd→fd.code=.ref cD) (kI:∀o fd,B.h₁.get? (lb B.mg (Str.ofString "_int2digits"))=some o→o.data=.func fd→fd.code=.ref cI) (fu:Nat) (k:Nat):i4 B.W (k+16) (gt es fu k):=by
 have ok:=BK T hm hc hb nx
 refine uJ ?_ fu k
 show wE B.W B.fns es
 rw[hm]
 exact cP (eE T (by kernel_rfl) (ok _ _) l7 jx (kE _) rfl kF)
  (cP (eE T (by kernel_rfl) (ok _ _) iK gF (ie _) rfl g9)
  (cP (eE T (by kernel_rfl) (ok _ _) jY iJ (jw _) rfl jL)
  (cP (eE T (by kernel_rfl) (ok _ _) oK jQ (rY _) rfl lC)
  (cP (Ij T hb tI' kI)
  (cP (IP T hb tD' kD)
  (cP (eE T (by kernel_rfl) (ok _ _) kP iI (nF _) rfl jO)
  (cP (eE T (by kernel_rfl) (ok _ _) i5 fQ (nA _) rfl gU)
  (cP (eE T (by kernel_rfl) (ok _ _) v7 nu (ss _) rfl sG)
  (cP (eE T (by kernel_rfl) (ok _ _) mM jT (kZ _) rfl kY)
  (cP (eE T (by kernel_rfl) (ok _ _) uE mt (qh _) rfl qe)
  (cP (eE T (by kernel_rfl) (ok _ _) rK lm (pH _) rfl pv) trivial)))))))))))
theorem Ir(T:Top qv loose mean B.mg B.mb B.h₁)(hm:B.fns=fZ.map λx=>(x,lb B.mg x))(hc:B.csts=(KC false).csts)(hb:B.blts=dQ){cI cD:Addr}(tD':tD cD∈B.tabs)(tI':tI cI∈B.tabs)
  (kD:∀o fd,B.h₁.get? (lb B.mg (Str.ofString "_digits2int"))=some o→o.data=.func fd→fd.code=.ref cD) (kI:∀o fd,B.h₁.get? (lb B.mg (Str.ofString "_int2digits"))=some o→o.data=.func fd→fd.code=.ref cI) (fu:Nat) (k:Nat):i4 B.W (k+16) (gt esH fu k):=by
 have ok:=xG hm hc hb
 refine uJ ?_ fu k
 show wE B.W B.fns esH
 rw[hm]
 exact cP li
  (cP li
  (cP li
  (cP (eE T (by kernel_rfl) (ok _) oK jQ (qq _) rfl lC)
  (cP (Ij T hb tI' kI)
  (cP (IP T hb tD' kD)
  (cP (eE T (by kernel_rfl) (ok _) kP iI (mN _) rfl jO)
  (cP (eE T (by kernel_rfl) (ok _) i5 fQ (mE _) rfl gU)
  (cP li
  (cP li
  (cP li
  (cP li trivial)))))))))))
end
theorem K9:M01.Fe es:=by constructor<;>first | rfl | (constructor<;>first | rfl | (constructor<;>rfl))
theorem JY:StdD esH:=by constructor<;>rfl
theorem zk{loose:List Str}{mean:ExcName→Option Value}{B:eZ}(T:Top qv loose mean B.mg B.mb B.h₁)(hm:B.fns=fZ.map λx=>(x,lb B.mg x))(hc:B.csts=(KC true).csts)(hb:B.blts=dQ)(nx:B.ex=none)(hz:B.mg (Str.ofString "ZeroDivisionError")=none∧B.mb (Str.ofString "ZeroDivisionError")=some (.type "ZeroDivisionError")){cI cD:Addr}(tD':tD cD∈B.tabs)(tI':tI cI∈B.tabs)
  (kD:∀o fd,B.h₁.get? (lb B.mg (Str.ofString "_digits2int"))=some o→o.data=.func fd→fd.code=.ref cD) (kI:∀o fd,B.h₁.get? (lb B.mg (Str.ofString "_int2digits"))=some o→o.data=.func fd→fd.code=.ref cI)
  {xs:List Int} (hl:xs.length≤63) {s:Shared} {a:Addr} {E Q:Value→Shared→Prop} (g:cU B.W s) (hv:dN s.heap [] [.ref a] [.d (.list (xs.map .int))]) (h:∀s',SX B.W s s'→Q (.bool true) s') :
  wpAny (model B.prog B.w) callerA (call (.ref (lb B.mg (Str.ofString "law"))) [.ref a] []) Q E s:=by
 obtain⟨ρ,p,r1,r2,r3,r4⟩:=M01.yG K9 JY hl
 obtain⟨pm,cd,doc,F,_⟩:=yV (x:=Str.ofString "law") T (BJ (by simp[fZ]))
 obtain⟨pm2,cd2,doc2,F2,_⟩:=yV (x:=Str.ofString "int_divmod") T (BJ (by simp[fZ]))
 have ok:=BK T hm hc hb nx
 have ct:=ctrs T hm hc hb nx tD' tI' kD kI 10
 refine Ch (X:="ZeroDivisionError") (T:="ZeroDivisionError") (C:=CC []) (fd:=jV (rc "law") pm cd doc) (ps:=rP) (ns:=dy (rc "law") rP) (front:=oy) (last:=wT) (y₀:=Str.ofString "script") (cs:=M01.Hj) (cr:=M01.D_) (us:=[.d (.int p),.d (.int 0)]) (m:=60) (fu:=10) (n:=27) (n':=27) (Φ:=gt es 10 11) (Φ':=gt esH 10 11) (ρ:=ρ) (vs:=[.d (.list (xs.map .int))]) (ad:=lb B.mg (Str.ofString "int_divmod"))
  nx (ok [] none) (lz Gn) F.at_ F.code (congrArg FuncBody.stmts CX) (λvals h=>?_) rfl rfl rfl De rfl ?_ g hv rfl rfl (ct 11) ?_ r2 (by decide +kernel) DO ?_ (ve (BP (ok [] none).k)) r3 ?_ (by decide +kernel) DA hz PySem.F.isExc_ZeroDivisionError PySem.F.notTuple_ZeroDivisionError PySem.F.self_ZeroDivisionError ?_ ?_ (aF _) r4 h
 ·obtain⟨v,rfl⟩:=AE h;exact Al pm cd doc v
 ·refine⟨by show none=_;show _=(B.ex.map (·.1)).map Value.ref;rw[nx];rfl,?_,?_⟩
  ·show(301:Nat)+28≤900;decide
  ·show(4:Nat)+4*28+200≤cLine
   have:cLine=9900:=rfl
   omega
 ·show cexs _ _ (qg _ _ (rc "law").scope _ _).1 _=_
  rw[yw,Bz];exact r1
 ·rw[hm];exact List.mem_map.mpr ⟨_,by simp[fZ],rfl⟩
 ·intro A env M vals s₁ E' Q' rm hfr g m v o k
  exact wG (X:="ZeroDivisionError") (fd:=jV (rc "int_divmod") pm2 cd2 doc2) (ps:=dK) (ns:=dy (rc "int_divmod") dK) (lz i5) F2.at_ F2.code (congrArg FuncBody.stmts E3) (fQ pm2 cd2 doc2) rfl rfl rfl (ve (EZ (ok [] none).k)).2 (by decide +kernel) G7 hz excClass_ZeroDivisionError PySem.F.self_ZeroDivisionError
   (n:=26) (Φ:=gt es 10 10) (by show B.ex.map (·.1)=none;rw[nx];rfl) (ct 10) rm g m v rfl rfl (v:=.d (.bool true)) (by rw[gU];exact(iP (x:=.int 0) (bi rfl) cu fO fO).trans (by rw[lq];rfl)) rfl hfr o k
 ·exact λp hp=>(ve (DW (xG (B:=B.withEx p hp) hm hc hb []).k)).1
 ·exact λp hp=>Ir (B:=B.withEx p hp) T hm hc hb tD' tI' kD kI 10 11
theorem BI{w:World}{s₁:Shared}{mean:ExcName→Option Value}{mg mb:Str→Option Value}{fa a:Addr}{xs:List Int}{cl:Str→Option Addr}(Y:hk.says w s₁.heap)(hg:s₁.gens=#[])(T:Top qv (looseW qv []) mean mg mb s₁.heap)(hmg:mg (Str.ofString "law")=some (Value.ref fa))
  (hwl:WellAll w.params s₁.heap [.ref a] [ofPy (.list (xs.map .int))]) (hlen:xs.length≤63):wpAny (model PySem.Challenge.rw_rw0081_01.row.prog w) callerA (call (.ref fa) [.ref a] []) (λv s'=>GoodWG PySem.Challenge.rw_rw0081_01.row.claim cl mean [ofPy (.list (xs.map .int))] s₁ (.ok (.ret v)) s') (λe s'=>GoodWG PySem.Challenge.rw_rw0081_01.row.claim cl mean [ofPy (.list (xs.map .int))] s₁ (.error e) s') s₁:=by
 refine aa λhQ=>?_
 obtain⟨cI,kI,hI,tI0⟩:=uC T (x:=Str.ofString "_int2digits") (by kernel_rfl) Y.1
 obtain⟨cD,kD,hD',tD0⟩:=uC T (x:=Str.ofString "_digits2int") (by kernel_rfl) Y.2
 (refine hQ ?_;clear hQ)
 refine BN (B:=G0 PySem.Challenge.rw_rw0081_01.row.prog w T [tD cD,tI cI]
  (aL.mpr ⟨⟨hD',tD0⟩,aL.mpr ⟨⟨hI,tI0⟩,λ_ h=>nomatch h⟩⟩)
  (λt ht t' ht' h=>by
   simp only[ah,List.not_mem_nil,or_false] at ht ht'
   rcases ht with rfl | rfl<;>rcases ht' with rfl | rfl<;>first | rfl | (exfalso;revert h;show¬_;simp[tD,tI]))
  (KC true).csts (λp hp=>by
   simp only[KC,ah,List.not_mem_nil,or_false] at hp
   rcases hp with rfl | rfl
   ·exact⟨Kj,.inr ⟨_,rfl⟩⟩
   ·exact⟨J8,.inl ⟨_,rfl⟩⟩) B5 fZ BR) (l:=PySem.Challenge.rw_rw0081_01) (λE Q g v k=>?_) rfl rfl hg hwl
 rw[←show lb mg (Str.ofString "law")=fa from by unfold lb;rw[hmg];rfl]
 exact zk T rfl rfl rfl rfl ⟨u7 T BE,by show mb _=_;rw[T.builtins _ (by decide +kernel)];exact Boot.«ZeroDivisionError»⟩ (al ..) (aj _ (al ..)) kD kI hlen g v k
theorem claim:PySem.Challenge.rw_rw0081_01.Holds:=hd (by
 intro w s₀ s₁ mg mb G Y fa o pm cd doc dV kV ho hd' hcd hD hmg hg args vals as hpre hlay hrd hwl hlo
 refine Ground.open G ?_
 intro T B D TE TW
 have hwl':=hwl
 have hmg':mg (Str.ofString "law")=some (Value.ref fa):=hmg
 clear hmg hd' hD hcd D TE TW G B
 refine aa λhQ=>?_
 wrow_args hpre hlay hrd hwl hlo
 rename_i xs _ _ _ _ _ _ _ _ _ _ _ _ _ _ _ _ hlen _
 exact hQ (BI Y hg T hmg' hwl' (by omega)))
end
end L01
end Mine
theorem PySem.Challenge.cw_rw0081_01_holds : PySem.Challenge.rw_rw0081_01.Holds :=
 Mine.L01.claim
